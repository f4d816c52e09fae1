/- Proved here, for the row of the law FnAlpineBack: contracts of the Go functions that it reaches, each as its theorem 'calls' says, and the words and plain laws that they need (Qx5, Qx8, Qx9, Qx10, Qx15, Qx16, Qx6). -/
import Derived.Test.YtapaijpglfmfgaaGreatDoorFnAlpineBackC
section -- Qx5
namespace Go.Proofs.YtapaijpglfmfgaaGreatDoor.Q
open Go.RowKit Go.Proofs.YtapaijpglfmfgaaGreatDoorH Go.Proofs.YtapaijpglfmfgaaGreatDoorG Go.Proofs.YtapaijpglfmfgaaGreatDoorW.PrintWords Go.Proofs.YtapaijpglfmfgaaGreatDoorW.PrintLast Go.Proofs.YtapaijpglfmfgaaGreatDoorW.PrintMore Go.Proofs.YtapaijpglfmfgaaGreatDoorC
attribute [local go_sem] max2_int min2_int max_two min_two max_three min_three max_four min_four
set_option linter.unusedVariables false
set_option linter.unusedSimpArgs false
mutual
def spec_intOf.l0 : Nat → ByteArray → List Int → Int → Option (Bool × ByteArray)
 | 0, _, _, _ => none
 | k + 1, x0, x3, x4 => if x4 < (x0.size : Int) then (if 0 ≤ x4 then (spec_intOf.l1 k x0 x3 x4 (((bt x0 x4) - 48) % 256) 0) else (none)) else (if 0 ≤ (x3.length : Int) then (if ((x3.length : Int) : Int).toNat ≤ 281474976710656 then (spec_intOf.l2 k x3 (List.replicate ((x3.length : Int) : Int).toNat 0) 0) else (none)) else (none))
def spec_intOf.l1 : Nat → ByteArray → List Int → Int → Int → Int → Option (Bool × ByteArray)
 | 0, _, _, _, _, _ => none
 | k + 1, x0, x3, x4, x5, x6 => if x6 < (x3.length : Int) then (if 0 ≤ x6 then (spec_intOf.l1 k x0 (x3.set (x6 : Int).toNat ((Int.tmod (wrap64 (x5 + (wrap64 (10 * (wrap64 (rd x3 x6)))))) 256) % 256)) x4 (wrap64 (Int.tdiv (wrap64 (x5 + (wrap64 (10 * (wrap64 (rd x3 x6)))))) 256)) (wrap64 (x6 + 1))) else (none)) else (if x5 > 0 then (if x3.length < 140737488355328 then (spec_intOf.l0 k x0 (x3 ++ [(x5) % 256]) (wrap64 (x4 + 1))) else (none)) else (spec_intOf.l0 k x0 x3 (wrap64 (x4 + 1))))
def spec_intOf.l2 : Nat → List Int → List Int → Int → Option (Bool × ByteArray)
 | 0, _, _, _ => none
 | k + 1, x3, x7, x8 => if x8 < (x3.length : Int) then (if 0 ≤ x8 then (if 0 ≤ (wrap64 ((wrap64 ((x3.length : Int) - 1)) - x8)) then (if (wrap64 ((wrap64 ((x3.length : Int) - 1)) - x8)) < (x7.length : Int) then (spec_intOf.l2 k x3 (x7.set ((wrap64 ((wrap64 ((x3.length : Int) - 1)) - x8)) : Int).toNat (rd x3 x8)) (wrap64 (x8 + 1))) else (none)) else (none)) else (none)) else (some (false, strOfNums x7))
end
def spec_intOf.f (k : Nat) (a0 : ByteArray) : Option (Bool × ByteArray) := spec_intOf.l0 k a0 ([] : List Int) 0
set_option maxHeartbeats 8000000 in
set_option maxRecDepth 100000 in
theorem spec_intOf.calls (k : Nat) (a0 : ByteArray) (r1 : Bool) (r2 : ByteArray) (w : World) (h : spec_intOf.f k a0 = some (r1, r2)) :
  Calls Tryz.prog 41 #[.string a0] w fun e w' => e = .returned (.agg #[.bool r1, .string r2]) ∧ Below w.heap.size w w' := by
 have hu31 := Tryz.underlying31
 have HB := Aside0.mk (Below.refl w.heap.size w)
 have H : (spec_intOf.l0 k a0 ([] : List Int) 0) = some (r1, r2) := h
 clear h
 have H' := Aside0.mk H
 clear H
 go_enter Tryz.func41, Tryz.ntmps41
 go_wp2_with (((with_reducible refine gate_dst (N := 2) rfl ?_); refine box_event ?hg (N := 2) ?hd (cs := #[.bool false, .string ⟨#[]⟩]) (t := 31) ?hr ?_; (case hd => rfl); (case hg => rfl); (case hr => first | (go_simp; done) | (go_simp; rfl)); intro gb115 hg w2 hbox hb; have BK115 := Aside0.mk hbox; have GW115 := Aside0.mk ((by rw [hg]; exact (below_size (by (with_reducible exact HB.out))) : w.heap.size ≤ gb115)); have GE115 := Aside0.mk ((by rw [hg]; exact (below_size (by (with_reducible exact HB.out))) : w.heap.size ≤ gb115)); replace HB := Aside0.mk (below_step (by (with_reducible exact HB.out)) hb); clear hb hbox hg))
 (try simp only [Act.put, List.setIfInBounds_toArray, List.set_cons_zero, List.set_cons_succ])
 go_loopg [3, 4] k (fun kq v3 v4 w' => ∃ (x3_1 : List Int) (x4_1 : Int), v4 = .int .i64 x4_1 ∧ Aside0 (spec_intOf.l0 kq a0 x3_1 x4_1 = some (r1, r2)) ∧ Aside0 (kq ≤ k) ∧ Aside0 (Kd.R (Kd.int .u8) 5 w' w.heap.size (fun _ => True) v3 x3_1) ∧ Aside0 (w'.heap[gb115]? = some (.cells #[.bool false, .string ⟨#[]⟩] 31 (0, 0))) ∧ Aside0 (Below w.heap.size w w'))
 case atStart => exact ⟨(([] : List Int)), (0), (by rfl), H', ⟨Nat.le_refl _⟩, ⟨by exact Kd.R_nil _ _ _ _ _⟩, ⟨by exact BK115.out⟩, ⟨by (with_reducible exact HB.out)⟩⟩
 case round =>
  clear H'
  obtain ⟨x3_1, x4_1, rfl, HA, HK1, HO_3, BK115, HB⟩ := hrel
  cases gk with
  | zero => exact absurd HA.out (by simp [spec_intOf.l0])
  | succ k1 =>
   have H := HA.out
   clear HA
   simp only [spec_intOf.l0] at H
   by_cases c3 : x4_1 < (a0.size : Int)
   ·rw [if_pos c3] at H
    have c3b0 : decide (x4_1 < (a0.size : Int)) = true := decide_eq_true c3
    clear c3
    by_cases c4 : 0 ≤ x4_1
    ·rw [if_pos c4] at H
     have c4b0 : decide (0 ≤ x4_1) = true := decide_eq_true c4
     clear c4
     have H' := Aside0.mk H
     clear H
     have p5 : 0 ≤ (x4_1 : Int) := of_decide_eq_true (by (with_reducible assumption))
     have q5 : x4_1 < (a0.size : Int) := of_decide_eq_true (by (with_reducible assumption))
     have hx5 := bt_at a0 x4_1
     replace p5 := eq_true p5
     replace q5 := eq_true q5
     go_wp2
     (try simp only [Act.put, List.setIfInBounds_toArray, List.set_cons_zero, List.set_cons_succ])
     go_loopg [5, 6] k1 (fun kq v5 v6 w' => ∃ (x3_2 : List Int) (x5_2 : Int) (x6_2 : Int), v5 = .int .i64 x5_2 ∧ v6 = .int .i64 x6_2 ∧ Aside0 (spec_intOf.l1 kq a0 x3_2 x4_1 x5_2 x6_2 = some (r1, r2)) ∧ Aside0 (kq ≤ k1) ∧ Aside0 (Kd.R (Kd.int .u8) 5 w' w.heap.size (fun _ => True) u3 x3_2) ∧ Aside0 (w'.heap[gb115]? = some (.cells #[.bool false, .string ⟨#[]⟩] 31 (0, 0))) ∧ Aside0 (Below w.heap.size w w'))
     case atStart => exact ⟨(x3_1), (((bt a0 x4_1) - 48) % 256), (0), (by rfl), (by rfl), H', ⟨Nat.le_refl _⟩, ⟨by (with_reducible repeat (first | apply Kd.R_alloc | apply Kd.R_drewN | apply Kd.R_drew)); exact HO_3.out⟩, ⟨by exact BK115.out⟩, ⟨by (with_reducible exact HB.out)⟩⟩
     case round =>
      clear H'
      clear c3b0 c4b0 p5 q5 hx5
      obtain ⟨x3_2, x5_2, x6_2, rfl, rfl, HA, HK2, HO_3, BK115, HB⟩ := hrel
      cases gk with
      | zero => exact absurd HA.out (by simp [spec_intOf.l1])
      | succ k2 =>
       have H := HA.out
       clear HA
       simp only [spec_intOf.l1] at H
       by_cases c6 : x6_2 < (x3_2.length : Int)
       ·rw [if_pos c6] at H
        have c6b0 : decide (x6_2 < (x3_2.length : Int)) = true := decide_eq_true c6
        clear c6
        by_cases c7 : 0 ≤ x6_2
        ·rw [if_pos c7] at H
         have c7b0 : decide (0 ≤ x6_2) = true := decide_eq_true c7
         clear c7
         obtain ⟨y117, hy117⟩ : ∃ y_ : List Int, y_ = (x3_2.set (x6_2 : Int).toNat ((Int.tmod (wrap64 (x5_2 + (wrap64 (10 * (wrap64 (rd x3_2 x6_2)))))) 256) % 256)) := ⟨_, rfl⟩
         replace H : (spec_intOf.l1 k2 a0 y117 x4_1 (wrap64 (Int.tdiv (wrap64 (x5_2 + (wrap64 (10 * (wrap64 (rd x3_2 x6_2)))))) 256)) (wrap64 (x6_2 + 1))) = some (r1, r2) := by (rw [hy117]; with_reducible exact H)
         have Ny117 := Aside0.mk hy117
         clear hy117
         have H' := Aside0.mk H
         clear H
         obtain ⟨Ao9, co9, eo9⟩ := Kd.R_slice HO_3.out
         subst eo9
         have p116 : 0 ≤ (x6_2 : Int) := of_decide_eq_true (by (with_reducible assumption))
         have q116 : x6_2 < (x3_2.length : Int) := of_decide_eq_true (by (with_reducible assumption))
         obtain ⟨ad116, e116, hx116_0⟩ := Kd.at_int (Kd.R_reads' HO_3.out).2.2 x6_2 p116 q116
         cases e116
         replace p116 := eq_true p116
         replace q116 := eq_true q116
         have p8 : 0 ≤ (x6_2 : Int) := of_decide_eq_true (by (with_reducible assumption))
         have q8 : (x6_2 : Int) < ((x3_2.length : Int) : Int) := of_decide_eq_true (by (with_reducible assumption))
         obtain ⟨go8, co8, eo8, gb8, gl8, cl8, HG8⟩ := Kd.R_form HO_3.out (by omega)
         (first | cases eo8 | (injection eo8 with ea_ en_ ec_; (first | subst ea_ | (injection ea_ with ea_; subst ea_)); subst ec_; clear en_))
         have GB8 := Aside0.mk gb8
         have GG8 := Aside0.mk HG8
         clear gb8 gl8 HG8
         (first | simp only [add_plain] at hx116_0 | skip)
         obtain ⟨hx8_0, hf8_0⟩ := Kd.R_celln 0 HO_3.out (x6_2 : Int) p8 q8
         replace p8 := eq_true p8
         replace q8 := eq_true q8
         have HP10 := Kd.R_putg HO_3.out (x6_2 : Int) ((Int.tmod (wrap64 (x5_2 + (wrap64 (10 * (wrap64 (rd x3_2 x6_2)))))) 256) % 256)
         go_wp2_with (((with_reducible refine gate_store (t := 5) (p := 39) rfl ?_); refine store_event (t := 5) (p := 39) (v := ?vo_w11) (w1 := (wr.setCell ⟨go8, (x6_2 : Int).toNat, none⟩ (.int .u8 ((Int.tmod (wrap64 (x5_2 + (wrap64 (10 * (wrap64 (rd x3_2 x6_2)))))) 256) % 256)))) ?hg ?ho ?hn ?hr ?_; (case ho => rfl); (case hg => rfl); (case hn => rfl); (case hr => first | (go_simp; done) | (go_simp; rfl)); intro w11 hw; have hg : wr.grownBy w11 (some go8) := (by rw [hw]; exact HP10.2); have hp_ : Kd.R (Kd.int .u8) 5 w11 w.heap.size (fun _ => True) (.slice (some ⟨go8, 0, none⟩) x3_2.length co9) y117 := (by rw [hw, Ny117.out]; exact HP10.1); clear HP10; have n0_ := Aside0.mk hp_; have n1_ := Aside0.mk (blk_grown (g := gb115) (o := .cells #[.bool false, .string ⟨#[]⟩] 31 (0, 0)) (by exact BK115.out) hg (Kd.R_ne HO_3.out BK115.out (by decide))); have n2_ := Aside0.mk ((by rw [hw]; exact below_set (HB.out) GB8.out : Below w.heap.size w w11)); clear HO_3; clear BK115; clear HB; have HO_3 := n0_; have BK115 := n1_; have HB := n2_; clear n0_ n1_ n2_; clear hg hw hp_))
         go_roundg k2
         case measure => have := HK1.out; have := HK2.out; omega
         case rel => exact ⟨(y117), (wrap64 (Int.tdiv (wrap64 (x5_2 + (wrap64 (10 * (wrap64 (rd x3_2 x6_2)))))) 256)), (wrap64 (x6_2 + 1)), (by rfl), (by rfl), H', ⟨by have := HK1.out; have := HK2.out; omega⟩, ⟨by (with_reducible repeat (first | apply Kd.R_alloc | apply Kd.R_drewN | apply Kd.R_drew)); exact HO_3.out⟩, ⟨by exact BK115.out⟩, ⟨by (with_reducible exact HB.out)⟩⟩
        ·rw [if_neg c7] at H
         exact absurd H (by simp)
       ·rw [if_neg c6] at H
        have c6b0 : decide (x6_2 < (x3_2.length : Int)) = false := decide_eq_false c6
        clear c6
        by_cases c12 : x5_2 > 0
        ·rw [if_pos c12] at H
         have c12b0 : decide (0 < x5_2) = true := decide_eq_true c12
         clear c12
         by_cases c13 : x3_2.length < 140737488355328
         ·rw [if_pos c13] at H
          have LMc13 := Aside0.mk c13
          clear c13
          obtain ⟨y118, hy118⟩ : ∃ y_ : List Int, y_ = (x3_2 ++ [(x5_2) % 256]) := ⟨_, rfl⟩
          replace H : (spec_intOf.l0 k2 a0 y118 (wrap64 (x4_1 + 1))) = some (r1, r2) := by (rw [hy118]; with_reducible exact H)
          have Ny118 := Aside0.mk hy118
          clear hy118
          have H' := Aside0.mk H
          clear H
          obtain ⟨Ao14, co14, eo14⟩ := Kd.R_slice HO_3.out
          subst eo14
          go_wp2_with (((with_reducible refine gate_builtin (b := .append) (xs := #[.tmp 44, .tmp 47]) rfl ?_); at_builtin; refine Kd.R_append (Kd.int .u8) (w0 := w) w.heap.size rfl (.tmp 44) (.tmp 47) 23 5 (.int .u8 0) 1 rfl Tryz.underlying23 info5 rfl (by decide) (by omega) (.slice Ao14 x3_2.length co14) x3_2 ((x5_2) % 256) [.int .u8 ((x5_2) % 256)] (fun _ => True) (fun _ => False) rfl rfl ?aP (fun _ hk => hk.elim) ?aF ?aO ?aB ?aS ?aL ?_; (case aP => exact rfl); (case aB => exact (by (with_reducible exact HB.out))); (case aF => exact (fun _ _ => trivial)); (case aO => exact (by (with_reducible repeat (first | apply Kd.R_alloc | apply Kd.R_drewN | apply Kd.R_drew)); exact HO_3.out)); (case aS => exact (below_size (by (with_reducible exact HB.out)))); (case aL => have := LMc13.out; omega); intro v119 w15 ho hb hg hat; rw [← Ny118.out] at ho; replace BK115 := Aside0.mk (blk_grown (g := gb115) (o := .cells #[.bool false, .string ⟨#[]⟩] 31 (0, 0)) (by exact BK115.out) hg (Kd.R_ne HO_3.out BK115.out (by decide))); have HO120 := Aside0.mk ho; replace HB := Aside0.mk hb; clear HO_3; clear ho hb hg hat))
          go_roundg k2
          case measure => have := HK1.out; have := HK2.out; omega
          case rel => exact ⟨(y118), (wrap64 (x4_1 + 1)), (by rfl), H', ⟨by have := HK1.out; have := HK2.out; omega⟩, ⟨by (with_reducible repeat (first | apply Kd.R_alloc | apply Kd.R_drewN | apply Kd.R_drew)); exact HO120.out⟩, ⟨by exact BK115.out⟩, ⟨by (with_reducible exact HB.out)⟩⟩
         ·rw [if_neg c13] at H
          exact absurd H (by simp)
        ·rw [if_neg c12] at H
         have c12b0 : decide (0 < x5_2) = false := decide_eq_false c12
         clear c12
         have H' := Aside0.mk H
         clear H
         obtain ⟨Ao16, co16, eo16⟩ := Kd.R_slice HO_3.out
         subst eo16
         go_wp2
         go_roundg k2
         case measure => have := HK1.out; have := HK2.out; omega
         case rel => exact ⟨(x3_2), (wrap64 (x4_1 + 1)), (by rfl), H', ⟨by have := HK1.out; have := HK2.out; omega⟩, ⟨by (with_reducible repeat (first | apply Kd.R_alloc | apply Kd.R_drewN | apply Kd.R_drew)); exact HO_3.out⟩, ⟨by exact BK115.out⟩, ⟨by (with_reducible exact HB.out)⟩⟩
    ·rw [if_neg c4] at H
     exact absurd H (by simp)
   ·rw [if_neg c3] at H
    have c3b0 : decide (x4_1 < (a0.size : Int)) = false := decide_eq_false c3
    clear c3
    by_cases c17 : 0 ≤ (x3_1.length : Int)
    ·rw [if_pos c17] at H
     have c17b0 := eq_true c17
     have c17b1 : decide (0 ≤ (x3_1.length : Int)) = true := decide_eq_true c17
     clear c17
     by_cases c18 : ((x3_1.length : Int) : Int).toNat ≤ 281474976710656
     ·rw [if_pos c18] at H
      have c18b0 := eq_true c18
      have c18b1 : decide (((x3_1.length : Int) : Int).toNat ≤ 281474976710656) = true := decide_eq_true c18
      clear c18
      obtain ⟨y121, hy121⟩ : ∃ y_ : List Int, y_ = (List.replicate ((x3_1.length : Int) : Int).toNat 0) := ⟨_, rfl⟩
      replace H : (spec_intOf.l2 k1 x3_1 y121 0) = some (r1, r2) := by (rw [hy121]; with_reducible exact H)
      have Ny121 := Aside0.mk hy121
      clear hy121
      have H' := Aside0.mk H
      clear H
      obtain ⟨Ao19, co19, eo19⟩ := Kd.R_slice HO_3.out
      subst eo19
      go_wp2_with (((with_reducible refine gate_dst (N := 51) rfl ?_); refine Kd.R_make (Kd.int .u8) _ 5 rfl (N := 51) rfl 23 _ _ rfl (x3_1.length : Int) rfl rfl Tryz.underlying23 (.int .u8 0) 1 info5 rfl (by decide) (by omega) 0 (ok := fun _ => True) (okp := fun _ => True) rfl (fun _ hk => hk) trivial (of_decide_eq_true (by (with_reducible assumption))) (Nat.le_trans (Nat.mul_le_mul_right _ (of_decide_eq_true (by (with_reducible assumption)) : (x3_1.length : Int).toNat ≤ 281474976710656)) (by omega)) (Below.refl _ _) (Nat.le_refl _) ?_; intro v122 w20 ho21 hb hg_ hnew_; clear hg_ hnew_; (first | rw [← Ny121.out] at ho21 | (simp only [Int.reduceToNat] at ho21; rw [← Ny121.out] at ho21)); have n0_ := Aside0.mk (Kd.R_elder' (by (with_reducible repeat (first | apply Kd.R_alloc | apply Kd.R_drewN | apply Kd.R_drew)); exact HO_3.out) (Kd.R_base ho21) hb); have n1_ := Aside0.mk (Kd.R_lower (Kd.R_new' ho21 (Kd.R_lt (by (with_reducible repeat (first | apply Kd.R_alloc | apply Kd.R_drewN | apply Kd.R_drew)); exact HO_3.out))) (below_size (by (with_reducible exact HB.out)))); have n2_ := Aside0.mk (blk_below (g := gb115) (o := .cells #[.bool false, .string ⟨#[]⟩] 31 (0, 0)) (by exact BK115.out) hb); have n3_ := Aside0.mk (below_step (by (with_reducible exact HB.out)) hb); clear HO_3; clear BK115; clear HB; have HO_3 := n0_; have HO123 := n1_; have BK115 := n2_; have HB := n3_; clear n0_ n1_ n2_ n3_; clear hb ho21))
      (try simp only [Act.put, List.setIfInBounds_toArray, List.set_cons_zero, List.set_cons_succ])
      go_loopg [8] k1 (fun kq v8 w' => ∃ (x7_2 : List Int) (x8_2 : Int), v8 = .int .i64 x8_2 ∧ Aside0 (spec_intOf.l2 kq x3_1 x7_2 x8_2 = some (r1, r2)) ∧ Aside0 (kq ≤ k1) ∧ Aside0 (Kd.R (Kd.int .u8) 5 w' w.heap.size (fun k_ => some k_ ≠ (v122 : Value).ownBlock) (.slice Ao19 x3_1.length co19) x3_1) ∧ Aside0 (Kd.R (Kd.int .u8) 5 w' w.heap.size (fun k_ => some k_ ≠ ((.slice Ao19 x3_1.length co19) : Value).ownBlock) v122 x7_2) ∧ Aside0 (w'.heap[gb115]? = some (.cells #[.bool false, .string ⟨#[]⟩] 31 (0, 0))) ∧ Aside0 (Below w.heap.size w w'))
      case atStart => exact ⟨(y121), (0), (by rfl), H', ⟨Nat.le_refl _⟩, ⟨by (with_reducible repeat (first | apply Kd.R_alloc | apply Kd.R_drewN | apply Kd.R_drew)); exact Kd.R_mono HO_3.out (fun _ hk => hk.2)⟩, ⟨by (with_reducible repeat (first | apply Kd.R_alloc | apply Kd.R_drewN | apply Kd.R_drew)); exact Kd.R_mono HO123.out (fun _ hk => hk.2)⟩, ⟨by exact BK115.out⟩, ⟨by (with_reducible exact HB.out)⟩⟩
      case round =>
       clear H'
       clear c3b0 c17b0 c17b1 c18b0 c18b1
       obtain ⟨x7_2, x8_2, rfl, HA, HK2, HO_3, HO_7, BK115, HB⟩ := hrel
       cases gk with
       | zero => exact absurd HA.out (by simp [spec_intOf.l2])
       | succ k2 =>
        have H := HA.out
        clear HA
        simp only [spec_intOf.l2] at H
        by_cases c22 : x8_2 < (x3_1.length : Int)
        ·rw [if_pos c22] at H
         have c22b0 : decide (x8_2 < (x3_1.length : Int)) = true := decide_eq_true c22
         clear c22
         by_cases c23 : 0 ≤ x8_2
         ·rw [if_pos c23] at H
          have c23b0 : decide (0 ≤ x8_2) = true := decide_eq_true c23
          clear c23
          obtain ⟨ji24, hji24⟩ : ∃ j_ : Int, (wrap64 ((wrap64 ((x3_1.length : Int) - 1)) - x8_2)) = j_ := ⟨_, rfl⟩
          replace H : (if 0 ≤ (ji24) then (if (ji24) < (x7_2.length : Int) then (spec_intOf.l2 k2 x3_1 (x7_2.set ((ji24) : Int).toNat (rd x3_1 x8_2)) (wrap64 (x8_2 + 1))) else (none)) else (none)) = some (r1, r2) := by (rw [hji24] at H; exact H)
          have hji24w : (IntKind.i64.wrap ((wrap64 ((x3_1.length : Int) - 1)) - x8_2)) = ji24 := (i64_w _).trans hji24
          by_cases c25 : 0 ≤ (ji24)
          ·rw [if_pos c25] at H
           have c25b0 : decide (0 ≤ (ji24)) = true := decide_eq_true c25
           clear c25
           by_cases c26 : (ji24) < (x7_2.length : Int)
           ·rw [if_pos c26] at H
            have c26b0 : decide ((ji24) < (x7_2.length : Int)) = true := decide_eq_true c26
            clear c26
            obtain ⟨y125, hy125⟩ : ∃ y_ : List Int, y_ = (x7_2.set ((ji24) : Int).toNat (rd x3_1 x8_2)) := ⟨_, rfl⟩
            replace H : (spec_intOf.l2 k2 x3_1 y125 (wrap64 (x8_2 + 1))) = some (r1, r2) := by (rw [hy125]; with_reducible exact H)
            have Ny125 := Aside0.mk hy125
            clear hy125
            have H' := Aside0.mk H
            clear H
            have p124 : 0 ≤ (x8_2 : Int) := of_decide_eq_true (by (with_reducible assumption))
            have q124 : x8_2 < (x3_1.length : Int) := of_decide_eq_true (by (with_reducible assumption))
            obtain ⟨ad124, e124, hx124_0⟩ := Kd.at_int (Kd.R_reads' HO_3.out).2.2 x8_2 p124 q124
            cases e124
            replace p124 := eq_true p124
            replace q124 := eq_true q124
            have p27 : 0 ≤ ((ji24) : Int) := of_decide_eq_true (by (with_reducible assumption))
            have q27 : ((ji24) : Int) < ((x7_2.length : Int) : Int) := of_decide_eq_true (by (with_reducible assumption))
            obtain ⟨go27, co27, eo27, gb27, gl27, cl27, HG27⟩ := Kd.R_form HO_7.out (by omega)
            (first | cases eo27 | (injection eo27 with ea_ en_ ec_; (first | subst ea_ | (injection ea_ with ea_; subst ea_)); subst ec_; clear en_))
            have GB27 := Aside0.mk gb27
            have GG27 := Aside0.mk HG27
            clear gb27 gl27 HG27
            obtain ⟨hx27_0, hf27_0⟩ := Kd.R_celln 0 HO_7.out ((ji24) : Int) p27 q27
            replace p27 := eq_true p27
            replace q27 := eq_true q27
            have HP28 := Kd.R_putg HO_7.out ((ji24) : Int) (rd x3_1 x8_2)
            go_wp2_with (((with_reducible refine gate_store (t := 5) (p := 68) rfl ?_); refine store_event (t := 5) (p := 68) (v := ?vo_w29) (w1 := (wr.setCell ⟨go27, ((ji24) : Int).toNat, none⟩ (.int .u8 (rd x3_1 x8_2)))) ?hg ?ho ?hn ?hr ?_; (case ho => rfl); (case hg => rfl); (case hn => rfl); (case hr => first | (go_simp; done) | (go_simp; rfl)); intro w29 hw; have hg : wr.grownBy w29 (some go27) := (by rw [hw]; exact HP28.2); have hp_ : Kd.R (Kd.int .u8) 5 w29 w.heap.size (fun k_ => some k_ ≠ (.slice (some ad124) x3_1.length co19 : Value).ownBlock) (.slice (some ⟨go27, 0, none⟩) x7_2.length co27) y125 := (by rw [hw, Ny125.out]; exact HP28.1); clear HP28; have n0_ := Aside0.mk (Kd.R_after (v := (.slice (some ⟨go27, 0, none⟩) x7_2.length co27)) (v1 := (.slice (some ⟨go27, 0, none⟩) x7_2.length co27)) (ok := (fun _ => True)) (by (with_reducible repeat (first | apply Kd.R_alloc | apply Kd.R_drewN | apply Kd.R_drew)); exact Kd.R_mono HO_3.out (fun _ hk => ⟨trivial, hk⟩)) hg (.inl rfl)); have n1_ := Aside0.mk hp_; have n2_ := Aside0.mk (blk_grown (g := gb115) (o := .cells #[.bool false, .string ⟨#[]⟩] 31 (0, 0)) (by exact BK115.out) hg (Kd.R_ne HO_7.out BK115.out (by decide))); have n3_ := Aside0.mk ((by rw [hw]; exact below_set (HB.out) GB27.out : Below w.heap.size w w29)); clear HO_3; clear HO_7; clear BK115; clear HB; have HO_3 := n0_; have HO_7 := n1_; have BK115 := n2_; have HB := n3_; clear n0_ n1_ n2_ n3_; clear hg hw hp_))
            go_roundg k2
            case measure => have := HK1.out; have := HK2.out; omega
            case rel => exact ⟨(y125), (wrap64 (x8_2 + 1)), (by rfl), H', ⟨by have := HK1.out; have := HK2.out; omega⟩, ⟨by (with_reducible repeat (first | apply Kd.R_alloc | apply Kd.R_drewN | apply Kd.R_drew)); exact Kd.R_mono HO_3.out (fun _ hk => hk.2)⟩, ⟨by (with_reducible repeat (first | apply Kd.R_alloc | apply Kd.R_drewN | apply Kd.R_drew)); exact HO_7.out⟩, ⟨by exact BK115.out⟩, ⟨by (with_reducible exact HB.out)⟩⟩
           ·rw [if_neg c26] at H
            exact absurd H (by simp)
          ·rw [if_neg c25] at H
           exact absurd H (by simp)
         ·rw [if_neg c23] at H
          exact absurd H (by simp)
        ·rw [if_neg c22] at H
         have c22b0 : decide (x8_2 < (x3_1.length : Int)) = false := decide_eq_false c22
         clear c22
         simp only [Option.some.injEq, Prod.mk.injEq] at H
         obtain ⟨rfl, rfl⟩ := H
         have hcv30 := own_string (P := Tryz.prog) Tryz.underlying23 Tryz.underlying5 Tryz.underlying9 (Kd.own_of_R HO_7.out)
         obtain ⟨hcz31_0, hcz31_1, hfz31_0, hfz31_1⟩ := cl2 BK115.out
         go_wp2
         refine bodyPost_ret (results_cell_row rfl _ _ gb115 31 #[.bool false, .string (strOfNums x7_2)] (0, 0) _ rfl (by refine blk_put (cs := #[.bool false, .string ⟨#[]⟩]) ?_ 1 _ rfl; refine blk_put (cs := #[.bool false, .string ⟨#[]⟩]) ?_ 0 _ rfl; exact BK115.out) Tryz.underlying31 rfl (by kernel_rfl)) rfl ?_
         exact ⟨by rfl, by (with_reducible refine below_set ?_ GE115.out; with_reducible refine below_set ?_ GE115.out; with_reducible exact HB.out)⟩
     ·rw [if_neg c18] at H
      exact absurd H (by simp)
    ·rw [if_neg c17] at H
     exact absurd H (by simp)
def spec_isDigit.f (a0 : Int) : Option (Bool) := if a0 ≥ 48 then (some (decide (a0 ≤ 57))) else (some false)
set_option maxHeartbeats 8000000 in
set_option maxRecDepth 100000 in
theorem spec_isDigit.calls (a0 : Int) (r : Bool) (w : World) (h : spec_isDigit.f a0 = some r) :
  Calls Tryz.prog 40 #[.int .u8 a0] w fun e w' => e = .returned (.bool r) ∧ Drawn0 w w' := by
 have H : (if a0 ≥ 48 then (some (decide (a0 ≤ 57))) else (some false)) = some r := h
 clear h
 by_cases c2 : a0 ≥ 48
 ·rw [if_pos c2] at H
  have c2b0 : decide (48 ≤ a0) = true := decide_eq_true c2
  clear c2
  obtain rfl := Option.some.inj H
  go_enter Tryz.func40, Tryz.ntmps40
  go_wp2
  go_ret
  exact ⟨by rfl, by repeat (first | exact Drawn0.refl _ | apply Drawn0.step)⟩
 ·rw [if_neg c2] at H
  have c2b0 : decide (48 ≤ a0) = false := decide_eq_false c2
  clear c2
  obtain rfl := Option.some.inj H
  go_enter Tryz.func40, Tryz.ntmps40
  go_wp2
  go_ret
  exact ⟨by rfl, by repeat (first | exact Drawn0.refl _ | apply Drawn0.step)⟩
end Go.Proofs.YtapaijpglfmfgaaGreatDoor.Q
end
section -- Qx8
namespace Go.Proofs.YtapaijpglfmfgaaGreatDoor.Q
open Go.RowKit Go.Proofs.YtapaijpglfmfgaaGreatDoorH Go.Proofs.YtapaijpglfmfgaaGreatDoorG Go.Proofs.YtapaijpglfmfgaaGreatDoorW.PrintWords Go.Proofs.YtapaijpglfmfgaaGreatDoorW.PrintLast Go.Proofs.YtapaijpglfmfgaaGreatDoorW.PrintMore
attribute [local go_sem] max2_int min2_int max_two min_two max_three min_three max_four min_four
set_option linter.unusedVariables false
set_option linter.unusedSimpArgs false
def spec_Ascii.l0 : Nat → ByteArray → Int → Option (Bool)
 | 0, _, _ => none
 | k + 1, x0, x3 => if x3 < (x0.size : Int) then (if 0 ≤ x3 then (if (bt x0 x3) > 127 then (some false) else (spec_Ascii.l0 k x0 (wrap64 (x3 + 1)))) else (none)) else (some true)
def spec_Ascii.f (k : Nat) (a0 : ByteArray) : Option (Bool) := spec_Ascii.l0 k a0 0
set_option maxHeartbeats 8000000 in
set_option maxRecDepth 100000 in
theorem spec_Ascii.calls (k : Nat) (a0 : ByteArray) (r : Bool) (w : World) (h : spec_Ascii.f k a0 = some r) :
  Calls Tryz.prog 24 #[.string a0] w fun e w' => e = .returned (.bool r) ∧ Drawn0 w w' := by
 have H : (spec_Ascii.l0 k a0 0) = some r := h
 clear h
 have H' := Aside0.mk H
 clear H
 go_enter Tryz.func24, Tryz.ntmps24
 go_wp2
 (try simp only [Act.put, List.setIfInBounds_toArray, List.set_cons_zero, List.set_cons_succ])
 go_loopg [3] k (fun kq v3 w' => ∃ (x3_1 : Int), v3 = .int .i64 x3_1 ∧ Aside0 (spec_Ascii.l0 kq a0 x3_1 = some r) ∧ Aside0 (kq ≤ k) ∧ Drawn0 w w')
 case atStart => exact ⟨(0), (by rfl), H', ⟨Nat.le_refl _⟩, by repeat (first | exact Drawn0.refl _ | apply Drawn0.step)⟩
 case round =>
  clear H'
  obtain ⟨x3_1, rfl, HA, HK1, ⟨m1, rfl⟩⟩ := hrel
  cases gk with
  | zero => exact absurd HA.out (by simp [spec_Ascii.l0])
  | succ k1 =>
   have H := HA.out
   clear HA
   simp only [spec_Ascii.l0] at H
   by_cases c2 : x3_1 < (a0.size : Int)
   ·rw [if_pos c2] at H
    have c2b0 : decide (x3_1 < (a0.size : Int)) = true := decide_eq_true c2
    clear c2
    by_cases c3 : 0 ≤ x3_1
    ·rw [if_pos c3] at H
     have c3b0 : decide (0 ≤ x3_1) = true := decide_eq_true c3
     clear c3
     by_cases c5 : (bt a0 x3_1) > 127
     ·rw [if_pos c5] at H
      have c5b0 : decide (127 < (bt a0 x3_1)) = true := decide_eq_true c5
      clear c5
      obtain rfl := Option.some.inj H
      have p4 : 0 ≤ (x3_1 : Int) := of_decide_eq_true (by (with_reducible assumption))
      have q4 : x3_1 < (a0.size : Int) := of_decide_eq_true (by (with_reducible assumption))
      have hx4 := bt_at a0 x3_1
      replace p4 := eq_true p4
      replace q4 := eq_true q4
      go_wp2
      go_ret
      exact ⟨by rfl, by repeat (first | exact Drawn0.refl _ | apply Drawn0.step)⟩
     ·rw [if_neg c5] at H
      have c5b0 : decide (127 < (bt a0 x3_1)) = false := decide_eq_false c5
      clear c5
      have H' := Aside0.mk H
      clear H
      have p4 : 0 ≤ (x3_1 : Int) := of_decide_eq_true (by (with_reducible assumption))
      have q4 : x3_1 < (a0.size : Int) := of_decide_eq_true (by (with_reducible assumption))
      have hx4 := bt_at a0 x3_1
      replace p4 := eq_true p4
      replace q4 := eq_true q4
      go_wp2
      go_roundg k1
      case measure => have := HK1.out; omega
      case rel => exact ⟨(wrap64 (x3_1 + 1)), (by rfl), H', ⟨by have := HK1.out; omega⟩, by repeat (first | exact Drawn0.refl _ | apply Drawn0.step)⟩
    ·rw [if_neg c3] at H
     exact absurd H (by simp)
   ·rw [if_neg c2] at H
    have c2b0 : decide (x3_1 < (a0.size : Int)) = false := decide_eq_false c2
    clear c2
    obtain rfl := Option.some.inj H
    go_wp2
    go_ret
    exact ⟨by rfl, by repeat (first | exact Drawn0.refl _ | apply Drawn0.step)⟩
def spec_alpReadNumbers.l0 : Nat → ByteArray → List (S52) → Option ((List (S52)) × ByteArray)
 | 0, _, _ => none
 | k + 1, x0, x2 => (E1.spec_alpRun.f k x0).bind fun t185 => (if t185 = 0 then (some (x2, x0)) else (if 0 ≤ t185 then (if t185 ≤ (x0.size : Int) then ((spec_intOf.f k (x0.extract 0 (t185 : Int).toNat)).bind fun bt186 => (if x2.length < 2932031007402 then ((some (x2 ++ [(⟨x0.extract 0 (t185 : Int).toNat, (⟨bt186.1, bt186.2⟩ : S31), (x2.length : Int)⟩ : S52)] : List (S52))).bind fun y188 => ((some (x0.extract (t185 : Int).toNat x0.size : ByteArray)).bind fun y191 => (if y191.toList = ([] : List UInt8) then (some (y188, y191)) else (if 0 < (y191.size : Int) then (if (bt y191 0) = 46 then (if 1 ≤ (y191.size : Int) then (spec_alpReadNumbers.l0 k (y191.extract 1 y191.size) y188) else (none)) else (some (y188, y191))) else (none))))) else (none))) else (none)) else (none)))
def spec_alpReadNumbers.f (k : Nat) (a0 : ByteArray) : Option ((List (S52)) × ByteArray) := spec_alpReadNumbers.l0 k a0 ([] : List (S52))
def spec_alpReadNumbers.T4 : Bool × List (List Nat × List Nat) := (true, [([], []), ([], []), ([], []), ([1, 2], [1, 2]), ([], []), ([], []), ([4, 5], [4, 5]), ([6], [6]), ([], []), ([8], [8]), ([3, 7, 9], [3, 7, 9]), ([10], [10]), ([0, 11, 7], [0, 11]), ([12, 12, 0, 1, 2, 3, 4, 5, 6, 7, 8, 9, 10, 11, 12], [0, 8, 12])])
def spec_alpReadNumbers.B4 : List Nat := [0, 0, 0, 6, 0, 0, 48, 112, 0, 256, 1022, 2046, 4095, 8191]
theorem spec_alpReadNumbers.tab4 : rtab .any (opsOf Tryz.f25 4) = spec_alpReadNumbers.T4 := by kernel_rfl
theorem spec_alpReadNumbers.bits4 : waitsOk spec_alpReadNumbers.T4.2 spec_alpReadNumbers.B4 = true := by kernel_rfl
set_option maxHeartbeats 8000000 in
set_option maxRecDepth 100000 in
theorem spec_alpReadNumbers.calls (k : Nat) (a0 : ByteArray) (r1 : List (S52)) (r2 : ByteArray) (w : World) (h : spec_alpReadNumbers.f k a0 = some (r1, r2)) :
  Calls Tryz.prog 25 #[.string a0] w fun e w' => ∃ v0_ : Value, e = .returned (.tuple #[v0_, .string r2]) ∧ Kd.R k52 52 w' w.heap.size (fun _ => True) v0_ r1 ∧ Below w.heap.size w w' := by
 have hu52 := Tryz.underlying52
 have HB := Aside0.mk (Below.refl w.heap.size w)
 have H : (spec_alpReadNumbers.l0 k a0 ([] : List (S52))) = some (r1, r2) := h
 clear h
 have H' := Aside0.mk H
 clear H
 go_enter Tryz.func25, Tryz.ntmps25
 go_wp2
 (try simp only [Act.put, List.setIfInBounds_toArray, List.set_cons_zero, List.set_cons_succ])
 go_loopg [0, 2] k (fun kq v0 v2 w' => ∃ (x0_1 : ByteArray) (x2_1 : List (S52)), v0 = .string x0_1 ∧ Aside0 (spec_alpReadNumbers.l0 kq x0_1 x2_1 = some (r1, r2)) ∧ Aside0 (kq ≤ k) ∧ Aside0 (Kd.R k52 52 w' w.heap.size (fun _ => True) v2 x2_1) ∧ Aside0 (Below w.heap.size w w'))
 case atStart => exact ⟨(a0), (([] : List (S52))), (by rfl), H', ⟨Nat.le_refl _⟩, ⟨by exact Kd.R_nil _ _ _ _ _⟩, ⟨by (with_reducible exact HB.out)⟩⟩
 case round =>
  clear H'
  obtain ⟨x0_1, x2_1, rfl, HA, HK1, HO_2, HB⟩ := hrel
  cases gk with
  | zero => exact absurd HA.out (by simp [spec_alpReadNumbers.l0])
  | succ k1 =>
   have H := HA.out
   clear HA
   simp only [spec_alpReadNumbers.l0] at H
   replace H := Option.bind_eq_some_iff.mp H
   obtain ⟨t185, A20, H⟩ := H
   replace H : (if t185 = 0 then (some (x2_1, x0_1)) else (if 0 ≤ t185 then (if t185 ≤ (x0_1.size : Int) then ((spec_intOf.f k1 (x0_1.extract 0 (t185 : Int).toNat)).bind fun bt186 => (if x2_1.length < 2932031007402 then ((some (x2_1 ++ [(⟨x0_1.extract 0 (t185 : Int).toNat, (⟨bt186.1, bt186.2⟩ : S31), (x2_1.length : Int)⟩ : S52)] : List (S52))).bind fun y188 => ((some (x0_1.extract (t185 : Int).toNat x0_1.size : ByteArray)).bind fun y191 => (if y191.toList = ([] : List UInt8) then (some (y188, y191)) else (if 0 < (y191.size : Int) then (if (bt y191 0) = 46 then (if 1 ≤ (y191.size : Int) then (spec_alpReadNumbers.l0 k1 (y191.extract 1 y191.size) y188) else (none)) else (some (y188, y191))) else (none))))) else (none))) else (none)) else (none))) = some (r1, r2) := H
   have A2 := Aside0.mk A20
   clear A20
   by_cases c3 : t185 = 0
   ·rw [if_pos c3] at H
    have c3b0 : (t185 == 0) = true := beq_iff_eq.mpr c3
    have c3b1 : (t185 != 0) = false := bne_eq_false_iff_eq.mpr c3
    clear c3
    simp only [Option.some.injEq, Prod.mk.injEq] at H
    obtain ⟨rfl, rfl⟩ := H
    go_wp2_with (((with_reducible refine gate_callee (f := 39) rfl ?_); refine goesL_ (some 6) rfl rfl Tryz.func39 (by kernel_rfl) rfl #[.string x0_1, .func (.func 40) #[] #[]] rfl (by (try simp only [List.map_toArray, List.map_cons, List.map_nil]); first | done | rfl | (simp only [List.length_drop, List.length_take]; rfl)) ?_; (with_reducible refine (E1.spec_alpRun.calls k1 x0_1 t185 _ A2.out).mono ?_); rintro e w' ⟨rfl, ⟨nd, rfl⟩⟩; refine ⟨_, rfl, ?_⟩))
    go_ret2
    exact ⟨_, by rfl, by (with_reducible repeat (first | apply Kd.R_alloc | apply Kd.R_drewN | apply Kd.R_drew)); exact HO_2.out, by (with_reducible apply pw_below_drewN; with_reducible exact HB.out)⟩
   ·rw [if_neg c3] at H
    have c3b0 : (t185 == 0) = false := beq_eq_false_iff_ne.mpr c3
    have c3b1 : (t185 != 0) = true := bne_iff_ne.mpr c3
    by_cases c4 : 0 ≤ t185
    ·rw [if_pos c4] at H
     have c4b0 := eq_true c4
     have c4b1 : decide (0 ≤ t185) = true := decide_eq_true c4
     clear c4
     by_cases c5 : t185 ≤ (x0_1.size : Int)
     ·rw [if_pos c5] at H
      have c5b0 := eq_true c5
      have c5b1 : decide (t185 ≤ (x0_1.size : Int)) = true := decide_eq_true c5
      clear c5
      have c6b0 := eq_true (of_decide_eq_true (by (with_reducible assumption)) : 0 ≤ t185)
      have c7b0 := eq_true (of_decide_eq_true (by (with_reducible assumption)) : t185 ≤ (x0_1.size : Int))
      replace H := Option.bind_eq_some_iff.mp H
      obtain ⟨⟨t186, t187⟩, A80, H⟩ := H
      replace H : (if x2_1.length < 2932031007402 then ((some (x2_1 ++ [(⟨x0_1.extract 0 (t185 : Int).toNat, (⟨t186, t187⟩ : S31), (x2_1.length : Int)⟩ : S52)] : List (S52))).bind fun y188 => ((some (x0_1.extract (t185 : Int).toNat x0_1.size : ByteArray)).bind fun y191 => (if y191.toList = ([] : List UInt8) then (some (y188, y191)) else (if 0 < (y191.size : Int) then (if (bt y191 0) = 46 then (if 1 ≤ (y191.size : Int) then (spec_alpReadNumbers.l0 k1 (y191.extract 1 y191.size) y188) else (none)) else (some (y188, y191))) else (none))))) else (none)) = some (r1, r2) := H
      have A8 := Aside0.mk A80
      clear A80
      by_cases c9 : x2_1.length < 2932031007402
      ·rw [if_pos c9] at H
       have LMc9 := Aside0.mk c9
       clear c9
       obtain ⟨y188, hy188⟩ : ∃ y_ : List (S52), y_ = (x2_1 ++ [(⟨x0_1.extract 0 (t185 : Int).toNat, (⟨t186, t187⟩ : S31), (x2_1.length : Int)⟩ : S52)]) := ⟨_, rfl⟩
       replace H : ((some (x0_1.extract (t185 : Int).toNat x0_1.size : ByteArray)).bind fun y191 => (if y191.toList = ([] : List UInt8) then (some (y188, y191)) else (if 0 < (y191.size : Int) then (if (bt y191 0) = 46 then (if 1 ≤ (y191.size : Int) then (spec_alpReadNumbers.l0 k1 (y191.extract 1 y191.size) y188) else (none)) else (some (y188, y191))) else (none)))) = some (r1, r2) := by (have H2_ := (Option.bind_some _ _).symm.trans H; rw [hy188]; with_reducible exact H2_)
       have Ny188 := Aside0.mk hy188
       clear hy188
       have c10b0 := eq_true (of_decide_eq_true (by (with_reducible assumption)) : 0 ≤ t185)
       have c11b0 := eq_true (of_decide_eq_true (by (with_reducible assumption)) : t185 ≤ (x0_1.size : Int))
       obtain ⟨y191, hy191⟩ : ∃ y_ : ByteArray, y_ = (x0_1.extract (t185 : Int).toNat x0_1.size) := ⟨_, rfl⟩
       replace H : (if y191.toList = ([] : List UInt8) then (some (y188, y191)) else (if 0 < (y191.size : Int) then (if (bt y191 0) = 46 then (if 1 ≤ (y191.size : Int) then (spec_alpReadNumbers.l0 k1 (y191.extract 1 y191.size) y188) else (none)) else (some (y188, y191))) else (none))) = some (r1, r2) := by (have H2_ := (Option.bind_some _ _).symm.trans H; rw [hy191]; with_reducible exact H2_)
       have Ny191 := Aside0.mk hy191
       clear hy191
       by_cases c12 : y191.toList = ([] : List UInt8)
       ·rw [if_pos c12] at H
        have c12b0 : (y191.toList == ([] : List UInt8)) = true := beq_iff_eq.mpr c12
        have c12b1 : (y191.toList != ([] : List UInt8)) = false := bne_eq_false_iff_eq.mpr c12
        try have c12b9 : y191.toList.isEmpty = true := by simpa using c12b0
        clear c12
        simp only [Option.some.injEq, Prod.mk.injEq] at H
        obtain ⟨rfl, rfl⟩ := H
        try go_wp2_with (((with_reducible refine gate_callee (f := 39) rfl ?_); refine goesL_ (some 6) rfl rfl Tryz.func39 (by kernel_rfl) rfl #[.string x0_1, .func (.func 40) #[] #[]] rfl (by (try simp only [List.map_toArray, List.map_cons, List.map_nil]); first | done | rfl | (simp only [List.length_drop, List.length_take]; rfl)) ?_; (with_reducible refine (E1.spec_alpRun.calls k1 x0_1 t185 _ A2.out).mono ?_); rintro e w' ⟨rfl, ⟨nd, rfl⟩⟩; refine ⟨_, rfl, ?_⟩))
        (try (rw [drewN_self wr]; generalize hq_ : World.drewN wr _ = wr; have n0_ : Aside0 (Kd.R k52 52 wr w.heap.size (fun _ => True) u2 x2_1) := ⟨by rw [← hq_]; exact (by (with_reducible repeat (first | apply Kd.R_alloc | apply Kd.R_drewN | apply Kd.R_drew)); exact HO_2.out)⟩; have n1_ : Aside0 (Below w.heap.size w wr) := ⟨by rw [← hq_]; exact (by (with_reducible apply pw_below_drewN; with_reducible exact HB.out))⟩; clear HO_2 HB hq_; have HO_2 := n0_; have HB := n1_; clear n0_ n1_))
        replace HO_2 := Aside0.mk (Kd.R_drew HO_2.out)
        replace HB := Aside0.mk (below_drew1 HB.out)
        obtain ⟨Ao14, co14, eo14⟩ := Kd.R_slice HO_2.out
        (first | subst eo14 | (injection eo14 with f1_ f2_ f3_; have f4_ := f1_.symm; have f5_ := f3_.symm; clear f1_ f2_ f3_; subst f4_; subst f5_))
        refine start_ (n := 14) (S := fun w' => True) (ds := []) #[false, false, false, false, false, false, false, false, false, false, false, false, false, false] (by kernel_rfl) rfl rfl trivial (fun hHeld => ?_); refine with_tabW spec_alpReadNumbers.tab4 spec_alpReadNumbers.bits4 (fun HT_ HW_ => ?_)
        generalize wr.drew = w13 at HO_2 HB hHeld ⊢
        refine pure_ (i := 0) (N := some 11) (v := ?_) (a' := ?_) #[true, false, false, false, false, false, false, false, false, false, false, false, false, false] rfl rfl (any_of HT_.out (by kernel_rfl)) (fun _ _ _ h => h) (Or.inl ⟨by rfl, ?_⟩) ?_ ?_
        rotate_left
        ·intro w'
         go_simp
         with_reducible rfl
        rotate_left
        ·simp only [Act.put, List.setIfInBounds_toArray, List.set_cons_zero, List.set_cons_succ, i64_w, i32_w]
         rfl
        refine pure_ (i := 1) (N := some 12) (v := ?_) (a' := ?_) #[true, true, false, false, false, false, false, false, false, false, false, false, false, false] rfl rfl (any_of HT_.out (by kernel_rfl)) (fun _ _ _ h => h) (Or.inl ⟨by rfl, ?_⟩) ?_ ?_
        rotate_left
        ·intro w'
         go_simp
         with_reducible rfl
        rotate_left
        ·simp only [Act.put, List.setIfInBounds_toArray, List.set_cons_zero, List.set_cons_succ, i64_w, i32_w]
         rfl
        refine pure_ (i := 2) (N := some 13) (v := ?_) (a' := ?_) #[true, true, true, false, false, false, false, false, false, false, false, false, false, false] rfl rfl (any_of HT_.out (by kernel_rfl)) (fun _ _ _ h => h) (Or.inl ⟨by rfl, ?_⟩) ?_ ?_
        rotate_left
        ·intro w'
         go_simp
         with_reducible rfl
        rotate_left
        ·simp only [Act.put, List.setIfInBounds_toArray, List.set_cons_zero, List.set_cons_succ, i64_w, i32_w]
         rfl
        refine pure_ (i := 3) (N := some 14) (v := ?_) (a' := ?_) #[true, true, true, true, false, false, false, false, false, false, false, false, false, false] rfl rfl (any_of HT_.out (by kernel_rfl)) (fun _ _ _ h => h) (Or.inl ⟨by rfl, ?_⟩) ?_ ?_
        rotate_left
        ·intro w'
         go_simp
         with_reducible rfl
        rotate_left
        ·simp only [Act.put, List.setIfInBounds_toArray, List.set_cons_zero, List.set_cons_succ, i64_w, i32_w]
         rfl
        refine pure_ (i := 4) (N := some 15) (v := ?_) (a' := ?_) #[true, true, true, true, true, false, false, false, false, false, false, false, false, false] rfl rfl (any_of HT_.out (by kernel_rfl)) (fun _ _ _ h => h) (Or.inl ⟨by rfl, ?_⟩) ?_ ?_
        rotate_left
        ·intro w'
         go_simp
         with_reducible rfl
        rotate_left
        ·simp only [Act.put, List.setIfInBounds_toArray, List.set_cons_zero, List.set_cons_succ, i64_w, i32_w]
         rfl
        refine pure_ (i := 5) (N := some 16) (v := ?_) (a' := ?_) #[true, true, true, true, true, true, false, false, false, false, false, false, false, false] rfl rfl (any_of HT_.out (by kernel_rfl)) (fun _ _ _ h => h) (Or.inl ⟨by rfl, ?_⟩) ?_ ?_
        rotate_left
        ·intro w'
         go_simp
         with_reducible rfl
        rotate_left
        ·simp only [Act.put, List.setIfInBounds_toArray, List.set_cons_zero, List.set_cons_succ, i64_w, i32_w]
         rfl
        refine pure_ (i := 6) (N := some 17) (v := ?_) (a' := ?_) #[true, true, true, true, true, true, true, false, false, false, false, false, false, false] rfl rfl (any_of HT_.out (by kernel_rfl)) (fun _ _ _ h => h) (Or.inl ⟨by rfl, ?_⟩) ?_ ?_
        rotate_left
        ·intro w'
         go_simp
         with_reducible rfl
        rotate_left
        ·simp only [Act.put, List.setIfInBounds_toArray, List.set_cons_zero, List.set_cons_succ, i64_w, i32_w]
         rfl
        refine pure_ (i := 8) (N := some 19) (v := ?_) (a' := ?_) #[true, true, true, true, true, true, true, false, true, false, false, false, false, false] rfl rfl (any_of HT_.out (by kernel_rfl)) (fun _ _ _ h => h) (Or.inl ⟨by rfl, ?_⟩) ?_ ?_
        rotate_left
        ·intro w'
         go_simp
         with_reducible rfl
        rotate_left
        ·simp only [Act.put, List.setIfInBounds_toArray, List.set_cons_zero, List.set_cons_succ, i64_w, i32_w]
         rfl
        refine pure_ (i := 9) (N := some 20) (v := ?_) (a' := ?_) #[true, true, true, true, true, true, true, false, true, true, false, false, false, false] rfl rfl (any_of HT_.out (by kernel_rfl)) (fun _ _ _ h => h) (Or.inl ⟨by rfl, ?_⟩) ?_ ?_
        rotate_left
        ·intro w'
         go_simp
         with_reducible rfl
        rotate_left
        ·simp only [Act.put, List.setIfInBounds_toArray, List.set_cons_zero, List.set_cons_succ, i64_w, i32_w]
         rfl
        refine one_ (i := 7) (N := some 18) #[true, true, true, true, true, true, true, true, true, true, false, false, false, false] rfl rfl (one_of HT_.out (by kernel_rfl)) (by decide) (fun K hK => ?_)
        refine goes_ Tryz.func41 (by kernel_rfl) rfl #[.string (x0_1.extract 0 (t185 : Int).toNat)] (by rfl) rfl rfl (by (try simp only [List.map_toArray, List.map_cons, List.map_nil]); first | done | rfl | (simp only [List.length_drop, List.length_take]; rfl)) ?_
        with_reducible refine (spec_intOf.calls k1 (x0_1.extract 0 (t185 : Int).toNat) t186 t187 _ A8.out).mono ?_
        rintro e w15 ⟨rfl, hb⟩
        refine ⟨_, rfl, ?_⟩
        replace HO_2 := Aside0.mk (Kd.R_below (by (with_reducible repeat (first | apply Kd.R_alloc | apply Kd.R_drewN | apply Kd.R_drew)); exact HO_2.out) hb)
        replace HB := Aside0.mk (below_step (by (with_reducible exact HB.out)) hb)
        (try clear hb)
        (try clear hb2)
        (try clear hk)
        (try clear hi)
        refine hK.out _ _ trivial (fun hHeld => ?_)
        clear hK K
        refine norm_ (a' := ?_) ?_ ?_
        rotate_left
        ·show Act.put _ (some 18) _ = _
         simp only [Act.put, List.setIfInBounds_toArray, List.set_cons_zero, List.set_cons_succ, i64_w, i32_w]
         rfl
        refine pure_ (i := 10) (N := some 21) (v := ?_) (a' := ?_) #[true, true, true, true, true, true, true, true, true, true, true, false, false, false] rfl rfl (any_of HT_.out (by kernel_rfl)) (fun _ _ _ h => h) (Or.inl ⟨by rfl, ?_⟩) ?_ ?_
        rotate_left
        ·intro w'
         go_simp
         with_reducible rfl
        rotate_left
        ·simp only [Act.put, List.setIfInBounds_toArray, List.set_cons_zero, List.set_cons_succ, i64_w, i32_w]
         rfl
        refine one_ (i := 11) (N := some 22) #[true, true, true, true, true, true, true, true, true, true, true, true, false, false] rfl rfl (one_of HT_.out (by kernel_rfl)) (by decide) (fun K hK => ?_)
        refine value_ (w1 := ?_) (v := ?_) (by rfl) rfl ?_ ?_
        rotate_left 2
        ·go_simp
         constructor
         ·rfl
         ·rfl
        refine hK.out _ _ trivial (fun hHeld => ?_)
        clear hK K
        refine norm_ (a' := ?_) ?_ ?_
        rotate_left
        ·show Act.put _ (some 22) _ = _
         simp only [Act.put, List.setIfInBounds_toArray, List.set_cons_zero, List.set_cons_succ, i64_w, i32_w]
         rfl
        refine one_ (i := 12) (N := some 23) #[true, true, true, true, true, true, true, true, true, true, true, true, true, false] rfl rfl (one_of HT_.out (by kernel_rfl)) (by decide) (fun K hK => ?_)
        refine Kd.R_append_step k52 (w0 := w) w.heap.size (by rfl) (.tmp 11) (.tmp 22) 28 52 (.agg #[(.string ⟨#[]⟩), (.bool false), (.string ⟨#[]⟩), (.int .i64 0)]) 48 rfl Tryz.underlying28 info52 rfl (by decide) (by omega) (.slice Ao14 x2_1.length co14) x2_1 (⟨x0_1.extract 0 (t185 : Int).toNat, (⟨t186, t187⟩ : S31), (x2_1.length : Int)⟩ : S52) [.string (x0_1.extract 0 (t185 : Int).toNat), .bool t186, .string t187, .int .i64 (x2_1.length : Int)] (fun _ => True) (fun _ => False) rfl rfl ?aP (fun _ hk => hk.elim) ?aF ?aO ?aB ?aS ?aL ?_
        (case aP => exact k52_mkM _ _ _ (⟨x0_1.extract 0 (t185 : Int).toNat, (⟨t186, t187⟩ : S31), (x2_1.length : Int)⟩ : S52))
        (case aB => exact (by (with_reducible exact HB.out)))
        (case aF => exact (fun _ _ => trivial))
        (case aO => exact (by (with_reducible repeat (first | apply Kd.R_alloc | apply Kd.R_drewN | apply Kd.R_drew)); exact HO_2.out))
        (case aS => exact (below_size (by (with_reducible exact HB.out))))
        (case aL => have := LMc9.out; omega)
        intro v189 w16 ho hb hg hat
        rw [← Ny188.out] at ho
        have HO190 := Aside0.mk ho
        replace HB := Aside0.mk hb
        clear HO_2
        clear ho hb hg hat
        refine hK.out _ _ trivial (fun hHeld => ?_)
        clear hK K
        refine norm_ (a' := ?_) ?_ ?_
        rotate_left
        ·show Act.put _ (some 23) _ = _
         simp only [Act.put, List.setIfInBounds_toArray, List.set_cons_zero, List.set_cons_succ, i64_w, i32_w]
         rfl
        refine pure_ (i := 13) (N := some 2) (v := ?_) (a' := ?_) #[true, true, true, true, true, true, true, true, true, true, true, true, true, true] rfl rfl (any_of HT_.out (by kernel_rfl)) (fun _ _ _ h => h) (Or.inl ⟨by rfl, ?_⟩) ?_ ?_
        rotate_left
        ·intro w'
         go_simp
         with_reducible rfl
        rotate_left
        ·simp only [Act.put, List.setIfInBounds_toArray, List.set_cons_zero, List.set_cons_succ, i64_w, i32_w]
         rfl
        refine done_ (done_of HT_.out (by kernel_rfl)) ?_
        try go_wp2_with (((with_reducible refine gate_dst (N := 26) rfl ?_); refine named_event ?hg (N := 26) ?hd (v := .string (x0_1.extract (t185 : Int).toNat x0_1.size)) (v' := .string y191) ?hr (congrArg Value.string Ny191.out.symm) ?_; (case hd => rfl); (case hg => rfl); (case hr => first | (go_simp; done) | (go_simp; rfl))))
        go_ret2
        exact ⟨_, by rfl, by (with_reducible repeat (first | apply Kd.R_alloc | apply Kd.R_drewN | apply Kd.R_drew)); exact HO190.out, by (with_reducible exact HB.out)⟩
       ·rw [if_neg c12] at H
        have c12b0 : (y191.toList == ([] : List UInt8)) = false := beq_eq_false_iff_ne.mpr c12
        have c12b1 : (y191.toList != ([] : List UInt8)) = true := bne_iff_ne.mpr c12
        try have c12b9 : y191.toList.isEmpty = false := by simpa using c12b0
        by_cases c17 : 0 < (y191.size : Int)
        ·rw [if_pos c17] at H
         have c17b0 : decide (0 < (y191.size : Int)) = true := decide_eq_true c17
         have c17b1 : decide (0 < y191.size) = true := decide_eq_true (by omega)
         clear c17
         by_cases c19 : (bt y191 0) = 46
         ·rw [if_pos c19] at H
          have c19b0 : ((bt y191 0) == 46) = true := beq_iff_eq.mpr c19
          have c19b1 : ((bt y191 0) != 46) = false := bne_eq_false_iff_eq.mpr c19
          clear c19
          by_cases c20 : 1 ≤ (y191.size : Int)
          ·rw [if_pos c20] at H
           have c20b0 := eq_true c20
           have c20b1 : decide (1 ≤ (y191.size : Int)) = true := decide_eq_true c20
           clear c20
           obtain ⟨y192, hy192⟩ : ∃ y_ : ByteArray, y_ = (y191.extract 1 y191.size) := ⟨_, rfl⟩
           replace H : (spec_alpReadNumbers.l0 k1 y192 y188) = some (r1, r2) := by (rw [hy192]; with_reducible exact H)
           have Ny192 := Aside0.mk hy192
           clear hy192
           have H' := Aside0.mk H
           clear H
           try go_wp2_with (((with_reducible refine gate_callee (f := 39) rfl ?_); refine goesL_ (some 6) rfl rfl Tryz.func39 (by kernel_rfl) rfl #[.string x0_1, .func (.func 40) #[] #[]] rfl (by (try simp only [List.map_toArray, List.map_cons, List.map_nil]); first | done | rfl | (simp only [List.length_drop, List.length_take]; rfl)) ?_; (with_reducible refine (E1.spec_alpRun.calls k1 x0_1 t185 _ A2.out).mono ?_); rintro e w' ⟨rfl, ⟨nd, rfl⟩⟩; refine ⟨_, rfl, ?_⟩))
           (try (rw [drewN_self wr]; generalize hq_ : World.drewN wr _ = wr; have n0_ : Aside0 (Kd.R k52 52 wr w.heap.size (fun _ => True) u2 x2_1) := ⟨by rw [← hq_]; exact (by (with_reducible repeat (first | apply Kd.R_alloc | apply Kd.R_drewN | apply Kd.R_drew)); exact HO_2.out)⟩; have n1_ : Aside0 (Below w.heap.size w wr) := ⟨by rw [← hq_]; exact (by (with_reducible apply pw_below_drewN; with_reducible exact HB.out))⟩; clear HO_2 HB hq_; have HO_2 := n0_; have HB := n1_; clear n0_ n1_))
           replace HO_2 := Aside0.mk (Kd.R_drew HO_2.out)
           replace HB := Aside0.mk (below_drew1 HB.out)
           obtain ⟨Ao22, co22, eo22⟩ := Kd.R_slice HO_2.out
           (first | subst eo22 | (injection eo22 with f1_ f2_ f3_; have f4_ := f1_.symm; have f5_ := f3_.symm; clear f1_ f2_ f3_; subst f4_; subst f5_))
           refine start_ (n := 14) (S := fun w' => True) (ds := []) #[false, false, false, false, false, false, false, false, false, false, false, false, false, false] (by kernel_rfl) rfl rfl trivial (fun hHeld => ?_); refine with_tabW spec_alpReadNumbers.tab4 spec_alpReadNumbers.bits4 (fun HT_ HW_ => ?_)
           generalize wr.drew = w21 at HO_2 HB hHeld ⊢
           refine pure_ (i := 0) (N := some 11) (v := ?_) (a' := ?_) #[true, false, false, false, false, false, false, false, false, false, false, false, false, false] rfl rfl (any_of HT_.out (by kernel_rfl)) (fun _ _ _ h => h) (Or.inl ⟨by rfl, ?_⟩) ?_ ?_
           rotate_left
           ·intro w'
            go_simp
            with_reducible rfl
           rotate_left
           ·simp only [Act.put, List.setIfInBounds_toArray, List.set_cons_zero, List.set_cons_succ, i64_w, i32_w]
            rfl
           refine pure_ (i := 1) (N := some 12) (v := ?_) (a' := ?_) #[true, true, false, false, false, false, false, false, false, false, false, false, false, false] rfl rfl (any_of HT_.out (by kernel_rfl)) (fun _ _ _ h => h) (Or.inl ⟨by rfl, ?_⟩) ?_ ?_
           rotate_left
           ·intro w'
            go_simp
            with_reducible rfl
           rotate_left
           ·simp only [Act.put, List.setIfInBounds_toArray, List.set_cons_zero, List.set_cons_succ, i64_w, i32_w]
            rfl
           refine pure_ (i := 2) (N := some 13) (v := ?_) (a' := ?_) #[true, true, true, false, false, false, false, false, false, false, false, false, false, false] rfl rfl (any_of HT_.out (by kernel_rfl)) (fun _ _ _ h => h) (Or.inl ⟨by rfl, ?_⟩) ?_ ?_
           rotate_left
           ·intro w'
            go_simp
            with_reducible rfl
           rotate_left
           ·simp only [Act.put, List.setIfInBounds_toArray, List.set_cons_zero, List.set_cons_succ, i64_w, i32_w]
            rfl
           refine pure_ (i := 3) (N := some 14) (v := ?_) (a' := ?_) #[true, true, true, true, false, false, false, false, false, false, false, false, false, false] rfl rfl (any_of HT_.out (by kernel_rfl)) (fun _ _ _ h => h) (Or.inl ⟨by rfl, ?_⟩) ?_ ?_
           rotate_left
           ·intro w'
            go_simp
            with_reducible rfl
           rotate_left
           ·simp only [Act.put, List.setIfInBounds_toArray, List.set_cons_zero, List.set_cons_succ, i64_w, i32_w]
            rfl
           refine pure_ (i := 4) (N := some 15) (v := ?_) (a' := ?_) #[true, true, true, true, true, false, false, false, false, false, false, false, false, false] rfl rfl (any_of HT_.out (by kernel_rfl)) (fun _ _ _ h => h) (Or.inl ⟨by rfl, ?_⟩) ?_ ?_
           rotate_left
           ·intro w'
            go_simp
            with_reducible rfl
           rotate_left
           ·simp only [Act.put, List.setIfInBounds_toArray, List.set_cons_zero, List.set_cons_succ, i64_w, i32_w]
            rfl
           refine pure_ (i := 5) (N := some 16) (v := ?_) (a' := ?_) #[true, true, true, true, true, true, false, false, false, false, false, false, false, false] rfl rfl (any_of HT_.out (by kernel_rfl)) (fun _ _ _ h => h) (Or.inl ⟨by rfl, ?_⟩) ?_ ?_
           rotate_left
           ·intro w'
            go_simp
            with_reducible rfl
           rotate_left
           ·simp only [Act.put, List.setIfInBounds_toArray, List.set_cons_zero, List.set_cons_succ, i64_w, i32_w]
            rfl
           refine pure_ (i := 6) (N := some 17) (v := ?_) (a' := ?_) #[true, true, true, true, true, true, true, false, false, false, false, false, false, false] rfl rfl (any_of HT_.out (by kernel_rfl)) (fun _ _ _ h => h) (Or.inl ⟨by rfl, ?_⟩) ?_ ?_
           rotate_left
           ·intro w'
            go_simp
            with_reducible rfl
           rotate_left
           ·simp only [Act.put, List.setIfInBounds_toArray, List.set_cons_zero, List.set_cons_succ, i64_w, i32_w]
            rfl
           refine pure_ (i := 8) (N := some 19) (v := ?_) (a' := ?_) #[true, true, true, true, true, true, true, false, true, false, false, false, false, false] rfl rfl (any_of HT_.out (by kernel_rfl)) (fun _ _ _ h => h) (Or.inl ⟨by rfl, ?_⟩) ?_ ?_
           rotate_left
           ·intro w'
            go_simp
            with_reducible rfl
           rotate_left
           ·simp only [Act.put, List.setIfInBounds_toArray, List.set_cons_zero, List.set_cons_succ, i64_w, i32_w]
            rfl
           refine pure_ (i := 9) (N := some 20) (v := ?_) (a' := ?_) #[true, true, true, true, true, true, true, false, true, true, false, false, false, false] rfl rfl (any_of HT_.out (by kernel_rfl)) (fun _ _ _ h => h) (Or.inl ⟨by rfl, ?_⟩) ?_ ?_
           rotate_left
           ·intro w'
            go_simp
            with_reducible rfl
           rotate_left
           ·simp only [Act.put, List.setIfInBounds_toArray, List.set_cons_zero, List.set_cons_succ, i64_w, i32_w]
            rfl
           refine one_ (i := 7) (N := some 18) #[true, true, true, true, true, true, true, true, true, true, false, false, false, false] rfl rfl (one_of HT_.out (by kernel_rfl)) (by decide) (fun K hK => ?_)
           refine goes_ Tryz.func41 (by kernel_rfl) rfl #[.string (x0_1.extract 0 (t185 : Int).toNat)] (by rfl) rfl rfl (by (try simp only [List.map_toArray, List.map_cons, List.map_nil]); first | done | rfl | (simp only [List.length_drop, List.length_take]; rfl)) ?_
           with_reducible refine (spec_intOf.calls k1 (x0_1.extract 0 (t185 : Int).toNat) t186 t187 _ A8.out).mono ?_
           rintro e w23 ⟨rfl, hb⟩
           refine ⟨_, rfl, ?_⟩
           replace HO_2 := Aside0.mk (Kd.R_below (by (with_reducible repeat (first | apply Kd.R_alloc | apply Kd.R_drewN | apply Kd.R_drew)); exact HO_2.out) hb)
           replace HB := Aside0.mk (below_step (by (with_reducible exact HB.out)) hb)
           (try clear hb)
           (try clear hb2)
           (try clear hk)
           (try clear hi)
           refine hK.out _ _ trivial (fun hHeld => ?_)
           clear hK K
           refine norm_ (a' := ?_) ?_ ?_
           rotate_left
           ·show Act.put _ (some 18) _ = _
            simp only [Act.put, List.setIfInBounds_toArray, List.set_cons_zero, List.set_cons_succ, i64_w, i32_w]
            rfl
           refine pure_ (i := 10) (N := some 21) (v := ?_) (a' := ?_) #[true, true, true, true, true, true, true, true, true, true, true, false, false, false] rfl rfl (any_of HT_.out (by kernel_rfl)) (fun _ _ _ h => h) (Or.inl ⟨by rfl, ?_⟩) ?_ ?_
           rotate_left
           ·intro w'
            go_simp
            with_reducible rfl
           rotate_left
           ·simp only [Act.put, List.setIfInBounds_toArray, List.set_cons_zero, List.set_cons_succ, i64_w, i32_w]
            rfl
           refine one_ (i := 11) (N := some 22) #[true, true, true, true, true, true, true, true, true, true, true, true, false, false] rfl rfl (one_of HT_.out (by kernel_rfl)) (by decide) (fun K hK => ?_)
           refine value_ (w1 := ?_) (v := ?_) (by rfl) rfl ?_ ?_
           rotate_left 2
           ·go_simp
            constructor
            ·rfl
            ·rfl
           refine hK.out _ _ trivial (fun hHeld => ?_)
           clear hK K
           refine norm_ (a' := ?_) ?_ ?_
           rotate_left
           ·show Act.put _ (some 22) _ = _
            simp only [Act.put, List.setIfInBounds_toArray, List.set_cons_zero, List.set_cons_succ, i64_w, i32_w]
            rfl
           refine one_ (i := 12) (N := some 23) #[true, true, true, true, true, true, true, true, true, true, true, true, true, false] rfl rfl (one_of HT_.out (by kernel_rfl)) (by decide) (fun K hK => ?_)
           refine Kd.R_append_step k52 (w0 := w) w.heap.size (by rfl) (.tmp 11) (.tmp 22) 28 52 (.agg #[(.string ⟨#[]⟩), (.bool false), (.string ⟨#[]⟩), (.int .i64 0)]) 48 rfl Tryz.underlying28 info52 rfl (by decide) (by omega) (.slice Ao22 x2_1.length co22) x2_1 (⟨x0_1.extract 0 (t185 : Int).toNat, (⟨t186, t187⟩ : S31), (x2_1.length : Int)⟩ : S52) [.string (x0_1.extract 0 (t185 : Int).toNat), .bool t186, .string t187, .int .i64 (x2_1.length : Int)] (fun _ => True) (fun _ => False) rfl rfl ?aP (fun _ hk => hk.elim) ?aF ?aO ?aB ?aS ?aL ?_
           (case aP => exact k52_mkM _ _ _ (⟨x0_1.extract 0 (t185 : Int).toNat, (⟨t186, t187⟩ : S31), (x2_1.length : Int)⟩ : S52))
           (case aB => exact (by (with_reducible exact HB.out)))
           (case aF => exact (fun _ _ => trivial))
           (case aO => exact (by (with_reducible repeat (first | apply Kd.R_alloc | apply Kd.R_drewN | apply Kd.R_drew)); exact HO_2.out))
           (case aS => exact (below_size (by (with_reducible exact HB.out))))
           (case aL => have := LMc9.out; omega)
           intro v189 w24 ho hb hg hat
           rw [← Ny188.out] at ho
           have HO190 := Aside0.mk ho
           replace HB := Aside0.mk hb
           clear HO_2
           clear ho hb hg hat
           refine hK.out _ _ trivial (fun hHeld => ?_)
           clear hK K
           refine norm_ (a' := ?_) ?_ ?_
           rotate_left
           ·show Act.put _ (some 23) _ = _
            simp only [Act.put, List.setIfInBounds_toArray, List.set_cons_zero, List.set_cons_succ, i64_w, i32_w]
            rfl
           refine pure_ (i := 13) (N := some 2) (v := ?_) (a' := ?_) #[true, true, true, true, true, true, true, true, true, true, true, true, true, true] rfl rfl (any_of HT_.out (by kernel_rfl)) (fun _ _ _ h => h) (Or.inl ⟨by rfl, ?_⟩) ?_ ?_
           rotate_left
           ·intro w'
            go_simp
            with_reducible rfl
           rotate_left
           ·simp only [Act.put, List.setIfInBounds_toArray, List.set_cons_zero, List.set_cons_succ, i64_w, i32_w]
            rfl
           refine done_ (done_of HT_.out (by kernel_rfl)) ?_
           try go_wp2_with (first | ((with_reducible refine gate_dst (N := 26) rfl ?_); refine named_event ?hg (N := 26) ?hd (v := .string (x0_1.extract (t185 : Int).toNat x0_1.size)) (v' := .string y191) ?hr (congrArg Value.string Ny191.out.symm) ?_; (case hd => rfl); (case hg => rfl); (case hr => first | (go_simp; done) | (go_simp; rfl)); have p18 : 0 ≤ (0 : Int) := (by omega); have q18 : 0 < y191.size := (by have : (0 : Int) < (y191.size : Int) := of_decide_eq_true (by (with_reducible assumption)); omega); have hx18 : ∀ h : 0 < y191.size, ((y191[0]'h).toNat : Int) = bt y191 0 := bt_at y191 0; clear p18; have qi18 : (0 < (y191.size : Int)) = True := eq_true (of_decide_eq_true (by (with_reducible assumption))); replace q18 := eq_true q18) | ((with_reducible refine gate_dst (N := 37) rfl ?_); refine named_event ?hg (N := 37) ?hd (v := .string (y191.extract 1 y191.size)) (v' := .string y192) ?hr (congrArg Value.string Ny192.out.symm) ?_; (case hd => rfl); (case hg => rfl); (case hr => first | (go_simp; done) | (go_simp; rfl))))
           go_roundg k1
           case measure => have := HK1.out; omega
           case rel => exact ⟨(y192), (y188), (by rfl), H', ⟨by have := HK1.out; omega⟩, ⟨by (with_reducible repeat (first | apply Kd.R_alloc | apply Kd.R_drewN | apply Kd.R_drew)); exact HO190.out⟩, ⟨by (with_reducible exact HB.out)⟩⟩
          ·rw [if_neg c20] at H
           exact absurd H (by simp)
         ·rw [if_neg c19] at H
          have c19b0 : ((bt y191 0) == 46) = false := beq_eq_false_iff_ne.mpr c19
          have c19b1 : ((bt y191 0) != 46) = true := bne_iff_ne.mpr c19
          simp only [Option.some.injEq, Prod.mk.injEq] at H
          obtain ⟨rfl, rfl⟩ := H
          try go_wp2_with (((with_reducible refine gate_callee (f := 39) rfl ?_); refine goesL_ (some 6) rfl rfl Tryz.func39 (by kernel_rfl) rfl #[.string x0_1, .func (.func 40) #[] #[]] rfl (by (try simp only [List.map_toArray, List.map_cons, List.map_nil]); first | done | rfl | (simp only [List.length_drop, List.length_take]; rfl)) ?_; (with_reducible refine (E1.spec_alpRun.calls k1 x0_1 t185 _ A2.out).mono ?_); rintro e w' ⟨rfl, ⟨nd, rfl⟩⟩; refine ⟨_, rfl, ?_⟩))
          (try (rw [drewN_self wr]; generalize hq_ : World.drewN wr _ = wr; have n0_ : Aside0 (Kd.R k52 52 wr w.heap.size (fun _ => True) u2 x2_1) := ⟨by rw [← hq_]; exact (by (with_reducible repeat (first | apply Kd.R_alloc | apply Kd.R_drewN | apply Kd.R_drew)); exact HO_2.out)⟩; have n1_ : Aside0 (Below w.heap.size w wr) := ⟨by rw [← hq_]; exact (by (with_reducible apply pw_below_drewN; with_reducible exact HB.out))⟩; clear HO_2 HB hq_; have HO_2 := n0_; have HB := n1_; clear n0_ n1_))
          replace HO_2 := Aside0.mk (Kd.R_drew HO_2.out)
          replace HB := Aside0.mk (below_drew1 HB.out)
          obtain ⟨Ao26, co26, eo26⟩ := Kd.R_slice HO_2.out
          (first | subst eo26 | (injection eo26 with f1_ f2_ f3_; have f4_ := f1_.symm; have f5_ := f3_.symm; clear f1_ f2_ f3_; subst f4_; subst f5_))
          refine start_ (n := 14) (S := fun w' => True) (ds := []) #[false, false, false, false, false, false, false, false, false, false, false, false, false, false] (by kernel_rfl) rfl rfl trivial (fun hHeld => ?_); refine with_tabW spec_alpReadNumbers.tab4 spec_alpReadNumbers.bits4 (fun HT_ HW_ => ?_)
          generalize wr.drew = w25 at HO_2 HB hHeld ⊢
          refine pure_ (i := 0) (N := some 11) (v := ?_) (a' := ?_) #[true, false, false, false, false, false, false, false, false, false, false, false, false, false] rfl rfl (any_of HT_.out (by kernel_rfl)) (fun _ _ _ h => h) (Or.inl ⟨by rfl, ?_⟩) ?_ ?_
          rotate_left
          ·intro w'
           go_simp
           with_reducible rfl
          rotate_left
          ·simp only [Act.put, List.setIfInBounds_toArray, List.set_cons_zero, List.set_cons_succ, i64_w, i32_w]
           rfl
          refine pure_ (i := 1) (N := some 12) (v := ?_) (a' := ?_) #[true, true, false, false, false, false, false, false, false, false, false, false, false, false] rfl rfl (any_of HT_.out (by kernel_rfl)) (fun _ _ _ h => h) (Or.inl ⟨by rfl, ?_⟩) ?_ ?_
          rotate_left
          ·intro w'
           go_simp
           with_reducible rfl
          rotate_left
          ·simp only [Act.put, List.setIfInBounds_toArray, List.set_cons_zero, List.set_cons_succ, i64_w, i32_w]
           rfl
          refine pure_ (i := 2) (N := some 13) (v := ?_) (a' := ?_) #[true, true, true, false, false, false, false, false, false, false, false, false, false, false] rfl rfl (any_of HT_.out (by kernel_rfl)) (fun _ _ _ h => h) (Or.inl ⟨by rfl, ?_⟩) ?_ ?_
          rotate_left
          ·intro w'
           go_simp
           with_reducible rfl
          rotate_left
          ·simp only [Act.put, List.setIfInBounds_toArray, List.set_cons_zero, List.set_cons_succ, i64_w, i32_w]
           rfl
          refine pure_ (i := 3) (N := some 14) (v := ?_) (a' := ?_) #[true, true, true, true, false, false, false, false, false, false, false, false, false, false] rfl rfl (any_of HT_.out (by kernel_rfl)) (fun _ _ _ h => h) (Or.inl ⟨by rfl, ?_⟩) ?_ ?_
          rotate_left
          ·intro w'
           go_simp
           with_reducible rfl
          rotate_left
          ·simp only [Act.put, List.setIfInBounds_toArray, List.set_cons_zero, List.set_cons_succ, i64_w, i32_w]
           rfl
          refine pure_ (i := 4) (N := some 15) (v := ?_) (a' := ?_) #[true, true, true, true, true, false, false, false, false, false, false, false, false, false] rfl rfl (any_of HT_.out (by kernel_rfl)) (fun _ _ _ h => h) (Or.inl ⟨by rfl, ?_⟩) ?_ ?_
          rotate_left
          ·intro w'
           go_simp
           with_reducible rfl
          rotate_left
          ·simp only [Act.put, List.setIfInBounds_toArray, List.set_cons_zero, List.set_cons_succ, i64_w, i32_w]
           rfl
          refine pure_ (i := 5) (N := some 16) (v := ?_) (a' := ?_) #[true, true, true, true, true, true, false, false, false, false, false, false, false, false] rfl rfl (any_of HT_.out (by kernel_rfl)) (fun _ _ _ h => h) (Or.inl ⟨by rfl, ?_⟩) ?_ ?_
          rotate_left
          ·intro w'
           go_simp
           with_reducible rfl
          rotate_left
          ·simp only [Act.put, List.setIfInBounds_toArray, List.set_cons_zero, List.set_cons_succ, i64_w, i32_w]
           rfl
          refine pure_ (i := 6) (N := some 17) (v := ?_) (a' := ?_) #[true, true, true, true, true, true, true, false, false, false, false, false, false, false] rfl rfl (any_of HT_.out (by kernel_rfl)) (fun _ _ _ h => h) (Or.inl ⟨by rfl, ?_⟩) ?_ ?_
          rotate_left
          ·intro w'
           go_simp
           with_reducible rfl
          rotate_left
          ·simp only [Act.put, List.setIfInBounds_toArray, List.set_cons_zero, List.set_cons_succ, i64_w, i32_w]
           rfl
          refine pure_ (i := 8) (N := some 19) (v := ?_) (a' := ?_) #[true, true, true, true, true, true, true, false, true, false, false, false, false, false] rfl rfl (any_of HT_.out (by kernel_rfl)) (fun _ _ _ h => h) (Or.inl ⟨by rfl, ?_⟩) ?_ ?_
          rotate_left
          ·intro w'
           go_simp
           with_reducible rfl
          rotate_left
          ·simp only [Act.put, List.setIfInBounds_toArray, List.set_cons_zero, List.set_cons_succ, i64_w, i32_w]
           rfl
          refine pure_ (i := 9) (N := some 20) (v := ?_) (a' := ?_) #[true, true, true, true, true, true, true, false, true, true, false, false, false, false] rfl rfl (any_of HT_.out (by kernel_rfl)) (fun _ _ _ h => h) (Or.inl ⟨by rfl, ?_⟩) ?_ ?_
          rotate_left
          ·intro w'
           go_simp
           with_reducible rfl
          rotate_left
          ·simp only [Act.put, List.setIfInBounds_toArray, List.set_cons_zero, List.set_cons_succ, i64_w, i32_w]
           rfl
          refine one_ (i := 7) (N := some 18) #[true, true, true, true, true, true, true, true, true, true, false, false, false, false] rfl rfl (one_of HT_.out (by kernel_rfl)) (by decide) (fun K hK => ?_)
          refine goes_ Tryz.func41 (by kernel_rfl) rfl #[.string (x0_1.extract 0 (t185 : Int).toNat)] (by rfl) rfl rfl (by (try simp only [List.map_toArray, List.map_cons, List.map_nil]); first | done | rfl | (simp only [List.length_drop, List.length_take]; rfl)) ?_
          with_reducible refine (spec_intOf.calls k1 (x0_1.extract 0 (t185 : Int).toNat) t186 t187 _ A8.out).mono ?_
          rintro e w27 ⟨rfl, hb⟩
          refine ⟨_, rfl, ?_⟩
          replace HO_2 := Aside0.mk (Kd.R_below (by (with_reducible repeat (first | apply Kd.R_alloc | apply Kd.R_drewN | apply Kd.R_drew)); exact HO_2.out) hb)
          replace HB := Aside0.mk (below_step (by (with_reducible exact HB.out)) hb)
          (try clear hb)
          (try clear hb2)
          (try clear hk)
          (try clear hi)
          refine hK.out _ _ trivial (fun hHeld => ?_)
          clear hK K
          refine norm_ (a' := ?_) ?_ ?_
          rotate_left
          ·show Act.put _ (some 18) _ = _
           simp only [Act.put, List.setIfInBounds_toArray, List.set_cons_zero, List.set_cons_succ, i64_w, i32_w]
           rfl
          refine pure_ (i := 10) (N := some 21) (v := ?_) (a' := ?_) #[true, true, true, true, true, true, true, true, true, true, true, false, false, false] rfl rfl (any_of HT_.out (by kernel_rfl)) (fun _ _ _ h => h) (Or.inl ⟨by rfl, ?_⟩) ?_ ?_
          rotate_left
          ·intro w'
           go_simp
           with_reducible rfl
          rotate_left
          ·simp only [Act.put, List.setIfInBounds_toArray, List.set_cons_zero, List.set_cons_succ, i64_w, i32_w]
           rfl
          refine one_ (i := 11) (N := some 22) #[true, true, true, true, true, true, true, true, true, true, true, true, false, false] rfl rfl (one_of HT_.out (by kernel_rfl)) (by decide) (fun K hK => ?_)
          refine value_ (w1 := ?_) (v := ?_) (by rfl) rfl ?_ ?_
          rotate_left 2
          ·go_simp
           constructor
           ·rfl
           ·rfl
          refine hK.out _ _ trivial (fun hHeld => ?_)
          clear hK K
          refine norm_ (a' := ?_) ?_ ?_
          rotate_left
          ·show Act.put _ (some 22) _ = _
           simp only [Act.put, List.setIfInBounds_toArray, List.set_cons_zero, List.set_cons_succ, i64_w, i32_w]
           rfl
          refine one_ (i := 12) (N := some 23) #[true, true, true, true, true, true, true, true, true, true, true, true, true, false] rfl rfl (one_of HT_.out (by kernel_rfl)) (by decide) (fun K hK => ?_)
          refine Kd.R_append_step k52 (w0 := w) w.heap.size (by rfl) (.tmp 11) (.tmp 22) 28 52 (.agg #[(.string ⟨#[]⟩), (.bool false), (.string ⟨#[]⟩), (.int .i64 0)]) 48 rfl Tryz.underlying28 info52 rfl (by decide) (by omega) (.slice Ao26 x2_1.length co26) x2_1 (⟨x0_1.extract 0 (t185 : Int).toNat, (⟨t186, t187⟩ : S31), (x2_1.length : Int)⟩ : S52) [.string (x0_1.extract 0 (t185 : Int).toNat), .bool t186, .string t187, .int .i64 (x2_1.length : Int)] (fun _ => True) (fun _ => False) rfl rfl ?aP (fun _ hk => hk.elim) ?aF ?aO ?aB ?aS ?aL ?_
          (case aP => exact k52_mkM _ _ _ (⟨x0_1.extract 0 (t185 : Int).toNat, (⟨t186, t187⟩ : S31), (x2_1.length : Int)⟩ : S52))
          (case aB => exact (by (with_reducible exact HB.out)))
          (case aF => exact (fun _ _ => trivial))
          (case aO => exact (by (with_reducible repeat (first | apply Kd.R_alloc | apply Kd.R_drewN | apply Kd.R_drew)); exact HO_2.out))
          (case aS => exact (below_size (by (with_reducible exact HB.out))))
          (case aL => have := LMc9.out; omega)
          intro v189 w28 ho hb hg hat
          rw [← Ny188.out] at ho
          have HO190 := Aside0.mk ho
          replace HB := Aside0.mk hb
          clear HO_2
          clear ho hb hg hat
          refine hK.out _ _ trivial (fun hHeld => ?_)
          clear hK K
          refine norm_ (a' := ?_) ?_ ?_
          rotate_left
          ·show Act.put _ (some 23) _ = _
           simp only [Act.put, List.setIfInBounds_toArray, List.set_cons_zero, List.set_cons_succ, i64_w, i32_w]
           rfl
          refine pure_ (i := 13) (N := some 2) (v := ?_) (a' := ?_) #[true, true, true, true, true, true, true, true, true, true, true, true, true, true] rfl rfl (any_of HT_.out (by kernel_rfl)) (fun _ _ _ h => h) (Or.inl ⟨by rfl, ?_⟩) ?_ ?_
          rotate_left
          ·intro w'
           go_simp
           with_reducible rfl
          rotate_left
          ·simp only [Act.put, List.setIfInBounds_toArray, List.set_cons_zero, List.set_cons_succ, i64_w, i32_w]
           rfl
          refine done_ (done_of HT_.out (by kernel_rfl)) ?_
          try go_wp2_with (((with_reducible refine gate_dst (N := 26) rfl ?_); refine named_event ?hg (N := 26) ?hd (v := .string (x0_1.extract (t185 : Int).toNat x0_1.size)) (v' := .string y191) ?hr (congrArg Value.string Ny191.out.symm) ?_; (case hd => rfl); (case hg => rfl); (case hr => first | (go_simp; done) | (go_simp; rfl)); have p18 : 0 ≤ (0 : Int) := (by omega); have q18 : 0 < y191.size := (by have : (0 : Int) < (y191.size : Int) := of_decide_eq_true (by (with_reducible assumption)); omega); have hx18 : ∀ h : 0 < y191.size, ((y191[0]'h).toNat : Int) = bt y191 0 := bt_at y191 0; clear p18; have qi18 : (0 < (y191.size : Int)) = True := eq_true (of_decide_eq_true (by (with_reducible assumption))); replace q18 := eq_true q18))
          go_ret2
          exact ⟨_, by rfl, by (with_reducible repeat (first | apply Kd.R_alloc | apply Kd.R_drewN | apply Kd.R_drew)); exact HO190.out, by (with_reducible exact HB.out)⟩
        ·rw [if_neg c17] at H
         exact absurd H (by simp)
      ·rw [if_neg c9] at H
       exact absurd H (by simp)
     ·rw [if_neg c5] at H
      exact absurd H (by simp)
    ·rw [if_neg c4] at H
     exact absurd H (by simp)
def spec_alpWords.f  : Option (List ByteArray) := some (([(⟨#[97, 108, 112, 104, 97]⟩ : ByteArray), (⟨#[98, 101, 116, 97]⟩ : ByteArray), (⟨#[112, 114, 101]⟩ : ByteArray), (⟨#[114, 99]⟩ : ByteArray), (⟨#[99, 118, 115]⟩ : ByteArray), (⟨#[115, 118, 110]⟩ : ByteArray), (⟨#[103, 105, 116]⟩ : ByteArray), (⟨#[104, 103]⟩ : ByteArray), (⟨#[112]⟩ : ByteArray)] : List ByteArray))
set_option maxHeartbeats 8000000 in
set_option maxRecDepth 100000 in
theorem spec_alpWords.calls  (r : List ByteArray) (w : World) (h : spec_alpWords.f  = some r) :
  Calls Tryz.prog 47 #[] w fun e w' => ∃ v0_ : Value, e = .returned (v0_) ∧ Kd.R Kd.string 9 w' w.heap.size (fun _ => True) v0_ r ∧ Below w.heap.size w w' := by
 have HB := Aside0.mk (Below.refl w.heap.size w)
 have H : (some (([(⟨#[97, 108, 112, 104, 97]⟩ : ByteArray), (⟨#[98, 101, 116, 97]⟩ : ByteArray), (⟨#[112, 114, 101]⟩ : ByteArray), (⟨#[114, 99]⟩ : ByteArray), (⟨#[99, 118, 115]⟩ : ByteArray), (⟨#[115, 118, 110]⟩ : ByteArray), (⟨#[103, 105, 116]⟩ : ByteArray), (⟨#[104, 103]⟩ : ByteArray), (⟨#[112]⟩ : ByteArray)] : List ByteArray))) = some r := h
 clear h
 obtain ⟨y193, hy193⟩ : ∃ y_ : List ByteArray, y_ = (([(⟨#[97, 108, 112, 104, 97]⟩ : ByteArray), (⟨#[98, 101, 116, 97]⟩ : ByteArray), (⟨#[112, 114, 101]⟩ : ByteArray), (⟨#[114, 99]⟩ : ByteArray), (⟨#[99, 118, 115]⟩ : ByteArray), (⟨#[115, 118, 110]⟩ : ByteArray), (⟨#[103, 105, 116]⟩ : ByteArray), (⟨#[104, 103]⟩ : ByteArray), (⟨#[112]⟩ : ByteArray)] : List ByteArray)) := ⟨_, rfl⟩
 replace H : (some y193) = some r := by (rw [hy193]; with_reducible exact H)
 have Ny193 := Aside0.mk hy193
 clear hy193
 obtain rfl := Option.some.inj H
 go_enter Tryz.func47, Tryz.ntmps47
 go_wp2_with (((with_reducible refine gate_dst (N := 1) rfl ?_); refine Kd.R_lit Kd.string _ 9 ?hg (N := 1) ?hd (xs := ([(⟨#[97, 108, 112, 104, 97]⟩ : ByteArray), (⟨#[98, 101, 116, 97]⟩ : ByteArray), (⟨#[112, 114, 101]⟩ : ByteArray), (⟨#[114, 99]⟩ : ByteArray), (⟨#[99, 118, 115]⟩ : ByteArray), (⟨#[115, 118, 110]⟩ : ByteArray), (⟨#[103, 105, 116]⟩ : ByteArray), (⟨#[104, 103]⟩ : ByteArray), (⟨#[112]⟩ : ByteArray)] : List ByteArray)) (inner := [.string (⟨#[97, 108, 112, 104, 97]⟩ : ByteArray), .string (⟨#[98, 101, 116, 97]⟩ : ByteArray), .string (⟨#[112, 114, 101]⟩ : ByteArray), .string (⟨#[114, 99]⟩ : ByteArray), .string (⟨#[99, 118, 115]⟩ : ByteArray), .string (⟨#[115, 118, 110]⟩ : ByteArray), .string (⟨#[103, 105, 116]⟩ : ByteArray), .string (⟨#[104, 103]⟩ : ByteArray), .string (⟨#[112]⟩ : ByteArray)]) (ok := fun _ => True) (okp := fun _ => True) ?hr ?hp (fun _ hk => hk) trivial (Below.refl _ _) (Nat.le_refl _) (by simp) ?_; (case hd => rfl); (case hg => rfl); (case hr => first | (go_simp; done) | (go_simp; rfl)); (case hp => exact (Reps.one (show Kd.M Kd.string _ _ _ (⟨#[97, 108, 112, 104, 97]⟩ : ByteArray) [.string (⟨#[97, 108, 112, 104, 97]⟩ : ByteArray)] from rfl) (Reps.one (show Kd.M Kd.string _ _ _ (⟨#[98, 101, 116, 97]⟩ : ByteArray) [.string (⟨#[98, 101, 116, 97]⟩ : ByteArray)] from rfl) (Reps.one (show Kd.M Kd.string _ _ _ (⟨#[112, 114, 101]⟩ : ByteArray) [.string (⟨#[112, 114, 101]⟩ : ByteArray)] from rfl) (Reps.one (show Kd.M Kd.string _ _ _ (⟨#[114, 99]⟩ : ByteArray) [.string (⟨#[114, 99]⟩ : ByteArray)] from rfl) (Reps.one (show Kd.M Kd.string _ _ _ (⟨#[99, 118, 115]⟩ : ByteArray) [.string (⟨#[99, 118, 115]⟩ : ByteArray)] from rfl) (Reps.one (show Kd.M Kd.string _ _ _ (⟨#[115, 118, 110]⟩ : ByteArray) [.string (⟨#[115, 118, 110]⟩ : ByteArray)] from rfl) (Reps.one (show Kd.M Kd.string _ _ _ (⟨#[103, 105, 116]⟩ : ByteArray) [.string (⟨#[103, 105, 116]⟩ : ByteArray)] from rfl) (Reps.one (show Kd.M Kd.string _ _ _ (⟨#[104, 103]⟩ : ByteArray) [.string (⟨#[104, 103]⟩ : ByteArray)] from rfl) (Reps.one (show Kd.M Kd.string _ _ _ (⟨#[112]⟩ : ByteArray) [.string (⟨#[112]⟩ : ByteArray)] from rfl) (Reps.none _ _))))))))))); intro v194 w1 ho2 hb hg_ hnew_; clear hg_ hnew_; (first | rw [← Ny193.out] at ho2 | (simp only [Int.reduceToNat] at ho2; rw [← Ny193.out] at ho2)); have HO195 := Aside0.mk (Kd.R_lower ho2 (below_size (by (with_reducible exact HB.out)))); replace HB := Aside0.mk (below_step (by (with_reducible exact HB.out)) hb); clear hb ho2))
 go_ret
 exact ⟨_, by rfl, by (with_reducible repeat (first | apply Kd.R_alloc | apply Kd.R_drewN | apply Kd.R_drew)); exact HO195.out, by (with_reducible exact HB.out)⟩
end Go.Proofs.YtapaijpglfmfgaaGreatDoor.Q
end
section -- Qx9
namespace Go.Proofs.YtapaijpglfmfgaaGreatDoor.Q
open Go.RowKit Go.Proofs.YtapaijpglfmfgaaGreatDoorH Go.Proofs.YtapaijpglfmfgaaGreatDoorG Go.Proofs.YtapaijpglfmfgaaGreatDoorW.PrintWords Go.Proofs.YtapaijpglfmfgaaGreatDoorW.PrintLast Go.Proofs.YtapaijpglfmfgaaGreatDoorW.PrintMore
attribute [local go_sem] max2_int min2_int max_two min_two max_three min_three max_four min_four
set_option linter.unusedVariables false
set_option linter.unusedSimpArgs false
def spec_alpWord.l0 : Nat → ByteArray → List ByteArray → Int → Option (ByteArray)
 | 0, _, _, _ => none
 | k + 1, x0, x3, x4 => if x4 < (x3.length : Int) then (if 0 ≤ x4 then (if (x0.size : Int) > ((rdOf ByteArray.empty x3 x4).size : Int) then (if 0 < (x0.size : Int) then (if (bt x0 0) = 95 then (if 1 ≤ (wrap64 (((rdOf ByteArray.empty x3 x4).size : Int) + 1)) then (if (wrap64 (((rdOf ByteArray.empty x3 x4).size : Int) + 1)) ≤ (x0.size : Int) then (if (x0.extract 1 ((wrap64 (((rdOf ByteArray.empty x3 x4).size : Int) + 1)) : Int).toNat).toList = (rdOf ByteArray.empty x3 x4).toList then (some (rdOf ByteArray.empty x3 x4)) else (spec_alpWord.l0 k x0 x3 (wrap64 (x4 + 1)))) else (none)) else (none)) else (spec_alpWord.l0 k x0 x3 (wrap64 (x4 + 1)))) else (none)) else (spec_alpWord.l0 k x0 x3 (wrap64 (x4 + 1)))) else (none)) else (some (⟨#[]⟩ : ByteArray))
def spec_alpWord.f (k : Nat) (a0 : ByteArray) : Option (ByteArray) := (spec_alpWords.f).bind fun t196 => (spec_alpWord.l0 k a0 t196 0)
set_option maxHeartbeats 8000000 in
set_option maxRecDepth 100000 in
theorem spec_alpWord.calls (k : Nat) (a0 : ByteArray) (r : ByteArray) (w : World) (h : spec_alpWord.f k a0 = some r) :
  Calls Tryz.prog 27 #[.string a0] w fun e w' => e = .returned (.string r) ∧ Below w.heap.size w w' := by
 have HB := Aside0.mk (Below.refl w.heap.size w)
 have H : ((spec_alpWords.f).bind fun t196 => (spec_alpWord.l0 k a0 t196 0)) = some r := h
 clear h
 replace H := Option.bind_eq_some_iff.mp H
 obtain ⟨t196, A20, H⟩ := H
 replace H : (spec_alpWord.l0 k a0 t196 0) = some r := H
 have A2 := Aside0.mk A20
 clear A20
 have H' := Aside0.mk H
 clear H
 go_enter Tryz.func27, Tryz.ntmps27
 go_wp2_with ((go_at_call 47; (with_reducible refine (spec_alpWords.calls  t196 _ A2.out).mono ?_); rintro e w3 ⟨v197, rfl, ho0, hb⟩; have HO198 := Aside0.mk (Kd.R_lower ho0 (below_size (by (with_reducible exact HB.out)))); replace HB := Aside0.mk (below_step (by (with_reducible exact HB.out)) hb); (try clear hb); (try clear hb2); (try clear hk); (try clear hi); (try clear ho0)))
 repeat (go_quiet (fail); try go_wp2_with (fail))
 (try simp only [Act.put, List.setIfInBounds_toArray, List.set_cons_zero, List.set_cons_succ])
 go_loopg [4] k (fun kq v4 w' => ∃ (x4_1 : Int), v4 = .int .i64 x4_1 ∧ Aside0 (spec_alpWord.l0 kq a0 t196 x4_1 = some r) ∧ Aside0 (kq ≤ k) ∧ Aside0 (Kd.R Kd.string 9 w' w.heap.size (fun _ => True) v197 t196) ∧ Aside0 (Below w.heap.size w w'))
 case atStart => exact ⟨(0), (by rfl), H', ⟨Nat.le_refl _⟩, ⟨by (with_reducible repeat (first | apply Kd.R_alloc | apply Kd.R_drewN | apply Kd.R_drew)); exact HO198.out⟩, ⟨by (with_reducible exact HB.out)⟩⟩
 case round =>
  clear H'
  obtain ⟨x4_1, rfl, HA, HK1, HO_3, HB⟩ := hrel
  cases gk with
  | zero => exact absurd HA.out (by simp [spec_alpWord.l0])
  | succ k1 =>
   have H := HA.out
   clear HA
   simp only [spec_alpWord.l0] at H
   by_cases c4 : x4_1 < (t196.length : Int)
   ·rw [if_pos c4] at H
    have c4b0 : decide (x4_1 < (t196.length : Int)) = true := decide_eq_true c4
    clear c4
    by_cases c5 : 0 ≤ x4_1
    ·rw [if_pos c5] at H
     have c5b0 : decide (0 ≤ x4_1) = true := decide_eq_true c5
     clear c5
     by_cases c6 : (a0.size : Int) > ((rdOf ByteArray.empty t196 x4_1).size : Int)
     ·rw [if_pos c6] at H
      have c6b0 : decide (((rdOf ByteArray.empty t196 x4_1).size : Int) < (a0.size : Int)) = true := decide_eq_true c6
      have c6b1 : decide ((rdOf ByteArray.empty t196 x4_1).size < a0.size) = true := decide_eq_true (Int.ofNat_lt.mp c6)
      clear c6
      by_cases c7 : 0 < (a0.size : Int)
      ·rw [if_pos c7] at H
       have c7b0 : decide (0 < (a0.size : Int)) = true := decide_eq_true c7
       have c7b1 : decide (0 < a0.size) = true := decide_eq_true (by omega)
       clear c7
       by_cases c9 : (bt a0 0) = 95
       ·rw [if_pos c9] at H
        have c9b0 : ((bt a0 0) == 95) = true := beq_iff_eq.mpr c9
        have c9b1 : ((bt a0 0) != 95) = false := bne_eq_false_iff_eq.mpr c9
        clear c9
        by_cases c10 : 1 ≤ (wrap64 (((rdOf ByteArray.empty t196 x4_1).size : Int) + 1))
        ·rw [if_pos c10] at H
         have c10b0 := eq_true c10
         have c10b1 : decide (1 ≤ (wrap64 (((rdOf ByteArray.empty t196 x4_1).size : Int) + 1))) = true := decide_eq_true c10
         by_cases c11 : (wrap64 (((rdOf ByteArray.empty t196 x4_1).size : Int) + 1)) ≤ (a0.size : Int)
         ·rw [if_pos c11] at H
          have c11b0 := eq_true c11
          have c11b1 : decide ((wrap64 (((rdOf ByteArray.empty t196 x4_1).size : Int) + 1)) ≤ (a0.size : Int)) = true := decide_eq_true c11
          by_cases c12 : (a0.extract 1 ((wrap64 (((rdOf ByteArray.empty t196 x4_1).size : Int) + 1)) : Int).toNat).toList = (rdOf ByteArray.empty t196 x4_1).toList
          ·rw [if_pos c12] at H
           have c12b0 : ((a0.extract 1 ((wrap64 (((rdOf ByteArray.empty t196 x4_1).size : Int) + 1)) : Int).toNat).toList == (rdOf ByteArray.empty t196 x4_1).toList) = true := beq_iff_eq.mpr c12
           have c12b1 : ((a0.extract 1 ((wrap64 (((rdOf ByteArray.empty t196 x4_1).size : Int) + 1)) : Int).toNat).toList != (rdOf ByteArray.empty t196 x4_1).toList) = false := bne_eq_false_iff_eq.mpr c12
           clear c12
           obtain rfl := Option.some.inj H
           obtain ⟨Ao13, co13, eo13⟩ := Kd.R_slice HO_3.out
           subst eo13
           have p199 : 0 ≤ (x4_1 : Int) := of_decide_eq_true (by (with_reducible assumption))
           have q199 : x4_1 < (t196.length : Int) := of_decide_eq_true (by (with_reducible assumption))
           obtain ⟨ad199, e199, hx199_0⟩ := Kd.at_string (Kd.R_reads' HO_3.out).2.2 x4_1 p199 q199
           cases e199
           replace p199 := eq_true p199
           replace q199 := eq_true q199
           have p8 : 0 ≤ (0 : Int) := (by omega)
           have q8 : 0 < a0.size := (by have : (0 : Int) < (a0.size : Int) := of_decide_eq_true (by (with_reducible assumption)); omega)
           have hx8 : ∀ h : 0 < a0.size, ((a0[0]'h).toNat : Int) = bt a0 0 := bt_at a0 0
           clear p8
           have qi8 : (0 < (a0.size : Int)) = True := eq_true (of_decide_eq_true (by (with_reducible assumption)))
           replace q8 := eq_true q8
           have p200 : 0 ≤ (x4_1 : Int) := of_decide_eq_true (by (with_reducible assumption))
           have q200 : x4_1 < (t196.length : Int) := of_decide_eq_true (by (with_reducible assumption))
           obtain ⟨ad200, e200, hx200_0⟩ := Kd.at_string (Kd.R_reads' HO_3.out).2.2 x4_1 p200 q200
           obtain rfl : ad199 = ad200 := (by injection e200)
           replace p200 := eq_true p200
           replace q200 := eq_true q200
           have p201 : 0 ≤ (x4_1 : Int) := of_decide_eq_true (by (with_reducible assumption))
           have q201 : x4_1 < (t196.length : Int) := of_decide_eq_true (by (with_reducible assumption))
           obtain ⟨ad201, e201, hx201_0⟩ := Kd.at_string (Kd.R_reads' HO_3.out).2.2 x4_1 p201 q201
           obtain rfl : ad199 = ad201 := (by injection e201)
           replace p201 := eq_true p201
           replace q201 := eq_true q201
           have p202 : 0 ≤ (x4_1 : Int) := of_decide_eq_true (by (with_reducible assumption))
           have q202 : x4_1 < (t196.length : Int) := of_decide_eq_true (by (with_reducible assumption))
           obtain ⟨ad202, e202, hx202_0⟩ := Kd.at_string (Kd.R_reads' HO_3.out).2.2 x4_1 p202 q202
           obtain rfl : ad199 = ad202 := (by injection e202)
           replace p202 := eq_true p202
           replace q202 := eq_true q202
           go_wp2
           repeat (go_quiet (fail); try go_wp2)
           go_ret
           exact ⟨by rfl, by (with_reducible apply pw_below_drewN; with_reducible exact HB.out)⟩
          ·rw [if_neg c12] at H
           have c12b0 : ((a0.extract 1 ((wrap64 (((rdOf ByteArray.empty t196 x4_1).size : Int) + 1)) : Int).toNat).toList == (rdOf ByteArray.empty t196 x4_1).toList) = false := beq_eq_false_iff_ne.mpr c12
           have c12b1 : ((a0.extract 1 ((wrap64 (((rdOf ByteArray.empty t196 x4_1).size : Int) + 1)) : Int).toNat).toList != (rdOf ByteArray.empty t196 x4_1).toList) = true := bne_iff_ne.mpr c12
           have H' := Aside0.mk H
           clear H
           obtain ⟨Ao14, co14, eo14⟩ := Kd.R_slice HO_3.out
           subst eo14
           have p199 : 0 ≤ (x4_1 : Int) := of_decide_eq_true (by (with_reducible assumption))
           have q199 : x4_1 < (t196.length : Int) := of_decide_eq_true (by (with_reducible assumption))
           obtain ⟨ad199, e199, hx199_0⟩ := Kd.at_string (Kd.R_reads' HO_3.out).2.2 x4_1 p199 q199
           cases e199
           replace p199 := eq_true p199
           replace q199 := eq_true q199
           have p8 : 0 ≤ (0 : Int) := (by omega)
           have q8 : 0 < a0.size := (by have : (0 : Int) < (a0.size : Int) := of_decide_eq_true (by (with_reducible assumption)); omega)
           have hx8 : ∀ h : 0 < a0.size, ((a0[0]'h).toNat : Int) = bt a0 0 := bt_at a0 0
           clear p8
           have qi8 : (0 < (a0.size : Int)) = True := eq_true (of_decide_eq_true (by (with_reducible assumption)))
           replace q8 := eq_true q8
           have p200 : 0 ≤ (x4_1 : Int) := of_decide_eq_true (by (with_reducible assumption))
           have q200 : x4_1 < (t196.length : Int) := of_decide_eq_true (by (with_reducible assumption))
           obtain ⟨ad200, e200, hx200_0⟩ := Kd.at_string (Kd.R_reads' HO_3.out).2.2 x4_1 p200 q200
           obtain rfl : ad199 = ad200 := (by injection e200)
           replace p200 := eq_true p200
           replace q200 := eq_true q200
           have p201 : 0 ≤ (x4_1 : Int) := of_decide_eq_true (by (with_reducible assumption))
           have q201 : x4_1 < (t196.length : Int) := of_decide_eq_true (by (with_reducible assumption))
           obtain ⟨ad201, e201, hx201_0⟩ := Kd.at_string (Kd.R_reads' HO_3.out).2.2 x4_1 p201 q201
           obtain rfl : ad199 = ad201 := (by injection e201)
           replace p201 := eq_true p201
           replace q201 := eq_true q201
           go_wp2
           repeat (go_quiet (fail); try go_wp2)
           go_roundg k1
           case measure => have := HK1.out; omega
           case rel => exact ⟨(wrap64 (x4_1 + 1)), (by rfl), H', ⟨by have := HK1.out; omega⟩, ⟨by (with_reducible repeat (first | apply Kd.R_alloc | apply Kd.R_drewN | apply Kd.R_drew)); exact HO_3.out⟩, ⟨by (with_reducible apply pw_below_drewN; with_reducible exact HB.out)⟩⟩
         ·rw [if_neg c11] at H
          exact absurd H (by simp)
        ·rw [if_neg c10] at H
         exact absurd H (by simp)
       ·rw [if_neg c9] at H
        have c9b0 : ((bt a0 0) == 95) = false := beq_eq_false_iff_ne.mpr c9
        have c9b1 : ((bt a0 0) != 95) = true := bne_iff_ne.mpr c9
        have H' := Aside0.mk H
        clear H
        obtain ⟨Ao15, co15, eo15⟩ := Kd.R_slice HO_3.out
        subst eo15
        have p199 : 0 ≤ (x4_1 : Int) := of_decide_eq_true (by (with_reducible assumption))
        have q199 : x4_1 < (t196.length : Int) := of_decide_eq_true (by (with_reducible assumption))
        obtain ⟨ad199, e199, hx199_0⟩ := Kd.at_string (Kd.R_reads' HO_3.out).2.2 x4_1 p199 q199
        cases e199
        replace p199 := eq_true p199
        replace q199 := eq_true q199
        have p8 : 0 ≤ (0 : Int) := (by omega)
        have q8 : 0 < a0.size := (by have : (0 : Int) < (a0.size : Int) := of_decide_eq_true (by (with_reducible assumption)); omega)
        have hx8 : ∀ h : 0 < a0.size, ((a0[0]'h).toNat : Int) = bt a0 0 := bt_at a0 0
        clear p8
        have qi8 : (0 < (a0.size : Int)) = True := eq_true (of_decide_eq_true (by (with_reducible assumption)))
        replace q8 := eq_true q8
        go_wp2
        repeat (go_quiet (fail); try go_wp2)
        go_roundg k1
        case measure => have := HK1.out; omega
        case rel => exact ⟨(wrap64 (x4_1 + 1)), (by rfl), H', ⟨by have := HK1.out; omega⟩, ⟨by (with_reducible repeat (first | apply Kd.R_alloc | apply Kd.R_drewN | apply Kd.R_drew)); exact HO_3.out⟩, ⟨by (with_reducible apply pw_below_drewN; with_reducible exact HB.out)⟩⟩
      ·rw [if_neg c7] at H
       exact absurd H (by simp)
     ·rw [if_neg c6] at H
      have c6b0 : decide (((rdOf ByteArray.empty t196 x4_1).size : Int) < (a0.size : Int)) = false := decide_eq_false c6
      have c6b1 : decide ((rdOf ByteArray.empty t196 x4_1).size < a0.size) = false := decide_eq_false (fun h => c6 (Int.ofNat_lt.mpr h))
      clear c6
      have H' := Aside0.mk H
      clear H
      obtain ⟨Ao16, co16, eo16⟩ := Kd.R_slice HO_3.out
      subst eo16
      have p199 : 0 ≤ (x4_1 : Int) := of_decide_eq_true (by (with_reducible assumption))
      have q199 : x4_1 < (t196.length : Int) := of_decide_eq_true (by (with_reducible assumption))
      obtain ⟨ad199, e199, hx199_0⟩ := Kd.at_string (Kd.R_reads' HO_3.out).2.2 x4_1 p199 q199
      cases e199
      replace p199 := eq_true p199
      replace q199 := eq_true q199
      go_wp2
      repeat (go_quiet (fail); try go_wp2)
      go_roundg k1
      case measure => have := HK1.out; omega
      case rel => exact ⟨(wrap64 (x4_1 + 1)), (by rfl), H', ⟨by have := HK1.out; omega⟩, ⟨by (with_reducible repeat (first | apply Kd.R_alloc | apply Kd.R_drewN | apply Kd.R_drew)); exact HO_3.out⟩, ⟨by (with_reducible apply pw_below_drewN; with_reducible exact HB.out)⟩⟩
    ·rw [if_neg c5] at H
     exact absurd H (by simp)
   ·rw [if_neg c4] at H
    have c4b0 : decide (x4_1 < (t196.length : Int)) = false := decide_eq_false c4
    clear c4
    obtain rfl := Option.some.inj H
    obtain ⟨Ao17, co17, eo17⟩ := Kd.R_slice HO_3.out
    subst eo17
    go_wp2
    repeat (go_quiet (fail); try go_wp2)
    go_ret
    exact ⟨by rfl, by (with_reducible exact HB.out)⟩
def spec_SuffixWeight.l0 : Nat → ByteArray → List ByteArray → Int → Option (Int)
 | 0, _, _, _ => none
 | k + 1, x0, x3, x4 => if x4 < (x3.length : Int) then (if 0 ≤ x4 then (if (rdOf ByteArray.empty x3 x4).toList = x0.toList then (some x4) else (spec_SuffixWeight.l0 k x0 x3 (wrap64 (x4 + 1)))) else (none)) else (some (x3.length : Int))
def spec_SuffixWeight.f (k : Nat) (a0 : ByteArray) : Option (Int) := spec_SuffixWeight.l0 k a0 (([(⟨#[97, 108, 112, 104, 97]⟩ : ByteArray), (⟨#[98, 101, 116, 97]⟩ : ByteArray), (⟨#[112, 114, 101]⟩ : ByteArray), (⟨#[114, 99]⟩ : ByteArray), (⟨#[]⟩ : ByteArray), (⟨#[99, 118, 115]⟩ : ByteArray), (⟨#[115, 118, 110]⟩ : ByteArray), (⟨#[103, 105, 116]⟩ : ByteArray), (⟨#[104, 103]⟩ : ByteArray)] : List ByteArray)) 0
set_option maxHeartbeats 8000000 in
set_option maxRecDepth 100000 in
theorem spec_SuffixWeight.calls (k : Nat) (a0 : ByteArray) (r : Int) (w : World) (h : spec_SuffixWeight.f k a0 = some r) :
  Calls Tryz.prog 46 #[.string a0] w fun e w' => e = .returned (.int .i64 r) ∧ Below w.heap.size w w' := by
 have HB := Aside0.mk (Below.refl w.heap.size w)
 have H : (spec_SuffixWeight.l0 k a0 (([(⟨#[97, 108, 112, 104, 97]⟩ : ByteArray), (⟨#[98, 101, 116, 97]⟩ : ByteArray), (⟨#[112, 114, 101]⟩ : ByteArray), (⟨#[114, 99]⟩ : ByteArray), (⟨#[]⟩ : ByteArray), (⟨#[99, 118, 115]⟩ : ByteArray), (⟨#[115, 118, 110]⟩ : ByteArray), (⟨#[103, 105, 116]⟩ : ByteArray), (⟨#[104, 103]⟩ : ByteArray)] : List ByteArray)) 0) = some r := h
 clear h
 obtain ⟨y203, hy203⟩ : ∃ y_ : List ByteArray, y_ = (([(⟨#[97, 108, 112, 104, 97]⟩ : ByteArray), (⟨#[98, 101, 116, 97]⟩ : ByteArray), (⟨#[112, 114, 101]⟩ : ByteArray), (⟨#[114, 99]⟩ : ByteArray), (⟨#[]⟩ : ByteArray), (⟨#[99, 118, 115]⟩ : ByteArray), (⟨#[115, 118, 110]⟩ : ByteArray), (⟨#[103, 105, 116]⟩ : ByteArray), (⟨#[104, 103]⟩ : ByteArray)] : List ByteArray)) := ⟨_, rfl⟩
 replace H : (spec_SuffixWeight.l0 k a0 y203 0) = some r := by (rw [hy203]; with_reducible exact H)
 have Ny203 := Aside0.mk hy203
 clear hy203
 have H' := Aside0.mk H
 clear H
 go_enter Tryz.func46, Tryz.ntmps46
 go_wp2_with (((with_reducible refine gate_dst (N := 5) rfl ?_); refine Kd.R_lit Kd.string _ 9 ?hg (N := 5) ?hd (xs := ([(⟨#[97, 108, 112, 104, 97]⟩ : ByteArray), (⟨#[98, 101, 116, 97]⟩ : ByteArray), (⟨#[112, 114, 101]⟩ : ByteArray), (⟨#[114, 99]⟩ : ByteArray), (⟨#[]⟩ : ByteArray), (⟨#[99, 118, 115]⟩ : ByteArray), (⟨#[115, 118, 110]⟩ : ByteArray), (⟨#[103, 105, 116]⟩ : ByteArray), (⟨#[104, 103]⟩ : ByteArray)] : List ByteArray)) (inner := [.string (⟨#[97, 108, 112, 104, 97]⟩ : ByteArray), .string (⟨#[98, 101, 116, 97]⟩ : ByteArray), .string (⟨#[112, 114, 101]⟩ : ByteArray), .string (⟨#[114, 99]⟩ : ByteArray), .string ⟨#[]⟩, .string (⟨#[99, 118, 115]⟩ : ByteArray), .string (⟨#[115, 118, 110]⟩ : ByteArray), .string (⟨#[103, 105, 116]⟩ : ByteArray), .string (⟨#[104, 103]⟩ : ByteArray)]) (ok := fun _ => True) (okp := fun _ => True) ?hr ?hp (fun _ hk => hk) trivial (Below.refl _ _) (Nat.le_refl _) (by simp) ?_; (case hd => rfl); (case hg => rfl); (case hr => first | (go_simp; done) | (go_simp; rfl)); (case hp => exact (Reps.one (show Kd.M Kd.string _ _ _ (⟨#[97, 108, 112, 104, 97]⟩ : ByteArray) [.string (⟨#[97, 108, 112, 104, 97]⟩ : ByteArray)] from rfl) (Reps.one (show Kd.M Kd.string _ _ _ (⟨#[98, 101, 116, 97]⟩ : ByteArray) [.string (⟨#[98, 101, 116, 97]⟩ : ByteArray)] from rfl) (Reps.one (show Kd.M Kd.string _ _ _ (⟨#[112, 114, 101]⟩ : ByteArray) [.string (⟨#[112, 114, 101]⟩ : ByteArray)] from rfl) (Reps.one (show Kd.M Kd.string _ _ _ (⟨#[114, 99]⟩ : ByteArray) [.string (⟨#[114, 99]⟩ : ByteArray)] from rfl) (Reps.one (show Kd.M Kd.string _ _ _ (⟨#[]⟩ : ByteArray) [.string ⟨#[]⟩] from rfl) (Reps.one (show Kd.M Kd.string _ _ _ (⟨#[99, 118, 115]⟩ : ByteArray) [.string (⟨#[99, 118, 115]⟩ : ByteArray)] from rfl) (Reps.one (show Kd.M Kd.string _ _ _ (⟨#[115, 118, 110]⟩ : ByteArray) [.string (⟨#[115, 118, 110]⟩ : ByteArray)] from rfl) (Reps.one (show Kd.M Kd.string _ _ _ (⟨#[103, 105, 116]⟩ : ByteArray) [.string (⟨#[103, 105, 116]⟩ : ByteArray)] from rfl) (Reps.one (show Kd.M Kd.string _ _ _ (⟨#[104, 103]⟩ : ByteArray) [.string (⟨#[104, 103]⟩ : ByteArray)] from rfl) (Reps.none _ _))))))))))); intro v204 w2 ho3 hb hg_ hnew_; clear hg_ hnew_; (first | rw [← Ny203.out] at ho3 | (simp only [Int.reduceToNat] at ho3; rw [← Ny203.out] at ho3)); have HO205 := Aside0.mk (Kd.R_lower ho3 (below_size (by (with_reducible exact HB.out)))); replace HB := Aside0.mk (below_step (by (with_reducible exact HB.out)) hb); clear hb ho3))
 (try simp only [Act.put, List.setIfInBounds_toArray, List.set_cons_zero, List.set_cons_succ])
 go_loopg [4] k (fun kq v4 w' => ∃ (x4_1 : Int), v4 = .int .i64 x4_1 ∧ Aside0 (spec_SuffixWeight.l0 kq a0 y203 x4_1 = some r) ∧ Aside0 (kq ≤ k) ∧ Aside0 (Kd.R Kd.string 9 w' w.heap.size (fun _ => True) v204 y203) ∧ Aside0 (Below w.heap.size w w'))
 case atStart => exact ⟨(0), (by rfl), H', ⟨Nat.le_refl _⟩, ⟨by (with_reducible repeat (first | apply Kd.R_alloc | apply Kd.R_drewN | apply Kd.R_drew)); exact HO205.out⟩, ⟨by (with_reducible exact HB.out)⟩⟩
 case round =>
  clear H'
  obtain ⟨x4_1, rfl, HA, HK1, HO_3, HB⟩ := hrel
  cases gk with
  | zero => exact absurd HA.out (by simp [spec_SuffixWeight.l0])
  | succ k1 =>
   have H := HA.out
   clear HA
   simp only [spec_SuffixWeight.l0] at H
   by_cases c4 : x4_1 < (y203.length : Int)
   ·rw [if_pos c4] at H
    have c4b0 : decide (x4_1 < (y203.length : Int)) = true := decide_eq_true c4
    clear c4
    by_cases c5 : 0 ≤ x4_1
    ·rw [if_pos c5] at H
     have c5b0 : decide (0 ≤ x4_1) = true := decide_eq_true c5
     clear c5
     by_cases c6 : (rdOf ByteArray.empty y203 x4_1).toList = a0.toList
     ·rw [if_pos c6] at H
      have c6b0 : ((rdOf ByteArray.empty y203 x4_1).toList == a0.toList) = true := beq_iff_eq.mpr c6
      have c6b1 : ((rdOf ByteArray.empty y203 x4_1).toList != a0.toList) = false := bne_eq_false_iff_eq.mpr c6
      clear c6
      obtain rfl := Option.some.inj H
      obtain ⟨Ao7, co7, eo7⟩ := Kd.R_slice HO_3.out
      subst eo7
      have p206 : 0 ≤ (x4_1 : Int) := of_decide_eq_true (by (with_reducible assumption))
      have q206 : x4_1 < (y203.length : Int) := of_decide_eq_true (by (with_reducible assumption))
      obtain ⟨ad206, e206, hx206_0⟩ := Kd.at_string (Kd.R_reads' HO_3.out).2.2 x4_1 p206 q206
      cases e206
      replace p206 := eq_true p206
      replace q206 := eq_true q206
      go_wp2
      go_ret
      exact ⟨by rfl, by (with_reducible exact HB.out)⟩
     ·rw [if_neg c6] at H
      have c6b0 : ((rdOf ByteArray.empty y203 x4_1).toList == a0.toList) = false := beq_eq_false_iff_ne.mpr c6
      have c6b1 : ((rdOf ByteArray.empty y203 x4_1).toList != a0.toList) = true := bne_iff_ne.mpr c6
      have H' := Aside0.mk H
      clear H
      obtain ⟨Ao8, co8, eo8⟩ := Kd.R_slice HO_3.out
      subst eo8
      have p206 : 0 ≤ (x4_1 : Int) := of_decide_eq_true (by (with_reducible assumption))
      have q206 : x4_1 < (y203.length : Int) := of_decide_eq_true (by (with_reducible assumption))
      obtain ⟨ad206, e206, hx206_0⟩ := Kd.at_string (Kd.R_reads' HO_3.out).2.2 x4_1 p206 q206
      cases e206
      replace p206 := eq_true p206
      replace q206 := eq_true q206
      go_wp2
      go_roundg k1
      case measure => have := HK1.out; omega
      case rel => exact ⟨(wrap64 (x4_1 + 1)), (by rfl), H', ⟨by have := HK1.out; omega⟩, ⟨by (with_reducible repeat (first | apply Kd.R_alloc | apply Kd.R_drewN | apply Kd.R_drew)); exact HO_3.out⟩, ⟨by (with_reducible exact HB.out)⟩⟩
    ·rw [if_neg c5] at H
     exact absurd H (by simp)
   ·rw [if_neg c4] at H
    have c4b0 : decide (x4_1 < (y203.length : Int)) = false := decide_eq_false c4
    clear c4
    obtain rfl := Option.some.inj H
    obtain ⟨Ao9, co9, eo9⟩ := Kd.R_slice HO_3.out
    subst eo9
    go_wp2
    go_ret
    exact ⟨by rfl, by (with_reducible exact HB.out)⟩
def spec_alpReadSuffixes.l0 : Nat → ByteArray → List (S56) → Option ((List (S56)) × ByteArray)
 | 0, _, _ => none
 | k + 1, x0, x2 => (spec_alpWord.f k x0).bind fun t207 => (if t207.toList = ([] : List UInt8) then (some (x2, x0)) else (if 0 ≤ (wrap64 ((t207.size : Int) + 1)) then (if (wrap64 ((t207.size : Int) + 1)) ≤ (x0.size : Int) then ((some (x0.extract ((wrap64 ((t207.size : Int) + 1)) : Int).toNat x0.size : ByteArray)).bind fun y208 => ((E1.spec_alpRun.f k y208).bind fun t209 => ((spec_SuffixWeight.f k t207).bind fun t210 => (if 0 ≤ t209 then (if t209 ≤ (y208.size : Int) then ((spec_intOf.f k (y208.extract 0 (t209 : Int).toNat)).bind fun bt211 => (if x2.length < 4398046511104 then (spec_alpReadSuffixes.l0 k (y208.extract (t209 : Int).toNat y208.size) (x2 ++ [(⟨t210, (⟨bt211.1, bt211.2⟩ : S31)⟩ : S56)])) else (none))) else (none)) else (none))))) else (none)) else (none)))
def spec_alpReadSuffixes.f (k : Nat) (a0 : ByteArray) : Option ((List (S56)) × ByteArray) := spec_alpReadSuffixes.l0 k a0 ([] : List (S56))
def spec_alpReadSuffixes.T6 : Bool × List (List Nat × List Nat) := (true, [([], []), ([], []), ([1], [1]), ([], []), ([], []), ([3, 4], [3, 4]), ([5, 2], [5]), ([2, 6], [2, 6]), ([7], [7]), ([0, 8, 6], [0, 8]), ([9, 9, 0, 1, 2, 3, 4, 5, 6, 7, 8, 9], [0, 9])])
def spec_alpReadSuffixes.B6 : List Nat := [0, 0, 2, 0, 0, 24, 62, 126, 254, 511, 1023]
theorem spec_alpReadSuffixes.tab6 : rtab .any (opsOf Tryz.f26 6) = spec_alpReadSuffixes.T6 := by kernel_rfl
theorem spec_alpReadSuffixes.bits6 : waitsOk spec_alpReadSuffixes.T6.2 spec_alpReadSuffixes.B6 = true := by kernel_rfl
set_option maxHeartbeats 8000000 in
set_option maxRecDepth 100000 in
theorem spec_alpReadSuffixes.calls (k : Nat) (a0 : ByteArray) (r1 : List (S56)) (r2 : ByteArray) (w : World) (h : spec_alpReadSuffixes.f k a0 = some (r1, r2)) :
  Calls Tryz.prog 26 #[.string a0] w fun e w' => ∃ v0_ : Value, e = .returned (.tuple #[v0_, .string r2]) ∧ Kd.R k56 56 w' w.heap.size (fun _ => True) v0_ r1 ∧ Below w.heap.size w w' := by
 have hu56 := Tryz.underlying56
 have HB := Aside0.mk (Below.refl w.heap.size w)
 have H : (spec_alpReadSuffixes.l0 k a0 ([] : List (S56))) = some (r1, r2) := h
 clear h
 have H' := Aside0.mk H
 clear H
 go_enter Tryz.func26, Tryz.ntmps26
 go_wp2
 (try simp only [Act.put, List.setIfInBounds_toArray, List.set_cons_zero, List.set_cons_succ])
 go_loopg [0, 2] k (fun kq v0 v2 w' => ∃ (x0_1 : ByteArray) (x2_1 : List (S56)), v0 = .string x0_1 ∧ Aside0 (spec_alpReadSuffixes.l0 kq x0_1 x2_1 = some (r1, r2)) ∧ Aside0 (kq ≤ k) ∧ Aside0 (Kd.R k56 56 w' w.heap.size (fun _ => True) v2 x2_1) ∧ Aside0 (Below w.heap.size w w'))
 case atStart => exact ⟨(a0), (([] : List (S56))), (by rfl), H', ⟨Nat.le_refl _⟩, ⟨by exact Kd.R_nil _ _ _ _ _⟩, ⟨by (with_reducible exact HB.out)⟩⟩
 case round =>
  clear H'
  obtain ⟨x0_1, x2_1, rfl, HA, HK1, HO_2, HB⟩ := hrel
  cases gk with
  | zero => exact absurd HA.out (by simp [spec_alpReadSuffixes.l0])
  | succ k1 =>
   have H := HA.out
   clear HA
   simp only [spec_alpReadSuffixes.l0] at H
   replace H := Option.bind_eq_some_iff.mp H
   obtain ⟨t207, A20, H⟩ := H
   replace H : (if t207.toList = ([] : List UInt8) then (some (x2_1, x0_1)) else (if 0 ≤ (wrap64 ((t207.size : Int) + 1)) then (if (wrap64 ((t207.size : Int) + 1)) ≤ (x0_1.size : Int) then ((some (x0_1.extract ((wrap64 ((t207.size : Int) + 1)) : Int).toNat x0_1.size : ByteArray)).bind fun y208 => ((E1.spec_alpRun.f k1 y208).bind fun t209 => ((spec_SuffixWeight.f k1 t207).bind fun t210 => (if 0 ≤ t209 then (if t209 ≤ (y208.size : Int) then ((spec_intOf.f k1 (y208.extract 0 (t209 : Int).toNat)).bind fun bt211 => (if x2_1.length < 4398046511104 then (spec_alpReadSuffixes.l0 k1 (y208.extract (t209 : Int).toNat y208.size) (x2_1 ++ [(⟨t210, (⟨bt211.1, bt211.2⟩ : S31)⟩ : S56)])) else (none))) else (none)) else (none))))) else (none)) else (none))) = some (r1, r2) := H
   have A2 := Aside0.mk A20
   clear A20
   by_cases c3 : t207.toList = ([] : List UInt8)
   ·rw [if_pos c3] at H
    have c3b0 : (t207.toList == ([] : List UInt8)) = true := beq_iff_eq.mpr c3
    have c3b1 : (t207.toList != ([] : List UInt8)) = false := bne_eq_false_iff_eq.mpr c3
    try have c3b9 : t207.toList.isEmpty = true := by simpa using c3b0
    clear c3
    simp only [Option.some.injEq, Prod.mk.injEq] at H
    obtain ⟨rfl, rfl⟩ := H
    go_wp2_with (((with_reducible refine gate_callee (f := 27) rfl ?_); refine goesL_ (some 7) rfl rfl Tryz.func27 (by kernel_rfl) rfl #[.string x0_1] rfl (by (try simp only [List.map_toArray, List.map_cons, List.map_nil]); first | done | rfl | (simp only [List.length_drop, List.length_take]; rfl)) ?_; (with_reducible refine (spec_alpWord.calls k1 x0_1 t207 _ A2.out).mono ?_); rintro e w4 ⟨rfl, hb⟩; refine ⟨_, rfl, ?_⟩; replace HO_2 := Aside0.mk (Kd.R_below (by (with_reducible repeat (first | apply Kd.R_alloc | apply Kd.R_drewN | apply Kd.R_drew)); exact HO_2.out) hb); replace HB := Aside0.mk (below_step (by (with_reducible exact HB.out)) hb); (try clear hb); (try clear hb2); (try clear hk); (try clear hi)))
    go_ret2
    exact ⟨_, by rfl, by (with_reducible repeat (first | apply Kd.R_alloc | apply Kd.R_drewN | apply Kd.R_drew)); exact HO_2.out, by (with_reducible exact HB.out)⟩
   ·rw [if_neg c3] at H
    have c3b0 : (t207.toList == ([] : List UInt8)) = false := beq_eq_false_iff_ne.mpr c3
    have c3b1 : (t207.toList != ([] : List UInt8)) = true := bne_iff_ne.mpr c3
    try have c3b9 : t207.toList.isEmpty = false := by simpa using c3b0
    obtain ⟨ji5, hji5⟩ : ∃ j_ : Int, (wrap64 ((t207.size : Int) + 1)) = j_ := ⟨_, rfl⟩
    replace H : (if 0 ≤ (ji5) then (if (ji5) ≤ (x0_1.size : Int) then ((some (x0_1.extract ((ji5) : Int).toNat x0_1.size : ByteArray)).bind fun y208 => ((E1.spec_alpRun.f k1 y208).bind fun t209 => ((spec_SuffixWeight.f k1 t207).bind fun t210 => (if 0 ≤ t209 then (if t209 ≤ (y208.size : Int) then ((spec_intOf.f k1 (y208.extract 0 (t209 : Int).toNat)).bind fun bt211 => (if x2_1.length < 4398046511104 then (spec_alpReadSuffixes.l0 k1 (y208.extract (t209 : Int).toNat y208.size) (x2_1 ++ [(⟨t210, (⟨bt211.1, bt211.2⟩ : S31)⟩ : S56)])) else (none))) else (none)) else (none))))) else (none)) else (none)) = some (r1, r2) := by (rw [hji5] at H; exact H)
    (try rw [hji5] at A2)
    have hji5w : (IntKind.i64.wrap ((t207.size : Int) + 1)) = ji5 := (i64_w _).trans hji5
    by_cases c6 : 0 ≤ (ji5)
    ·rw [if_pos c6] at H
     have c6b0 := eq_true c6
     have c6b1 : decide (0 ≤ (ji5)) = true := decide_eq_true c6
     clear c6
     by_cases c7 : (ji5) ≤ (x0_1.size : Int)
     ·rw [if_pos c7] at H
      have c7b0 := eq_true c7
      have c7b1 : decide ((ji5) ≤ (x0_1.size : Int)) = true := decide_eq_true c7
      clear c7
      obtain ⟨y208, hy208⟩ : ∃ y_ : ByteArray, y_ = (x0_1.extract ((ji5) : Int).toNat x0_1.size) := ⟨_, rfl⟩
      replace H : ((E1.spec_alpRun.f k1 y208).bind fun t209 => ((spec_SuffixWeight.f k1 t207).bind fun t210 => (if 0 ≤ t209 then (if t209 ≤ (y208.size : Int) then ((spec_intOf.f k1 (y208.extract 0 (t209 : Int).toNat)).bind fun bt211 => (if x2_1.length < 4398046511104 then (spec_alpReadSuffixes.l0 k1 (y208.extract (t209 : Int).toNat y208.size) (x2_1 ++ [(⟨t210, (⟨bt211.1, bt211.2⟩ : S31)⟩ : S56)])) else (none))) else (none)) else (none)))) = some (r1, r2) := by (have H2_ := (Option.bind_some _ _).symm.trans H; rw [hy208]; with_reducible exact H2_)
      have Ny208 := Aside0.mk hy208
      clear hy208
      replace H := Option.bind_eq_some_iff.mp H
      obtain ⟨t209, A80, H⟩ := H
      replace H : ((spec_SuffixWeight.f k1 t207).bind fun t210 => (if 0 ≤ t209 then (if t209 ≤ (y208.size : Int) then ((spec_intOf.f k1 (y208.extract 0 (t209 : Int).toNat)).bind fun bt211 => (if x2_1.length < 4398046511104 then (spec_alpReadSuffixes.l0 k1 (y208.extract (t209 : Int).toNat y208.size) (x2_1 ++ [(⟨t210, (⟨bt211.1, bt211.2⟩ : S31)⟩ : S56)])) else (none))) else (none)) else (none))) = some (r1, r2) := H
      have A8 := Aside0.mk A80
      clear A80
      replace H := Option.bind_eq_some_iff.mp H
      obtain ⟨t210, A90, H⟩ := H
      replace H : (if 0 ≤ t209 then (if t209 ≤ (y208.size : Int) then ((spec_intOf.f k1 (y208.extract 0 (t209 : Int).toNat)).bind fun bt211 => (if x2_1.length < 4398046511104 then (spec_alpReadSuffixes.l0 k1 (y208.extract (t209 : Int).toNat y208.size) (x2_1 ++ [(⟨t210, (⟨bt211.1, bt211.2⟩ : S31)⟩ : S56)])) else (none))) else (none)) else (none)) = some (r1, r2) := H
      have A9 := Aside0.mk A90
      clear A90
      by_cases c10 : 0 ≤ t209
      ·rw [if_pos c10] at H
       have c10b0 := eq_true c10
       have c10b1 : decide (0 ≤ t209) = true := decide_eq_true c10
       clear c10
       by_cases c11 : t209 ≤ (y208.size : Int)
       ·rw [if_pos c11] at H
        have c11b0 := eq_true c11
        have c11b1 : decide (t209 ≤ (y208.size : Int)) = true := decide_eq_true c11
        clear c11
        replace H := Option.bind_eq_some_iff.mp H
        obtain ⟨⟨t211, t212⟩, A120, H⟩ := H
        replace H : (if x2_1.length < 4398046511104 then (spec_alpReadSuffixes.l0 k1 (y208.extract (t209 : Int).toNat y208.size) (x2_1 ++ [(⟨t210, (⟨t211, t212⟩ : S31)⟩ : S56)])) else (none)) = some (r1, r2) := H
        have A12 := Aside0.mk A120
        clear A120
        by_cases c13 : x2_1.length < 4398046511104
        ·rw [if_pos c13] at H
         have LMc13 := Aside0.mk c13
         clear c13
         obtain ⟨y213, hy213⟩ : ∃ y_ : List (S56), y_ = (x2_1 ++ [(⟨t210, (⟨t211, t212⟩ : S31)⟩ : S56)]) := ⟨_, rfl⟩
         replace H : (spec_alpReadSuffixes.l0 k1 (y208.extract (t209 : Int).toNat y208.size) y213) = some (r1, r2) := by (rw [hy213]; with_reducible exact H)
         have Ny213 := Aside0.mk hy213
         clear hy213
         have c14b0 := eq_true (of_decide_eq_true (by (with_reducible assumption)) : 0 ≤ t209)
         have c15b0 := eq_true (of_decide_eq_true (by (with_reducible assumption)) : t209 ≤ (y208.size : Int))
         obtain ⟨y216, hy216⟩ : ∃ y_ : ByteArray, y_ = (y208.extract (t209 : Int).toNat y208.size) := ⟨_, rfl⟩
         replace H : (spec_alpReadSuffixes.l0 k1 y216 y213) = some (r1, r2) := by (rw [hy216]; with_reducible exact H)
         have Ny216 := Aside0.mk hy216
         clear hy216
         have H' := Aside0.mk H
         clear H
         try go_wp2_with (first | ((with_reducible refine gate_callee (f := 27) rfl ?_); refine goesL_ (some 7) rfl rfl Tryz.func27 (by kernel_rfl) rfl #[.string x0_1] rfl (by (try simp only [List.map_toArray, List.map_cons, List.map_nil]); first | done | rfl | (simp only [List.length_drop, List.length_take]; rfl)) ?_; (with_reducible refine (spec_alpWord.calls k1 x0_1 t207 _ A2.out).mono ?_); rintro e w16 ⟨rfl, hb⟩; refine ⟨_, rfl, ?_⟩; replace HO_2 := Aside0.mk (Kd.R_below (by (with_reducible repeat (first | apply Kd.R_alloc | apply Kd.R_drewN | apply Kd.R_drew)); exact HO_2.out) hb); replace HB := Aside0.mk (below_step (by (with_reducible exact HB.out)) hb); (try clear hb); (try clear hb2); (try clear hk); (try clear hi)) | ((with_reducible refine gate_dst (N := 16) rfl ?_); refine named_event ?hg (N := 16) ?hd (v := .string (x0_1.extract ((ji5) : Int).toNat x0_1.size)) (v' := .string y208) ?hr (congrArg Value.string Ny208.out.symm) ?_; (case hd => rfl); (case hg => rfl); (case hr => first | (go_simp; done) | (go_simp; rfl))) | ((with_reducible refine gate_callee (f := 39) rfl ?_); refine goesL_ (some 18) rfl rfl Tryz.func39 (by kernel_rfl) rfl #[.string y208, .func (.func 40) #[] #[]] rfl (by (try simp only [List.map_toArray, List.map_cons, List.map_nil]); first | done | rfl | (simp only [List.length_drop, List.length_take]; rfl)) ?_; (with_reducible refine (E1.spec_alpRun.calls k1 y208 t209 _ A8.out).mono ?_); rintro e w' ⟨rfl, ⟨nd, rfl⟩⟩; refine ⟨_, rfl, ?_⟩))
         (try (rw [drewN_self w16]; generalize hq_ : World.drewN w16 _ = w16; have n0_ : Aside0 (Kd.R k56 56 w16 w.heap.size (fun _ => True) u2 x2_1) := ⟨by rw [← hq_]; exact (by (with_reducible repeat (first | apply Kd.R_alloc | apply Kd.R_drewN | apply Kd.R_drew)); exact HO_2.out)⟩; have n1_ : Aside0 (Below w.heap.size w w16) := ⟨by rw [← hq_]; exact (by (with_reducible apply pw_below_drewN; with_reducible exact HB.out))⟩; clear HO_2 HB hq_; have HO_2 := n0_; have HB := n1_; clear n0_ n1_))
         replace HO_2 := Aside0.mk (Kd.R_drew HO_2.out)
         replace HB := Aside0.mk (below_drew1 HB.out)
         refine start_ (n := 11) (S := fun w' => True) (ds := []) #[false, false, false, false, false, false, false, false, false, false, false] (by kernel_rfl) rfl rfl trivial (fun hHeld => ?_); refine with_tabW spec_alpReadSuffixes.tab6 spec_alpReadSuffixes.bits6 (fun HT_ HW_ => ?_)
         generalize w16.drew = w17 at HO_2 HB hHeld ⊢
         refine pure_ (i := 0) (N := some 19) (v := ?_) (a' := ?_) #[true, false, false, false, false, false, false, false, false, false, false] rfl rfl (any_of HT_.out (by kernel_rfl)) (fun _ _ _ h => h) (Or.inl ⟨by rfl, ?_⟩) ?_ ?_
         rotate_left
         ·intro w'
          go_simp
          with_reducible rfl
         rotate_left
         ·simp only [Act.put, List.setIfInBounds_toArray, List.set_cons_zero, List.set_cons_succ, i64_w, i32_w]
          rfl
         refine pure_ (i := 1) (N := some 20) (v := ?_) (a' := ?_) #[true, true, false, false, false, false, false, false, false, false, false] rfl rfl (any_of HT_.out (by kernel_rfl)) (fun _ _ _ h => h) (Or.inl ⟨by rfl, ?_⟩) ?_ ?_
         rotate_left
         ·intro w'
          go_simp
          with_reducible rfl
         rotate_left
         ·simp only [Act.put, List.setIfInBounds_toArray, List.set_cons_zero, List.set_cons_succ, i64_w, i32_w]
          rfl
         refine pure_ (i := 3) (N := some 22) (v := ?_) (a' := ?_) #[true, true, false, true, false, false, false, false, false, false, false] rfl rfl (any_of HT_.out (by kernel_rfl)) (fun _ _ _ h => h) (Or.inl ⟨by rfl, ?_⟩) ?_ ?_
         rotate_left
         ·intro w'
          go_simp
          with_reducible rfl
         rotate_left
         ·simp only [Act.put, List.setIfInBounds_toArray, List.set_cons_zero, List.set_cons_succ, i64_w, i32_w]
          rfl
         refine pure_ (i := 4) (N := some 23) (v := ?_) (a' := ?_) #[true, true, false, true, true, false, false, false, false, false, false] rfl rfl (any_of HT_.out (by kernel_rfl)) (fun _ _ _ h => h) (Or.inl ⟨by rfl, ?_⟩) ?_ ?_
         rotate_left
         ·intro w'
          go_simp
          with_reducible rfl
         rotate_left
         ·simp only [Act.put, List.setIfInBounds_toArray, List.set_cons_zero, List.set_cons_succ, i64_w, i32_w]
          rfl
         refine pure_ (i := 5) (N := some 24) (v := ?_) (a' := ?_) #[true, true, false, true, true, true, false, false, false, false, false] rfl rfl (any_of HT_.out (by kernel_rfl)) (fun _ _ _ h => h) (Or.inl ⟨by rfl, ?_⟩) ?_ ?_
         rotate_left
         ·intro w'
          go_simp
          with_reducible rfl
         rotate_left
         ·simp only [Act.put, List.setIfInBounds_toArray, List.set_cons_zero, List.set_cons_succ, i64_w, i32_w]
          rfl
         refine one_ (i := 2) (N := some 21) #[true, true, true, true, true, true, false, false, false, false, false] rfl rfl (one_of HT_.out (by kernel_rfl)) (by decide) (fun K hK => ?_)
         refine goes_ Tryz.func46 (by kernel_rfl) rfl #[.string t207] (by rfl) rfl rfl (by (try simp only [List.map_toArray, List.map_cons, List.map_nil]); first | done | rfl | (simp only [List.length_drop, List.length_take]; rfl)) ?_
         with_reducible refine (spec_SuffixWeight.calls k1 t207 t210 _ A9.out).mono ?_
         rintro e w18 ⟨rfl, hb⟩
         refine ⟨_, rfl, ?_⟩
         replace HO_2 := Aside0.mk (Kd.R_below (by (with_reducible repeat (first | apply Kd.R_alloc | apply Kd.R_drewN | apply Kd.R_drew)); exact HO_2.out) hb)
         replace HB := Aside0.mk (below_step (by (with_reducible exact HB.out)) hb)
         (try clear hb)
         (try clear hb2)
         (try clear hk)
         (try clear hi)
         refine hK.out _ _ trivial (fun hHeld => ?_)
         clear hK K
         refine norm_ (a' := ?_) ?_ ?_
         rotate_left
         ·show Act.put _ (some 21) _ = _
          simp only [Act.put, List.setIfInBounds_toArray, List.set_cons_zero, List.set_cons_succ, i64_w, i32_w]
          rfl
         refine one_ (i := 6) (N := some 25) #[true, true, true, true, true, true, true, false, false, false, false] rfl rfl (one_of HT_.out (by kernel_rfl)) (by decide) (fun K hK => ?_)
         refine goes_ Tryz.func41 (by kernel_rfl) rfl #[.string (y208.extract 0 (t209 : Int).toNat)] (by rfl) rfl rfl (by (try simp only [List.map_toArray, List.map_cons, List.map_nil]); first | done | rfl | (simp only [List.length_drop, List.length_take]; rfl)) ?_
         with_reducible refine (spec_intOf.calls k1 (y208.extract 0 (t209 : Int).toNat) t211 t212 _ A12.out).mono ?_
         rintro e w19 ⟨rfl, hb⟩
         refine ⟨_, rfl, ?_⟩
         replace HO_2 := Aside0.mk (Kd.R_below (by (with_reducible repeat (first | apply Kd.R_alloc | apply Kd.R_drewN | apply Kd.R_drew)); exact HO_2.out) hb)
         replace HB := Aside0.mk (below_step (by (with_reducible exact HB.out)) hb)
         (try clear hb)
         (try clear hb2)
         (try clear hk)
         (try clear hi)
         refine hK.out _ _ trivial (fun hHeld => ?_)
         clear hK K
         refine norm_ (a' := ?_) ?_ ?_
         rotate_left
         ·show Act.put _ (some 25) _ = _
          simp only [Act.put, List.setIfInBounds_toArray, List.set_cons_zero, List.set_cons_succ, i64_w, i32_w]
          rfl
         refine pure_ (i := 7) (N := some 26) (v := ?_) (a' := ?_) #[true, true, true, true, true, true, true, true, false, false, false] rfl rfl (any_of HT_.out (by kernel_rfl)) (fun _ _ _ h => h) (Or.inl ⟨by rfl, ?_⟩) ?_ ?_
         rotate_left
         ·intro w'
          go_simp
          with_reducible rfl
         rotate_left
         ·simp only [Act.put, List.setIfInBounds_toArray, List.set_cons_zero, List.set_cons_succ, i64_w, i32_w]
          rfl
         refine one_ (i := 8) (N := some 27) #[true, true, true, true, true, true, true, true, true, false, false] rfl rfl (one_of HT_.out (by kernel_rfl)) (by decide) (fun K hK => ?_)
         refine value_ (w1 := ?_) (v := ?_) (by rfl) rfl ?_ ?_
         rotate_left 2
         ·go_simp
          constructor
          ·rfl
          ·rfl
         refine hK.out _ _ trivial (fun hHeld => ?_)
         clear hK K
         refine norm_ (a' := ?_) ?_ ?_
         rotate_left
         ·show Act.put _ (some 27) _ = _
          simp only [Act.put, List.setIfInBounds_toArray, List.set_cons_zero, List.set_cons_succ, i64_w, i32_w]
          rfl
         refine one_ (i := 9) (N := some 28) #[true, true, true, true, true, true, true, true, true, true, false] rfl rfl (one_of HT_.out (by kernel_rfl)) (by decide) (fun K hK => ?_)
         refine Kd.R_append_step k56 (w0 := w) w.heap.size (by rfl) (.tmp 19) (.tmp 27) 29 56 (.agg #[(.int .i64 0), (.bool false), (.string ⟨#[]⟩)]) 32 rfl Tryz.underlying29 info56 rfl (by decide) (by omega) u2 x2_1 (⟨t210, (⟨t211, t212⟩ : S31)⟩ : S56) [.int .i64 t210, .bool t211, .string t212] (fun _ => True) (fun _ => False) rfl rfl ?aP (fun _ hk => hk.elim) ?aF ?aO ?aB ?aS ?aL ?_
         (case aP => exact k56_mkM _ _ _ (⟨t210, (⟨t211, t212⟩ : S31)⟩ : S56))
         (case aB => exact (by (with_reducible exact HB.out)))
         (case aF => exact (fun _ _ => trivial))
         (case aO => exact (by (with_reducible repeat (first | apply Kd.R_alloc | apply Kd.R_drewN | apply Kd.R_drew)); exact HO_2.out))
         (case aS => exact (below_size (by (with_reducible exact HB.out))))
         (case aL => have := LMc13.out; omega)
         intro v214 w20 ho hb hg hat
         rw [← Ny213.out] at ho
         have HO215 := Aside0.mk ho
         replace HB := Aside0.mk hb
         clear HO_2
         clear ho hb hg hat
         refine hK.out _ _ trivial (fun hHeld => ?_)
         clear hK K
         refine norm_ (a' := ?_) ?_ ?_
         rotate_left
         ·show Act.put _ (some 28) _ = _
          simp only [Act.put, List.setIfInBounds_toArray, List.set_cons_zero, List.set_cons_succ, i64_w, i32_w]
          rfl
         refine pure_ (i := 10) (N := some 2) (v := ?_) (a' := ?_) #[true, true, true, true, true, true, true, true, true, true, true] rfl rfl (any_of HT_.out (by kernel_rfl)) (fun _ _ _ h => h) (Or.inl ⟨by rfl, ?_⟩) ?_ ?_
         rotate_left
         ·intro w'
          go_simp
          with_reducible rfl
         rotate_left
         ·simp only [Act.put, List.setIfInBounds_toArray, List.set_cons_zero, List.set_cons_succ, i64_w, i32_w]
          rfl
         refine done_ (done_of HT_.out (by kernel_rfl)) ?_
         try go_wp2_with (((with_reducible refine gate_dst (N := 31) rfl ?_); refine named_event ?hg (N := 31) ?hd (v := .string (y208.extract (t209 : Int).toNat y208.size)) (v' := .string y216) ?hr (congrArg Value.string Ny216.out.symm) ?_; (case hd => rfl); (case hg => rfl); (case hr => first | (go_simp; done) | (go_simp; rfl))))
         go_roundg k1
         case measure => have := HK1.out; omega
         case rel => exact ⟨(y216), (y213), (by rfl), H', ⟨by have := HK1.out; omega⟩, ⟨by (with_reducible repeat (first | apply Kd.R_alloc | apply Kd.R_drewN | apply Kd.R_drew)); exact HO215.out⟩, ⟨by (with_reducible exact HB.out)⟩⟩
        ·rw [if_neg c13] at H
         exact absurd H (by simp)
       ·rw [if_neg c11] at H
        exact absurd H (by simp)
      ·rw [if_neg c10] at H
       exact absurd H (by simp)
     ·rw [if_neg c7] at H
      exact absurd H (by simp)
    ·rw [if_neg c6] at H
     exact absurd H (by simp)
end Go.Proofs.YtapaijpglfmfgaaGreatDoor.Q
end
section -- Qx10
namespace Go.Proofs.YtapaijpglfmfgaaGreatDoor.Q
open Go.RowKit Go.Proofs.YtapaijpglfmfgaaGreatDoorH Go.Proofs.YtapaijpglfmfgaaGreatDoorG Go.Proofs.YtapaijpglfmfgaaGreatDoorW.PrintWords Go.Proofs.YtapaijpglfmfgaaGreatDoorW.PrintLast Go.Proofs.YtapaijpglfmfgaaGreatDoorW.PrintMore Go.Proofs.YtapaijpglfmfgaaGreatDoorC
attribute [local go_sem] max2_int min2_int max_two min_two max_three min_three max_four min_four
set_option linter.unusedVariables false
set_option linter.unusedSimpArgs false
mutual
def spec_AlpineTextKnown.j0 : Nat → ByteArray → Bool → Option (Bool)
 | 0, _, _ => none
 | k + 1, x4, x25 => if x25 = true then (if 1 ≤ (x4.size : Int) then (spec_AlpineTextKnown.j1 k (x4.extract 1 x4.size)) else (none)) else (spec_AlpineTextKnown.j1 k x4)
def spec_AlpineTextKnown.j1 : Nat → ByteArray → Option (Bool)
 | 0, _ => none
 | k + 1, x4 => (spec_alpReadSuffixes.f k x4).bind fun bt223 => (spec_AlpineTextKnown.l0 k bt223.2 0)
def spec_AlpineTextKnown.l0 : Nat → ByteArray → Int → Option (Bool)
 | 0, _, _ => none
 | k + 1, x4, x5 => if x5 < (x4.size : Int) then (if 0 ≤ x5 then (if x5 ≤ (x4.size : Int) then ((spec_alpWord.f k (x4.extract (x5 : Int).toNat x4.size)).bind fun t228 => (if t228.toList = ([] : List UInt8) then (spec_AlpineTextKnown.l0 k x4 (wrap64 (x5 + 1))) else (some false))) else (none)) else (none)) else (some true)
end
def spec_AlpineTextKnown.f (k : Nat) (a0 : ByteArray) : Option (Bool) := (spec_Ascii.f k a0).bind fun t217 => (if t217 = true then ((spec_alpReadNumbers.f k a0).bind fun bt218 => (if bt218.2.toList = ([] : List UInt8) then (spec_AlpineTextKnown.j0 k bt218.2 false) else (if 0 < (bt218.2.size : Int) then (if (bt bt218.2 0) ≥ 97 then (spec_AlpineTextKnown.j0 k bt218.2 (decide ((bt bt218.2 0) ≤ 122))) else (spec_AlpineTextKnown.j0 k bt218.2 false)) else (none)))) else (some false))
set_option maxHeartbeats 8000000 in
set_option maxRecDepth 100000 in
theorem spec_AlpineTextKnown.calls (k : Nat) (a0 : ByteArray) (r : Bool) (w : World) (h : spec_AlpineTextKnown.f k a0 = some r) :
  Calls Tryz.prog 8 #[.string a0] w fun e w' => e = .returned (.bool r) ∧ Below w.heap.size w w' := by
 have HB := Aside0.mk (Below.refl w.heap.size w)
 have H : ((spec_Ascii.f k a0).bind fun t217 => (if t217 = true then ((spec_alpReadNumbers.f k a0).bind fun bt218 => (if bt218.2.toList = ([] : List UInt8) then (spec_AlpineTextKnown.j0 k bt218.2 false) else (if 0 < (bt218.2.size : Int) then (if (bt bt218.2 0) ≥ 97 then (spec_AlpineTextKnown.j0 k bt218.2 (decide ((bt bt218.2 0) ≤ 122))) else (spec_AlpineTextKnown.j0 k bt218.2 false)) else (none)))) else (some false))) = some r := h
 clear h
 replace H := Option.bind_eq_some_iff.mp H
 obtain ⟨t217, A20, H⟩ := H
 replace H : (if t217 = true then ((spec_alpReadNumbers.f k a0).bind fun bt218 => (if bt218.2.toList = ([] : List UInt8) then (spec_AlpineTextKnown.j0 k bt218.2 false) else (if 0 < (bt218.2.size : Int) then (if (bt bt218.2 0) ≥ 97 then (spec_AlpineTextKnown.j0 k bt218.2 (decide ((bt bt218.2 0) ≤ 122))) else (spec_AlpineTextKnown.j0 k bt218.2 false)) else (none)))) else (some false)) = some r := H
 have A2 := Aside0.mk A20
 clear A20
 by_cases c3 : t217 = true
 ·subst c3
  have H1 : ((spec_alpReadNumbers.f k a0).bind fun bt218 => (if bt218.2.toList = ([] : List UInt8) then (spec_AlpineTextKnown.j0 k bt218.2 false) else (if 0 < (bt218.2.size : Int) then (if (bt bt218.2 0) ≥ 97 then (spec_AlpineTextKnown.j0 k bt218.2 (decide ((bt bt218.2 0) ≤ 122))) else (spec_AlpineTextKnown.j0 k bt218.2 false)) else (none)))) = some r := by rw [if_pos rfl] at H; exact H
  clear H
  have H := H1
  clear H1
  replace H := Option.bind_eq_some_iff.mp H
  obtain ⟨⟨t218, t219⟩, A40, H⟩ := H
  replace H : (if t219.toList = ([] : List UInt8) then (spec_AlpineTextKnown.j0 k t219 false) else (if 0 < (t219.size : Int) then (if (bt t219 0) ≥ 97 then (spec_AlpineTextKnown.j0 k t219 (decide ((bt t219 0) ≤ 122))) else (spec_AlpineTextKnown.j0 k t219 false)) else (none))) = some r := H
  have A4 := Aside0.mk A40
  clear A40
  have HC5 := Aside0.mk H
  clear H
  go_enter Tryz.func8, Tryz.ntmps8
  go_upto_region 4 with (first | ((with_reducible refine gate_callee (f := 24) rfl ?_); refine goesL_ (some 7) rfl rfl Tryz.func24 (by kernel_rfl) rfl #[.string a0] rfl (by (try simp only [List.map_toArray, List.map_cons, List.map_nil]); first | done | rfl | (simp only [List.length_drop, List.length_take]; rfl)) ?_; (with_reducible refine (spec_Ascii.calls k a0 true _ A2.out).mono ?_); rintro e w' ⟨rfl, ⟨nd, rfl⟩⟩; refine ⟨_, rfl, ?_⟩) | ((with_reducible refine gate_callee (f := 25) rfl ?_); refine goesL_ (some 11) rfl rfl Tryz.func25 (by kernel_rfl) rfl #[.string a0] rfl (by (try simp only [List.map_toArray, List.map_cons, List.map_nil]); first | done | rfl | (simp only [List.length_drop, List.length_take]; rfl)) ?_; (with_reducible refine (spec_alpReadNumbers.calls k a0 t218 t219 _ A4.out).mono ?_); rintro e w6 ⟨v220, rfl, ho0, hb⟩; refine ⟨_, rfl, ?_⟩; have HO221 := Aside0.mk (Kd.R_lower ho0 (below_size (by (with_reducible apply pw_below_drewN; with_reducible exact HB.out)))); replace HB := Aside0.mk (below_step (by (with_reducible apply pw_below_drewN; with_reducible exact HB.out)) hb); (try clear hb); (try clear hb2); (try clear hk); (try clear hi); (try clear ho0)))
  (try simp only [Act.put, List.setIfInBounds_toArray, List.set_cons_zero, List.set_cons_succ])
  go_cut [25] (fun v25 wc => ∃ (kq : Nat) (x25_4 : Bool), v25 = .bool x25_4 ∧ Aside0 (spec_AlpineTextKnown.j0 kq t219 x25_4 = some r) ∧ Aside0 (kq ≤ k) ∧ Aside0 (Below w.heap.size w wc))
  case first =>
   have H := HC5.out
   clear HC5
   by_cases c7 : t219.toList = ([] : List UInt8)
   ·rw [if_pos c7] at H
    have c7b0 : (t219.toList == ([] : List UInt8)) = true := beq_iff_eq.mpr c7
    have c7b1 : (t219.toList != ([] : List UInt8)) = false := bne_eq_false_iff_eq.mpr c7
    try have c7b9 : t219.toList.isEmpty = true := by simpa using c7b0
    clear c7
    (first | rw [c7b0] | (simp only [i64_w, i32_w]; rw [c7b0]) | rw [c7b9] | skip)
    have H' := Aside0.mk H
    clear H
    go_wp2
    go_meet
    case rel => exact ⟨_, (false), (by rfl), H', ⟨by omega⟩, ⟨by (with_reducible exact HB.out)⟩⟩
   ·rw [if_neg c7] at H
    have c7b0 : (t219.toList == ([] : List UInt8)) = false := beq_eq_false_iff_ne.mpr c7
    have c7b1 : (t219.toList != ([] : List UInt8)) = true := bne_iff_ne.mpr c7
    try have c7b9 : t219.toList.isEmpty = false := by simpa using c7b0
    (first | rw [c7b0] | (simp only [i64_w, i32_w]; rw [c7b0]) | rw [c7b9] | skip)
    by_cases c8 : 0 < (t219.size : Int)
    ·rw [if_pos c8] at H
     have c8b0 : decide (0 < (t219.size : Int)) = true := decide_eq_true c8
     have c8b1 : decide (0 < t219.size) = true := decide_eq_true (by omega)
     clear c8
     by_cases c10 : (bt t219 0) ≥ 97
     ·rw [if_pos c10] at H
      have c10b0 : decide (97 ≤ (bt t219 0)) = true := decide_eq_true c10
      clear c10
      have H' := Aside0.mk H
      clear H
      have p9 : 0 ≤ (0 : Int) := (by omega)
      have q9 : 0 < t219.size := (by have : (0 : Int) < (t219.size : Int) := of_decide_eq_true (by (with_reducible assumption)); omega)
      have hx9 : ∀ h : 0 < t219.size, ((t219[0]'h).toNat : Int) = bt t219 0 := bt_at t219 0
      clear p9
      have qi9 : (0 < (t219.size : Int)) = True := eq_true (of_decide_eq_true (by (with_reducible assumption)))
      replace q9 := eq_true q9
      have p11 : 0 ≤ (0 : Int) := (by omega)
      have q11 : 0 < t219.size := (by have : (0 : Int) < (t219.size : Int) := of_decide_eq_true (by (with_reducible assumption)); omega)
      have hx11 : ∀ h : 0 < t219.size, ((t219[0]'h).toNat : Int) = bt t219 0 := bt_at t219 0
      clear p11
      have qi11 : (0 < (t219.size : Int)) = True := eq_true (of_decide_eq_true (by (with_reducible assumption)))
      replace q11 := eq_true q11
      go_wp2
      go_meet
      case rel => exact ⟨_, (decide ((bt t219 0) ≤ 122)), (by rfl), H', ⟨by omega⟩, ⟨by (with_reducible exact HB.out)⟩⟩
     ·rw [if_neg c10] at H
      have c10b0 : decide (97 ≤ (bt t219 0)) = false := decide_eq_false c10
      clear c10
      have H' := Aside0.mk H
      clear H
      have p9 : 0 ≤ (0 : Int) := (by omega)
      have q9 : 0 < t219.size := (by have : (0 : Int) < (t219.size : Int) := of_decide_eq_true (by (with_reducible assumption)); omega)
      have hx9 : ∀ h : 0 < t219.size, ((t219[0]'h).toNat : Int) = bt t219 0 := bt_at t219 0
      clear p9
      have qi9 : (0 < (t219.size : Int)) = True := eq_true (of_decide_eq_true (by (with_reducible assumption)))
      replace q9 := eq_true q9
      go_wp2
      go_meet
      case rel => exact ⟨_, (false), (by rfl), H', ⟨by omega⟩, ⟨by (with_reducible exact HB.out)⟩⟩
    ·rw [if_neg c8] at H
     exact absurd H (by simp)
  case rest =>
   clear HC5
   obtain ⟨kq, x25_4, rfl, HA, HJ4, HB⟩ := hcut
   cases kq with
   | zero => exact absurd HA.out (by simp [spec_AlpineTextKnown.j0])
   | succ kj4 =>
    have H := HA.out
    clear HA
    simp only [spec_AlpineTextKnown.j0] at H
    have HC12 := Aside0.mk H
    clear H
    go_upto_if 25 with (fail)
    go_cut [4, 25] (fun v4 v25 wc => ∃ (kq : Nat) (x4_11 : ByteArray), v4 = .string x4_11 ∧ Aside0 (spec_AlpineTextKnown.j1 kq x4_11 = some r) ∧ Aside0 (kq ≤ kj4) ∧ Aside0 (Below w.heap.size w wc))
    case first =>
     have H := HC12.out
     clear HC12
     by_cases c13 : x25_4 = true
     ·subst c13
      have H1 : (if 1 ≤ (t219.size : Int) then (spec_AlpineTextKnown.j1 kj4 (t219.extract 1 t219.size)) else (none)) = some r := by rw [if_pos rfl] at H; exact H
      clear H
      have H := H1
      clear H1
      by_cases c14 : 1 ≤ (t219.size : Int)
      ·rw [if_pos c14] at H
       have c14b0 := eq_true c14
       have c14b1 : decide (1 ≤ (t219.size : Int)) = true := decide_eq_true c14
       clear c14
       obtain ⟨y222, hy222⟩ : ∃ y_ : ByteArray, y_ = (t219.extract 1 t219.size) := ⟨_, rfl⟩
       replace H : (spec_AlpineTextKnown.j1 kj4 y222) = some r := by (rw [hy222]; with_reducible exact H)
       have Ny222 := Aside0.mk hy222
       clear hy222
       have H' := Aside0.mk H
       clear H
       go_wp2_with (((with_reducible refine gate_dst (N := 27) rfl ?_); refine named_event ?hg (N := 27) ?hd (v := .string (t219.extract 1 t219.size)) (v' := .string y222) ?hr (congrArg Value.string Ny222.out.symm) ?_; (case hd => rfl); (case hg => rfl); (case hr => first | (go_simp; done) | (go_simp; rfl))))
       go_meet
       case rel => exact ⟨_, (y222), (by rfl), H', ⟨by have := HJ4.out; first | omega | exact Nat.le_refl _⟩, ⟨by (with_reducible exact HB.out)⟩⟩
      ·rw [if_neg c14] at H
       exact absurd H (by simp)
     ·replace c13 := Bool.eq_false_iff.mpr c13
      subst c13
      have H1 : (spec_AlpineTextKnown.j1 kj4 t219) = some r := by rw [if_neg (show ¬ (false = true) by decide)] at H; exact H
      clear H
      have H := H1
      clear H1
      have H' := Aside0.mk H
      clear H
      go_wp2
      go_meet
      case rel => exact ⟨_, (t219), (by rfl), H', ⟨by have := HJ4.out; first | omega | exact Nat.le_refl _⟩, ⟨by (with_reducible exact HB.out)⟩⟩
    case rest =>
     clear HC12
     obtain ⟨kq, x4_11, rfl, HA, HJ11, HB⟩ := hcut
     cases kq with
     | zero => exact absurd HA.out (by simp [spec_AlpineTextKnown.j1])
     | succ kj11 =>
      have H := HA.out
      clear HA
      simp only [spec_AlpineTextKnown.j1] at H
      replace H := Option.bind_eq_some_iff.mp H
      obtain ⟨⟨t223, t224⟩, A150, H⟩ := H
      replace H : (spec_AlpineTextKnown.l0 kj11 t224 0) = some r := H
      have A15 := Aside0.mk A150
      clear A150
      have H' := Aside0.mk H
      clear H
      go_wp2_with (((with_reducible refine gate_callee (f := 26) rfl ?_); refine goesL_ (some 30) rfl rfl Tryz.func26 (by kernel_rfl) rfl #[.string x4_11] rfl (by (try simp only [List.map_toArray, List.map_cons, List.map_nil]); first | done | rfl | (simp only [List.length_drop, List.length_take]; rfl)) ?_; (with_reducible refine (spec_alpReadSuffixes.calls kj11 x4_11 t223 t224 _ A15.out).mono ?_); rintro e w16 ⟨v225, rfl, ho0, hb⟩; refine ⟨_, rfl, ?_⟩; have HO226 := Aside0.mk (Kd.R_lower ho0 (below_size (by (with_reducible exact HB.out)))); replace HB := Aside0.mk (below_step (by (with_reducible exact HB.out)) hb); (try clear hb); (try clear hb2); (try clear hk); (try clear hi); (try clear ho0)))
      (try simp only [Act.put, List.setIfInBounds_toArray, List.set_cons_zero, List.set_cons_succ])
      go_loopg [5] kj11 (fun kq v5 w' => ∃ (x5_3 : Int), v5 = .int .i64 x5_3 ∧ Aside0 (spec_AlpineTextKnown.l0 kq t224 x5_3 = some r) ∧ Aside0 (kq ≤ kj11) ∧ Aside0 (Below w.heap.size w w'))
      case atStart => exact ⟨(0), (by rfl), H', ⟨Nat.le_refl _⟩, ⟨by (with_reducible exact HB.out)⟩⟩
      case round =>
       clear H'
       obtain ⟨x5_3, rfl, HA, HK3, HB⟩ := hrel
       cases gk with
       | zero => exact absurd HA.out (by simp [spec_AlpineTextKnown.l0])
       | succ k3 =>
        have H := HA.out
        clear HA
        simp only [spec_AlpineTextKnown.l0] at H
        by_cases c17 : x5_3 < (t224.size : Int)
        ·rw [if_pos c17] at H
         have c17b0 : decide (x5_3 < (t224.size : Int)) = true := decide_eq_true c17
         clear c17
         by_cases c18 : 0 ≤ x5_3
         ·rw [if_pos c18] at H
          have c18b0 := eq_true c18
          have c18b1 : decide (0 ≤ x5_3) = true := decide_eq_true c18
          clear c18
          by_cases c19 : x5_3 ≤ (t224.size : Int)
          ·rw [if_pos c19] at H
           have c19b0 := eq_true c19
           have c19b1 : decide (x5_3 ≤ (t224.size : Int)) = true := decide_eq_true c19
           clear c19
           obtain ⟨y227, hy227⟩ : ∃ y_ : ByteArray, y_ = (t224.extract (x5_3 : Int).toNat t224.size) := ⟨_, rfl⟩
           replace H : ((spec_alpWord.f k3 y227).bind fun t228 => (if t228.toList = ([] : List UInt8) then (spec_AlpineTextKnown.l0 k3 t224 (wrap64 (x5_3 + 1))) else (some false))) = some r := by (rw [hy227]; with_reducible exact H)
           have Ny227 := Aside0.mk hy227
           clear hy227
           replace H := Option.bind_eq_some_iff.mp H
           obtain ⟨t228, A200, H⟩ := H
           replace H : (if t228.toList = ([] : List UInt8) then (spec_AlpineTextKnown.l0 k3 t224 (wrap64 (x5_3 + 1))) else (some false)) = some r := H
           have A20 := Aside0.mk A200
           clear A200
           by_cases c21 : t228.toList = ([] : List UInt8)
           ·rw [if_pos c21] at H
            have c21b0 : (t228.toList == ([] : List UInt8)) = true := beq_iff_eq.mpr c21
            have c21b1 : (t228.toList != ([] : List UInt8)) = false := bne_eq_false_iff_eq.mpr c21
            try have c21b9 : t228.toList.isEmpty = true := by simpa using c21b0
            clear c21
            have H' := Aside0.mk H
            clear H
            go_wp2_with (first | ((with_reducible refine gate_dst (N := 41) rfl ?_); refine named_event ?hg (N := 41) ?hd (v := .string (t224.extract (x5_3 : Int).toNat t224.size)) (v' := .string y227) ?hr (congrArg Value.string Ny227.out.symm) ?_; (case hd => rfl); (case hg => rfl); (case hr => first | (go_simp; done) | (go_simp; rfl))) | ((with_reducible refine gate_callee (f := 27) rfl ?_); refine goesL_ (some 42) rfl rfl Tryz.func27 (by kernel_rfl) rfl #[.string y227] rfl (by (try simp only [List.map_toArray, List.map_cons, List.map_nil]); first | done | rfl | (simp only [List.length_drop, List.length_take]; rfl)) ?_; (with_reducible refine (spec_alpWord.calls k3 y227 t228 _ A20.out).mono ?_); rintro e w22 ⟨rfl, hb⟩; refine ⟨_, rfl, ?_⟩; replace HB := Aside0.mk (below_step (by (with_reducible exact HB.out)) hb); (try clear hb); (try clear hb2); (try clear hk); (try clear hi)))
            go_roundg k3
            case measure => have := HJ4.out; have := HJ11.out; have := HK3.out; omega
            case rel => exact ⟨(wrap64 (x5_3 + 1)), (by rfl), H', ⟨by have := HJ4.out; have := HJ11.out; have := HK3.out; omega⟩, ⟨by (with_reducible exact HB.out)⟩⟩
           ·rw [if_neg c21] at H
            have c21b0 : (t228.toList == ([] : List UInt8)) = false := beq_eq_false_iff_ne.mpr c21
            have c21b1 : (t228.toList != ([] : List UInt8)) = true := bne_iff_ne.mpr c21
            try have c21b9 : t228.toList.isEmpty = false := by simpa using c21b0
            obtain rfl := Option.some.inj H
            go_wp2_with (first | ((with_reducible refine gate_dst (N := 41) rfl ?_); refine named_event ?hg (N := 41) ?hd (v := .string (t224.extract (x5_3 : Int).toNat t224.size)) (v' := .string y227) ?hr (congrArg Value.string Ny227.out.symm) ?_; (case hd => rfl); (case hg => rfl); (case hr => first | (go_simp; done) | (go_simp; rfl))) | ((with_reducible refine gate_callee (f := 27) rfl ?_); refine goesL_ (some 42) rfl rfl Tryz.func27 (by kernel_rfl) rfl #[.string y227] rfl (by (try simp only [List.map_toArray, List.map_cons, List.map_nil]); first | done | rfl | (simp only [List.length_drop, List.length_take]; rfl)) ?_; (with_reducible refine (spec_alpWord.calls k3 y227 t228 _ A20.out).mono ?_); rintro e w23 ⟨rfl, hb⟩; refine ⟨_, rfl, ?_⟩; replace HB := Aside0.mk (below_step (by (with_reducible exact HB.out)) hb); (try clear hb); (try clear hb2); (try clear hk); (try clear hi)))
            go_ret
            exact ⟨by rfl, by (with_reducible exact HB.out)⟩
          ·rw [if_neg c19] at H
           exact absurd H (by simp)
         ·rw [if_neg c18] at H
          exact absurd H (by simp)
        ·rw [if_neg c17] at H
         have c17b0 : decide (x5_3 < (t224.size : Int)) = false := decide_eq_false c17
         clear c17
         obtain rfl := Option.some.inj H
         go_wp2
         go_ret
         exact ⟨by rfl, by (with_reducible exact HB.out)⟩
 ·replace c3 := Bool.eq_false_iff.mpr c3
  subst c3
  have H1 : (some false) = some r := by rw [if_neg (show ¬ (false = true) by decide)] at H; exact H
  clear H
  have H := H1
  clear H1
  obtain rfl := Option.some.inj H
  go_enter Tryz.func8, Tryz.ntmps8
  go_wp2_with (((with_reducible refine gate_callee (f := 24) rfl ?_); refine goesL_ (some 7) rfl rfl Tryz.func24 (by kernel_rfl) rfl #[.string a0] rfl (by (try simp only [List.map_toArray, List.map_cons, List.map_nil]); first | done | rfl | (simp only [List.length_drop, List.length_take]; rfl)) ?_; (with_reducible refine (spec_Ascii.calls k a0 false _ A2.out).mono ?_); rintro e w' ⟨rfl, ⟨nd, rfl⟩⟩; refine ⟨_, rfl, ?_⟩))
  go_ret
  exact ⟨by rfl, by (with_reducible apply pw_below_drewN; with_reducible exact HB.out)⟩
def spec_alpTexts.l0 : Nat → List (S52) → Int → Option (Bool)
 | 0, _, _ => none
 | k + 1, x0, x3 => if x3 < (x0.length : Int) then (if 0 ≤ x3 then (if ((rd_T52 x0 x3).f0).toList = ([] : List UInt8) then (some false) else (spec_alpTexts.l0 k x0 (wrap64 (x3 + 1)))) else (none)) else (some true)
def spec_alpTexts.f (k : Nat) (l0 : List (S52)) : Option (Bool) := spec_alpTexts.l0 k l0 0
set_option maxHeartbeats 8000000 in
set_option maxRecDepth 100000 in
theorem spec_alpTexts.calls (k : Nat) (A0 : Option Addr) (c0 : Nat) (l0 : List (S52)) (r : Bool) (w : World) (hr0 : Kd.C k52 w A0 l0.length l0) (hc0 : l0.length ≤ c0) (h : spec_alpTexts.f k l0 = some r) :
  Calls Tryz.prog 28 #[.slice A0 l0.length c0] w fun e w' => e = .returned (.bool r) ∧ Drawn0 w w' := by
 have HR0 := Aside0.mk hr0
 have HC0 := Aside0.mk hc0
 clear hr0 hc0
 have H : (spec_alpTexts.l0 k l0 0) = some r := h
 clear h
 have H' := Aside0.mk H
 clear H
 go_enter Tryz.func28, Tryz.ntmps28
 go_wp2
 (try simp only [Act.put, List.setIfInBounds_toArray, List.set_cons_zero, List.set_cons_succ])
 go_loopg [3] k (fun kq v3 w' => ∃ (x3_1 : Int), v3 = .int .i64 x3_1 ∧ Aside0 (spec_alpTexts.l0 kq l0 x3_1 = some r) ∧ Aside0 (kq ≤ k) ∧ Drawn0 w w')
 case atStart => exact ⟨(0), (by rfl), H', ⟨Nat.le_refl _⟩, by repeat (first | exact Drawn0.refl _ | apply Drawn0.step)⟩
 case round =>
  clear H'
  obtain ⟨x3_1, rfl, HA, HK1, ⟨m1, rfl⟩⟩ := hrel
  cases gk with
  | zero => exact absurd HA.out (by simp [spec_alpTexts.l0])
  | succ k1 =>
   have H := HA.out
   clear HA
   simp only [spec_alpTexts.l0] at H
   by_cases c2 : x3_1 < (l0.length : Int)
   ·rw [if_pos c2] at H
    have c2b0 : decide (x3_1 < (l0.length : Int)) = true := decide_eq_true c2
    clear c2
    by_cases c3 : 0 ≤ x3_1
    ·rw [if_pos c3] at H
     have c3b0 : decide (0 ≤ x3_1) = true := decide_eq_true c3
     clear c3
     by_cases c4 : ((rd_T52 l0 x3_1).f0).toList = ([] : List UInt8)
     ·rw [if_pos c4] at H
      have c4b0 : (((rd_T52 l0 x3_1).f0).toList == ([] : List UInt8)) = true := beq_iff_eq.mpr c4
      have c4b1 : (((rd_T52 l0 x3_1).f0).toList != ([] : List UInt8)) = false := bne_eq_false_iff_eq.mpr c4
      clear c4
      obtain rfl := Option.some.inj H
      have p229 : 0 ≤ (x3_1 : Int) := of_decide_eq_true (by (with_reducible assumption))
      have q229 : x3_1 < (l0.length : Int) := of_decide_eq_true (by (with_reducible assumption))
      obtain ⟨ad229, e229, hx229_0, hx229_1, hx229_2, hx229_3⟩ := at_T52 HR0.out x3_1 p229 q229
      cases e229
      replace p229 := eq_true p229
      replace q229 := eq_true q229
      go_wp2
      go_ret
      exact ⟨by rfl, by repeat (first | exact Drawn0.refl _ | apply Drawn0.step)⟩
     ·rw [if_neg c4] at H
      have c4b0 : (((rd_T52 l0 x3_1).f0).toList == ([] : List UInt8)) = false := beq_eq_false_iff_ne.mpr c4
      have c4b1 : (((rd_T52 l0 x3_1).f0).toList != ([] : List UInt8)) = true := bne_iff_ne.mpr c4
      have H' := Aside0.mk H
      clear H
      have p229 : 0 ≤ (x3_1 : Int) := of_decide_eq_true (by (with_reducible assumption))
      have q229 : x3_1 < (l0.length : Int) := of_decide_eq_true (by (with_reducible assumption))
      obtain ⟨ad229, e229, hx229_0, hx229_1, hx229_2, hx229_3⟩ := at_T52 HR0.out x3_1 p229 q229
      cases e229
      replace p229 := eq_true p229
      replace q229 := eq_true q229
      go_wp2
      go_roundg k1
      case measure => have := HK1.out; omega
      case rel => exact ⟨(wrap64 (x3_1 + 1)), (by rfl), H', ⟨by have := HK1.out; omega⟩, by repeat (first | exact Drawn0.refl _ | apply Drawn0.step)⟩
    ·rw [if_neg c3] at H
     exact absurd H (by simp)
   ·rw [if_neg c2] at H
    have c2b0 : decide (x3_1 < (l0.length : Int)) = false := decide_eq_false c2
    clear c2
    obtain rfl := Option.some.inj H
    go_wp2
    go_ret
    exact ⟨by rfl, by repeat (first | exact Drawn0.refl _ | apply Drawn0.step)⟩
def spec_alpBeyond.l0 : Nat → List (S56) → Int → Option (Bool)
 | 0, _, _ => none
 | k + 1, x0, x5 => if x5 < (x0.length : Int) then (if 0 ≤ x5 then (if ((rd_T56 x0 x5).f0) = 4 then (some false) else (if ((rd_T56 x0 x5).f0) = 5 then (some false) else (spec_alpBeyond.l0 k x0 (wrap64 (x5 + 1))))) else (none)) else (some true)
def spec_alpBeyond.f (k : Nat) (l0 : List (S56)) (a1 : Int) : Option (Bool) := spec_alpBeyond.l0 k l0 a1
set_option maxHeartbeats 8000000 in
set_option maxRecDepth 100000 in
theorem spec_alpBeyond.calls (k : Nat) (A0 : Option Addr) (c0 : Nat) (l0 : List (S56)) (a1 : Int) (r : Bool) (w : World) (hr0 : Kd.C k56 w A0 l0.length l0) (hc0 : l0.length ≤ c0) (h : spec_alpBeyond.f k l0 a1 = some r) :
  Calls Tryz.prog 29 #[.slice A0 l0.length c0, .int .i64 a1] w fun e w' => e = .returned (.bool r) ∧ Drawn0 w w' := by
 have HR0 := Aside0.mk hr0
 have HC0 := Aside0.mk hc0
 clear hr0 hc0
 have H : (spec_alpBeyond.l0 k l0 a1) = some r := h
 clear h
 have H' := Aside0.mk H
 clear H
 go_enter Tryz.func29, Tryz.ntmps29
 go_wp2
 (try simp only [Act.put, List.setIfInBounds_toArray, List.set_cons_zero, List.set_cons_succ])
 go_loopg [5] k (fun kq v5 w' => ∃ (x5_1 : Int), v5 = .int .i64 x5_1 ∧ Aside0 (spec_alpBeyond.l0 kq l0 x5_1 = some r) ∧ Aside0 (kq ≤ k) ∧ Drawn0 w w')
 case atStart => exact ⟨(a1), (by rfl), H', ⟨Nat.le_refl _⟩, by repeat (first | exact Drawn0.refl _ | apply Drawn0.step)⟩
 case round =>
  clear H'
  obtain ⟨x5_1, rfl, HA, HK1, ⟨m1, rfl⟩⟩ := hrel
  cases gk with
  | zero => exact absurd HA.out (by simp [spec_alpBeyond.l0])
  | succ k1 =>
   have H := HA.out
   clear HA
   simp only [spec_alpBeyond.l0] at H
   by_cases c3 : x5_1 < (l0.length : Int)
   ·rw [if_pos c3] at H
    have c3b0 : decide (x5_1 < (l0.length : Int)) = true := decide_eq_true c3
    clear c3
    by_cases c4 : 0 ≤ x5_1
    ·rw [if_pos c4] at H
     have c4b0 : decide (0 ≤ x5_1) = true := decide_eq_true c4
     clear c4
     by_cases c5 : ((rd_T56 l0 x5_1).f0) = 4
     ·rw [if_pos c5] at H
      have c5b0 : (((rd_T56 l0 x5_1).f0) == 4) = true := beq_iff_eq.mpr c5
      have c5b1 : (((rd_T56 l0 x5_1).f0) != 4) = false := bne_eq_false_iff_eq.mpr c5
      clear c5
      obtain rfl := Option.some.inj H
      have p230 : 0 ≤ (x5_1 : Int) := of_decide_eq_true (by (with_reducible assumption))
      have q230 : x5_1 < (l0.length : Int) := of_decide_eq_true (by (with_reducible assumption))
      obtain ⟨ad230, e230, hx230_0, hx230_1, hx230_2⟩ := at_T56 HR0.out x5_1 p230 q230
      cases e230
      replace p230 := eq_true p230
      replace q230 := eq_true q230
      go_wp2
      go_ret
      exact ⟨by rfl, by repeat (first | exact Drawn0.refl _ | apply Drawn0.step)⟩
     ·rw [if_neg c5] at H
      have c5b0 : (((rd_T56 l0 x5_1).f0) == 4) = false := beq_eq_false_iff_ne.mpr c5
      have c5b1 : (((rd_T56 l0 x5_1).f0) != 4) = true := bne_iff_ne.mpr c5
      by_cases c6 : ((rd_T56 l0 x5_1).f0) = 5
      ·rw [if_pos c6] at H
       have c6b0 : (((rd_T56 l0 x5_1).f0) == 5) = true := beq_iff_eq.mpr c6
       have c6b1 : (((rd_T56 l0 x5_1).f0) != 5) = false := bne_eq_false_iff_eq.mpr c6
       clear c6
       obtain rfl := Option.some.inj H
       have p230 : 0 ≤ (x5_1 : Int) := of_decide_eq_true (by (with_reducible assumption))
       have q230 : x5_1 < (l0.length : Int) := of_decide_eq_true (by (with_reducible assumption))
       obtain ⟨ad230, e230, hx230_0, hx230_1, hx230_2⟩ := at_T56 HR0.out x5_1 p230 q230
       cases e230
       replace p230 := eq_true p230
       replace q230 := eq_true q230
       have p231 : 0 ≤ (x5_1 : Int) := of_decide_eq_true (by (with_reducible assumption))
       have q231 : x5_1 < (l0.length : Int) := of_decide_eq_true (by (with_reducible assumption))
       obtain ⟨ad231, e231, hx231_0, hx231_1, hx231_2⟩ := at_T56 HR0.out x5_1 p231 q231
       obtain rfl : ad230 = ad231 := (by injection e231)
       replace p231 := eq_true p231
       replace q231 := eq_true q231
       go_wp2
       go_ret
       exact ⟨by rfl, by repeat (first | exact Drawn0.refl _ | apply Drawn0.step)⟩
      ·rw [if_neg c6] at H
       have c6b0 : (((rd_T56 l0 x5_1).f0) == 5) = false := beq_eq_false_iff_ne.mpr c6
       have c6b1 : (((rd_T56 l0 x5_1).f0) != 5) = true := bne_iff_ne.mpr c6
       have H' := Aside0.mk H
       clear H
       have p230 : 0 ≤ (x5_1 : Int) := of_decide_eq_true (by (with_reducible assumption))
       have q230 : x5_1 < (l0.length : Int) := of_decide_eq_true (by (with_reducible assumption))
       obtain ⟨ad230, e230, hx230_0, hx230_1, hx230_2⟩ := at_T56 HR0.out x5_1 p230 q230
       cases e230
       replace p230 := eq_true p230
       replace q230 := eq_true q230
       have p231 : 0 ≤ (x5_1 : Int) := of_decide_eq_true (by (with_reducible assumption))
       have q231 : x5_1 < (l0.length : Int) := of_decide_eq_true (by (with_reducible assumption))
       obtain ⟨ad231, e231, hx231_0, hx231_1, hx231_2⟩ := at_T56 HR0.out x5_1 p231 q231
       obtain rfl : ad230 = ad231 := (by injection e231)
       replace p231 := eq_true p231
       replace q231 := eq_true q231
       go_wp2
       go_roundg k1
       case measure => have := HK1.out; omega
       case rel => exact ⟨(wrap64 (x5_1 + 1)), (by rfl), H', ⟨by have := HK1.out; omega⟩, by repeat (first | exact Drawn0.refl _ | apply Drawn0.step)⟩
    ·rw [if_neg c4] at H
     exact absurd H (by simp)
   ·rw [if_neg c3] at H
    have c3b0 : decide (x5_1 < (l0.length : Int)) = false := decide_eq_false c3
    clear c3
    obtain rfl := Option.some.inj H
    go_wp2
    go_ret
    exact ⟨by rfl, by repeat (first | exact Drawn0.refl _ | apply Drawn0.step)⟩
def spec_AlpineKnown.f (k : Nat) (a0_0 : ByteArray) (a0_1 : ByteArray) (a0_2 : ByteArray) (a0_3 : ByteArray) (a0_4 : Bool) (l0_5 : List (S52)) (l0_6 : List (S56)) (a0_7 : Bool) (a0_8 : Bool) (a0_9 : ByteArray) (a1_0 : ByteArray) (a1_1 : ByteArray) (a1_2 : ByteArray) (a1_3 : ByteArray) (a1_4 : Bool) (l1_5 : List (S52)) (l1_6 : List (S56)) (a1_7 : Bool) (a1_8 : Bool) (a1_9 : ByteArray) : Option (Bool) := if (a0_4 == a1_4) = true then ((spec_alpTexts.f k l0_5).bind fun t234 => (if t234 = true then ((spec_alpTexts.f k l1_5).bind fun t235 => (if t235 = true then ((spec_alpBeyond.f k l0_6 (l1_6.length : Int)).bind fun t236 => (if t236 = true then ((spec_alpBeyond.f k l1_6 (l0_6.length : Int)).bind fun t237 => (some t237)) else (some false))) else (some false))) else (some false))) else (some false)
set_option maxHeartbeats 8000000 in
set_option maxRecDepth 100000 in
theorem spec_AlpineKnown.calls (k : Nat) (a0_0 : ByteArray) (a0_1 : ByteArray) (a0_2 : ByteArray) (a0_3 : ByteArray) (a0_4 : Bool) (A0_5 : Option Addr) (c0_5 : Nat) (l0_5 : List (S52)) (A0_6 : Option Addr) (c0_6 : Nat) (l0_6 : List (S56)) (a0_7 : Bool) (a0_8 : Bool) (a0_9 : ByteArray) (a1_0 : ByteArray) (a1_1 : ByteArray) (a1_2 : ByteArray) (a1_3 : ByteArray) (a1_4 : Bool) (A1_5 : Option Addr) (c1_5 : Nat) (l1_5 : List (S52)) (A1_6 : Option Addr) (c1_6 : Nat) (l1_6 : List (S56)) (a1_7 : Bool) (a1_8 : Bool) (a1_9 : ByteArray) (r : Bool) (w : World) (hr0_5 : Kd.C k52 w A0_5 l0_5.length l0_5) (hc0_5 : l0_5.length ≤ c0_5) (hr0_6 : Kd.C k56 w A0_6 l0_6.length l0_6) (hc0_6 : l0_6.length ≤ c0_6) (hr1_5 : Kd.C k52 w A1_5 l1_5.length l1_5) (hc1_5 : l1_5.length ≤ c1_5) (hr1_6 : Kd.C k56 w A1_6 l1_6.length l1_6) (hc1_6 : l1_6.length ≤ c1_6) (h : spec_AlpineKnown.f k a0_0 a0_1 a0_2 a0_3 a0_4 l0_5 l0_6 a0_7 a0_8 a0_9 a1_0 a1_1 a1_2 a1_3 a1_4 l1_5 l1_6 a1_7 a1_8 a1_9 = some r) :
  Calls Tryz.prog 9 #[.agg #[.string a0_0, .string a0_1, .string a0_2, .string a0_3, .bool a0_4, .slice A0_5 l0_5.length c0_5, .slice A0_6 l0_6.length c0_6, .bool a0_7, .bool a0_8, .string a0_9], .agg #[.string a1_0, .string a1_1, .string a1_2, .string a1_3, .bool a1_4, .slice A1_5 l1_5.length c1_5, .slice A1_6 l1_6.length c1_6, .bool a1_7, .bool a1_8, .string a1_9]] w fun e w' => e = .returned (.bool r) ∧ Below w.heap.size w w' := by
 have hu33 := Tryz.underlying33
 have HR0_5 := Aside0.mk hr0_5
 have HC0_5 := Aside0.mk hc0_5
 clear hr0_5 hc0_5
 have HR0_6 := Aside0.mk hr0_6
 have HC0_6 := Aside0.mk hc0_6
 clear hr0_6 hc0_6
 have HR1_5 := Aside0.mk hr1_5
 have HC1_5 := Aside0.mk hc1_5
 clear hr1_5 hc1_5
 have HR1_6 := Aside0.mk hr1_6
 have HC1_6 := Aside0.mk hc1_6
 clear hr1_6 hc1_6
 have HB := Aside0.mk (Below.refl w.heap.size w)
 have H : (if (a0_4 == a1_4) = true then ((spec_alpTexts.f k l0_5).bind fun t234 => (if t234 = true then ((spec_alpTexts.f k l1_5).bind fun t235 => (if t235 = true then ((spec_alpBeyond.f k l0_6 (l1_6.length : Int)).bind fun t236 => (if t236 = true then ((spec_alpBeyond.f k l1_6 (l0_6.length : Int)).bind fun t237 => (some t237)) else (some false))) else (some false))) else (some false))) else (some false)) = some r := h
 clear h
 by_cases c3 : (a0_4 == a1_4) = true
 ·rw [if_pos c3] at H
  have c3b0 : (a0_4 == a1_4) = true := c3
  (try (have c3b1 : decide (a0_4 = a1_4) = true := by simpa using c3))
  (try (have c3b2 : (a0_4 == a1_4) = true := by simpa using c3))
  clear c3
  replace H := Option.bind_eq_some_iff.mp H
  obtain ⟨t234, A40, H⟩ := H
  replace H : (if t234 = true then ((spec_alpTexts.f k l1_5).bind fun t235 => (if t235 = true then ((spec_alpBeyond.f k l0_6 (l1_6.length : Int)).bind fun t236 => (if t236 = true then ((spec_alpBeyond.f k l1_6 (l0_6.length : Int)).bind fun t237 => (some t237)) else (some false))) else (some false))) else (some false)) = some r := H
  have A4 := Aside0.mk A40
  clear A40
  by_cases c5 : t234 = true
  ·subst c5
   have H1 : ((spec_alpTexts.f k l1_5).bind fun t235 => (if t235 = true then ((spec_alpBeyond.f k l0_6 (l1_6.length : Int)).bind fun t236 => (if t236 = true then ((spec_alpBeyond.f k l1_6 (l0_6.length : Int)).bind fun t237 => (some t237)) else (some false))) else (some false))) = some r := by rw [if_pos rfl] at H; exact H
   clear H
   have H := H1
   clear H1
   replace H := Option.bind_eq_some_iff.mp H
   obtain ⟨t235, A60, H⟩ := H
   replace H : (if t235 = true then ((spec_alpBeyond.f k l0_6 (l1_6.length : Int)).bind fun t236 => (if t236 = true then ((spec_alpBeyond.f k l1_6 (l0_6.length : Int)).bind fun t237 => (some t237)) else (some false))) else (some false)) = some r := H
   have A6 := Aside0.mk A60
   clear A60
   by_cases c7 : t235 = true
   ·subst c7
    have H1 : ((spec_alpBeyond.f k l0_6 (l1_6.length : Int)).bind fun t236 => (if t236 = true then ((spec_alpBeyond.f k l1_6 (l0_6.length : Int)).bind fun t237 => (some t237)) else (some false))) = some r := by rw [if_pos rfl] at H; exact H
    clear H
    have H := H1
    clear H1
    replace H := Option.bind_eq_some_iff.mp H
    obtain ⟨t236, A80, H⟩ := H
    replace H : (if t236 = true then ((spec_alpBeyond.f k l1_6 (l0_6.length : Int)).bind fun t237 => (some t237)) else (some false)) = some r := H
    have A8 := Aside0.mk A80
    clear A80
    by_cases c9 : t236 = true
    ·subst c9
     have H1 : ((spec_alpBeyond.f k l1_6 (l0_6.length : Int)).bind fun t237 => (some t237)) = some r := by rw [if_pos rfl] at H; exact H
     clear H
     have H := H1
     clear H1
     replace H := Option.bind_eq_some_iff.mp H
     obtain ⟨t237, A100, H⟩ := H
     replace H : (some t237) = some r := H
     have A10 := Aside0.mk A100
     clear A100
     obtain rfl := Option.some.inj H
     go_enter Tryz.func9, Tryz.ntmps9
     go_wp2_with (first | ((with_reducible refine gate_dst (N := 2) rfl ?_); (try (refine gate_guard (by rfl) ?_; dsimp only)); refine box_event ?hg (N := 2) ?hd (cs := #[.string a0_0, .string a0_1, .string a0_2, .string a0_3, .bool a0_4, .slice A0_5 l0_5.length c0_5, .slice A0_6 l0_6.length c0_6, .bool a0_7, .bool a0_8, .string a0_9]) (t := 33) ?hr ?_; (case hd => rfl); (case hg => rfl); (case hr => first | (go_simp; done) | (go_simp; rfl)); intro gb232 hg w11 hbox hb; have BK232 := Aside0.mk hbox; have GW232 := Aside0.mk ((by rw [hg]; exact (below_size (by (with_reducible exact HB.out))) : w.heap.size ≤ gb232)); have GE232 := Aside0.mk ((by rw [hg]; exact (below_size (by (with_reducible exact HB.out))) : w.heap.size ≤ gb232)); replace HB := Aside0.mk (below_step (by (with_reducible exact HB.out)) hb); clear hb hbox hg) | ((with_reducible refine gate_dst (N := 3) rfl ?_); (try (refine gate_guard (by rfl) ?_; dsimp only)); refine box_event ?hg (N := 3) ?hd (cs := #[.string a1_0, .string a1_1, .string a1_2, .string a1_3, .bool a1_4, .slice A1_5 l1_5.length c1_5, .slice A1_6 l1_6.length c1_6, .bool a1_7, .bool a1_8, .string a1_9]) (t := 33) ?hr ?_; (case hd => rfl); (case hg => rfl); (case hr => first | (go_simp; done) | (go_simp; rfl)); intro gb233 hg w12 hbox hb; have n0_ := Aside0.mk (blk_below (g := gb232) (o := .cells #[.string a0_0, .string a0_1, .string a0_2, .string a0_3, .bool a0_4, .slice A0_5 l0_5.length c0_5, .slice A0_6 l0_6.length c0_6, .bool a0_7, .bool a0_8, .string a0_9] 33 (0, 0)) (by exact BK232.out) hb); have n1_ := Aside0.mk (below_step (by (with_reducible exact HB.out)) hb); have n2_ := Aside0.mk hbox; have n3_ := Aside0.mk ((by rw [hg]; exact (below_size (by (with_reducible exact HB.out))) : w.heap.size ≤ gb233)); have n4_ := Aside0.mk ((by rw [hg]; exact (below_size (by (with_reducible exact HB.out))) : w.heap.size ≤ gb233)); have n5_ := Aside0.mk ((by rw [hg]; exact Nat.ne_of_lt (blk_lt (g := gb232) (o := .cells #[.string a0_0, .string a0_1, .string a0_2, .string a0_3, .bool a0_4, .slice A0_5 l0_5.length c0_5, .slice A0_6 l0_6.length c0_6, .bool a0_7, .bool a0_8, .string a0_9] 33 (0, 0)) (by exact BK232.out)) : gb232 ≠ gb233)); have n6_ := Aside0.mk ((by rw [hg]; exact Nat.ne_of_gt (blk_lt (g := gb232) (o := .cells #[.string a0_0, .string a0_1, .string a0_2, .string a0_3, .bool a0_4, .slice A0_5 l0_5.length c0_5, .slice A0_6 l0_6.length c0_6, .bool a0_7, .bool a0_8, .string a0_9] 33 (0, 0)) (by exact BK232.out)) : gb233 ≠ gb232)); clear BK232; clear HB; have BK232 := n0_; have HB := n1_; have BK233 := n2_; have GW233 := n3_; have GE233 := n4_; have NB232_233 := n5_; have NB233_232 := n6_; clear n0_ n1_ n2_ n3_ n4_ n5_ n6_; clear hb hbox hg; have hnb13 := NB232_233.out; have hnc13 := NB233_232.out; obtain ⟨hcz14_0, hcz14_1, hcz14_2, hcz14_3, hcz14_4, hcz14_5, hcz14_6, hcz14_7, hcz14_8, hcz14_9, _⟩ := cl10 BK232.out; obtain ⟨hcz15_0, hcz15_1, hcz15_2, hcz15_3, hcz15_4, hcz15_5, hcz15_6, hcz15_7, hcz15_8, hcz15_9, _⟩ := cl10 BK233.out) | (go_at_call 28; (with_reducible refine (spec_alpTexts.calls k _ _ l0_5 true _ ?side1 ?side2 A4.out).mono ?_); (case side1 => repeat (first | exact (Kd.C_below HR0_5.out HB.out) | (with_reducible refine Kd.C_alloc ?_ _) | (with_reducible refine Kd.C_drewN ?_ _) | (with_reducible refine Kd.C_drew ?_))); (case side2 => exact HC0_5.out); rintro e w' ⟨rfl, ⟨nd, rfl⟩⟩) | (go_at_call 28; (with_reducible refine (spec_alpTexts.calls k _ _ l1_5 true _ ?side1 ?side2 A6.out).mono ?_); (case side1 => repeat (first | exact (Kd.C_below HR1_5.out (by (with_reducible apply pw_below_drewN; with_reducible exact HB.out))) | (with_reducible refine Kd.C_alloc ?_ _) | (with_reducible refine Kd.C_drewN ?_ _) | (with_reducible refine Kd.C_drew ?_))); (case side2 => exact HC1_5.out); rintro e w' ⟨rfl, ⟨nd, rfl⟩⟩) | (go_at_call 29; (with_reducible refine (spec_alpBeyond.calls k _ _ l0_6 (l1_6.length : Int) true _ ?side1 ?side2 A8.out).mono ?_); (case side1 => repeat (first | exact (Kd.C_below HR0_6.out (by (with_reducible apply pw_below_drewN; with_reducible exact HB.out))) | (with_reducible refine Kd.C_alloc ?_ _) | (with_reducible refine Kd.C_drewN ?_ _) | (with_reducible refine Kd.C_drew ?_))); (case side2 => exact HC0_6.out); rintro e w' ⟨rfl, ⟨nd, rfl⟩⟩) | (go_at_call 29; (with_reducible refine (spec_alpBeyond.calls k _ _ l1_6 (l0_6.length : Int) t237 _ ?side1 ?side2 A10.out).mono ?_); (case side1 => repeat (first | exact (Kd.C_below HR1_6.out (by (with_reducible apply pw_below_drewN; with_reducible exact HB.out))) | (with_reducible refine Kd.C_alloc ?_ _) | (with_reducible refine Kd.C_drewN ?_ _) | (with_reducible refine Kd.C_drew ?_))); (case side2 => exact HC1_6.out); rintro e w' ⟨rfl, ⟨nd, rfl⟩⟩))
     go_ret
     exact ⟨by rfl, by (with_reducible apply pw_below_drewN; with_reducible exact HB.out)⟩
    ·replace c9 := Bool.eq_false_iff.mpr c9
     subst c9
     have H1 : (some false) = some r := by rw [if_neg (show ¬ (false = true) by decide)] at H; exact H
     clear H
     have H := H1
     clear H1
     obtain rfl := Option.some.inj H
     go_enter Tryz.func9, Tryz.ntmps9
     go_wp2_with (first | ((with_reducible refine gate_dst (N := 2) rfl ?_); (try (refine gate_guard (by rfl) ?_; dsimp only)); refine box_event ?hg (N := 2) ?hd (cs := #[.string a0_0, .string a0_1, .string a0_2, .string a0_3, .bool a0_4, .slice A0_5 l0_5.length c0_5, .slice A0_6 l0_6.length c0_6, .bool a0_7, .bool a0_8, .string a0_9]) (t := 33) ?hr ?_; (case hd => rfl); (case hg => rfl); (case hr => first | (go_simp; done) | (go_simp; rfl)); intro gb232 hg w16 hbox hb; have BK232 := Aside0.mk hbox; have GW232 := Aside0.mk ((by rw [hg]; exact (below_size (by (with_reducible exact HB.out))) : w.heap.size ≤ gb232)); have GE232 := Aside0.mk ((by rw [hg]; exact (below_size (by (with_reducible exact HB.out))) : w.heap.size ≤ gb232)); replace HB := Aside0.mk (below_step (by (with_reducible exact HB.out)) hb); clear hb hbox hg) | ((with_reducible refine gate_dst (N := 3) rfl ?_); (try (refine gate_guard (by rfl) ?_; dsimp only)); refine box_event ?hg (N := 3) ?hd (cs := #[.string a1_0, .string a1_1, .string a1_2, .string a1_3, .bool a1_4, .slice A1_5 l1_5.length c1_5, .slice A1_6 l1_6.length c1_6, .bool a1_7, .bool a1_8, .string a1_9]) (t := 33) ?hr ?_; (case hd => rfl); (case hg => rfl); (case hr => first | (go_simp; done) | (go_simp; rfl)); intro gb233 hg w17 hbox hb; have n0_ := Aside0.mk (blk_below (g := gb232) (o := .cells #[.string a0_0, .string a0_1, .string a0_2, .string a0_3, .bool a0_4, .slice A0_5 l0_5.length c0_5, .slice A0_6 l0_6.length c0_6, .bool a0_7, .bool a0_8, .string a0_9] 33 (0, 0)) (by exact BK232.out) hb); have n1_ := Aside0.mk (below_step (by (with_reducible exact HB.out)) hb); have n2_ := Aside0.mk hbox; have n3_ := Aside0.mk ((by rw [hg]; exact (below_size (by (with_reducible exact HB.out))) : w.heap.size ≤ gb233)); have n4_ := Aside0.mk ((by rw [hg]; exact (below_size (by (with_reducible exact HB.out))) : w.heap.size ≤ gb233)); have n5_ := Aside0.mk ((by rw [hg]; exact Nat.ne_of_lt (blk_lt (g := gb232) (o := .cells #[.string a0_0, .string a0_1, .string a0_2, .string a0_3, .bool a0_4, .slice A0_5 l0_5.length c0_5, .slice A0_6 l0_6.length c0_6, .bool a0_7, .bool a0_8, .string a0_9] 33 (0, 0)) (by exact BK232.out)) : gb232 ≠ gb233)); have n6_ := Aside0.mk ((by rw [hg]; exact Nat.ne_of_gt (blk_lt (g := gb232) (o := .cells #[.string a0_0, .string a0_1, .string a0_2, .string a0_3, .bool a0_4, .slice A0_5 l0_5.length c0_5, .slice A0_6 l0_6.length c0_6, .bool a0_7, .bool a0_8, .string a0_9] 33 (0, 0)) (by exact BK232.out)) : gb233 ≠ gb232)); clear BK232; clear HB; have BK232 := n0_; have HB := n1_; have BK233 := n2_; have GW233 := n3_; have GE233 := n4_; have NB232_233 := n5_; have NB233_232 := n6_; clear n0_ n1_ n2_ n3_ n4_ n5_ n6_; clear hb hbox hg; have hnb18 := NB232_233.out; have hnc18 := NB233_232.out; obtain ⟨hcz19_0, hcz19_1, hcz19_2, hcz19_3, hcz19_4, hcz19_5, hcz19_6, hcz19_7, hcz19_8, hcz19_9, _⟩ := cl10 BK232.out; obtain ⟨hcz20_0, hcz20_1, hcz20_2, hcz20_3, hcz20_4, hcz20_5, hcz20_6, hcz20_7, hcz20_8, hcz20_9, _⟩ := cl10 BK233.out) | (go_at_call 28; (with_reducible refine (spec_alpTexts.calls k _ _ l0_5 true _ ?side1 ?side2 A4.out).mono ?_); (case side1 => repeat (first | exact (Kd.C_below HR0_5.out HB.out) | (with_reducible refine Kd.C_alloc ?_ _) | (with_reducible refine Kd.C_drewN ?_ _) | (with_reducible refine Kd.C_drew ?_))); (case side2 => exact HC0_5.out); rintro e w' ⟨rfl, ⟨nd, rfl⟩⟩) | (go_at_call 28; (with_reducible refine (spec_alpTexts.calls k _ _ l1_5 true _ ?side1 ?side2 A6.out).mono ?_); (case side1 => repeat (first | exact (Kd.C_below HR1_5.out (by (with_reducible apply pw_below_drewN; with_reducible exact HB.out))) | (with_reducible refine Kd.C_alloc ?_ _) | (with_reducible refine Kd.C_drewN ?_ _) | (with_reducible refine Kd.C_drew ?_))); (case side2 => exact HC1_5.out); rintro e w' ⟨rfl, ⟨nd, rfl⟩⟩) | (go_at_call 29; (with_reducible refine (spec_alpBeyond.calls k _ _ l0_6 (l1_6.length : Int) false _ ?side1 ?side2 A8.out).mono ?_); (case side1 => repeat (first | exact (Kd.C_below HR0_6.out (by (with_reducible apply pw_below_drewN; with_reducible exact HB.out))) | (with_reducible refine Kd.C_alloc ?_ _) | (with_reducible refine Kd.C_drewN ?_ _) | (with_reducible refine Kd.C_drew ?_))); (case side2 => exact HC0_6.out); rintro e w' ⟨rfl, ⟨nd, rfl⟩⟩))
     go_ret
     exact ⟨by rfl, by (with_reducible apply pw_below_drewN; with_reducible exact HB.out)⟩
   ·replace c7 := Bool.eq_false_iff.mpr c7
    subst c7
    have H1 : (some false) = some r := by rw [if_neg (show ¬ (false = true) by decide)] at H; exact H
    clear H
    have H := H1
    clear H1
    obtain rfl := Option.some.inj H
    go_enter Tryz.func9, Tryz.ntmps9
    go_wp2_with (first | ((with_reducible refine gate_dst (N := 2) rfl ?_); (try (refine gate_guard (by rfl) ?_; dsimp only)); refine box_event ?hg (N := 2) ?hd (cs := #[.string a0_0, .string a0_1, .string a0_2, .string a0_3, .bool a0_4, .slice A0_5 l0_5.length c0_5, .slice A0_6 l0_6.length c0_6, .bool a0_7, .bool a0_8, .string a0_9]) (t := 33) ?hr ?_; (case hd => rfl); (case hg => rfl); (case hr => first | (go_simp; done) | (go_simp; rfl)); intro gb232 hg w21 hbox hb; have BK232 := Aside0.mk hbox; have GW232 := Aside0.mk ((by rw [hg]; exact (below_size (by (with_reducible exact HB.out))) : w.heap.size ≤ gb232)); have GE232 := Aside0.mk ((by rw [hg]; exact (below_size (by (with_reducible exact HB.out))) : w.heap.size ≤ gb232)); replace HB := Aside0.mk (below_step (by (with_reducible exact HB.out)) hb); clear hb hbox hg) | ((with_reducible refine gate_dst (N := 3) rfl ?_); (try (refine gate_guard (by rfl) ?_; dsimp only)); refine box_event ?hg (N := 3) ?hd (cs := #[.string a1_0, .string a1_1, .string a1_2, .string a1_3, .bool a1_4, .slice A1_5 l1_5.length c1_5, .slice A1_6 l1_6.length c1_6, .bool a1_7, .bool a1_8, .string a1_9]) (t := 33) ?hr ?_; (case hd => rfl); (case hg => rfl); (case hr => first | (go_simp; done) | (go_simp; rfl)); intro gb233 hg w22 hbox hb; have n0_ := Aside0.mk (blk_below (g := gb232) (o := .cells #[.string a0_0, .string a0_1, .string a0_2, .string a0_3, .bool a0_4, .slice A0_5 l0_5.length c0_5, .slice A0_6 l0_6.length c0_6, .bool a0_7, .bool a0_8, .string a0_9] 33 (0, 0)) (by exact BK232.out) hb); have n1_ := Aside0.mk (below_step (by (with_reducible exact HB.out)) hb); have n2_ := Aside0.mk hbox; have n3_ := Aside0.mk ((by rw [hg]; exact (below_size (by (with_reducible exact HB.out))) : w.heap.size ≤ gb233)); have n4_ := Aside0.mk ((by rw [hg]; exact (below_size (by (with_reducible exact HB.out))) : w.heap.size ≤ gb233)); have n5_ := Aside0.mk ((by rw [hg]; exact Nat.ne_of_lt (blk_lt (g := gb232) (o := .cells #[.string a0_0, .string a0_1, .string a0_2, .string a0_3, .bool a0_4, .slice A0_5 l0_5.length c0_5, .slice A0_6 l0_6.length c0_6, .bool a0_7, .bool a0_8, .string a0_9] 33 (0, 0)) (by exact BK232.out)) : gb232 ≠ gb233)); have n6_ := Aside0.mk ((by rw [hg]; exact Nat.ne_of_gt (blk_lt (g := gb232) (o := .cells #[.string a0_0, .string a0_1, .string a0_2, .string a0_3, .bool a0_4, .slice A0_5 l0_5.length c0_5, .slice A0_6 l0_6.length c0_6, .bool a0_7, .bool a0_8, .string a0_9] 33 (0, 0)) (by exact BK232.out)) : gb233 ≠ gb232)); clear BK232; clear HB; have BK232 := n0_; have HB := n1_; have BK233 := n2_; have GW233 := n3_; have GE233 := n4_; have NB232_233 := n5_; have NB233_232 := n6_; clear n0_ n1_ n2_ n3_ n4_ n5_ n6_; clear hb hbox hg; have hnb23 := NB232_233.out; have hnc23 := NB233_232.out; obtain ⟨hcz24_0, hcz24_1, hcz24_2, hcz24_3, hcz24_4, hcz24_5, hcz24_6, hcz24_7, hcz24_8, hcz24_9, _⟩ := cl10 BK232.out; obtain ⟨hcz25_0, hcz25_1, hcz25_2, hcz25_3, hcz25_4, hcz25_5, hcz25_6, hcz25_7, hcz25_8, hcz25_9, _⟩ := cl10 BK233.out) | (go_at_call 28; (with_reducible refine (spec_alpTexts.calls k _ _ l0_5 true _ ?side1 ?side2 A4.out).mono ?_); (case side1 => repeat (first | exact (Kd.C_below HR0_5.out HB.out) | (with_reducible refine Kd.C_alloc ?_ _) | (with_reducible refine Kd.C_drewN ?_ _) | (with_reducible refine Kd.C_drew ?_))); (case side2 => exact HC0_5.out); rintro e w' ⟨rfl, ⟨nd, rfl⟩⟩) | (go_at_call 28; (with_reducible refine (spec_alpTexts.calls k _ _ l1_5 false _ ?side1 ?side2 A6.out).mono ?_); (case side1 => repeat (first | exact (Kd.C_below HR1_5.out (by (with_reducible apply pw_below_drewN; with_reducible exact HB.out))) | (with_reducible refine Kd.C_alloc ?_ _) | (with_reducible refine Kd.C_drewN ?_ _) | (with_reducible refine Kd.C_drew ?_))); (case side2 => exact HC1_5.out); rintro e w' ⟨rfl, ⟨nd, rfl⟩⟩))
    go_ret
    exact ⟨by rfl, by (with_reducible apply pw_below_drewN; with_reducible exact HB.out)⟩
  ·replace c5 := Bool.eq_false_iff.mpr c5
   subst c5
   have H1 : (some false) = some r := by rw [if_neg (show ¬ (false = true) by decide)] at H; exact H
   clear H
   have H := H1
   clear H1
   obtain rfl := Option.some.inj H
   go_enter Tryz.func9, Tryz.ntmps9
   go_wp2_with (first | ((with_reducible refine gate_dst (N := 2) rfl ?_); (try (refine gate_guard (by rfl) ?_; dsimp only)); refine box_event ?hg (N := 2) ?hd (cs := #[.string a0_0, .string a0_1, .string a0_2, .string a0_3, .bool a0_4, .slice A0_5 l0_5.length c0_5, .slice A0_6 l0_6.length c0_6, .bool a0_7, .bool a0_8, .string a0_9]) (t := 33) ?hr ?_; (case hd => rfl); (case hg => rfl); (case hr => first | (go_simp; done) | (go_simp; rfl)); intro gb232 hg w26 hbox hb; have BK232 := Aside0.mk hbox; have GW232 := Aside0.mk ((by rw [hg]; exact (below_size (by (with_reducible exact HB.out))) : w.heap.size ≤ gb232)); have GE232 := Aside0.mk ((by rw [hg]; exact (below_size (by (with_reducible exact HB.out))) : w.heap.size ≤ gb232)); replace HB := Aside0.mk (below_step (by (with_reducible exact HB.out)) hb); clear hb hbox hg) | ((with_reducible refine gate_dst (N := 3) rfl ?_); (try (refine gate_guard (by rfl) ?_; dsimp only)); refine box_event ?hg (N := 3) ?hd (cs := #[.string a1_0, .string a1_1, .string a1_2, .string a1_3, .bool a1_4, .slice A1_5 l1_5.length c1_5, .slice A1_6 l1_6.length c1_6, .bool a1_7, .bool a1_8, .string a1_9]) (t := 33) ?hr ?_; (case hd => rfl); (case hg => rfl); (case hr => first | (go_simp; done) | (go_simp; rfl)); intro gb233 hg w27 hbox hb; have n0_ := Aside0.mk (blk_below (g := gb232) (o := .cells #[.string a0_0, .string a0_1, .string a0_2, .string a0_3, .bool a0_4, .slice A0_5 l0_5.length c0_5, .slice A0_6 l0_6.length c0_6, .bool a0_7, .bool a0_8, .string a0_9] 33 (0, 0)) (by exact BK232.out) hb); have n1_ := Aside0.mk (below_step (by (with_reducible exact HB.out)) hb); have n2_ := Aside0.mk hbox; have n3_ := Aside0.mk ((by rw [hg]; exact (below_size (by (with_reducible exact HB.out))) : w.heap.size ≤ gb233)); have n4_ := Aside0.mk ((by rw [hg]; exact (below_size (by (with_reducible exact HB.out))) : w.heap.size ≤ gb233)); have n5_ := Aside0.mk ((by rw [hg]; exact Nat.ne_of_lt (blk_lt (g := gb232) (o := .cells #[.string a0_0, .string a0_1, .string a0_2, .string a0_3, .bool a0_4, .slice A0_5 l0_5.length c0_5, .slice A0_6 l0_6.length c0_6, .bool a0_7, .bool a0_8, .string a0_9] 33 (0, 0)) (by exact BK232.out)) : gb232 ≠ gb233)); have n6_ := Aside0.mk ((by rw [hg]; exact Nat.ne_of_gt (blk_lt (g := gb232) (o := .cells #[.string a0_0, .string a0_1, .string a0_2, .string a0_3, .bool a0_4, .slice A0_5 l0_5.length c0_5, .slice A0_6 l0_6.length c0_6, .bool a0_7, .bool a0_8, .string a0_9] 33 (0, 0)) (by exact BK232.out)) : gb233 ≠ gb232)); clear BK232; clear HB; have BK232 := n0_; have HB := n1_; have BK233 := n2_; have GW233 := n3_; have GE233 := n4_; have NB232_233 := n5_; have NB233_232 := n6_; clear n0_ n1_ n2_ n3_ n4_ n5_ n6_; clear hb hbox hg; have hnb28 := NB232_233.out; have hnc28 := NB233_232.out; obtain ⟨hcz29_0, hcz29_1, hcz29_2, hcz29_3, hcz29_4, hcz29_5, hcz29_6, hcz29_7, hcz29_8, hcz29_9, _⟩ := cl10 BK232.out; obtain ⟨hcz30_0, hcz30_1, hcz30_2, hcz30_3, hcz30_4, hcz30_5, hcz30_6, hcz30_7, hcz30_8, hcz30_9, _⟩ := cl10 BK233.out) | (go_at_call 28; (with_reducible refine (spec_alpTexts.calls k _ _ l0_5 false _ ?side1 ?side2 A4.out).mono ?_); (case side1 => repeat (first | exact (Kd.C_below HR0_5.out HB.out) | (with_reducible refine Kd.C_alloc ?_ _) | (with_reducible refine Kd.C_drewN ?_ _) | (with_reducible refine Kd.C_drew ?_))); (case side2 => exact HC0_5.out); rintro e w' ⟨rfl, ⟨nd, rfl⟩⟩))
   go_ret
   exact ⟨by rfl, by (with_reducible apply pw_below_drewN; with_reducible exact HB.out)⟩
 ·rw [if_neg c3] at H
  have c3b0 : (a0_4 == a1_4) = false := by simpa using c3
  (try (have c3b1 : decide (a0_4 = a1_4) = false := by simpa using c3))
  (try (have c3b2 : (a0_4 == a1_4) = false := by simpa using c3))
  (try (have c3b3 : ¬ (a0_4 = a1_4) := by simpa using c3))
  clear c3
  obtain rfl := Option.some.inj H
  go_enter Tryz.func9, Tryz.ntmps9
  go_wp2_with (first | ((with_reducible refine gate_dst (N := 2) rfl ?_); (try (refine gate_guard (by rfl) ?_; dsimp only)); refine box_event ?hg (N := 2) ?hd (cs := #[.string a0_0, .string a0_1, .string a0_2, .string a0_3, .bool a0_4, .slice A0_5 l0_5.length c0_5, .slice A0_6 l0_6.length c0_6, .bool a0_7, .bool a0_8, .string a0_9]) (t := 33) ?hr ?_; (case hd => rfl); (case hg => rfl); (case hr => first | (go_simp; done) | (go_simp; rfl)); intro gb232 hg w31 hbox hb; have BK232 := Aside0.mk hbox; have GW232 := Aside0.mk ((by rw [hg]; exact (below_size (by (with_reducible exact HB.out))) : w.heap.size ≤ gb232)); have GE232 := Aside0.mk ((by rw [hg]; exact (below_size (by (with_reducible exact HB.out))) : w.heap.size ≤ gb232)); replace HB := Aside0.mk (below_step (by (with_reducible exact HB.out)) hb); clear hb hbox hg) | ((with_reducible refine gate_dst (N := 3) rfl ?_); (try (refine gate_guard (by rfl) ?_; dsimp only)); refine box_event ?hg (N := 3) ?hd (cs := #[.string a1_0, .string a1_1, .string a1_2, .string a1_3, .bool a1_4, .slice A1_5 l1_5.length c1_5, .slice A1_6 l1_6.length c1_6, .bool a1_7, .bool a1_8, .string a1_9]) (t := 33) ?hr ?_; (case hd => rfl); (case hg => rfl); (case hr => first | (go_simp; done) | (go_simp; rfl)); intro gb233 hg w32 hbox hb; have n0_ := Aside0.mk (blk_below (g := gb232) (o := .cells #[.string a0_0, .string a0_1, .string a0_2, .string a0_3, .bool a0_4, .slice A0_5 l0_5.length c0_5, .slice A0_6 l0_6.length c0_6, .bool a0_7, .bool a0_8, .string a0_9] 33 (0, 0)) (by exact BK232.out) hb); have n1_ := Aside0.mk (below_step (by (with_reducible exact HB.out)) hb); have n2_ := Aside0.mk hbox; have n3_ := Aside0.mk ((by rw [hg]; exact (below_size (by (with_reducible exact HB.out))) : w.heap.size ≤ gb233)); have n4_ := Aside0.mk ((by rw [hg]; exact (below_size (by (with_reducible exact HB.out))) : w.heap.size ≤ gb233)); have n5_ := Aside0.mk ((by rw [hg]; exact Nat.ne_of_lt (blk_lt (g := gb232) (o := .cells #[.string a0_0, .string a0_1, .string a0_2, .string a0_3, .bool a0_4, .slice A0_5 l0_5.length c0_5, .slice A0_6 l0_6.length c0_6, .bool a0_7, .bool a0_8, .string a0_9] 33 (0, 0)) (by exact BK232.out)) : gb232 ≠ gb233)); have n6_ := Aside0.mk ((by rw [hg]; exact Nat.ne_of_gt (blk_lt (g := gb232) (o := .cells #[.string a0_0, .string a0_1, .string a0_2, .string a0_3, .bool a0_4, .slice A0_5 l0_5.length c0_5, .slice A0_6 l0_6.length c0_6, .bool a0_7, .bool a0_8, .string a0_9] 33 (0, 0)) (by exact BK232.out)) : gb233 ≠ gb232)); clear BK232; clear HB; have BK232 := n0_; have HB := n1_; have BK233 := n2_; have GW233 := n3_; have GE233 := n4_; have NB232_233 := n5_; have NB233_232 := n6_; clear n0_ n1_ n2_ n3_ n4_ n5_ n6_; clear hb hbox hg; have hnb33 := NB232_233.out; have hnc33 := NB233_232.out; obtain ⟨hcz34_0, hcz34_1, hcz34_2, hcz34_3, hcz34_4, hcz34_5, hcz34_6, hcz34_7, hcz34_8, hcz34_9, _⟩ := cl10 BK232.out; obtain ⟨hcz35_0, hcz35_1, hcz35_2, hcz35_3, hcz35_4, hcz35_5, hcz35_6, hcz35_7, hcz35_8, hcz35_9, _⟩ := cl10 BK233.out))
  go_ret
  exact ⟨by rfl, by (with_reducible exact HB.out)⟩
end Go.Proofs.YtapaijpglfmfgaaGreatDoor.Q
end
section -- Qx15
namespace Go.Proofs.YtapaijpglfmfgaaGreatDoor.Q
open Go.RowKit Go.Proofs.YtapaijpglfmfgaaGreatDoorH Go.Proofs.YtapaijpglfmfgaaGreatDoorG Go.Proofs.YtapaijpglfmfgaaGreatDoorW.PrintWords Go.Proofs.YtapaijpglfmfgaaGreatDoorW.PrintLast Go.Proofs.YtapaijpglfmfgaaGreatDoorW.PrintMore
attribute [local go_sem] max2_int min2_int max_two min_two max_three min_three max_four min_four
set_option linter.unusedVariables false
set_option linter.unusedSimpArgs false
def laws_short.l0 : Nat → List ByteArray → List ByteArray → Int → Int → Option (Bool)
 | 0, _, _, _, _ => none
 | k + 1, x0, x5, x6, x7 => if x7 < x6 then (if 0 ≤ x7 then (if x7 < (x5.length : Int) then (if ((rdOf ByteArray.empty x5 x7).size : Int) > 1200 then (some false) else (laws_short.l0 k x0 x5 x6 (wrap64 (x7 + 1)))) else (none)) else (none)) else (some (decide ((x0.length : Int) ≤ 60)))
def laws_short.f (k : Nat) (l0 : List ByteArray) : Option (Bool) := laws_short.l0 k l0 l0 (l0.length : Int) 0
set_option maxHeartbeats 8000000 in
set_option maxRecDepth 100000 in
theorem laws_short.calls (k : Nat) (A0 : Option Addr) (c0 : Nat) (l0 : List ByteArray) (r : Bool) (w : World) (hr0 : Kd.C Kd.string w A0 l0.length l0) (hc0 : l0.length ≤ c0) (h : laws_short.f k l0 = some r) :
  Calls Tryz.prog 13 #[.slice A0 l0.length c0] w fun e w' => e = .returned (.bool r) ∧ Drawn0 w w' := by
 have HR0 := Aside0.mk hr0
 have HC0 := Aside0.mk hc0
 clear hr0 hc0
 have H : (laws_short.l0 k l0 l0 (l0.length : Int) 0) = some r := h
 clear h
 have H' := Aside0.mk H
 clear H
 go_enter Tryz.func13, Tryz.ntmps13
 go_wp2
 (try simp only [Act.put, List.setIfInBounds_toArray, List.set_cons_zero, List.set_cons_succ])
 go_loopg [7] k (fun kq v7 w' => ∃ (x7_1 : Int), v7 = .int .i64 x7_1 ∧ Aside0 (laws_short.l0 kq l0 l0 (l0.length : Int) x7_1 = some r) ∧ Aside0 (kq ≤ k) ∧ Drawn0 w w')
 case atStart => exact ⟨(0), (by first | rfl | (simp; done) | (simp [*]; done) | (simp [bne_nil_hyb]; done) | (simp [bne_nil_hyb, *]; done)), H', ⟨Nat.le_refl _⟩, by repeat (first | exact Drawn0.refl _ | apply Drawn0.step)⟩
 case round =>
  clear H'
  try clear c1
  obtain ⟨x7_1, rfl, HA, HK1, ⟨m1, rfl⟩⟩ := hrel
  cases gk with
  | zero => exact absurd HA.out (by simp [laws_short.l0])
  | succ k1 =>
   have H := HA.out
   clear HA
   simp only [laws_short.l0] at H
   by_cases c2 : x7_1 < (l0.length : Int)
   ·rw [if_pos c2] at H
    have c2b0 : decide (x7_1 < (l0.length : Int)) = true := decide_eq_true c2
    clear c2
    by_cases c3 : 0 ≤ x7_1
    ·rw [if_pos c3] at H
     have c3b0 : decide (0 ≤ x7_1) = true := decide_eq_true c3
     clear c3
     by_cases c4 : x7_1 < (l0.length : Int)
     ·rw [if_pos c4] at H
      have c4b0 : decide (x7_1 < (l0.length : Int)) = true := decide_eq_true c4
      clear c4
      by_cases c5 : ((rdOf ByteArray.empty l0 x7_1).size : Int) > 1200
      ·rw [if_pos c5] at H
       have c5b0 : decide (1200 < ((rdOf ByteArray.empty l0 x7_1).size : Int)) = true := decide_eq_true c5
       have c5b1 : decide (1200 < (rdOf ByteArray.empty l0 x7_1).size) = true := decide_eq_true (by omega)
       clear c5
       obtain rfl := Option.some.inj H
       have p322 : 0 ≤ (x7_1 : Int) := of_decide_eq_true (by first | (with_reducible assumption) | assumption)
       have q322 : x7_1 < (l0.length : Int) := of_decide_eq_true (by first | (with_reducible assumption) | assumption)
       obtain ⟨ad322, e322, hx322_0⟩ := Kd.at_string HR0.out x7_1 p322 q322
       cases e322
       replace p322 := eq_true p322
       replace q322 := eq_true q322
       go_wp2
       go_ret
       exact ⟨by first | rfl | (simp; done) | (simp [*]; done) | (simp [bne_nil_hyb]; done) | (simp [bne_nil_hyb, *]; done), by repeat (first | exact Drawn0.refl _ | apply Drawn0.step)⟩
      ·rw [if_neg c5] at H
       have c5b0 : decide (1200 < ((rdOf ByteArray.empty l0 x7_1).size : Int)) = false := decide_eq_false c5
       have c5b1 : decide (1200 < (rdOf ByteArray.empty l0 x7_1).size) = false := decide_eq_false (by omega)
       clear c5
       have H' := Aside0.mk H
       clear H
       have p322 : 0 ≤ (x7_1 : Int) := of_decide_eq_true (by first | (with_reducible assumption) | assumption)
       have q322 : x7_1 < (l0.length : Int) := of_decide_eq_true (by first | (with_reducible assumption) | assumption)
       obtain ⟨ad322, e322, hx322_0⟩ := Kd.at_string HR0.out x7_1 p322 q322
       cases e322
       replace p322 := eq_true p322
       replace q322 := eq_true q322
       go_wp2
       go_roundg k1
       case measure => have := HK1.out; omega
       case rel => exact ⟨(wrap64 (x7_1 + 1)), (by first | rfl | (simp; done) | (simp [*]; done) | (simp [bne_nil_hyb]; done) | (simp [bne_nil_hyb, *]; done)), H', ⟨by have := HK1.out; omega⟩, by repeat (first | exact Drawn0.refl _ | apply Drawn0.step)⟩
     ·rw [if_neg c4] at H
      exact absurd H (by simp)
    ·rw [if_neg c3] at H
     exact absurd H (by simp)
   ·rw [if_neg c2] at H
    have c2b0 : decide (x7_1 < (l0.length : Int)) = false := decide_eq_false c2
    clear c2
    obtain rfl := Option.some.inj H
    go_wp2
    go_ret
    exact ⟨by first | rfl | (simp; done) | (simp [*]; done) | (simp [bne_nil_hyb]; done) | (simp [bne_nil_hyb, *]; done), by repeat (first | exact Drawn0.refl _ | apply Drawn0.step)⟩
def spec_alpHex.f (a0 : Int) : Option (Bool) := (spec_isDigit.f a0).bind fun t323 => (if t323 = true then (some true) else (if a0 ≥ 97 then (some (decide (a0 ≤ 102))) else (some false)))
set_option maxHeartbeats 8000000 in
set_option maxRecDepth 100000 in
theorem spec_alpHex.calls (a0 : Int) (r : Bool) (w : World) (h : spec_alpHex.f a0 = some r) :
  Calls Tryz.prog 38 #[.int .u8 a0] w fun e w' => e = .returned (.bool r) ∧ Drawn0 w w' := by
 have H : ((spec_isDigit.f a0).bind fun t323 => (if t323 = true then (some true) else (if a0 ≥ 97 then (some (decide (a0 ≤ 102))) else (some false)))) = some r := h
 clear h
 replace H := Option.bind_eq_some_iff.mp H
 obtain ⟨t323, A20, H⟩ := H
 replace H : (if t323 = true then (some true) else (if a0 ≥ 97 then (some (decide (a0 ≤ 102))) else (some false))) = some r := H
 have A2 := Aside0.mk A20
 clear A20
 by_cases c3 : t323 = true
 ·subst c3
  have H1 : (some true) = some r := by rw [if_pos rfl] at H; exact H
  clear H
  have H := H1
  clear H1
  obtain rfl := Option.some.inj H
  go_enter Tryz.func38, Tryz.ntmps38
  go_wp2_with (first | ((with_reducible refine gate_callee (f := 40) rfl ?_); refine goesL_ (some 4) rfl rfl Tryz.func40 (by kernel_rfl) rfl #[.int .u8 a0] rfl (by (try simp only [List.map_toArray, List.map_cons, List.map_nil]); first | done | rfl | (simp only [List.length_drop, List.length_take]; rfl)) ?_; (with_reducible refine (spec_isDigit.calls a0 true _ A2.out).mono ?_); rintro e w' ⟨rfl, ⟨nd, rfl⟩⟩; refine ⟨_, rfl, ?_⟩))
  go_ret
  exact ⟨by first | rfl | (simp; done) | (simp [*]; done) | (simp [bne_nil_hyb]; done) | (simp [bne_nil_hyb, *]; done), by repeat (first | exact Drawn0.refl _ | apply Drawn0.step)⟩
 ·replace c3 := Bool.eq_false_iff.mpr c3
  subst c3
  have H1 : (if a0 ≥ 97 then (some (decide (a0 ≤ 102))) else (some false)) = some r := by rw [if_neg (show ¬ (false = true) by decide)] at H; exact H
  clear H
  have H := H1
  clear H1
  by_cases c4 : a0 ≥ 97
  ·rw [if_pos c4] at H
   have c4b0 : decide (97 ≤ a0) = true := decide_eq_true c4
   clear c4
   obtain rfl := Option.some.inj H
   go_enter Tryz.func38, Tryz.ntmps38
   go_wp2_with (first | ((with_reducible refine gate_callee (f := 40) rfl ?_); refine goesL_ (some 4) rfl rfl Tryz.func40 (by kernel_rfl) rfl #[.int .u8 a0] rfl (by (try simp only [List.map_toArray, List.map_cons, List.map_nil]); first | done | rfl | (simp only [List.length_drop, List.length_take]; rfl)) ?_; (with_reducible refine (spec_isDigit.calls a0 false _ A2.out).mono ?_); rintro e w' ⟨rfl, ⟨nd, rfl⟩⟩; refine ⟨_, rfl, ?_⟩))
   go_ret
   exact ⟨by first | rfl | (simp; done) | (simp [*]; done) | (simp [bne_nil_hyb]; done) | (simp [bne_nil_hyb, *]; done), by repeat (first | exact Drawn0.refl _ | apply Drawn0.step)⟩
  ·rw [if_neg c4] at H
   have c4b0 : decide (97 ≤ a0) = false := decide_eq_false c4
   clear c4
   obtain rfl := Option.some.inj H
   go_enter Tryz.func38, Tryz.ntmps38
   go_wp2_with (first | ((with_reducible refine gate_callee (f := 40) rfl ?_); refine goesL_ (some 4) rfl rfl Tryz.func40 (by kernel_rfl) rfl #[.int .u8 a0] rfl (by (try simp only [List.map_toArray, List.map_cons, List.map_nil]); first | done | rfl | (simp only [List.length_drop, List.length_take]; rfl)) ?_; (with_reducible refine (spec_isDigit.calls a0 false _ A2.out).mono ?_); rintro e w' ⟨rfl, ⟨nd, rfl⟩⟩; refine ⟨_, rfl, ?_⟩))
   go_ret
   exact ⟨by first | rfl | (simp; done) | (simp [*]; done) | (simp [bne_nil_hyb]; done) | (simp [bne_nil_hyb, *]; done), by repeat (first | exact Drawn0.refl _ | apply Drawn0.step)⟩
end Go.Proofs.YtapaijpglfmfgaaGreatDoor.Q
end
section -- Qx16
namespace Go.Proofs.YtapaijpglfmfgaaGreatDoor.Q
open Go.RowKit Go.Proofs.YtapaijpglfmfgaaGreatDoorH Go.Proofs.YtapaijpglfmfgaaGreatDoorG Go.Proofs.YtapaijpglfmfgaaGreatDoorW.PrintWords Go.Proofs.YtapaijpglfmfgaaGreatDoorW.PrintLast Go.Proofs.YtapaijpglfmfgaaGreatDoorW.PrintMore Go.Proofs.YtapaijpglfmfgaaGreatDoorC
attribute [local go_sem] max2_int min2_int max_two min_two max_three min_three max_four min_four
set_option linter.unusedVariables false
set_option linter.unusedSimpArgs false
mutual
def spec_AlpineParse.j0 : Nat → ByteArray → Bool → ByteArray → ByteArray → ByteArray → ByteArray → Bool → List (S52) → Bool → Bool → ByteArray → Option (ByteArray × ByteArray × ByteArray × ByteArray × Bool × (List (S52)) × (List (S56)) × Bool × Bool × ByteArray × Bool)
 | 0, _, _, _, _, _, _, _, _, _, _, _ => none
 | k + 1, x0, x26, x325000, x325001, x325002, x325003, x325004, x325005, x325007, x325008, x325009 => if x26 = true then (if 0 ≤ 1 then (if 1 ≤ (x0.size : Int) then (spec_AlpineParse.j1 k (x0.extract 1 x0.size) x325000 x325001 (x0.extract 0 1) x325003 x325004 x325005 x325007 x325008 x325009) else (none)) else (none)) else (spec_AlpineParse.j1 k x0 x325000 x325001 x325002 x325003 x325004 x325005 x325007 x325008 x325009)
def spec_AlpineParse.j1 : Nat → ByteArray → ByteArray → ByteArray → ByteArray → ByteArray → Bool → List (S52) → Bool → Bool → ByteArray → Option (ByteArray × ByteArray × ByteArray × ByteArray × Bool × (List (S52)) × (List (S56)) × Bool × Bool × ByteArray × Bool)
 | 0, _, _, _, _, _, _, _, _, _, _ => none
 | k + 1, x0, x325000, x325001, x325002, x325003, x325004, x325005, x325007, x325008, x325009 => (spec_alpReadSuffixes.f k x0).bind fun bt329 => (if (bt329.2.size : Int) > 1 then (if 0 < (bt329.2.size : Int) then (if (bt bt329.2 0) = 126 then (if 1 < (bt329.2.size : Int) then ((spec_alpHex.f (bt bt329.2 1)).bind fun t333 => (spec_AlpineParse.j2 k bt329.2 t333 x325000 x325001 x325002 x325003 x325004 x325005 bt329.1 x325007 x325008 x325009)) else (none)) else (spec_AlpineParse.j2 k bt329.2 false x325000 x325001 x325002 x325003 x325004 x325005 bt329.1 x325007 x325008 x325009)) else (none)) else (spec_AlpineParse.j2 k bt329.2 false x325000 x325001 x325002 x325003 x325004 x325005 bt329.1 x325007 x325008 x325009))
def spec_AlpineParse.j2 : Nat → ByteArray → Bool → ByteArray → ByteArray → ByteArray → ByteArray → Bool → List (S52) → List (S56) → Bool → Bool → ByteArray → Option (ByteArray × ByteArray × ByteArray × ByteArray × Bool × (List (S52)) × (List (S56)) × Bool × Bool × ByteArray × Bool)
 | 0, _, _, _, _, _, _, _, _, _, _, _, _ => none
 | k + 1, x0, x50, x325000, x325001, x325002, x325003, x325004, x325005, x325006, x325007, x325008, x325009 => if x50 = true then (if 1 ≤ (x0.size : Int) then ((E2.spec_alpRun.f k (x0.extract 1 x0.size)).bind fun t334 => (if 0 ≤ (wrap64 (1 + t334)) then (if (wrap64 (1 + t334)) ≤ (x0.size : Int) then (spec_AlpineParse.j3 k (x0.extract ((wrap64 (1 + t334)) : Int).toNat x0.size) x325000 x325001 x325002 (x0.extract 0 ((wrap64 (1 + t334)) : Int).toNat) x325004 x325005 x325006 x325007 x325008 x325009) else (none)) else (none))) else (none)) else (spec_AlpineParse.j3 k x0 x325000 x325001 x325002 x325003 x325004 x325005 x325006 x325007 x325008 x325009)
def spec_AlpineParse.j3 : Nat → ByteArray → ByteArray → ByteArray → ByteArray → ByteArray → Bool → List (S52) → List (S56) → Bool → Bool → ByteArray → Option (ByteArray × ByteArray × ByteArray × ByteArray × Bool × (List (S52)) × (List (S56)) × Bool × Bool × ByteArray × Bool)
 | 0, _, _, _, _, _, _, _, _, _, _, _ => none
 | k + 1, x0, x325000, x325001, x325002, x325003, x325004, x325005, x325006, x325007, x325008, x325009 => if (x0.size : Int) > 1 then (if 0 ≤ 2 then (if 2 ≤ (x0.size : Int) then (spec_AlpineParse.j4 k x0 ((x0.extract 0 2).toList == ([45, 114] : List UInt8)) x325000 x325001 x325002 x325003 x325004 x325005 x325006 x325007 x325008 x325009) else (none)) else (none)) else (spec_AlpineParse.j4 k x0 false x325000 x325001 x325002 x325003 x325004 x325005 x325006 x325007 x325008 x325009)
def spec_AlpineParse.j4 : Nat → ByteArray → Bool → ByteArray → ByteArray → ByteArray → ByteArray → Bool → List (S52) → List (S56) → Bool → Bool → ByteArray → Option (ByteArray × ByteArray × ByteArray × ByteArray × Bool × (List (S52)) × (List (S56)) × Bool × Bool × ByteArray × Bool)
 | 0, _, _, _, _, _, _, _, _, _, _, _, _ => none
 | k + 1, x0, x62, x325000, x325001, x325002, x325003, x325004, x325005, x325006, x325007, x325008, x325009 => if x62 = true then (if 2 ≤ (x0.size : Int) then ((E1.spec_alpRun.f k (x0.extract 2 x0.size)).bind fun t335 => (if 2 ≤ (wrap64 (2 + t335)) then (if (wrap64 (2 + t335)) ≤ (x0.size : Int) then ((spec_intOf.f k (x0.extract 2 ((wrap64 (2 + t335)) : Int).toNat)).bind fun bt336 => (if 0 ≤ (wrap64 (2 + t335)) then (some (x325000, x0.extract ((wrap64 (2 + t335)) : Int).toNat x0.size, x325002, x325003, x325004, x325005, x325006, x325007, bt336.1, bt336.2, true)) else (none))) else (none)) else (none))) else (none)) else (if x0.toList = ([] : List UInt8) then (some (x325000, x325001, x325002, x325003, x325004, x325005, x325006, x325007, x325008, x325009, true)) else (some (x325000, x0, x325002, x325003, true, x325005, x325006, x325007, x325008, x325009, true)))
end
def spec_AlpineParse.f (k : Nat) (a0 : ByteArray) : Option (ByteArray × ByteArray × ByteArray × ByteArray × Bool × (List (S52)) × (List (S56)) × Bool × Bool × ByteArray × Bool) := (spec_alpReadNumbers.f k a0).bind fun bt325 => (if bt325.2.toList = ([] : List UInt8) then (spec_AlpineParse.j0 k bt325.2 false a0 (⟨#[]⟩ : ByteArray) (⟨#[]⟩ : ByteArray) (⟨#[]⟩ : ByteArray) false bt325.1 true false (⟨#[]⟩ : ByteArray)) else (if 0 < (bt325.2.size : Int) then (if (bt bt325.2 0) ≥ 97 then (spec_AlpineParse.j0 k bt325.2 (decide ((bt bt325.2 0) ≤ 122)) a0 (⟨#[]⟩ : ByteArray) (⟨#[]⟩ : ByteArray) (⟨#[]⟩ : ByteArray) false bt325.1 true false (⟨#[]⟩ : ByteArray)) else (spec_AlpineParse.j0 k bt325.2 false a0 (⟨#[]⟩ : ByteArray) (⟨#[]⟩ : ByteArray) (⟨#[]⟩ : ByteArray) false bt325.1 true false (⟨#[]⟩ : ByteArray))) else (none)))
def spec_AlpineParse.T8 : Bool × List (List Nat × List Nat) := (true, [([], []), ([], []), ([0, 1], [0, 1]), ([], []), ([], []), ([3, 4], [3, 4]), ([0, 1, 2], []), ([6, 2, 0, 1, 2], [2, 6]), ([5, 7, 0, 1, 2, 3, 4, 5, 6, 7], [0, 3, 5])])
def spec_AlpineParse.B8 : List Nat := [0, 0, 3, 0, 0, 24, 7, 71, 255]
theorem spec_AlpineParse.tab8 : rtab .any (opsOf Tryz.f15 8) = spec_AlpineParse.T8 := by kernel_rfl
theorem spec_AlpineParse.bits8 : waitsOk spec_AlpineParse.T8.2 spec_AlpineParse.B8 = true := by kernel_rfl
def spec_AlpineParse.T11 : Bool × List (List Nat × List Nat) := (true, [([], []), ([], []), ([1], [1]), ([0, 2], [0, 2]), ([3], [3]), ([], []), ([], []), ([6], [6]), ([5, 7], [5, 7]), ([0, 1, 2, 3, 4], []), ([9, 4, 4, 0, 1, 2, 3, 4], [4, 9]), ([0, 1, 2, 3, 4, 5, 6, 7, 8, 9, 10], []), ([11, 8, 10, 0, 1, 2, 3, 4, 5, 6, 7, 8, 9, 10], [8, 11])])
def spec_AlpineParse.B11 : List Nat := [0, 0, 2, 7, 15, 0, 0, 64, 224, 31, 543, 2047, 4095]
theorem spec_AlpineParse.tab11 : rtab .any (opsOf Tryz.f15 11) = spec_AlpineParse.T11 := by kernel_rfl
theorem spec_AlpineParse.bits11 : waitsOk spec_AlpineParse.T11.2 spec_AlpineParse.B11 = true := by kernel_rfl
set_option maxHeartbeats 8000000 in
set_option maxRecDepth 100000 in
theorem spec_AlpineParse.calls (k : Nat) (a0 : ByteArray) (r1 : ByteArray) (r2 : ByteArray) (r3 : ByteArray) (r4 : ByteArray) (r5 : Bool) (r6 : List (S52)) (r7 : List (S56)) (r8 : Bool) (r9 : Bool) (r10 : ByteArray) (r11 : Bool) (w : World) (h : spec_AlpineParse.f k a0 = some (r1, r2, r3, r4, r5, r6, r7, r8, r9, r10, r11)) :
  Calls Tryz.prog 15 #[.string a0] w fun e w' => ∃ v5_ v6_ : Value, e = .returned (.tuple #[.agg #[.string r1, .string r2, .string r3, .string r4, .bool r5, v5_, v6_, .bool r8, .bool r9, .string r10], .bool r11]) ∧ Kd.R k52 52 w' w.heap.size (fun _ => True) v5_ r6 ∧ Kd.R k56 56 w' w.heap.size (fun _ => True) v6_ r7 ∧ Below w.heap.size w w' := by
 have hu33 := Tryz.underlying33
 have hu31 := Tryz.underlying31
 have HB := Aside0.mk (Below.refl w.heap.size w)
 have H : ((spec_alpReadNumbers.f k a0).bind fun bt325 => (if bt325.2.toList = ([] : List UInt8) then (spec_AlpineParse.j0 k bt325.2 false a0 (⟨#[]⟩ : ByteArray) (⟨#[]⟩ : ByteArray) (⟨#[]⟩ : ByteArray) false bt325.1 true false (⟨#[]⟩ : ByteArray)) else (if 0 < (bt325.2.size : Int) then (if (bt bt325.2 0) ≥ 97 then (spec_AlpineParse.j0 k bt325.2 (decide ((bt bt325.2 0) ≤ 122)) a0 (⟨#[]⟩ : ByteArray) (⟨#[]⟩ : ByteArray) (⟨#[]⟩ : ByteArray) false bt325.1 true false (⟨#[]⟩ : ByteArray)) else (spec_AlpineParse.j0 k bt325.2 false a0 (⟨#[]⟩ : ByteArray) (⟨#[]⟩ : ByteArray) (⟨#[]⟩ : ByteArray) false bt325.1 true false (⟨#[]⟩ : ByteArray))) else (none)))) = some (r1, r2, r3, r4, r5, r6, r7, r8, r9, r10, r11) := h
 clear h
 replace H := Option.bind_eq_some_iff.mp H
 obtain ⟨⟨t325, t326⟩, A20, H⟩ := H
 replace H : (if t326.toList = ([] : List UInt8) then (spec_AlpineParse.j0 k t326 false a0 (⟨#[]⟩ : ByteArray) (⟨#[]⟩ : ByteArray) (⟨#[]⟩ : ByteArray) false t325 true false (⟨#[]⟩ : ByteArray)) else (if 0 < (t326.size : Int) then (if (bt t326 0) ≥ 97 then (spec_AlpineParse.j0 k t326 (decide ((bt t326 0) ≤ 122)) a0 (⟨#[]⟩ : ByteArray) (⟨#[]⟩ : ByteArray) (⟨#[]⟩ : ByteArray) false t325 true false (⟨#[]⟩ : ByteArray)) else (spec_AlpineParse.j0 k t326 false a0 (⟨#[]⟩ : ByteArray) (⟨#[]⟩ : ByteArray) (⟨#[]⟩ : ByteArray) false t325 true false (⟨#[]⟩ : ByteArray))) else (none))) = some (r1, r2, r3, r4, r5, r6, r7, r8, r9, r10, r11) := H
 have A2 := Aside0.mk A20
 clear A20
 have HC3 := Aside0.mk H
 clear H
 go_enter Tryz.func15, Tryz.ntmps15
 go_upto_region 3 with (first | ((with_reducible refine gate_dst (N := 2) rfl ?_); refine box_event ?hg (N := 2) ?hd (cs := #[.string ⟨#[]⟩, .string ⟨#[]⟩, .string ⟨#[]⟩, .string ⟨#[]⟩, .bool false, .slice none 0 0, .slice none 0 0, .bool false, .bool false, .string ⟨#[]⟩]) (t := 33) ?hr ?_; (case hd => rfl); (case hg => rfl); (case hr => first | (go_simp; done) | (go_simp; rfl)); intro gb324 hg w4 hbox hb; have BK324 := Aside0.mk hbox; have GW324 := Aside0.mk ((by rw [hg]; exact (below_size (by (with_reducible exact HB.out))) : w.heap.size ≤ gb324)); have GE324 := Aside0.mk ((by rw [hg]; exact (below_size (by (with_reducible exact HB.out))) : w.heap.size ≤ gb324)); replace HB := Aside0.mk (below_step (by (with_reducible exact HB.out)) hb); clear hb hbox hg; obtain ⟨hcz5_0, hcz5_1, hcz5_2, hcz5_3, hcz5_4, hcz5_5, hcz5_6, hcz5_7, hcz5_8, hcz5_9, hfz5_0, hfz5_1, hfz5_2, hfz5_3, hfz5_4, hfz5_5, hfz5_6, hfz5_7, hfz5_8, hfz5_9⟩ := cl10 BK324.out) | ((with_reducible refine gate_callee (f := 25) rfl ?_); refine goesL_ (some 11) rfl rfl Tryz.func25 (by kernel_rfl) rfl #[.string a0] rfl (by (try simp only [List.map_toArray, List.map_cons, List.map_nil]); first | done | rfl | (simp only [List.length_drop, List.length_take]; rfl)) ?_; (with_reducible refine (spec_alpReadNumbers.calls k a0 t325 t326 _ A2.out).mono ?_); rintro e w6 ⟨v327, rfl, ho0, hb⟩; refine ⟨_, rfl, ?_⟩; have HO328 := Aside0.mk (Kd.R_lower ho0 (below_size (by (with_reducible refine below_set ?_ GE324.out; with_reducible refine below_set ?_ GE324.out; with_reducible exact HB.out)))); replace BK324 := Aside0.mk (blk_below (g := gb324) (o := .cells #[.string a0, .string ⟨#[]⟩, .string ⟨#[]⟩, .string ⟨#[]⟩, .bool false, .slice none 0 0, .slice none 0 0, .bool true, .bool false, .string ⟨#[]⟩] 33 (0, 0)) (by refine blk_put (cs := #[.string a0, .string ⟨#[]⟩, .string ⟨#[]⟩, .string ⟨#[]⟩, .bool false, .slice none 0 0, .slice none 0 0, .bool false, .bool false, .string ⟨#[]⟩]) ?_ 7 _ rfl; refine blk_put (cs := #[.string ⟨#[]⟩, .string ⟨#[]⟩, .string ⟨#[]⟩, .string ⟨#[]⟩, .bool false, .slice none 0 0, .slice none 0 0, .bool false, .bool false, .string ⟨#[]⟩]) ?_ 0 _ rfl; exact BK324.out) hb); replace HB := Aside0.mk (below_step (by (with_reducible refine below_set ?_ GE324.out; with_reducible refine below_set ?_ GE324.out; with_reducible exact HB.out)) hb); (try clear hb); (try clear hb2); (try clear hk); (try clear hi); (try clear ho0); obtain ⟨Ao7, co7, eo7⟩ := Kd.R_slice HO328.out; subst eo7; obtain ⟨hcz8_0, hcz8_1, hcz8_2, hcz8_3, hcz8_4, hcz8_5, hcz8_6, hcz8_7, hcz8_8, hcz8_9, hfz8_0, hfz8_1, hfz8_2, hfz8_3, hfz8_4, hfz8_5, hfz8_6, hfz8_7, hfz8_8, hfz8_9⟩ := cl10 BK324.out))
 (try simp only [Act.put, List.setIfInBounds_toArray, List.set_cons_zero, List.set_cons_succ])
 go_cut [26] (fun v26 wc => ∃ (kq : Nat) (x26_2 : Bool), v26 = .bool x26_2 ∧ Aside0 (spec_AlpineParse.j0 kq t326 x26_2 a0 (⟨#[]⟩ : ByteArray) (⟨#[]⟩ : ByteArray) (⟨#[]⟩ : ByteArray) false t325 true false (⟨#[]⟩ : ByteArray) = some (r1, r2, r3, r4, r5, r6, r7, r8, r9, r10, r11)) ∧ Aside0 (kq ≤ k) ∧ Aside0 (Kd.R k52 52 wc w.heap.size (fun _ => True) (.slice Ao7 t325.length co7) t325) ∧ Aside0 (wc.heap[gb324]? = some (.cells #[.string a0, .string ⟨#[]⟩, .string ⟨#[]⟩, .string ⟨#[]⟩, .bool false, (.slice Ao7 t325.length co7), (.slice none 0 0), .bool true, .bool false, .string ⟨#[]⟩] 33 (0, 0))) ∧ Aside0 (Below w.heap.size w wc))
 case first =>
  have H := HC3.out
  clear HC3
  by_cases c9 : t326.toList = ([] : List UInt8)
  ·rw [if_pos c9] at H
   have c9b0 : (t326.toList == ([] : List UInt8)) = true := beq_iff_eq.mpr c9
   have c9b1 : (t326.toList != ([] : List UInt8)) = false := bne_eq_false_iff_eq.mpr c9
   try have c9b9 : t326.toList.isEmpty = true := by simpa using c9b0
   clear c9
   (first | rw [c9b0] | (simp only [i64_w, i32_w]; rw [c9b0]) | rw [c9b9] | skip)
   have H' := Aside0.mk H
   clear H
   go_wp2
   go_meet
   case rel => exact ⟨_, (false), (by rfl), H', ⟨by omega⟩, ⟨by (with_reducible repeat (first | apply Kd.R_alloc | apply Kd.R_drewN | apply Kd.R_drew)); exact Kd.R_mono (farC (Kd.R_types HO328.out BK324.out (by decide))) (fun _ hk => trivial)⟩, ⟨by refine blk_put (cs := #[.string a0, .string ⟨#[]⟩, .string ⟨#[]⟩, .string ⟨#[]⟩, .bool false, .slice none 0 0, .slice none 0 0, .bool true, .bool false, .string ⟨#[]⟩]) ?_ 5 _ rfl; exact BK324.out⟩, ⟨by (with_reducible refine below_set ?_ GE324.out; with_reducible exact HB.out)⟩⟩
  ·rw [if_neg c9] at H
   have c9b0 : (t326.toList == ([] : List UInt8)) = false := beq_eq_false_iff_ne.mpr c9
   have c9b1 : (t326.toList != ([] : List UInt8)) = true := bne_iff_ne.mpr c9
   try have c9b9 : t326.toList.isEmpty = false := by simpa using c9b0
   (first | rw [c9b0] | (simp only [i64_w, i32_w]; rw [c9b0]) | rw [c9b9] | skip)
   by_cases c10 : 0 < (t326.size : Int)
   ·rw [if_pos c10] at H
    have c10b0 : decide (0 < (t326.size : Int)) = true := decide_eq_true c10
    have c10b1 : decide (0 < t326.size) = true := decide_eq_true (by omega)
    clear c10
    by_cases c12 : (bt t326 0) ≥ 97
    ·rw [if_pos c12] at H
     have c12b0 : decide (97 ≤ (bt t326 0)) = true := decide_eq_true c12
     clear c12
     have H' := Aside0.mk H
     clear H
     have p11 : 0 ≤ (0 : Int) := (by omega)
     have q11 : 0 < t326.size := (by have : (0 : Int) < (t326.size : Int) := of_decide_eq_true (by (with_reducible assumption)); omega)
     have hx11 : ∀ h : 0 < t326.size, ((t326[0]'h).toNat : Int) = bt t326 0 := bt_at t326 0
     clear p11
     have qi11 : (0 < (t326.size : Int)) = True := eq_true (of_decide_eq_true (by (with_reducible assumption)))
     replace q11 := eq_true q11
     have p13 : 0 ≤ (0 : Int) := (by omega)
     have q13 : 0 < t326.size := (by have : (0 : Int) < (t326.size : Int) := of_decide_eq_true (by (with_reducible assumption)); omega)
     have hx13 : ∀ h : 0 < t326.size, ((t326[0]'h).toNat : Int) = bt t326 0 := bt_at t326 0
     clear p13
     have qi13 : (0 < (t326.size : Int)) = True := eq_true (of_decide_eq_true (by (with_reducible assumption)))
     replace q13 := eq_true q13
     go_wp2
     go_meet
     case rel => exact ⟨_, (decide ((bt t326 0) ≤ 122)), (by rfl), H', ⟨by omega⟩, ⟨by (with_reducible repeat (first | apply Kd.R_alloc | apply Kd.R_drewN | apply Kd.R_drew)); exact Kd.R_mono (farC (Kd.R_types HO328.out BK324.out (by decide))) (fun _ hk => trivial)⟩, ⟨by refine blk_put (cs := #[.string a0, .string ⟨#[]⟩, .string ⟨#[]⟩, .string ⟨#[]⟩, .bool false, .slice none 0 0, .slice none 0 0, .bool true, .bool false, .string ⟨#[]⟩]) ?_ 5 _ rfl; exact BK324.out⟩, ⟨by (with_reducible refine below_set ?_ GE324.out; with_reducible exact HB.out)⟩⟩
    ·rw [if_neg c12] at H
     have c12b0 : decide (97 ≤ (bt t326 0)) = false := decide_eq_false c12
     clear c12
     have H' := Aside0.mk H
     clear H
     have p11 : 0 ≤ (0 : Int) := (by omega)
     have q11 : 0 < t326.size := (by have : (0 : Int) < (t326.size : Int) := of_decide_eq_true (by (with_reducible assumption)); omega)
     have hx11 : ∀ h : 0 < t326.size, ((t326[0]'h).toNat : Int) = bt t326 0 := bt_at t326 0
     clear p11
     have qi11 : (0 < (t326.size : Int)) = True := eq_true (of_decide_eq_true (by (with_reducible assumption)))
     replace q11 := eq_true q11
     go_wp2
     go_meet
     case rel => exact ⟨_, (false), (by rfl), H', ⟨by omega⟩, ⟨by (with_reducible repeat (first | apply Kd.R_alloc | apply Kd.R_drewN | apply Kd.R_drew)); exact Kd.R_mono (farC (Kd.R_types HO328.out BK324.out (by decide))) (fun _ hk => trivial)⟩, ⟨by refine blk_put (cs := #[.string a0, .string ⟨#[]⟩, .string ⟨#[]⟩, .string ⟨#[]⟩, .bool false, .slice none 0 0, .slice none 0 0, .bool true, .bool false, .string ⟨#[]⟩]) ?_ 5 _ rfl; exact BK324.out⟩, ⟨by (with_reducible refine below_set ?_ GE324.out; with_reducible exact HB.out)⟩⟩
   ·rw [if_neg c10] at H
    exact absurd H (by simp)
 case rest =>
  clear HC3
  clear hcz5_0 hcz5_1 hcz5_2 hcz5_3 hcz5_4 hcz5_5 hcz5_6 hcz5_7 hcz5_8 hcz5_9 hcz8_0 hcz8_1 hcz8_2 hcz8_3 hcz8_4 hcz8_5 hcz8_6 hcz8_7 hcz8_8 hcz8_9 hfz5_0 hfz5_1 hfz5_2 hfz5_3 hfz5_4 hfz5_5 hfz5_6 hfz5_7 hfz5_8 hfz5_9 hfz8_0 hfz8_1 hfz8_2 hfz8_3 hfz8_4 hfz8_5 hfz8_6 hfz8_7 hfz8_8 hfz8_9
  obtain ⟨kq, x26_2, rfl, HA, HJ2, HO_325005, BK324, HB⟩ := hcut
  cases kq with
  | zero => exact absurd HA.out (by simp [spec_AlpineParse.j0])
  | succ kj2 =>
   have H := HA.out
   clear HA
   simp only [spec_AlpineParse.j0] at H
   have HC14 := Aside0.mk H
   clear H
   go_upto_if 26 with (fail)
   go_cut [0, 26] (fun v0 v26 wc => ∃ (kq : Nat) (x0_13 : ByteArray) (x325002_13 : ByteArray), v0 = .string x0_13 ∧ Aside0 (spec_AlpineParse.j1 kq x0_13 a0 (⟨#[]⟩ : ByteArray) x325002_13 (⟨#[]⟩ : ByteArray) false t325 true false (⟨#[]⟩ : ByteArray) = some (r1, r2, r3, r4, r5, r6, r7, r8, r9, r10, r11)) ∧ Aside0 (kq ≤ kj2) ∧ Aside0 (Kd.R k52 52 wc w.heap.size (fun _ => True) (.slice Ao7 t325.length co7) t325) ∧ Aside0 (wc.heap[gb324]? = some (.cells #[.string a0, .string ⟨#[]⟩, .string x325002_13, .string ⟨#[]⟩, .bool false, (.slice Ao7 t325.length co7), (.slice none 0 0), .bool true, .bool false, .string ⟨#[]⟩] 33 (0, 0))) ∧ Aside0 (Below w.heap.size w wc))
   case first =>
    have H := HC14.out
    clear HC14
    by_cases c15 : x26_2 = true
    ·subst c15
     have H1 : (if 0 ≤ 1 then (if 1 ≤ (t326.size : Int) then (spec_AlpineParse.j1 kj2 (t326.extract 1 t326.size) a0 (⟨#[]⟩ : ByteArray) (t326.extract 0 1) (⟨#[]⟩ : ByteArray) false t325 true false (⟨#[]⟩ : ByteArray)) else (none)) else (none)) = some (r1, r2, r3, r4, r5, r6, r7, r8, r9, r10, r11) := by rw [if_pos rfl] at H; exact H
     clear H
     have H := H1
     clear H1
     by_cases c16 : 0 ≤ 1
     ·rw [if_pos c16] at H
      have c16b0 := eq_true c16
      have c16b1 : decide (0 ≤ 1) = true := decide_eq_true c16
      clear c16
      by_cases c17 : 1 ≤ (t326.size : Int)
      ·rw [if_pos c17] at H
       have c17b0 := eq_true c17
       have c17b1 : decide (1 ≤ (t326.size : Int)) = true := decide_eq_true c17
       clear c17
       have c18b0 := eq_true (of_decide_eq_true (by (with_reducible assumption)) : 1 ≤ (t326.size : Int))
       have H' := Aside0.mk H
       clear H
       try go_wp2
       replace HO_325005 := Aside0.mk (Kd.R_drew HO_325005.out)
       replace BK324 := Aside0.mk (blk_drew BK324.out)
       replace HB := Aside0.mk (below_drew1 HB.out)
       refine start_ (n := 7) (S := fun w' => True) (ds := []) #[false, false, false, false, false, false, false] (by kernel_rfl) rfl rfl trivial (fun hHeld => ?_)
       generalize wc.drew = w19 at HO_325005 BK324 HB hHeld ⊢
       refine pure_ (i := 0) (N := some 27) (v := ?_) (a' := ?_) #[true, false, false, false, false, false, false] rfl rfl (by kernel_rfl) (fun _ _ _ h => h) (Or.inl ⟨by rfl, ?_⟩) ?_ ?_
       rotate_left
       ·intro w'
        go_simp
        with_reducible rfl
       rotate_left
       ·simp only [Act.put, List.setIfInBounds_toArray, List.set_cons_zero, List.set_cons_succ, i64_w, i32_w]
        rfl
       refine pure_ (i := 1) (N := some 28) (v := ?_) (a' := ?_) #[true, true, false, false, false, false, false] rfl rfl (by kernel_rfl) (fun _ _ _ h => h) (Or.inl ⟨by rfl, ?_⟩) ?_ ?_
       rotate_left
       ·intro w'
        go_simp
        with_reducible rfl
       rotate_left
       ·simp only [Act.put, List.setIfInBounds_toArray, List.set_cons_zero, List.set_cons_succ, i64_w, i32_w]
        rfl
       refine pure_ (i := 2) (N := some 29) (v := ?_) (a' := ?_) #[true, true, true, false, false, false, false] rfl rfl (by kernel_rfl) (fun _ _ _ h => h) (Or.inl ⟨by rfl, ?_⟩) ?_ ?_
       rotate_left
       ·intro w'
        go_simp
        with_reducible rfl
       rotate_left
       ·simp only [Act.put, List.setIfInBounds_toArray, List.set_cons_zero, List.set_cons_succ, i64_w, i32_w]
        rfl
       refine pure_ (i := 3) (N := some 30) (v := ?_) (a' := ?_) #[true, true, true, true, false, false, false] rfl rfl (by kernel_rfl) (fun _ _ _ h => h) (Or.inl ⟨by rfl, ?_⟩) ?_ ?_
       rotate_left
       ·intro w'
        go_simp
        with_reducible rfl
       rotate_left
       ·simp only [Act.put, List.setIfInBounds_toArray, List.set_cons_zero, List.set_cons_succ, i64_w, i32_w]
        rfl
       refine pure_ (i := 4) (N := some 31) (v := ?_) (a' := ?_) #[true, true, true, true, true, false, false] rfl rfl (by kernel_rfl) (fun _ _ _ h => h) (Or.inl ⟨by rfl, ?_⟩) ?_ ?_
       rotate_left
       ·intro w'
        go_simp
        with_reducible rfl
       rotate_left
       ·simp only [Act.put, List.setIfInBounds_toArray, List.set_cons_zero, List.set_cons_succ, i64_w, i32_w]
        rfl
       refine one_ (i := 5) (N := none) #[true, true, true, true, true, true, false] rfl rfl (by kernel_rfl) (by decide) (fun K hK => ?_)
       have hs20 : w19.cell? ⟨gb324, 2, none⟩ = some (.string ⟨#[]⟩) := (blk_cell BK324.out 2).trans rfl
       have hfs20 := blk_frozen BK324.out 2
       refine skip_ (w1 := ?_) (by rfl) rfl ?_ ?_
       rotate_left
       ·go_simp
        rfl
       refine hK.out _ _ trivial (fun hHeld => ?_)
       clear hK K
       refine pure_ (i := 6) (N := some 0) (v := ?_) (a' := ?_) #[true, true, true, true, true, true, true] rfl rfl (by kernel_rfl) (fun _ _ _ h => h) (Or.inl ⟨by rfl, ?_⟩) ?_ ?_
       rotate_left
       ·intro w'
        go_simp
        with_reducible rfl
       rotate_left
       ·simp only [Act.put, List.setIfInBounds_toArray, List.set_cons_zero, List.set_cons_succ, i64_w, i32_w]
        rfl
       refine done_ (by kernel_rfl) ?_
       try go_wp2
       go_meet
       case rel => exact ⟨_, (t326.extract 1 t326.size), (t326.extract 0 1), (by rfl), (by exact H'), ⟨by have := HJ2.out; first | omega | exact Nat.le_refl _⟩, ⟨by (with_reducible repeat (first | apply Kd.R_alloc | apply Kd.R_drewN | apply Kd.R_drew)); exact Kd.R_mono (farC (Kd.R_types HO_325005.out BK324.out (by decide))) (fun _ hk => trivial)⟩, ⟨by refine blk_put (cs := #[.string a0, .string ⟨#[]⟩, .string ⟨#[]⟩, .string ⟨#[]⟩, .bool false, .slice Ao7 t325.length co7, .slice none 0 0, .bool true, .bool false, .string ⟨#[]⟩]) ?_ 2 _ rfl; exact BK324.out⟩, ⟨by (with_reducible refine below_set ?_ GE324.out; with_reducible exact HB.out)⟩⟩
      ·rw [if_neg c17] at H
       exact absurd H (by simp)
     ·rw [if_neg c16] at H
      exact absurd H (by simp)
    ·replace c15 := Bool.eq_false_iff.mpr c15
     subst c15
     have H1 : (spec_AlpineParse.j1 kj2 t326 a0 (⟨#[]⟩ : ByteArray) (⟨#[]⟩ : ByteArray) (⟨#[]⟩ : ByteArray) false t325 true false (⟨#[]⟩ : ByteArray)) = some (r1, r2, r3, r4, r5, r6, r7, r8, r9, r10, r11) := by rw [if_neg (show ¬ (false = true) by decide)] at H; exact H
     clear H
     have H := H1
     clear H1
     have H' := Aside0.mk H
     clear H
     go_wp2
     go_meet
     case rel => exact ⟨_, (t326), ((⟨#[]⟩ : ByteArray)), (by rfl), (by exact H'), ⟨by have := HJ2.out; first | omega | exact Nat.le_refl _⟩, ⟨by (with_reducible repeat (first | apply Kd.R_alloc | apply Kd.R_drewN | apply Kd.R_drew)); exact HO_325005.out⟩, ⟨by exact BK324.out⟩, ⟨by (with_reducible exact HB.out)⟩⟩
   case rest =>
    clear HC14
    obtain ⟨kq, x0_13, x325002_13, rfl, HA, HJ13, HO_325005, BK324, HB⟩ := hcut
    cases kq with
    | zero => exact absurd HA.out (by simp [spec_AlpineParse.j1])
    | succ kj13 =>
     have H := HA.out
     clear HA
     simp only [spec_AlpineParse.j1] at H
     replace H := Option.bind_eq_some_iff.mp H
     obtain ⟨⟨t329, t330⟩, A210, H⟩ := H
     replace H : (if (t330.size : Int) > 1 then (if 0 < (t330.size : Int) then (if (bt t330 0) = 126 then (if 1 < (t330.size : Int) then ((spec_alpHex.f (bt t330 1)).bind fun t333 => (spec_AlpineParse.j2 kj13 t330 t333 a0 (⟨#[]⟩ : ByteArray) x325002_13 (⟨#[]⟩ : ByteArray) false t325 t329 true false (⟨#[]⟩ : ByteArray))) else (none)) else (spec_AlpineParse.j2 kj13 t330 false a0 (⟨#[]⟩ : ByteArray) x325002_13 (⟨#[]⟩ : ByteArray) false t325 t329 true false (⟨#[]⟩ : ByteArray))) else (none)) else (spec_AlpineParse.j2 kj13 t330 false a0 (⟨#[]⟩ : ByteArray) x325002_13 (⟨#[]⟩ : ByteArray) false t325 t329 true false (⟨#[]⟩ : ByteArray))) = some (r1, r2, r3, r4, r5, r6, r7, r8, r9, r10, r11) := H
     have A21 := Aside0.mk A210
     clear A210
     have HC22 := Aside0.mk H
     clear H
     go_upto_region 6 with (((with_reducible refine gate_callee (f := 26) rfl ?_); refine goesL_ (some 34) rfl rfl Tryz.func26 (by kernel_rfl) rfl #[.string x0_13] rfl (by (try simp only [List.map_toArray, List.map_cons, List.map_nil]); first | done | rfl | (simp only [List.length_drop, List.length_take]; rfl)) ?_; (with_reducible refine (spec_alpReadSuffixes.calls kj13 x0_13 t329 t330 _ A21.out).mono ?_); rintro e w23 ⟨v331, rfl, ho0, hb⟩; refine ⟨_, rfl, ?_⟩; replace HO_325005 := Aside0.mk (Kd.R_below (by (with_reducible repeat (first | apply Kd.R_alloc | apply Kd.R_drewN | apply Kd.R_drew)); exact HO_325005.out) hb); have HO332 := Aside0.mk (Kd.R_lower ho0 (below_size (by (with_reducible exact HB.out)))); replace BK324 := Aside0.mk (blk_below (g := gb324) (o := .cells #[.string a0, .string ⟨#[]⟩, .string x325002_13, .string ⟨#[]⟩, .bool false, .slice Ao7 t325.length co7, .slice none 0 0, .bool true, .bool false, .string ⟨#[]⟩] 33 (0, 0)) (by exact BK324.out) hb); replace HB := Aside0.mk (below_step (by (with_reducible exact HB.out)) hb); (try clear hb); (try clear hb2); (try clear hk); (try clear hi); (try clear ho0); obtain ⟨Ao24, co24, eo24⟩ := Kd.R_slice HO332.out; subst eo24; obtain ⟨hcz25_0, hcz25_1, hcz25_2, hcz25_3, hcz25_4, hcz25_5, hcz25_6, hcz25_7, hcz25_8, hcz25_9, hfz25_0, hfz25_1, hfz25_2, hfz25_3, hfz25_4, hfz25_5, hfz25_6, hfz25_7, hfz25_8, hfz25_9⟩ := cl10 BK324.out))
     (try simp only [Act.put, List.setIfInBounds_toArray, List.set_cons_zero, List.set_cons_succ])
     go_cut [50] (fun v50 wc => ∃ (kq : Nat) (x50_21 : Bool), v50 = .bool x50_21 ∧ Aside0 (spec_AlpineParse.j2 kq t330 x50_21 a0 (⟨#[]⟩ : ByteArray) x325002_13 (⟨#[]⟩ : ByteArray) false t325 t329 true false (⟨#[]⟩ : ByteArray) = some (r1, r2, r3, r4, r5, r6, r7, r8, r9, r10, r11)) ∧ Aside0 (kq ≤ kj13) ∧ Aside0 (Kd.R k52 52 wc w.heap.size (fun _ => True) (.slice Ao7 t325.length co7) t325) ∧ Aside0 (Kd.R k56 56 wc w.heap.size (fun _ => True) (.slice Ao24 t329.length co24) t329) ∧ Aside0 (wc.heap[gb324]? = some (.cells #[.string a0, .string ⟨#[]⟩, .string x325002_13, .string ⟨#[]⟩, .bool false, (.slice Ao7 t325.length co7), (.slice Ao24 t329.length co24), .bool true, .bool false, .string ⟨#[]⟩] 33 (0, 0))) ∧ Aside0 (Below w.heap.size w wc))
     case first =>
      have H := HC22.out
      clear HC22
      by_cases c26 : (t330.size : Int) > 1
      ·rw [if_pos c26] at H
       have c26b0 : decide (1 < (t330.size : Int)) = true := decide_eq_true c26
       have c26b1 : decide (1 < t330.size) = true := decide_eq_true (by omega)
       clear c26
       (first | rw [c26b0] | (simp only [i64_w, i32_w]; rw [c26b0]) | skip)
       by_cases c27 : 0 < (t330.size : Int)
       ·rw [if_pos c27] at H
        have c27b0 : decide (0 < (t330.size : Int)) = true := decide_eq_true c27
        have c27b1 : decide (0 < t330.size) = true := decide_eq_true (by omega)
        clear c27
        by_cases c29 : (bt t330 0) = 126
        ·rw [if_pos c29] at H
         have c29b0 : ((bt t330 0) == 126) = true := beq_iff_eq.mpr c29
         have c29b1 : ((bt t330 0) != 126) = false := bne_eq_false_iff_eq.mpr c29
         clear c29
         by_cases c30 : 1 < (t330.size : Int)
         ·rw [if_pos c30] at H
          have c30b0 : decide (1 < (t330.size : Int)) = true := decide_eq_true c30
          have c30b1 : decide (1 < t330.size) = true := decide_eq_true (by omega)
          clear c30
          replace H := Option.bind_eq_some_iff.mp H
          obtain ⟨t333, A320, H⟩ := H
          replace H : (spec_AlpineParse.j2 kj13 t330 t333 a0 (⟨#[]⟩ : ByteArray) x325002_13 (⟨#[]⟩ : ByteArray) false t325 t329 true false (⟨#[]⟩ : ByteArray)) = some (r1, r2, r3, r4, r5, r6, r7, r8, r9, r10, r11) := H
          have A32 := Aside0.mk A320
          clear A320
          have H' := Aside0.mk H
          clear H
          have p28 : 0 ≤ (0 : Int) := (by omega)
          have q28 : 0 < t330.size := (by have : (0 : Int) < (t330.size : Int) := of_decide_eq_true (by (with_reducible assumption)); omega)
          have hx28 : ∀ h : 0 < t330.size, ((t330[0]'h).toNat : Int) = bt t330 0 := bt_at t330 0
          clear p28
          have qi28 : (0 < (t330.size : Int)) = True := eq_true (of_decide_eq_true (by (with_reducible assumption)))
          replace q28 := eq_true q28
          have p31 : 0 ≤ (1 : Int) := (by omega)
          have q31 : 1 < t330.size := (by have : (1 : Int) < (t330.size : Int) := of_decide_eq_true (by (with_reducible assumption)); omega)
          have hx31 : ∀ h : 1 < t330.size, ((t330[1]'h).toNat : Int) = bt t330 1 := bt_at t330 1
          clear p31
          have qi31 : (1 < (t330.size : Int)) = True := eq_true (of_decide_eq_true (by (with_reducible assumption)))
          replace q31 := eq_true q31
          go_wp2_with ((go_at_call 38; (with_reducible refine (spec_alpHex.calls (bt t330 1) t333 _ A32.out).mono ?_); rintro e w' ⟨rfl, ⟨nd, rfl⟩⟩))
          go_meet
          case rel => exact ⟨_, (t333), (by rfl), (by exact H'), ⟨by have := HJ2.out; have := HJ13.out; first | omega | exact Nat.le_refl _⟩, ⟨by (with_reducible repeat (first | apply Kd.R_alloc | apply Kd.R_drewN | apply Kd.R_drew)); exact Kd.R_mono (farC (Kd.R_types HO_325005.out BK324.out (by decide))) (fun _ hk => trivial)⟩, ⟨by (with_reducible repeat (first | apply Kd.R_alloc | apply Kd.R_drewN | apply Kd.R_drew)); exact Kd.R_mono (farC (Kd.R_types HO332.out BK324.out (by decide))) (fun _ hk => trivial)⟩, ⟨by (with_reducible (refine blk_drewN ?_ _)); refine blk_put (cs := #[.string a0, .string ⟨#[]⟩, .string x325002_13, .string ⟨#[]⟩, .bool false, .slice Ao7 t325.length co7, .slice none 0 0, .bool true, .bool false, .string ⟨#[]⟩]) ?_ 6 _ rfl; exact BK324.out⟩, ⟨by (with_reducible apply pw_below_drewN; with_reducible refine below_set ?_ GE324.out; with_reducible exact HB.out)⟩⟩
         ·rw [if_neg c30] at H
          exact absurd H (by simp)
        ·rw [if_neg c29] at H
         have c29b0 : ((bt t330 0) == 126) = false := beq_eq_false_iff_ne.mpr c29
         have c29b1 : ((bt t330 0) != 126) = true := bne_iff_ne.mpr c29
         have H' := Aside0.mk H
         clear H
         have p28 : 0 ≤ (0 : Int) := (by omega)
         have q28 : 0 < t330.size := (by have : (0 : Int) < (t330.size : Int) := of_decide_eq_true (by (with_reducible assumption)); omega)
         have hx28 : ∀ h : 0 < t330.size, ((t330[0]'h).toNat : Int) = bt t330 0 := bt_at t330 0
         clear p28
         have qi28 : (0 < (t330.size : Int)) = True := eq_true (of_decide_eq_true (by (with_reducible assumption)))
         replace q28 := eq_true q28
         go_wp2
         go_meet
         case rel => exact ⟨_, (false), (by rfl), (by exact H'), ⟨by have := HJ2.out; have := HJ13.out; first | omega | exact Nat.le_refl _⟩, ⟨by (with_reducible repeat (first | apply Kd.R_alloc | apply Kd.R_drewN | apply Kd.R_drew)); exact Kd.R_mono (farC (Kd.R_types HO_325005.out BK324.out (by decide))) (fun _ hk => trivial)⟩, ⟨by (with_reducible repeat (first | apply Kd.R_alloc | apply Kd.R_drewN | apply Kd.R_drew)); exact Kd.R_mono (farC (Kd.R_types HO332.out BK324.out (by decide))) (fun _ hk => trivial)⟩, ⟨by refine blk_put (cs := #[.string a0, .string ⟨#[]⟩, .string x325002_13, .string ⟨#[]⟩, .bool false, .slice Ao7 t325.length co7, .slice none 0 0, .bool true, .bool false, .string ⟨#[]⟩]) ?_ 6 _ rfl; exact BK324.out⟩, ⟨by (with_reducible refine below_set ?_ GE324.out; with_reducible exact HB.out)⟩⟩
       ·rw [if_neg c27] at H
        exact absurd H (by simp)
      ·rw [if_neg c26] at H
       have c26b0 : decide (1 < (t330.size : Int)) = false := decide_eq_false c26
       have c26b1 : decide (1 < t330.size) = false := decide_eq_false (by omega)
       clear c26
       (first | rw [c26b0] | (simp only [i64_w, i32_w]; rw [c26b0]) | skip)
       have H' := Aside0.mk H
       clear H
       go_wp2
       go_meet
       case rel => exact ⟨_, (false), (by rfl), (by exact H'), ⟨by have := HJ2.out; have := HJ13.out; first | omega | exact Nat.le_refl _⟩, ⟨by (with_reducible repeat (first | apply Kd.R_alloc | apply Kd.R_drewN | apply Kd.R_drew)); exact Kd.R_mono (farC (Kd.R_types HO_325005.out BK324.out (by decide))) (fun _ hk => trivial)⟩, ⟨by (with_reducible repeat (first | apply Kd.R_alloc | apply Kd.R_drewN | apply Kd.R_drew)); exact Kd.R_mono (farC (Kd.R_types HO332.out BK324.out (by decide))) (fun _ hk => trivial)⟩, ⟨by refine blk_put (cs := #[.string a0, .string ⟨#[]⟩, .string x325002_13, .string ⟨#[]⟩, .bool false, .slice Ao7 t325.length co7, .slice none 0 0, .bool true, .bool false, .string ⟨#[]⟩]) ?_ 6 _ rfl; exact BK324.out⟩, ⟨by (with_reducible refine below_set ?_ GE324.out; with_reducible exact HB.out)⟩⟩
     case rest =>
      clear HC22
      clear hcz25_0 hcz25_1 hcz25_2 hcz25_3 hcz25_4 hcz25_5 hcz25_6 hcz25_7 hcz25_8 hcz25_9 hfz25_0 hfz25_1 hfz25_2 hfz25_3 hfz25_4 hfz25_5 hfz25_6 hfz25_7 hfz25_8 hfz25_9
      obtain ⟨kq, x50_21, rfl, HA, HJ21, HO_325005, HO_325006, BK324, HB⟩ := hcut
      cases kq with
      | zero => exact absurd HA.out (by simp [spec_AlpineParse.j2])
      | succ kj21 =>
       have H := HA.out
       clear HA
       simp only [spec_AlpineParse.j2] at H
       have HC33 := Aside0.mk H
       clear H
       go_upto_if 50 with (fail)
       go_cut [0, 50] (fun v0 v50 wc => ∃ (kq : Nat) (x0_32 : ByteArray) (x325003_32 : ByteArray), v0 = .string x0_32 ∧ Aside0 (spec_AlpineParse.j3 kq x0_32 a0 (⟨#[]⟩ : ByteArray) x325002_13 x325003_32 false t325 t329 true false (⟨#[]⟩ : ByteArray) = some (r1, r2, r3, r4, r5, r6, r7, r8, r9, r10, r11)) ∧ Aside0 (kq ≤ kj21) ∧ Aside0 (Kd.R k52 52 wc w.heap.size (fun _ => True) (.slice Ao7 t325.length co7) t325) ∧ Aside0 (Kd.R k56 56 wc w.heap.size (fun _ => True) (.slice Ao24 t329.length co24) t329) ∧ Aside0 (wc.heap[gb324]? = some (.cells #[.string a0, .string ⟨#[]⟩, .string x325002_13, .string x325003_32, .bool false, (.slice Ao7 t325.length co7), (.slice Ao24 t329.length co24), .bool true, .bool false, .string ⟨#[]⟩] 33 (0, 0))) ∧ Aside0 (Below w.heap.size w wc))
       case first =>
        have H := HC33.out
        clear HC33
        by_cases c34 : x50_21 = true
        ·subst c34
         have H1 : (if 1 ≤ (t330.size : Int) then ((E2.spec_alpRun.f kj21 (t330.extract 1 t330.size)).bind fun t334 => (if 0 ≤ (wrap64 (1 + t334)) then (if (wrap64 (1 + t334)) ≤ (t330.size : Int) then (spec_AlpineParse.j3 kj21 (t330.extract ((wrap64 (1 + t334)) : Int).toNat t330.size) a0 (⟨#[]⟩ : ByteArray) x325002_13 (t330.extract 0 ((wrap64 (1 + t334)) : Int).toNat) false t325 t329 true false (⟨#[]⟩ : ByteArray)) else (none)) else (none))) else (none)) = some (r1, r2, r3, r4, r5, r6, r7, r8, r9, r10, r11) := by rw [if_pos rfl] at H; exact H
         clear H
         have H := H1
         clear H1
         by_cases c35 : 1 ≤ (t330.size : Int)
         ·rw [if_pos c35] at H
          have c35b0 := eq_true c35
          have c35b1 : decide (1 ≤ (t330.size : Int)) = true := decide_eq_true c35
          clear c35
          replace H := Option.bind_eq_some_iff.mp H
          obtain ⟨t334, A360, H⟩ := H
          replace H : (if 0 ≤ (wrap64 (1 + t334)) then (if (wrap64 (1 + t334)) ≤ (t330.size : Int) then (spec_AlpineParse.j3 kj21 (t330.extract ((wrap64 (1 + t334)) : Int).toNat t330.size) a0 (⟨#[]⟩ : ByteArray) x325002_13 (t330.extract 0 ((wrap64 (1 + t334)) : Int).toNat) false t325 t329 true false (⟨#[]⟩ : ByteArray)) else (none)) else (none)) = some (r1, r2, r3, r4, r5, r6, r7, r8, r9, r10, r11) := H
          have A36 := Aside0.mk A360
          clear A360
          obtain ⟨ji37, hji37⟩ : ∃ j_ : Int, (wrap64 (1 + t334)) = j_ := ⟨_, rfl⟩
          replace H : (if 0 ≤ (ji37) then (if (ji37) ≤ (t330.size : Int) then (spec_AlpineParse.j3 kj21 (t330.extract ((ji37) : Int).toNat t330.size) a0 (⟨#[]⟩ : ByteArray) x325002_13 (t330.extract 0 ((ji37) : Int).toNat) false t325 t329 true false (⟨#[]⟩ : ByteArray)) else (none)) else (none)) = some (r1, r2, r3, r4, r5, r6, r7, r8, r9, r10, r11) := by (rw [hji37] at H; exact H)
          (try rw [hji37] at A36)
          have hji37w : (IntKind.i64.wrap (1 + t334)) = ji37 := (i64_w _).trans hji37
          by_cases c38 : 0 ≤ (ji37)
          ·rw [if_pos c38] at H
           have c38b0 := eq_true c38
           have c38b1 : decide (0 ≤ (ji37)) = true := decide_eq_true c38
           clear c38
           by_cases c39 : (ji37) ≤ (t330.size : Int)
           ·rw [if_pos c39] at H
            have c39b0 := eq_true c39
            have c39b1 : decide ((ji37) ≤ (t330.size : Int)) = true := decide_eq_true c39
            clear c39
            have c40b0 := eq_true (of_decide_eq_true (by (with_reducible assumption)) : 0 ≤ (ji37))
            have c41b0 := eq_true (of_decide_eq_true (by (with_reducible assumption)) : (ji37) ≤ (t330.size : Int))
            have H' := Aside0.mk H
            clear H
            try go_wp2_with (((with_reducible refine gate_callee (f := 39) rfl ?_); refine goesL_ (some 53) rfl rfl Tryz.func39 (by kernel_rfl) rfl #[.string (t330.extract 1 t330.size), .func (.func 38) #[] #[]] rfl (by (try simp only [List.map_toArray, List.map_cons, List.map_nil]); first | done | rfl | (simp only [List.length_drop, List.length_take]; rfl)) ?_; (with_reducible refine (E2.spec_alpRun.calls kj21 (t330.extract 1 t330.size) t334 _ A36.out).mono ?_); rintro e w' ⟨rfl, ⟨nd, rfl⟩⟩; refine ⟨_, rfl, ?_⟩; (try (rw [drewN_self wc]; generalize hq_ : World.drewN wc _ = wc; have n0_ : Aside0 (Kd.R k52 52 wc w.heap.size (fun _ => True) (.slice Ao7 t325.length co7) t325) := ⟨by rw [← hq_]; exact (by (with_reducible repeat (first | apply Kd.R_alloc | apply Kd.R_drewN | apply Kd.R_drew)); exact HO_325005.out)⟩; have n1_ : Aside0 (Kd.R k56 56 wc w.heap.size (fun _ => True) (.slice Ao24 t329.length co24) t329) := ⟨by rw [← hq_]; exact (by (with_reducible repeat (first | apply Kd.R_alloc | apply Kd.R_drewN | apply Kd.R_drew)); exact HO_325006.out)⟩; have n2_ : Aside0 (wc.heap[gb324]? = some (.cells #[.string a0, .string ⟨#[]⟩, .string x325002_13, .string ⟨#[]⟩, .bool false, .slice Ao7 t325.length co7, .slice Ao24 t329.length co24, .bool true, .bool false, .string ⟨#[]⟩] 33 (0, 0))) := ⟨by rw [← hq_]; exact (by (with_reducible (refine blk_drewN ?_ _)); exact BK324.out)⟩; have n3_ : Aside0 (Below w.heap.size w wc) := ⟨by rw [← hq_]; exact (by (with_reducible apply pw_below_drewN; with_reducible exact HB.out))⟩; clear HO_325005 HO_325006 BK324 HB hq_; have HO_325005 := n0_; have HO_325006 := n1_; have BK324 := n2_; have HB := n3_; clear n0_ n1_ n2_ n3_))))
            replace HO_325005 := Aside0.mk (Kd.R_drew HO_325005.out)
            replace HO_325006 := Aside0.mk (Kd.R_drew HO_325006.out)
            replace BK324 := Aside0.mk (blk_drew BK324.out)
            replace HB := Aside0.mk (below_drew1 HB.out)
            refine start_ (n := 9) (S := fun w' => True) (ds := []) #[false, false, false, false, false, false, false, false, false] (by kernel_rfl) rfl rfl trivial (fun hHeld => ?_); refine with_tabW spec_AlpineParse.tab8 spec_AlpineParse.bits8 (fun HT_ HW_ => ?_)
            generalize wc.drew = w42 at HO_325005 HO_325006 BK324 HB hHeld ⊢
            refine pure_ (i := 0) (N := some 55) (v := ?_) (a' := ?_) #[true, false, false, false, false, false, false, false, false] rfl rfl (any_of HT_.out (by kernel_rfl)) (fun _ _ _ h => h) (Or.inl ⟨by rfl, ?_⟩) ?_ ?_
            rotate_left
            ·intro w'
             go_simp
             with_reducible rfl
            rotate_left
            ·simp only [Act.put, List.setIfInBounds_toArray, List.set_cons_zero, List.set_cons_succ, i64_w, i32_w]
             rfl
            refine pure_ (i := 1) (N := some 56) (v := ?_) (a' := ?_) #[true, true, false, false, false, false, false, false, false] rfl rfl (any_of HT_.out (by kernel_rfl)) (fun _ _ _ h => h) (Or.inl ⟨by rfl, ?_⟩) ?_ ?_
            rotate_left
            ·intro w'
             go_simp
             with_reducible rfl
            rotate_left
            ·simp only [Act.put, List.setIfInBounds_toArray, List.set_cons_zero, List.set_cons_succ, i64_w, i32_w]
             rfl
            refine pure_ (i := 2) (N := some 57) (v := ?_) (a' := ?_) #[true, true, true, false, false, false, false, false, false] rfl rfl (any_of HT_.out (by kernel_rfl)) (fun _ _ _ h => h) (Or.inl ⟨by rfl, ?_⟩) ?_ ?_
            rotate_left
            ·intro w'
             go_simp
             with_reducible rfl
            rotate_left
            ·simp only [Act.put, List.setIfInBounds_toArray, List.set_cons_zero, List.set_cons_succ, i64_w, i32_w]
             rfl
            refine pure_ (i := 3) (N := some 58) (v := ?_) (a' := ?_) #[true, true, true, true, false, false, false, false, false] rfl rfl (any_of HT_.out (by kernel_rfl)) (fun _ _ _ h => h) (Or.inl ⟨by rfl, ?_⟩) ?_ ?_
            rotate_left
            ·intro w'
             go_simp
             with_reducible rfl
            rotate_left
            ·simp only [Act.put, List.setIfInBounds_toArray, List.set_cons_zero, List.set_cons_succ, i64_w, i32_w]
             rfl
            refine pure_ (i := 4) (N := some 59) (v := ?_) (a' := ?_) #[true, true, true, true, true, false, false, false, false] rfl rfl (any_of HT_.out (by kernel_rfl)) (fun _ _ _ h => h) (Or.inl ⟨by rfl, ?_⟩) ?_ ?_
            rotate_left
            ·intro w'
             go_simp
             with_reducible rfl
            rotate_left
            ·simp only [Act.put, List.setIfInBounds_toArray, List.set_cons_zero, List.set_cons_succ, i64_w, i32_w]
             rfl
            refine pure_ (i := 5) (N := some 60) (v := ?_) (a' := ?_) #[true, true, true, true, true, true, false, false, false] rfl rfl (any_of HT_.out (by kernel_rfl)) (fun _ _ _ h => h) (Or.inl ⟨by rfl, ?_⟩) ?_ ?_
            rotate_left
            ·intro w'
             go_simp
             with_reducible rfl
            rotate_left
            ·simp only [Act.put, List.setIfInBounds_toArray, List.set_cons_zero, List.set_cons_succ, i64_w, i32_w]
             rfl
            refine pure_ (i := 6) (N := some 61) (v := ?_) (a' := ?_) #[true, true, true, true, true, true, true, false, false] rfl rfl (any_of HT_.out (by kernel_rfl)) (fun _ _ _ h => h) (Or.inl ⟨by rfl, ?_⟩) ?_ ?_
            rotate_left
            ·intro w'
             go_simp
             with_reducible rfl
            rotate_left
            ·simp only [Act.put, List.setIfInBounds_toArray, List.set_cons_zero, List.set_cons_succ, i64_w, i32_w]
             rfl
            refine one_ (i := 7) (N := none) #[true, true, true, true, true, true, true, true, false] rfl rfl (one_of HT_.out (by kernel_rfl)) (by decide) (fun K hK => ?_)
            have hs43 : w42.cell? ⟨gb324, 3, none⟩ = some (.string ⟨#[]⟩) := (blk_cell BK324.out 3).trans rfl
            have hfs43 := blk_frozen BK324.out 3
            refine skip_ (w1 := ?_) (by rfl) rfl ?_ ?_
            rotate_left
            ·go_simp
             rfl
            refine hK.out _ _ trivial (fun hHeld => ?_)
            clear hK K
            refine pure_ (i := 8) (N := some 0) (v := ?_) (a' := ?_) #[true, true, true, true, true, true, true, true, true] rfl rfl (any_of HT_.out (by kernel_rfl)) (fun _ _ _ h => h) (Or.inl ⟨by rfl, ?_⟩) ?_ ?_
            rotate_left
            ·intro w'
             go_simp
             with_reducible rfl
            rotate_left
            ·simp only [Act.put, List.setIfInBounds_toArray, List.set_cons_zero, List.set_cons_succ, i64_w, i32_w]
             rfl
            refine done_ (done_of HT_.out (by kernel_rfl)) ?_
            try go_wp2
            go_meet
            case rel => exact ⟨_, (t330.extract ((ji37) : Int).toNat t330.size), (t330.extract 0 ((ji37) : Int).toNat), (by rfl), (by exact H'), ⟨by have := HJ2.out; have := HJ13.out; have := HJ21.out; first | omega | exact Nat.le_refl _⟩, ⟨by (with_reducible repeat (first | apply Kd.R_alloc | apply Kd.R_drewN | apply Kd.R_drew)); exact Kd.R_mono (farC (Kd.R_types HO_325005.out BK324.out (by decide))) (fun _ hk => trivial)⟩, ⟨by (with_reducible repeat (first | apply Kd.R_alloc | apply Kd.R_drewN | apply Kd.R_drew)); exact Kd.R_mono (farC (Kd.R_types HO_325006.out BK324.out (by decide))) (fun _ hk => trivial)⟩, ⟨by refine blk_put (cs := #[.string a0, .string ⟨#[]⟩, .string x325002_13, .string ⟨#[]⟩, .bool false, .slice Ao7 t325.length co7, .slice Ao24 t329.length co24, .bool true, .bool false, .string ⟨#[]⟩]) ?_ 3 _ rfl; exact BK324.out⟩, ⟨by (with_reducible refine below_set ?_ GE324.out; with_reducible exact HB.out)⟩⟩
           ·rw [if_neg c39] at H
            exact absurd H (by simp)
          ·rw [if_neg c38] at H
           exact absurd H (by simp)
         ·rw [if_neg c35] at H
          exact absurd H (by simp)
        ·replace c34 := Bool.eq_false_iff.mpr c34
         subst c34
         have H1 : (spec_AlpineParse.j3 kj21 t330 a0 (⟨#[]⟩ : ByteArray) x325002_13 (⟨#[]⟩ : ByteArray) false t325 t329 true false (⟨#[]⟩ : ByteArray)) = some (r1, r2, r3, r4, r5, r6, r7, r8, r9, r10, r11) := by rw [if_neg (show ¬ (false = true) by decide)] at H; exact H
         clear H
         have H := H1
         clear H1
         have H' := Aside0.mk H
         clear H
         go_wp2
         go_meet
         case rel => exact ⟨_, (t330), ((⟨#[]⟩ : ByteArray)), (by rfl), (by exact H'), ⟨by have := HJ2.out; have := HJ13.out; have := HJ21.out; first | omega | exact Nat.le_refl _⟩, ⟨by (with_reducible repeat (first | apply Kd.R_alloc | apply Kd.R_drewN | apply Kd.R_drew)); exact HO_325005.out⟩, ⟨by (with_reducible repeat (first | apply Kd.R_alloc | apply Kd.R_drewN | apply Kd.R_drew)); exact HO_325006.out⟩, ⟨by exact BK324.out⟩, ⟨by (with_reducible exact HB.out)⟩⟩
       case rest =>
        clear HC33
        obtain ⟨kq, x0_32, x325003_32, rfl, HA, HJ32, HO_325005, HO_325006, BK324, HB⟩ := hcut
        cases kq with
        | zero => exact absurd HA.out (by simp [spec_AlpineParse.j3])
        | succ kj32 =>
         have H := HA.out
         clear HA
         simp only [spec_AlpineParse.j3] at H
         have HC44 := Aside0.mk H
         clear H
         go_upto_region 9 with (fail)
         go_cut [62] (fun v62 wc => ∃ (kq : Nat) (x62_43 : Bool), v62 = .bool x62_43 ∧ Aside0 (spec_AlpineParse.j4 kq x0_32 x62_43 a0 (⟨#[]⟩ : ByteArray) x325002_13 x325003_32 false t325 t329 true false (⟨#[]⟩ : ByteArray) = some (r1, r2, r3, r4, r5, r6, r7, r8, r9, r10, r11)) ∧ Aside0 (kq ≤ kj32) ∧ Aside0 (Kd.R k52 52 wc w.heap.size (fun _ => True) (.slice Ao7 t325.length co7) t325) ∧ Aside0 (Kd.R k56 56 wc w.heap.size (fun _ => True) (.slice Ao24 t329.length co24) t329) ∧ Aside0 (wc.heap[gb324]? = some (.cells #[.string a0, .string ⟨#[]⟩, .string x325002_13, .string x325003_32, .bool false, (.slice Ao7 t325.length co7), (.slice Ao24 t329.length co24), .bool true, .bool false, .string ⟨#[]⟩] 33 (0, 0))) ∧ Aside0 (Below w.heap.size w wc))
         case first =>
          have H := HC44.out
          clear HC44
          by_cases c45 : (x0_32.size : Int) > 1
          ·rw [if_pos c45] at H
           have c45b0 : decide (1 < (x0_32.size : Int)) = true := decide_eq_true c45
           have c45b1 : decide (1 < x0_32.size) = true := decide_eq_true (by omega)
           clear c45
           (first | rw [c45b0] | (simp only [i64_w, i32_w]; rw [c45b0]) | skip)
           by_cases c46 : 0 ≤ 2
           ·rw [if_pos c46] at H
            have c46b0 := eq_true c46
            have c46b1 : decide (0 ≤ 2) = true := decide_eq_true c46
            clear c46
            by_cases c47 : 2 ≤ (x0_32.size : Int)
            ·rw [if_pos c47] at H
             have c47b0 := eq_true c47
             have c47b1 : decide (2 ≤ (x0_32.size : Int)) = true := decide_eq_true c47
             clear c47
             have H' := Aside0.mk H
             clear H
             go_wp2
             go_meet
             case rel => exact ⟨_, (((x0_32.extract 0 2).toList == ([45, 114] : List UInt8))), (by rfl), (by exact H'), ⟨by have := HJ2.out; have := HJ13.out; have := HJ21.out; have := HJ32.out; first | omega | exact Nat.le_refl _⟩, ⟨by (with_reducible repeat (first | apply Kd.R_alloc | apply Kd.R_drewN | apply Kd.R_drew)); exact HO_325005.out⟩, ⟨by (with_reducible repeat (first | apply Kd.R_alloc | apply Kd.R_drewN | apply Kd.R_drew)); exact HO_325006.out⟩, ⟨by exact BK324.out⟩, ⟨by (with_reducible exact HB.out)⟩⟩
            ·rw [if_neg c47] at H
             exact absurd H (by simp)
           ·rw [if_neg c46] at H
            exact absurd H (by simp)
          ·rw [if_neg c45] at H
           have c45b0 : decide (1 < (x0_32.size : Int)) = false := decide_eq_false c45
           have c45b1 : decide (1 < x0_32.size) = false := decide_eq_false (by omega)
           clear c45
           (first | rw [c45b0] | (simp only [i64_w, i32_w]; rw [c45b0]) | skip)
           have H' := Aside0.mk H
           clear H
           go_wp2
           go_meet
           case rel => exact ⟨_, (false), (by rfl), (by exact H'), ⟨by have := HJ2.out; have := HJ13.out; have := HJ21.out; have := HJ32.out; first | omega | exact Nat.le_refl _⟩, ⟨by (with_reducible repeat (first | apply Kd.R_alloc | apply Kd.R_drewN | apply Kd.R_drew)); exact HO_325005.out⟩, ⟨by (with_reducible repeat (first | apply Kd.R_alloc | apply Kd.R_drewN | apply Kd.R_drew)); exact HO_325006.out⟩, ⟨by exact BK324.out⟩, ⟨by (with_reducible exact HB.out)⟩⟩
         case rest =>
          clear HC44
          obtain ⟨kq, x62_43, rfl, HA, HJ43, HO_325005, HO_325006, BK324, HB⟩ := hcut
          cases kq with
          | zero => exact absurd HA.out (by simp [spec_AlpineParse.j4])
          | succ kj43 =>
           have H := HA.out
           clear HA
           simp only [spec_AlpineParse.j4] at H
           by_cases c48 : x62_43 = true
           ·subst c48
            have H1 : (if 2 ≤ (x0_32.size : Int) then ((E1.spec_alpRun.f kj43 (x0_32.extract 2 x0_32.size)).bind fun t335 => (if 2 ≤ (wrap64 (2 + t335)) then (if (wrap64 (2 + t335)) ≤ (x0_32.size : Int) then ((spec_intOf.f kj43 (x0_32.extract 2 ((wrap64 (2 + t335)) : Int).toNat)).bind fun bt336 => (if 0 ≤ (wrap64 (2 + t335)) then (some (a0, x0_32.extract ((wrap64 (2 + t335)) : Int).toNat x0_32.size, x325002_13, x325003_32, false, t325, t329, true, bt336.1, bt336.2, true)) else (none))) else (none)) else (none))) else (none)) = some (r1, r2, r3, r4, r5, r6, r7, r8, r9, r10, r11) := by rw [if_pos rfl] at H; exact H
            clear H
            have H := H1
            clear H1
            by_cases c49 : 2 ≤ (x0_32.size : Int)
            ·rw [if_pos c49] at H
             have c49b0 := eq_true c49
             have c49b1 : decide (2 ≤ (x0_32.size : Int)) = true := decide_eq_true c49
             clear c49
             replace H := Option.bind_eq_some_iff.mp H
             obtain ⟨t335, A500, H⟩ := H
             replace H : (if 2 ≤ (wrap64 (2 + t335)) then (if (wrap64 (2 + t335)) ≤ (x0_32.size : Int) then ((spec_intOf.f kj43 (x0_32.extract 2 ((wrap64 (2 + t335)) : Int).toNat)).bind fun bt336 => (if 0 ≤ (wrap64 (2 + t335)) then (some (a0, x0_32.extract ((wrap64 (2 + t335)) : Int).toNat x0_32.size, x325002_13, x325003_32, false, t325, t329, true, bt336.1, bt336.2, true)) else (none))) else (none)) else (none)) = some (r1, r2, r3, r4, r5, r6, r7, r8, r9, r10, r11) := H
             have A50 := Aside0.mk A500
             clear A500
             by_cases c51 : 2 ≤ (wrap64 (2 + t335))
             ·rw [if_pos c51] at H
              have c51b0 := eq_true c51
              have c51b1 : decide (2 ≤ (wrap64 (2 + t335))) = true := decide_eq_true c51
              by_cases c52 : (wrap64 (2 + t335)) ≤ (x0_32.size : Int)
              ·rw [if_pos c52] at H
               have c52b0 := eq_true c52
               have c52b1 : decide ((wrap64 (2 + t335)) ≤ (x0_32.size : Int)) = true := decide_eq_true c52
               replace H := Option.bind_eq_some_iff.mp H
               obtain ⟨⟨t336, t337⟩, A530, H⟩ := H
               replace H : (if 0 ≤ (wrap64 (2 + t335)) then (some (a0, x0_32.extract ((wrap64 (2 + t335)) : Int).toNat x0_32.size, x325002_13, x325003_32, false, t325, t329, true, t336, t337, true)) else (none)) = some (r1, r2, r3, r4, r5, r6, r7, r8, r9, r10, r11) := H
               have A53 := Aside0.mk A530
               clear A530
               obtain ⟨ji54, hji54⟩ : ∃ j_ : Int, (wrap64 (2 + t335)) = j_ := ⟨_, rfl⟩
               (try rw [hji54] at hji37)
               (try rw [hji54] at hji37w)
               replace H : (if 0 ≤ (ji54) then (some (a0, x0_32.extract ((ji54) : Int).toNat x0_32.size, x325002_13, x325003_32, false, t325, t329, true, t336, t337, true)) else (none)) = some (r1, r2, r3, r4, r5, r6, r7, r8, r9, r10, r11) := by (rw [hji54] at H; exact H)
               (try rw [hji54] at c51b0)
               (try rw [hji54] at c51b1)
               (try rw [hji54] at c51)
               (try rw [hji54] at c52b0)
               (try rw [hji54] at c52b1)
               (try rw [hji54] at c52)
               (try rw [hji54] at A50)
               (try rw [hji54] at A53)
               have hji54w : (IntKind.i64.wrap (2 + t335)) = ji54 := (i64_w _).trans hji54
               by_cases c55 : 0 ≤ (ji54)
               ·rw [if_pos c55] at H
                have c55b0 := eq_true c55
                have c55b1 : decide (0 ≤ (ji54)) = true := decide_eq_true c55
                clear c55
                have c56b0 := eq_true (of_decide_eq_true (by (with_reducible assumption)) : (ji54) ≤ (x0_32.size : Int))
                simp only [Option.some.injEq, Prod.mk.injEq] at H
                obtain ⟨rfl, rfl, rfl, rfl, rfl, rfl, rfl, rfl, rfl, rfl, rfl⟩ := H
                try go_wp2_with (((with_reducible refine gate_callee (f := 39) rfl ?_); refine goesL_ (some 73) rfl rfl Tryz.func39 (by kernel_rfl) rfl #[.string (x0_32.extract 2 x0_32.size), .func (.func 40) #[] #[]] rfl (by (try simp only [List.map_toArray, List.map_cons, List.map_nil]); first | done | rfl | (simp only [List.length_drop, List.length_take]; rfl)) ?_; (with_reducible refine (E1.spec_alpRun.calls kj43 (x0_32.extract 2 x0_32.size) t335 _ A50.out).mono ?_); rintro e w' ⟨rfl, ⟨nd, rfl⟩⟩; refine ⟨_, rfl, ?_⟩; (try (rw [drewN_self wc]; generalize hq_ : World.drewN wc _ = wc; have n0_ : Aside0 (Kd.R k52 52 wc w.heap.size (fun _ => True) (.slice Ao7 t325.length co7) t325) := ⟨by rw [← hq_]; exact (by (with_reducible repeat (first | apply Kd.R_alloc | apply Kd.R_drewN | apply Kd.R_drew)); exact HO_325005.out)⟩; have n1_ : Aside0 (Kd.R k56 56 wc w.heap.size (fun _ => True) (.slice Ao24 t329.length co24) t329) := ⟨by rw [← hq_]; exact (by (with_reducible repeat (first | apply Kd.R_alloc | apply Kd.R_drewN | apply Kd.R_drew)); exact HO_325006.out)⟩; have n2_ : Aside0 (wc.heap[gb324]? = some (.cells #[.string a0, .string ⟨#[]⟩, .string x325002_13, .string x325003_32, .bool false, .slice Ao7 t325.length co7, .slice Ao24 t329.length co24, .bool true, .bool false, .string ⟨#[]⟩] 33 (0, 0))) := ⟨by rw [← hq_]; exact (by (with_reducible (refine blk_drewN ?_ _)); exact BK324.out)⟩; have n3_ : Aside0 (Below w.heap.size w wc) := ⟨by rw [← hq_]; exact (by (with_reducible apply pw_below_drewN; with_reducible exact HB.out))⟩; clear HO_325005 HO_325006 BK324 HB hq_; have HO_325005 := n0_; have HO_325006 := n1_; have BK324 := n2_; have HB := n3_; clear n0_ n1_ n2_ n3_))))
                replace HO_325005 := Aside0.mk (Kd.R_drew HO_325005.out)
                replace HO_325006 := Aside0.mk (Kd.R_drew HO_325006.out)
                replace BK324 := Aside0.mk (blk_drew BK324.out)
                replace HB := Aside0.mk (below_drew1 HB.out)
                refine start_ (n := 13) (S := fun w' => True) (ds := []) #[false, false, false, false, false, false, false, false, false, false, false, false, false] (by kernel_rfl) rfl rfl trivial (fun hHeld => ?_); refine with_tabW spec_AlpineParse.tab11 spec_AlpineParse.bits11 (fun HT_ HW_ => ?_)
                generalize wc.drew = w57 at HO_325005 HO_325006 BK324 HB hHeld ⊢
                refine pure_ (i := 0) (N := some 74) (v := ?_) (a' := ?_) #[true, false, false, false, false, false, false, false, false, false, false, false, false] rfl rfl (any_of HT_.out (by kernel_rfl)) (fun _ _ _ h => h) (Or.inl ⟨by rfl, ?_⟩) ?_ ?_
                rotate_left
                ·intro w'
                 go_simp
                 with_reducible rfl
                rotate_left
                ·simp only [Act.put, List.setIfInBounds_toArray, List.set_cons_zero, List.set_cons_succ, i64_w, i32_w]
                 rfl
                refine pure_ (i := 1) (N := some 75) (v := ?_) (a' := ?_) #[true, true, false, false, false, false, false, false, false, false, false, false, false] rfl rfl (any_of HT_.out (by kernel_rfl)) (fun _ _ _ h => h) (Or.inl ⟨by rfl, ?_⟩) ?_ ?_
                rotate_left
                ·intro w'
                 go_simp
                 with_reducible rfl
                rotate_left
                ·simp only [Act.put, List.setIfInBounds_toArray, List.set_cons_zero, List.set_cons_succ, i64_w, i32_w]
                 rfl
                refine pure_ (i := 2) (N := some 76) (v := ?_) (a' := ?_) #[true, true, true, false, false, false, false, false, false, false, false, false, false] rfl rfl (any_of HT_.out (by kernel_rfl)) (fun _ _ _ h => h) (Or.inl ⟨by rfl, ?_⟩) ?_ ?_
                rotate_left
                ·intro w'
                 go_simp
                 with_reducible rfl
                rotate_left
                ·simp only [Act.put, List.setIfInBounds_toArray, List.set_cons_zero, List.set_cons_succ, i64_w, i32_w]
                 rfl
                refine pure_ (i := 3) (N := some 77) (v := ?_) (a' := ?_) #[true, true, true, true, false, false, false, false, false, false, false, false, false] rfl rfl (any_of HT_.out (by kernel_rfl)) (fun _ _ _ h => h) (Or.inl ⟨by rfl, ?_⟩) ?_ ?_
                rotate_left
                ·intro w'
                 go_simp
                 with_reducible rfl
                rotate_left
                ·simp only [Act.put, List.setIfInBounds_toArray, List.set_cons_zero, List.set_cons_succ, i64_w, i32_w]
                 rfl
                refine pure_ (i := 5) (N := some 79) (v := ?_) (a' := ?_) #[true, true, true, true, false, true, false, false, false, false, false, false, false] rfl rfl (any_of HT_.out (by kernel_rfl)) (fun _ _ _ h => h) (Or.inl ⟨by rfl, ?_⟩) ?_ ?_
                rotate_left
                ·intro w'
                 go_simp
                 with_reducible rfl
                rotate_left
                ·simp only [Act.put, List.setIfInBounds_toArray, List.set_cons_zero, List.set_cons_succ, i64_w, i32_w]
                 rfl
                refine pure_ (i := 6) (N := some 80) (v := ?_) (a' := ?_) #[true, true, true, true, false, true, true, false, false, false, false, false, false] rfl rfl (any_of HT_.out (by kernel_rfl)) (fun _ _ _ h => h) (Or.inl ⟨by rfl, ?_⟩) ?_ ?_
                rotate_left
                ·intro w'
                 go_simp
                 with_reducible rfl
                rotate_left
                ·simp only [Act.put, List.setIfInBounds_toArray, List.set_cons_zero, List.set_cons_succ, i64_w, i32_w]
                 rfl
                refine pure_ (i := 7) (N := some 81) (v := ?_) (a' := ?_) #[true, true, true, true, false, true, true, true, false, false, false, false, false] rfl rfl (any_of HT_.out (by kernel_rfl)) (fun _ _ _ h => h) (Or.inl ⟨by rfl, ?_⟩) ?_ ?_
                rotate_left
                ·intro w'
                 go_simp
                 with_reducible rfl
                rotate_left
                ·simp only [Act.put, List.setIfInBounds_toArray, List.set_cons_zero, List.set_cons_succ, i64_w, i32_w]
                 rfl
                refine pure_ (i := 8) (N := some 82) (v := ?_) (a' := ?_) #[true, true, true, true, false, true, true, true, true, false, false, false, false] rfl rfl (any_of HT_.out (by kernel_rfl)) (fun _ _ _ h => h) (Or.inl ⟨by rfl, ?_⟩) ?_ ?_
                rotate_left
                ·intro w'
                 go_simp
                 with_reducible rfl
                rotate_left
                ·simp only [Act.put, List.setIfInBounds_toArray, List.set_cons_zero, List.set_cons_succ, i64_w, i32_w]
                 rfl
                refine one_ (i := 4) (N := some 78) #[true, true, true, true, true, true, true, true, true, false, false, false, false] rfl rfl (one_of HT_.out (by kernel_rfl)) (by decide) (fun K hK => ?_)
                refine goes_ Tryz.func41 (by kernel_rfl) rfl #[.string (x0_32.extract 2 ((ji54) : Int).toNat)] (by rfl) rfl rfl (by (try simp only [List.map_toArray, List.map_cons, List.map_nil]); first | done | (simp only [hji54]; rfl) | rfl | (simp only [List.length_drop, List.length_take]; rfl)) ?_
                with_reducible refine (spec_intOf.calls kj43 (x0_32.extract 2 ((ji54) : Int).toNat) t336 t337 _ A53.out).mono ?_
                rintro e w58 ⟨rfl, hb⟩
                refine ⟨_, rfl, ?_⟩
                replace HO_325005 := Aside0.mk (Kd.R_below (by (with_reducible repeat (first | apply Kd.R_alloc | apply Kd.R_drewN | apply Kd.R_drew)); exact HO_325005.out) hb)
                replace HO_325006 := Aside0.mk (Kd.R_below (by (with_reducible repeat (first | apply Kd.R_alloc | apply Kd.R_drewN | apply Kd.R_drew)); exact HO_325006.out) hb)
                replace BK324 := Aside0.mk (blk_below (g := gb324) (o := .cells #[.string a0, .string ⟨#[]⟩, .string x325002_13, .string x325003_32, .bool false, .slice Ao7 t325.length co7, .slice Ao24 t329.length co24, .bool true, .bool false, .string ⟨#[]⟩] 33 (0, 0)) (by exact BK324.out) hb)
                replace HB := Aside0.mk (below_step (by (with_reducible exact HB.out)) hb)
                (try clear hb)
                (try clear hb2)
                (try clear hk)
                (try clear hi)
                refine hK.out _ _ trivial (fun hHeld => ?_)
                clear hK K
                refine norm_ (a' := ?_) ?_ ?_
                rotate_left
                ·show Act.put _ (some 78) _ = _
                 simp only [Act.put, List.setIfInBounds_toArray, List.set_cons_zero, List.set_cons_succ, i64_w, i32_w]
                 rfl
                refine pure_ (i := 9) (N := some 83) (v := ?_) (a' := ?_) #[true, true, true, true, true, true, true, true, true, true, false, false, false] rfl rfl (any_of HT_.out (by kernel_rfl)) (fun _ _ _ h => h) (Or.inl ⟨by rfl, ?_⟩) ?_ ?_
                rotate_left
                ·intro w'
                 go_simp
                 with_reducible rfl
                rotate_left
                ·simp only [Act.put, List.setIfInBounds_toArray, List.set_cons_zero, List.set_cons_succ, i64_w, i32_w]
                 rfl
                refine one_ (i := 10) (N := none) #[true, true, true, true, true, true, true, true, true, true, true, false, false] rfl rfl (one_of HT_.out (by kernel_rfl)) (by decide) (fun K hK => ?_)
                have hs59 : w58.cell? ⟨gb324, 8, none⟩ = some (.bool false) := (blk_cell BK324.out 8).trans rfl
                have hfs59 := blk_frozen BK324.out 8
                have hs60 : w58.cell? ⟨gb324, 9, none⟩ = some (.string ⟨#[]⟩) := (blk_cell BK324.out 9).trans rfl
                have hfs60 := blk_frozen BK324.out 9
                refine skip_ (w1 := ?_) (by rfl) rfl ?_ ?_
                rotate_left
                ·go_simp
                 rfl
                refine hK.out _ _ trivial (fun hHeld => ?_)
                clear hK K
                refine pure_ (i := 11) (N := some 84) (v := ?_) (a' := ?_) #[true, true, true, true, true, true, true, true, true, true, true, true, false] rfl rfl (any_of HT_.out (by kernel_rfl)) (fun _ _ _ h => h) (Or.inl ⟨by rfl, ?_⟩) ?_ ?_
                rotate_left
                ·intro w'
                 go_simp
                 with_reducible rfl
                rotate_left
                ·simp only [Act.put, List.setIfInBounds_toArray, List.set_cons_zero, List.set_cons_succ, i64_w, i32_w]
                 rfl
                refine one_ (i := 12) (N := none) #[true, true, true, true, true, true, true, true, true, true, true, true, true] rfl rfl (one_of HT_.out (by kernel_rfl)) (by decide) (fun K hK => ?_)
                have hs61 : w58.cell? ⟨gb324, 1, none⟩ = some (.string ⟨#[]⟩) := (blk_cell BK324.out 1).trans rfl
                have hfs61 := blk_frozen BK324.out 1
                refine skip_ (w1 := ?_) (by rfl) rfl ?_ ?_
                rotate_left
                ·go_simp
                 rfl
                refine hK.out _ _ trivial (fun hHeld => ?_)
                clear hK K
                refine done_ (done_of HT_.out (by kernel_rfl)) ?_
                obtain ⟨hcz62_0, hcz62_1, hcz62_2, hcz62_3, hcz62_4, hcz62_5, hcz62_6, hcz62_7, hcz62_8, hcz62_9, hfz62_0, hfz62_1, hfz62_2, hfz62_3, hfz62_4, hfz62_5, hfz62_6, hfz62_7, hfz62_8, hfz62_9⟩ := cl10 BK324.out
                try go_wp2
                refine bodyPost_ret (results_ct rfl _ _ gb324 33 #[.string a0, .string (x0_32.extract ((ji54) : Int).toNat x0_32.size), .string x325002_13, .string x325003_32, .bool false, .slice Ao7 t325.length co7, .slice Ao24 t329.length co24, .bool true, .bool t336, .string t337] (0, 0) _ rfl (by refine blk_put (cs := #[.string a0, .string (x0_32.extract ((ji54) : Int).toNat x0_32.size), .string x325002_13, .string x325003_32, .bool false, .slice Ao7 t325.length co7, .slice Ao24 t329.length co24, .bool true, .bool t336, .string t337]) ?_ 9 _ rfl; refine blk_put (cs := #[.string a0, .string (x0_32.extract ((ji54) : Int).toNat x0_32.size), .string x325002_13, .string x325003_32, .bool false, .slice Ao7 t325.length co7, .slice Ao24 t329.length co24, .bool true, .bool t336, .string t337]) ?_ 8 _ rfl; refine blk_put (cs := #[.string a0, .string (x0_32.extract ((ji54) : Int).toNat x0_32.size), .string x325002_13, .string x325003_32, .bool false, .slice Ao7 t325.length co7, .slice Ao24 t329.length co24, .bool true, .bool t336, .string t337]) ?_ 7 _ rfl; refine blk_put (cs := #[.string a0, .string (x0_32.extract ((ji54) : Int).toNat x0_32.size), .string x325002_13, .string x325003_32, .bool false, .slice Ao7 t325.length co7, .slice Ao24 t329.length co24, .bool true, .bool t336, .string t337]) ?_ 6 _ rfl; refine blk_put (cs := #[.string a0, .string (x0_32.extract ((ji54) : Int).toNat x0_32.size), .string x325002_13, .string x325003_32, .bool false, .slice Ao7 t325.length co7, .slice Ao24 t329.length co24, .bool true, .bool t336, .string t337]) ?_ 5 _ rfl; refine blk_put (cs := #[.string a0, .string (x0_32.extract ((ji54) : Int).toNat x0_32.size), .string x325002_13, .string x325003_32, .bool false, .slice Ao7 t325.length co7, .slice Ao24 t329.length co24, .bool true, .bool t336, .string t337]) ?_ 4 _ rfl; refine blk_put (cs := #[.string a0, .string (x0_32.extract ((ji54) : Int).toNat x0_32.size), .string x325002_13, .string x325003_32, .bool false, .slice Ao7 t325.length co7, .slice Ao24 t329.length co24, .bool true, .bool t336, .string t337]) ?_ 3 _ rfl; refine blk_put (cs := #[.string a0, .string (x0_32.extract ((ji54) : Int).toNat x0_32.size), .string x325002_13, .string x325003_32, .bool false, .slice Ao7 t325.length co7, .slice Ao24 t329.length co24, .bool true, .bool t336, .string t337]) ?_ 2 _ rfl; refine blk_put (cs := #[.string a0, .string (x0_32.extract ((ji54) : Int).toNat x0_32.size), .string x325002_13, .string x325003_32, .bool false, .slice Ao7 t325.length co7, .slice Ao24 t329.length co24, .bool true, .bool t336, .string t337]) ?_ 1 _ rfl; refine blk_put (cs := #[.string a0, .string (x0_32.extract ((ji54) : Int).toNat x0_32.size), .string x325002_13, .string x325003_32, .bool false, .slice Ao7 t325.length co7, .slice Ao24 t329.length co24, .bool true, .bool t336, .string t337]) ?_ 0 _ rfl; refine blk_put (cs := #[.string a0, .string ⟨#[]⟩, .string x325002_13, .string x325003_32, .bool false, .slice Ao7 t325.length co7, .slice Ao24 t329.length co24, .bool true, .bool t336, .string t337]) ?_ 1 _ rfl; refine blk_put (cs := #[.string a0, .string ⟨#[]⟩, .string x325002_13, .string x325003_32, .bool false, .slice Ao7 t325.length co7, .slice Ao24 t329.length co24, .bool true, .bool t336, .string ⟨#[]⟩]) ?_ 9 _ rfl; refine blk_put (cs := #[.string a0, .string ⟨#[]⟩, .string x325002_13, .string x325003_32, .bool false, .slice Ao7 t325.length co7, .slice Ao24 t329.length co24, .bool true, .bool false, .string ⟨#[]⟩]) ?_ 8 _ rfl; exact BK324.out) Tryz.underlying33 rfl (by kernel_rfl)) rfl ?_
                exact ⟨_, _, by rfl, by (with_reducible repeat (first | apply Kd.R_alloc | apply Kd.R_drewN | apply Kd.R_drew)); exact Kd.R_mono (farC (farC (farC (farC (farC (farC (farC (farC (farC (farC (farC (farC (farC (Kd.R_types HO_325005.out BK324.out (by decide))))))))))))))) (fun _ hk => trivial), by (with_reducible repeat (first | apply Kd.R_alloc | apply Kd.R_drewN | apply Kd.R_drew)); exact Kd.R_mono (farC (farC (farC (farC (farC (farC (farC (farC (farC (farC (farC (farC (farC (Kd.R_types HO_325006.out BK324.out (by decide))))))))))))))) (fun _ hk => trivial), by repeat (first | (with_reducible first | exact HB.out | apply below_alloc | apply pw_below_drewN | apply below_drew1 | refine below_set ?_ GE324.out) | exact HB.out)⟩
               ·rw [if_neg c55] at H
                exact absurd H (by simp)
              ·rw [if_neg c52] at H
               exact absurd H (by simp)
             ·rw [if_neg c51] at H
              exact absurd H (by simp)
            ·rw [if_neg c49] at H
             exact absurd H (by simp)
           ·replace c48 := Bool.eq_false_iff.mpr c48
            subst c48
            have H1 : (if x0_32.toList = ([] : List UInt8) then (some (a0, (⟨#[]⟩ : ByteArray), x325002_13, x325003_32, false, t325, t329, true, false, (⟨#[]⟩ : ByteArray), true)) else (some (a0, x0_32, x325002_13, x325003_32, true, t325, t329, true, false, (⟨#[]⟩ : ByteArray), true))) = some (r1, r2, r3, r4, r5, r6, r7, r8, r9, r10, r11) := by rw [if_neg (show ¬ (false = true) by decide)] at H; exact H
            clear H
            have H := H1
            clear H1
            by_cases c63 : x0_32.toList = ([] : List UInt8)
            ·rw [if_pos c63] at H
             have c63b0 : (x0_32.toList == ([] : List UInt8)) = true := beq_iff_eq.mpr c63
             have c63b1 : (x0_32.toList != ([] : List UInt8)) = false := bne_eq_false_iff_eq.mpr c63
             try have c63b9 : x0_32.toList.isEmpty = true := by simpa using c63b0
             clear c63
             simp only [Option.some.injEq, Prod.mk.injEq] at H
             obtain ⟨rfl, rfl, rfl, rfl, rfl, rfl, rfl, rfl, rfl, rfl, rfl⟩ := H
             obtain ⟨hcz64_0, hcz64_1, hcz64_2, hcz64_3, hcz64_4, hcz64_5, hcz64_6, hcz64_7, hcz64_8, hcz64_9, hfz64_0, hfz64_1, hfz64_2, hfz64_3, hfz64_4, hfz64_5, hfz64_6, hfz64_7, hfz64_8, hfz64_9⟩ := cl10 BK324.out
             go_wp2
             refine bodyPost_ret (results_ct rfl _ _ gb324 33 #[.string a0, .string ⟨#[]⟩, .string x325002_13, .string x325003_32, .bool false, .slice Ao7 t325.length co7, .slice Ao24 t329.length co24, .bool true, .bool false, .string ⟨#[]⟩] (0, 0) _ rfl (by refine blk_put (cs := #[.string a0, .string ⟨#[]⟩, .string x325002_13, .string x325003_32, .bool false, .slice Ao7 t325.length co7, .slice Ao24 t329.length co24, .bool true, .bool false, .string ⟨#[]⟩]) ?_ 9 _ rfl; refine blk_put (cs := #[.string a0, .string ⟨#[]⟩, .string x325002_13, .string x325003_32, .bool false, .slice Ao7 t325.length co7, .slice Ao24 t329.length co24, .bool true, .bool false, .string ⟨#[]⟩]) ?_ 8 _ rfl; refine blk_put (cs := #[.string a0, .string ⟨#[]⟩, .string x325002_13, .string x325003_32, .bool false, .slice Ao7 t325.length co7, .slice Ao24 t329.length co24, .bool true, .bool false, .string ⟨#[]⟩]) ?_ 7 _ rfl; refine blk_put (cs := #[.string a0, .string ⟨#[]⟩, .string x325002_13, .string x325003_32, .bool false, .slice Ao7 t325.length co7, .slice Ao24 t329.length co24, .bool true, .bool false, .string ⟨#[]⟩]) ?_ 6 _ rfl; refine blk_put (cs := #[.string a0, .string ⟨#[]⟩, .string x325002_13, .string x325003_32, .bool false, .slice Ao7 t325.length co7, .slice Ao24 t329.length co24, .bool true, .bool false, .string ⟨#[]⟩]) ?_ 5 _ rfl; refine blk_put (cs := #[.string a0, .string ⟨#[]⟩, .string x325002_13, .string x325003_32, .bool false, .slice Ao7 t325.length co7, .slice Ao24 t329.length co24, .bool true, .bool false, .string ⟨#[]⟩]) ?_ 4 _ rfl; refine blk_put (cs := #[.string a0, .string ⟨#[]⟩, .string x325002_13, .string x325003_32, .bool false, .slice Ao7 t325.length co7, .slice Ao24 t329.length co24, .bool true, .bool false, .string ⟨#[]⟩]) ?_ 3 _ rfl; refine blk_put (cs := #[.string a0, .string ⟨#[]⟩, .string x325002_13, .string x325003_32, .bool false, .slice Ao7 t325.length co7, .slice Ao24 t329.length co24, .bool true, .bool false, .string ⟨#[]⟩]) ?_ 2 _ rfl; refine blk_put (cs := #[.string a0, .string ⟨#[]⟩, .string x325002_13, .string x325003_32, .bool false, .slice Ao7 t325.length co7, .slice Ao24 t329.length co24, .bool true, .bool false, .string ⟨#[]⟩]) ?_ 1 _ rfl; refine blk_put (cs := #[.string a0, .string ⟨#[]⟩, .string x325002_13, .string x325003_32, .bool false, .slice Ao7 t325.length co7, .slice Ao24 t329.length co24, .bool true, .bool false, .string ⟨#[]⟩]) ?_ 0 _ rfl; exact BK324.out) Tryz.underlying33 rfl (by kernel_rfl)) rfl ?_
             exact ⟨_, _, by rfl, by (with_reducible repeat (first | apply Kd.R_alloc | apply Kd.R_drewN | apply Kd.R_drew)); exact Kd.R_mono (farC (farC (farC (farC (farC (farC (farC (farC (farC (farC (Kd.R_types HO_325005.out BK324.out (by decide)))))))))))) (fun _ hk => trivial), by (with_reducible repeat (first | apply Kd.R_alloc | apply Kd.R_drewN | apply Kd.R_drew)); exact Kd.R_mono (farC (farC (farC (farC (farC (farC (farC (farC (farC (farC (Kd.R_types HO_325006.out BK324.out (by decide)))))))))))) (fun _ hk => trivial), by repeat (first | (with_reducible first | exact HB.out | apply below_alloc | apply pw_below_drewN | apply below_drew1 | refine below_set ?_ GE324.out) | exact HB.out)⟩
            ·rw [if_neg c63] at H
             have c63b0 : (x0_32.toList == ([] : List UInt8)) = false := beq_eq_false_iff_ne.mpr c63
             have c63b1 : (x0_32.toList != ([] : List UInt8)) = true := bne_iff_ne.mpr c63
             try have c63b9 : x0_32.toList.isEmpty = false := by simpa using c63b0
             simp only [Option.some.injEq, Prod.mk.injEq] at H
             obtain ⟨rfl, rfl, rfl, rfl, rfl, rfl, rfl, rfl, rfl, rfl, rfl⟩ := H
             obtain ⟨hcz65_0, hcz65_1, hcz65_2, hcz65_3, hcz65_4, hcz65_5, hcz65_6, hcz65_7, hcz65_8, hcz65_9, hfz65_0, hfz65_1, hfz65_2, hfz65_3, hfz65_4, hfz65_5, hfz65_6, hfz65_7, hfz65_8, hfz65_9⟩ := cl10 BK324.out
             go_wp2
             refine bodyPost_ret (results_ct rfl _ _ gb324 33 #[.string a0, .string x0_32, .string x325002_13, .string x325003_32, .bool true, .slice Ao7 t325.length co7, .slice Ao24 t329.length co24, .bool true, .bool false, .string ⟨#[]⟩] (0, 0) _ rfl (by refine blk_put (cs := #[.string a0, .string x0_32, .string x325002_13, .string x325003_32, .bool true, .slice Ao7 t325.length co7, .slice Ao24 t329.length co24, .bool true, .bool false, .string ⟨#[]⟩]) ?_ 9 _ rfl; refine blk_put (cs := #[.string a0, .string x0_32, .string x325002_13, .string x325003_32, .bool true, .slice Ao7 t325.length co7, .slice Ao24 t329.length co24, .bool true, .bool false, .string ⟨#[]⟩]) ?_ 8 _ rfl; refine blk_put (cs := #[.string a0, .string x0_32, .string x325002_13, .string x325003_32, .bool true, .slice Ao7 t325.length co7, .slice Ao24 t329.length co24, .bool true, .bool false, .string ⟨#[]⟩]) ?_ 7 _ rfl; refine blk_put (cs := #[.string a0, .string x0_32, .string x325002_13, .string x325003_32, .bool true, .slice Ao7 t325.length co7, .slice Ao24 t329.length co24, .bool true, .bool false, .string ⟨#[]⟩]) ?_ 6 _ rfl; refine blk_put (cs := #[.string a0, .string x0_32, .string x325002_13, .string x325003_32, .bool true, .slice Ao7 t325.length co7, .slice Ao24 t329.length co24, .bool true, .bool false, .string ⟨#[]⟩]) ?_ 5 _ rfl; refine blk_put (cs := #[.string a0, .string x0_32, .string x325002_13, .string x325003_32, .bool true, .slice Ao7 t325.length co7, .slice Ao24 t329.length co24, .bool true, .bool false, .string ⟨#[]⟩]) ?_ 4 _ rfl; refine blk_put (cs := #[.string a0, .string x0_32, .string x325002_13, .string x325003_32, .bool true, .slice Ao7 t325.length co7, .slice Ao24 t329.length co24, .bool true, .bool false, .string ⟨#[]⟩]) ?_ 3 _ rfl; refine blk_put (cs := #[.string a0, .string x0_32, .string x325002_13, .string x325003_32, .bool true, .slice Ao7 t325.length co7, .slice Ao24 t329.length co24, .bool true, .bool false, .string ⟨#[]⟩]) ?_ 2 _ rfl; refine blk_put (cs := #[.string a0, .string x0_32, .string x325002_13, .string x325003_32, .bool true, .slice Ao7 t325.length co7, .slice Ao24 t329.length co24, .bool true, .bool false, .string ⟨#[]⟩]) ?_ 1 _ rfl; refine blk_put (cs := #[.string a0, .string x0_32, .string x325002_13, .string x325003_32, .bool true, .slice Ao7 t325.length co7, .slice Ao24 t329.length co24, .bool true, .bool false, .string ⟨#[]⟩]) ?_ 0 _ rfl; refine blk_put (cs := #[.string a0, .string ⟨#[]⟩, .string x325002_13, .string x325003_32, .bool true, .slice Ao7 t325.length co7, .slice Ao24 t329.length co24, .bool true, .bool false, .string ⟨#[]⟩]) ?_ 1 _ rfl; refine blk_put (cs := #[.string a0, .string ⟨#[]⟩, .string x325002_13, .string x325003_32, .bool false, .slice Ao7 t325.length co7, .slice Ao24 t329.length co24, .bool true, .bool false, .string ⟨#[]⟩]) ?_ 4 _ rfl; exact BK324.out) Tryz.underlying33 rfl (by kernel_rfl)) rfl ?_
             exact ⟨_, _, by rfl, by (with_reducible repeat (first | apply Kd.R_alloc | apply Kd.R_drewN | apply Kd.R_drew)); exact Kd.R_mono (farC (farC (farC (farC (farC (farC (farC (farC (farC (farC (farC (farC (Kd.R_types HO_325005.out BK324.out (by decide)))))))))))))) (fun _ hk => trivial), by (with_reducible repeat (first | apply Kd.R_alloc | apply Kd.R_drewN | apply Kd.R_drew)); exact Kd.R_mono (farC (farC (farC (farC (farC (farC (farC (farC (farC (farC (farC (farC (Kd.R_types HO_325006.out BK324.out (by decide)))))))))))))) (fun _ hk => trivial), by repeat (first | (with_reducible first | exact HB.out | apply below_alloc | apply pw_below_drewN | apply below_drew1 | refine below_set ?_ GE324.out) | exact HB.out)⟩
end Go.Proofs.YtapaijpglfmfgaaGreatDoor.Q
end
section -- Qx6
namespace Go.Proofs.YtapaijpglfmfgaaGreatDoor.Q
open Go.RowKit Go.Proofs.YtapaijpglfmfgaaGreatDoorH Go.Proofs.YtapaijpglfmfgaaGreatDoorG Go.Proofs.YtapaijpglfmfgaaGreatDoorW.PrintWords Go.Proofs.YtapaijpglfmfgaaGreatDoorW.PrintLast Go.Proofs.YtapaijpglfmfgaaGreatDoorW.PrintMore
attribute [local go_sem] max2_int min2_int max_two min_two max_three min_three max_four min_four
set_option linter.unusedVariables false
set_option linter.unusedSimpArgs false
def laws_weights.f  : Option (List Int) := some (([0, 1, 2, 3, 5, 6, 7, 8, 9] : List Int))
set_option maxHeartbeats 8000000 in
set_option maxRecDepth 100000 in
theorem laws_weights.calls  (r : List Int) (w : World) (h : laws_weights.f  = some r) :
  Calls Tryz.prog 22 #[] w fun e w' => ∃ v0_ : Value, e = .returned (v0_) ∧ Kd.R (Kd.int .i64) 3 w' w.heap.size (fun _ => True) v0_ r ∧ Below w.heap.size w w' := by
 have HB := Aside0.mk (Below.refl w.heap.size w)
 have H : (some (([0, 1, 2, 3, 5, 6, 7, 8, 9] : List Int))) = some r := h
 clear h
 obtain ⟨y140, hy140⟩ : ∃ y_ : List Int, y_ = (([0, 1, 2, 3, 5, 6, 7, 8, 9] : List Int)) := ⟨_, rfl⟩
 replace H : (some y140) = some r := by first | (rw [hy140]; with_reducible exact H) | (have H2_ := (Option.bind_some _ _).symm.trans H; rw [hy140]; with_reducible exact H2_) | (have H2_ := (Option.bind_some _ _).symm.trans H; with_reducible exact H2_) | with_reducible exact H | (rw [hy140]; exact H) | exact H
 have Ny140 := Aside0.mk hy140
 clear hy140
 obtain rfl := Option.some.inj H
 go_enter Tryz.func22, Tryz.ntmps22
 go_wp2_with (first | ((with_reducible refine gate_dst (N := 1) rfl ?_); refine Kd.R_lit (Kd.int .i64) _ 3 ?hg (N := 1) ?hd (xs := ([0, 1, 2, 3, 5, 6, 7, 8, 9] : List Int)) (inner := [.int .i64 0, .int .i64 1, .int .i64 2, .int .i64 3, .int .i64 5, .int .i64 6, .int .i64 7, .int .i64 8, .int .i64 9]) (ok := fun _ => True) (okp := fun _ => True) ?hr ?hp (fun _ hk => hk) trivial (Below.refl _ _) (Nat.le_refl _) (by simp) ?_; (case hd => rfl); (case hg => rfl); (case hr => first | (go_simp; done) | (go_simp; rfl)); (case hp => exact (Reps.one (show Kd.M (Kd.int .i64) _ _ _ 0 [.int .i64 0] from rfl) (Reps.one (show Kd.M (Kd.int .i64) _ _ _ 1 [.int .i64 1] from rfl) (Reps.one (show Kd.M (Kd.int .i64) _ _ _ 2 [.int .i64 2] from rfl) (Reps.one (show Kd.M (Kd.int .i64) _ _ _ 3 [.int .i64 3] from rfl) (Reps.one (show Kd.M (Kd.int .i64) _ _ _ 5 [.int .i64 5] from rfl) (Reps.one (show Kd.M (Kd.int .i64) _ _ _ 6 [.int .i64 6] from rfl) (Reps.one (show Kd.M (Kd.int .i64) _ _ _ 7 [.int .i64 7] from rfl) (Reps.one (show Kd.M (Kd.int .i64) _ _ _ 8 [.int .i64 8] from rfl) (Reps.one (show Kd.M (Kd.int .i64) _ _ _ 9 [.int .i64 9] from rfl) (Reps.none _ _))))))))))); intro v141 w1 ho2 hb hg_ hnew_; clear hg_ hnew_; (first | rw [← Ny140.out] at ho2 | (simp only [Int.reduceToNat] at ho2; rw [← Ny140.out] at ho2)); have n0_ := Aside0.mk (Kd.R_lower ho2 (below_size (by repeat (first | (with_reducible first | exact HB.out | apply below_alloc | apply pw_below_drewN | apply below_drew1) | exact HB.out)))); have n1_ := Aside0.mk (below_step (by repeat (first | (with_reducible first | exact HB.out | apply below_alloc | apply pw_below_drewN | apply below_drew1) | exact HB.out)) hb); clear HB; have HO142 := n0_; have HB := n1_; clear n0_ n1_; clear hb ho2))
 go_ret
 exact ⟨_, by first | rfl | (simp [errW_none, errW_some] <;> rfl) | (simp [*, errW_none, errW_some] <;> rfl) | (simp [bne_nil_hyb]; done), by (with_reducible repeat (first | apply Kd.R_alloc | apply Kd.R_drewN | apply Kd.R_drew)); exact HO142.out, by repeat (first | (with_reducible first | exact HB.out | apply below_alloc | apply pw_below_drewN | apply below_drew1) | exact HB.out)⟩
def laws_suffixes.f  : Option (List ByteArray) := some (([(⟨#[97, 108, 112, 104, 97]⟩ : ByteArray), (⟨#[98, 101, 116, 97]⟩ : ByteArray), (⟨#[112, 114, 101]⟩ : ByteArray), (⟨#[114, 99]⟩ : ByteArray), (⟨#[99, 118, 115]⟩ : ByteArray), (⟨#[115, 118, 110]⟩ : ByteArray), (⟨#[103, 105, 116]⟩ : ByteArray), (⟨#[104, 103]⟩ : ByteArray), (⟨#[112]⟩ : ByteArray)] : List ByteArray))
set_option maxHeartbeats 8000000 in
set_option maxRecDepth 100000 in
theorem laws_suffixes.calls  (r : List ByteArray) (w : World) (h : laws_suffixes.f  = some r) :
  Calls Tryz.prog 23 #[] w fun e w' => ∃ v0_ : Value, e = .returned (v0_) ∧ Kd.R Kd.string 9 w' w.heap.size (fun _ => True) v0_ r ∧ Below w.heap.size w w' := by
 have HB := Aside0.mk (Below.refl w.heap.size w)
 have H : (some (([(⟨#[97, 108, 112, 104, 97]⟩ : ByteArray), (⟨#[98, 101, 116, 97]⟩ : ByteArray), (⟨#[112, 114, 101]⟩ : ByteArray), (⟨#[114, 99]⟩ : ByteArray), (⟨#[99, 118, 115]⟩ : ByteArray), (⟨#[115, 118, 110]⟩ : ByteArray), (⟨#[103, 105, 116]⟩ : ByteArray), (⟨#[104, 103]⟩ : ByteArray), (⟨#[112]⟩ : ByteArray)] : List ByteArray))) = some r := h
 clear h
 obtain ⟨y143, hy143⟩ : ∃ y_ : List ByteArray, y_ = (([(⟨#[97, 108, 112, 104, 97]⟩ : ByteArray), (⟨#[98, 101, 116, 97]⟩ : ByteArray), (⟨#[112, 114, 101]⟩ : ByteArray), (⟨#[114, 99]⟩ : ByteArray), (⟨#[99, 118, 115]⟩ : ByteArray), (⟨#[115, 118, 110]⟩ : ByteArray), (⟨#[103, 105, 116]⟩ : ByteArray), (⟨#[104, 103]⟩ : ByteArray), (⟨#[112]⟩ : ByteArray)] : List ByteArray)) := ⟨_, rfl⟩
 replace H : (some y143) = some r := by first | (rw [hy143]; with_reducible exact H) | (have H2_ := (Option.bind_some _ _).symm.trans H; rw [hy143]; with_reducible exact H2_) | (have H2_ := (Option.bind_some _ _).symm.trans H; with_reducible exact H2_) | with_reducible exact H | (rw [hy143]; exact H) | exact H
 have Ny143 := Aside0.mk hy143
 clear hy143
 obtain rfl := Option.some.inj H
 go_enter Tryz.func23, Tryz.ntmps23
 go_wp2_with (first | ((with_reducible refine gate_dst (N := 1) rfl ?_); refine Kd.R_lit Kd.string _ 9 ?hg (N := 1) ?hd (xs := ([(⟨#[97, 108, 112, 104, 97]⟩ : ByteArray), (⟨#[98, 101, 116, 97]⟩ : ByteArray), (⟨#[112, 114, 101]⟩ : ByteArray), (⟨#[114, 99]⟩ : ByteArray), (⟨#[99, 118, 115]⟩ : ByteArray), (⟨#[115, 118, 110]⟩ : ByteArray), (⟨#[103, 105, 116]⟩ : ByteArray), (⟨#[104, 103]⟩ : ByteArray), (⟨#[112]⟩ : ByteArray)] : List ByteArray)) (inner := [.string (⟨#[97, 108, 112, 104, 97]⟩ : ByteArray), .string (⟨#[98, 101, 116, 97]⟩ : ByteArray), .string (⟨#[112, 114, 101]⟩ : ByteArray), .string (⟨#[114, 99]⟩ : ByteArray), .string (⟨#[99, 118, 115]⟩ : ByteArray), .string (⟨#[115, 118, 110]⟩ : ByteArray), .string (⟨#[103, 105, 116]⟩ : ByteArray), .string (⟨#[104, 103]⟩ : ByteArray), .string (⟨#[112]⟩ : ByteArray)]) (ok := fun _ => True) (okp := fun _ => True) ?hr ?hp (fun _ hk => hk) trivial (Below.refl _ _) (Nat.le_refl _) (by simp) ?_; (case hd => rfl); (case hg => rfl); (case hr => first | (go_simp; done) | (go_simp; rfl)); (case hp => exact (Reps.one (show Kd.M Kd.string _ _ _ (⟨#[97, 108, 112, 104, 97]⟩ : ByteArray) [.string (⟨#[97, 108, 112, 104, 97]⟩ : ByteArray)] from rfl) (Reps.one (show Kd.M Kd.string _ _ _ (⟨#[98, 101, 116, 97]⟩ : ByteArray) [.string (⟨#[98, 101, 116, 97]⟩ : ByteArray)] from rfl) (Reps.one (show Kd.M Kd.string _ _ _ (⟨#[112, 114, 101]⟩ : ByteArray) [.string (⟨#[112, 114, 101]⟩ : ByteArray)] from rfl) (Reps.one (show Kd.M Kd.string _ _ _ (⟨#[114, 99]⟩ : ByteArray) [.string (⟨#[114, 99]⟩ : ByteArray)] from rfl) (Reps.one (show Kd.M Kd.string _ _ _ (⟨#[99, 118, 115]⟩ : ByteArray) [.string (⟨#[99, 118, 115]⟩ : ByteArray)] from rfl) (Reps.one (show Kd.M Kd.string _ _ _ (⟨#[115, 118, 110]⟩ : ByteArray) [.string (⟨#[115, 118, 110]⟩ : ByteArray)] from rfl) (Reps.one (show Kd.M Kd.string _ _ _ (⟨#[103, 105, 116]⟩ : ByteArray) [.string (⟨#[103, 105, 116]⟩ : ByteArray)] from rfl) (Reps.one (show Kd.M Kd.string _ _ _ (⟨#[104, 103]⟩ : ByteArray) [.string (⟨#[104, 103]⟩ : ByteArray)] from rfl) (Reps.one (show Kd.M Kd.string _ _ _ (⟨#[112]⟩ : ByteArray) [.string (⟨#[112]⟩ : ByteArray)] from rfl) (Reps.none _ _))))))))))); intro v144 w1 ho2 hb hg_ hnew_; clear hg_ hnew_; (first | rw [← Ny143.out] at ho2 | (simp only [Int.reduceToNat] at ho2; rw [← Ny143.out] at ho2)); have n0_ := Aside0.mk (Kd.R_lower ho2 (below_size (by repeat (first | (with_reducible first | exact HB.out | apply below_alloc | apply pw_below_drewN | apply below_drew1) | exact HB.out)))); have n1_ := Aside0.mk (below_step (by repeat (first | (with_reducible first | exact HB.out | apply below_alloc | apply pw_below_drewN | apply below_drew1) | exact HB.out)) hb); clear HB; have HO145 := n0_; have HB := n1_; clear n0_ n1_; clear hb ho2))
 go_ret
 exact ⟨_, by first | rfl | (simp [errW_none, errW_some] <;> rfl) | (simp [*, errW_none, errW_some] <;> rfl) | (simp [bne_nil_hyb]; done), by (with_reducible repeat (first | apply Kd.R_alloc | apply Kd.R_drewN | apply Kd.R_drew)); exact HO145.out, by repeat (first | (with_reducible first | exact HB.out | apply below_alloc | apply pw_below_drewN | apply below_drew1) | exact HB.out)⟩
end Go.Proofs.YtapaijpglfmfgaaGreatDoor.Q
end
