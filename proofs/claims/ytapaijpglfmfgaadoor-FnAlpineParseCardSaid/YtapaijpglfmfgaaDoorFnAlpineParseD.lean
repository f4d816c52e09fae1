/- Proved here, for the row of the law FnAlpineParse: contracts of the Go functions that it reaches, each as its theorem 'calls' says, and the words and plain laws that they need (Qx14, Qx15, Qx16, Qx1, Qx2, Qx3, Qx17). -/
import Derived.Test.YtapaijpglfmfgaaDoorFnAlpineParseC
section -- Qx14
namespace Go.Proofs.YtapaijpglfmfgaaDoor.Q
open Go.RowKit Go.Proofs.YtapaijpglfmfgaaDoorH Go.Proofs.YtapaijpglfmfgaaDoorG Go.Proofs.YtapaijpglfmfgaaDoorW.PrintWords Go.Proofs.YtapaijpglfmfgaaDoorW.PrintLast Go.Proofs.YtapaijpglfmfgaaDoorW.PrintMore
attribute [local go_sem] max2_int min2_int max_two min_two max_three min_three max_four min_four   -- for this text's walks alone
set_option linter.unusedVariables false
set_option linter.unusedSimpArgs false
def spec_alpWord.l0 : Nat → ByteArray → List ByteArray → Int → Option (ByteArray)
 | 0, _, _, _ => none
 | k + 1, x0, x3, x4 => if x4 < (x3.length : Int) then (if 0 ≤ x4 then (if (x0.size : Int) > ((rdOf ByteArray.empty x3 x4).size : Int) then (if 0 < (x0.size : Int) then (if (bt x0 0) = 95 then (if 1 ≤ (wrap64 (((rdOf ByteArray.empty x3 x4).size : Int) + 1)) then (if (wrap64 (((rdOf ByteArray.empty x3 x4).size : Int) + 1)) ≤ (x0.size : Int) then (if (x0.extract 1 ((wrap64 (((rdOf ByteArray.empty x3 x4).size : Int) + 1)) : Int).toNat).toList = (rdOf ByteArray.empty x3 x4).toList then (some (rdOf ByteArray.empty x3 x4)) else (spec_alpWord.l0 k x0 x3 (wrap64 (x4 + 1)))) else (none)) else (none)) else (spec_alpWord.l0 k x0 x3 (wrap64 (x4 + 1)))) else (none)) else (spec_alpWord.l0 k x0 x3 (wrap64 (x4 + 1)))) else (none)) else (some (⟨#[]⟩ : ByteArray))
def spec_alpWord.f (k : Nat) (a0 : ByteArray) : Option (ByteArray) := (spec_alpWords.f).bind fun t344 => (spec_alpWord.l0 k a0 t344 0)
set_option maxHeartbeats 8000000 in
set_option maxRecDepth 100000 in
theorem spec_alpWord.calls (k : Nat) (a0 : ByteArray) (r : ByteArray) (w : World) (h : spec_alpWord.f k a0 = some r) :
  Calls Tryd.prog 28 #[.string a0] w fun e w' => e = .returned (.string r) ∧ Below w.heap.size w w' := by
 have HB := Aside0.mk (Below.refl w.heap.size w)
 have H : ((spec_alpWords.f).bind fun t344 => (spec_alpWord.l0 k a0 t344 0)) = some r := h
 clear h
 replace H := Option.bind_eq_some_iff.mp H
 obtain ⟨t344, A20, H⟩ := H
 replace H : (spec_alpWord.l0 k a0 t344 0) = some r := H
 have A2 := Aside0.mk A20
 clear A20
 have H' := Aside0.mk H
 clear H
 go_enter Tryd.func28, Tryd.ntmps28
 go_wp2_with (first | (go_at_call 41; (with_reducible refine (spec_alpWords.calls  t344 _ A2.out).mono ?_); rintro e w3 ⟨v345, rfl, ho0, hb⟩; have n0_ := Aside0.mk (Kd.R_lower ho0 (below_size (by (with_reducible exact HB.out)))); have n1_ := Aside0.mk (below_step (by (with_reducible exact HB.out)) hb); clear HB; have HO346 := n0_; have HB := n1_; clear n0_ n1_; (try clear hb); (try clear hb2); (try clear hk); (try clear hi); (try clear ho0)))
 repeat (go_quiet (first | (go_at_call 41; (with_reducible refine (spec_alpWords.calls  t344 _ A2.out).mono ?_); rintro e w3 ⟨v345, rfl, ho0, hb⟩; have n0_ := Aside0.mk (Kd.R_lower ho0 (below_size (by repeat (first | (with_reducible first | exact HB.out | apply below_alloc | apply pw_below_drewN | apply below_drew1) | exact HB.out)))); have n1_ := Aside0.mk (below_step (by repeat (first | (with_reducible first | exact HB.out | apply below_alloc | apply pw_below_drewN | apply below_drew1) | exact HB.out)) hb); clear HB; have HO346 := n0_; have HB := n1_; clear n0_ n1_; (try clear hb); (try clear hb2); (try clear hk); (try clear hi); (try clear ho0))); try go_wp2_with (first | (go_at_call 41; (with_reducible refine (spec_alpWords.calls  t344 _ A2.out).mono ?_); rintro e w3 ⟨v345, rfl, ho0, hb⟩; have n0_ := Aside0.mk (Kd.R_lower ho0 (below_size (by repeat (first | (with_reducible first | exact HB.out | apply below_alloc | apply pw_below_drewN | apply below_drew1) | exact HB.out)))); have n1_ := Aside0.mk (below_step (by repeat (first | (with_reducible first | exact HB.out | apply below_alloc | apply pw_below_drewN | apply below_drew1) | exact HB.out)) hb); clear HB; have HO346 := n0_; have HB := n1_; clear n0_ n1_; (try clear hb); (try clear hb2); (try clear hk); (try clear hi); (try clear ho0))))
 (try simp only [Act.put, List.setIfInBounds_toArray, List.set_cons_zero, List.set_cons_succ])
 go_loopg [4] k (fun kq v4 w' => ∃ (x4_1 : Int), v4 = .int .i64 x4_1 ∧ Aside0 (spec_alpWord.l0 kq a0 t344 x4_1 = some r) ∧ Aside0 (kq ≤ k) ∧ Aside0 (Kd.R Kd.string 9 w' w.heap.size (fun _ => True) v345 t344) ∧ Aside0 (Below w.heap.size w w'))
 case atStart => exact ⟨(0), (by rfl), H', ⟨Nat.le_refl _⟩, ⟨by (with_reducible repeat (first | apply Kd.R_alloc | apply Kd.R_drewN | apply Kd.R_drew)); exact HO346.out⟩, ⟨by (with_reducible exact HB.out)⟩⟩
 case round =>
  clear H'
  obtain ⟨x4_1, rfl, HA, HK1, HO_3, HB⟩ := hrel
  cases gk with
  | zero => exact absurd HA.out (by simp [spec_alpWord.l0])
  | succ k1 =>
   have H := HA.out
   clear HA
   simp only [spec_alpWord.l0] at H
   by_cases c4 : x4_1 < (t344.length : Int)
   ·rw [if_pos c4] at H
    have c4b0 : decide (x4_1 < (t344.length : Int)) = true := decide_eq_true c4
    clear c4
    by_cases c5 : 0 ≤ x4_1
    ·rw [if_pos c5] at H
     have c5b0 : decide (0 ≤ x4_1) = true := decide_eq_true c5
     clear c5
     by_cases c6 : (a0.size : Int) > ((rdOf ByteArray.empty t344 x4_1).size : Int)
     ·rw [if_pos c6] at H
      have c6b0 : decide (((rdOf ByteArray.empty t344 x4_1).size : Int) < (a0.size : Int)) = true := decide_eq_true c6
      have c6b1 : decide ((rdOf ByteArray.empty t344 x4_1).size < a0.size) = true := decide_eq_true (Int.ofNat_lt.mp c6)
      clear c6
      by_cases c7 : 0 < (a0.size : Int)
      ·rw [if_pos c7] at H
       have c7b0 : decide (0 < (a0.size : Int)) = true := decide_eq_true c7
       have c7b1 : decide (0 < a0.size) = true := decide_eq_true (by omega)
       clear c7
       by_cases c9 : (bt a0 0) = 95
       ·rw [if_pos c9] at H
        have c9b0 : ((bt a0 0) == 95) = true := beq_iff_eq.mpr c9
        have c9b1 : ((bt a0 0) != 95) = false := bne_eq_false_iff_eq.mpr c9
        clear c9
        by_cases c10 : 1 ≤ (wrap64 (((rdOf ByteArray.empty t344 x4_1).size : Int) + 1))
        ·rw [if_pos c10] at H
         have c10b0 := eq_true c10
         have c10b1 : decide (1 ≤ (wrap64 (((rdOf ByteArray.empty t344 x4_1).size : Int) + 1))) = true := decide_eq_true c10
         by_cases c11 : (wrap64 (((rdOf ByteArray.empty t344 x4_1).size : Int) + 1)) ≤ (a0.size : Int)
         ·rw [if_pos c11] at H
          have c11b0 := eq_true c11
          have c11b1 : decide ((wrap64 (((rdOf ByteArray.empty t344 x4_1).size : Int) + 1)) ≤ (a0.size : Int)) = true := decide_eq_true c11
          by_cases c12 : (a0.extract 1 ((wrap64 (((rdOf ByteArray.empty t344 x4_1).size : Int) + 1)) : Int).toNat).toList = (rdOf ByteArray.empty t344 x4_1).toList
          ·rw [if_pos c12] at H
           have c12b0 : ((a0.extract 1 ((wrap64 (((rdOf ByteArray.empty t344 x4_1).size : Int) + 1)) : Int).toNat).toList == (rdOf ByteArray.empty t344 x4_1).toList) = true := beq_iff_eq.mpr c12
           have c12b1 : ((a0.extract 1 ((wrap64 (((rdOf ByteArray.empty t344 x4_1).size : Int) + 1)) : Int).toNat).toList != (rdOf ByteArray.empty t344 x4_1).toList) = false := bne_eq_false_iff_eq.mpr c12
           clear c12
           obtain rfl := Option.some.inj H
           obtain ⟨Ao13, co13, eo13⟩ := Kd.R_slice HO_3.out
           subst eo13
           have p347 : 0 ≤ (x4_1 : Int) := of_decide_eq_true (by (with_reducible assumption))
           have q347 : x4_1 < (t344.length : Int) := of_decide_eq_true (by (with_reducible assumption))
           obtain ⟨ad347, e347, hx347_0⟩ := Kd.at_string (Kd.R_reads' HO_3.out).2.2 x4_1 p347 q347
           cases e347
           replace p347 := eq_true p347
           replace q347 := eq_true q347
           have p8 : 0 ≤ (0 : Int) := (by omega)
           have q8 : 0 < a0.size := (by have : (0 : Int) < (a0.size : Int) := of_decide_eq_true (by (with_reducible assumption)); omega)
           have hx8 : ∀ h : 0 < a0.size, ((a0[0]'h).toNat : Int) = bt a0 0 := bt_at a0 0
           clear p8
           have qi8 : (0 < (a0.size : Int)) = True := eq_true (of_decide_eq_true (by (with_reducible assumption)))
           replace q8 := eq_true q8
           have p348 : 0 ≤ (x4_1 : Int) := of_decide_eq_true (by (with_reducible assumption))
           have q348 : x4_1 < (t344.length : Int) := of_decide_eq_true (by (with_reducible assumption))
           obtain ⟨ad348, e348, hx348_0⟩ := Kd.at_string (Kd.R_reads' HO_3.out).2.2 x4_1 p348 q348
           obtain rfl : ad347 = ad348 := (by injection e348)
           replace p348 := eq_true p348
           replace q348 := eq_true q348
           have p349 : 0 ≤ (x4_1 : Int) := of_decide_eq_true (by (with_reducible assumption))
           have q349 : x4_1 < (t344.length : Int) := of_decide_eq_true (by (with_reducible assumption))
           obtain ⟨ad349, e349, hx349_0⟩ := Kd.at_string (Kd.R_reads' HO_3.out).2.2 x4_1 p349 q349
           obtain rfl : ad347 = ad349 := (by injection e349)
           replace p349 := eq_true p349
           replace q349 := eq_true q349
           have p350 : 0 ≤ (x4_1 : Int) := of_decide_eq_true (by (with_reducible assumption))
           have q350 : x4_1 < (t344.length : Int) := of_decide_eq_true (by (with_reducible assumption))
           obtain ⟨ad350, e350, hx350_0⟩ := Kd.at_string (Kd.R_reads' HO_3.out).2.2 x4_1 p350 q350
           obtain rfl : ad347 = ad350 := (by injection e350)
           replace p350 := eq_true p350
           replace q350 := eq_true q350
           go_wp2
           repeat (go_quiet (fail); try go_wp2)
           go_ret
           exact ⟨by rfl, by (with_reducible apply pw_below_drewN; with_reducible exact HB.out)⟩
          ·rw [if_neg c12] at H
           have c12b0 : ((a0.extract 1 ((wrap64 (((rdOf ByteArray.empty t344 x4_1).size : Int) + 1)) : Int).toNat).toList == (rdOf ByteArray.empty t344 x4_1).toList) = false := beq_eq_false_iff_ne.mpr c12
           have c12b1 : ((a0.extract 1 ((wrap64 (((rdOf ByteArray.empty t344 x4_1).size : Int) + 1)) : Int).toNat).toList != (rdOf ByteArray.empty t344 x4_1).toList) = true := bne_iff_ne.mpr c12
           have H' := Aside0.mk H
           clear H
           obtain ⟨Ao14, co14, eo14⟩ := Kd.R_slice HO_3.out
           subst eo14
           have p347 : 0 ≤ (x4_1 : Int) := of_decide_eq_true (by (with_reducible assumption))
           have q347 : x4_1 < (t344.length : Int) := of_decide_eq_true (by (with_reducible assumption))
           obtain ⟨ad347, e347, hx347_0⟩ := Kd.at_string (Kd.R_reads' HO_3.out).2.2 x4_1 p347 q347
           cases e347
           replace p347 := eq_true p347
           replace q347 := eq_true q347
           have p8 : 0 ≤ (0 : Int) := (by omega)
           have q8 : 0 < a0.size := (by have : (0 : Int) < (a0.size : Int) := of_decide_eq_true (by (with_reducible assumption)); omega)
           have hx8 : ∀ h : 0 < a0.size, ((a0[0]'h).toNat : Int) = bt a0 0 := bt_at a0 0
           clear p8
           have qi8 : (0 < (a0.size : Int)) = True := eq_true (of_decide_eq_true (by (with_reducible assumption)))
           replace q8 := eq_true q8
           have p348 : 0 ≤ (x4_1 : Int) := of_decide_eq_true (by (with_reducible assumption))
           have q348 : x4_1 < (t344.length : Int) := of_decide_eq_true (by (with_reducible assumption))
           obtain ⟨ad348, e348, hx348_0⟩ := Kd.at_string (Kd.R_reads' HO_3.out).2.2 x4_1 p348 q348
           obtain rfl : ad347 = ad348 := (by injection e348)
           replace p348 := eq_true p348
           replace q348 := eq_true q348
           have p349 : 0 ≤ (x4_1 : Int) := of_decide_eq_true (by (with_reducible assumption))
           have q349 : x4_1 < (t344.length : Int) := of_decide_eq_true (by (with_reducible assumption))
           obtain ⟨ad349, e349, hx349_0⟩ := Kd.at_string (Kd.R_reads' HO_3.out).2.2 x4_1 p349 q349
           obtain rfl : ad347 = ad349 := (by injection e349)
           replace p349 := eq_true p349
           replace q349 := eq_true q349
           go_wp2
           repeat (go_quiet (fail); try go_wp2)
           go_roundg k1
           case measure => have := HK1.out; omega
           case rel => exact ⟨(wrap64 (x4_1 + 1)), (by rfl), H', ⟨by have := HK1.out; omega⟩, ⟨by (with_reducible repeat (first | apply Kd.R_alloc | apply Kd.R_drewN | apply Kd.R_drew)); exact HO_3.out⟩, ⟨by (with_reducible apply pw_below_drewN; with_reducible exact HB.out)⟩⟩
         ·rw [if_neg c11] at H
          exact absurd H (by simp)
        ·rw [if_neg c10] at H
         exact absurd H (by simp)
       ·rw [if_neg c9] at H
        have c9b0 : ((bt a0 0) == 95) = false := beq_eq_false_iff_ne.mpr c9
        have c9b1 : ((bt a0 0) != 95) = true := bne_iff_ne.mpr c9
        have H' := Aside0.mk H
        clear H
        obtain ⟨Ao15, co15, eo15⟩ := Kd.R_slice HO_3.out
        subst eo15
        have p347 : 0 ≤ (x4_1 : Int) := of_decide_eq_true (by (with_reducible assumption))
        have q347 : x4_1 < (t344.length : Int) := of_decide_eq_true (by (with_reducible assumption))
        obtain ⟨ad347, e347, hx347_0⟩ := Kd.at_string (Kd.R_reads' HO_3.out).2.2 x4_1 p347 q347
        cases e347
        replace p347 := eq_true p347
        replace q347 := eq_true q347
        have p8 : 0 ≤ (0 : Int) := (by omega)
        have q8 : 0 < a0.size := (by have : (0 : Int) < (a0.size : Int) := of_decide_eq_true (by (with_reducible assumption)); omega)
        have hx8 : ∀ h : 0 < a0.size, ((a0[0]'h).toNat : Int) = bt a0 0 := bt_at a0 0
        clear p8
        have qi8 : (0 < (a0.size : Int)) = True := eq_true (of_decide_eq_true (by (with_reducible assumption)))
        replace q8 := eq_true q8
        go_wp2
        repeat (go_quiet (fail); try go_wp2)
        go_roundg k1
        case measure => have := HK1.out; omega
        case rel => exact ⟨(wrap64 (x4_1 + 1)), (by rfl), H', ⟨by have := HK1.out; omega⟩, ⟨by (with_reducible repeat (first | apply Kd.R_alloc | apply Kd.R_drewN | apply Kd.R_drew)); exact HO_3.out⟩, ⟨by (with_reducible apply pw_below_drewN; with_reducible exact HB.out)⟩⟩
      ·rw [if_neg c7] at H
       exact absurd H (by simp)
     ·rw [if_neg c6] at H
      have c6b0 : decide (((rdOf ByteArray.empty t344 x4_1).size : Int) < (a0.size : Int)) = false := decide_eq_false c6
      have c6b1 : decide ((rdOf ByteArray.empty t344 x4_1).size < a0.size) = false := decide_eq_false (fun h => c6 (Int.ofNat_lt.mpr h))
      clear c6
      have H' := Aside0.mk H
      clear H
      obtain ⟨Ao16, co16, eo16⟩ := Kd.R_slice HO_3.out
      subst eo16
      have p347 : 0 ≤ (x4_1 : Int) := of_decide_eq_true (by (with_reducible assumption))
      have q347 : x4_1 < (t344.length : Int) := of_decide_eq_true (by (with_reducible assumption))
      obtain ⟨ad347, e347, hx347_0⟩ := Kd.at_string (Kd.R_reads' HO_3.out).2.2 x4_1 p347 q347
      cases e347
      replace p347 := eq_true p347
      replace q347 := eq_true q347
      go_wp2
      repeat (go_quiet (fail); try go_wp2)
      go_roundg k1
      case measure => have := HK1.out; omega
      case rel => exact ⟨(wrap64 (x4_1 + 1)), (by rfl), H', ⟨by have := HK1.out; omega⟩, ⟨by (with_reducible repeat (first | apply Kd.R_alloc | apply Kd.R_drewN | apply Kd.R_drew)); exact HO_3.out⟩, ⟨by (with_reducible apply pw_below_drewN; with_reducible exact HB.out)⟩⟩
    ·rw [if_neg c5] at H
     exact absurd H (by simp)
   ·rw [if_neg c4] at H
    have c4b0 : decide (x4_1 < (t344.length : Int)) = false := decide_eq_false c4
    clear c4
    obtain rfl := Option.some.inj H
    obtain ⟨Ao17, co17, eo17⟩ := Kd.R_slice HO_3.out
    subst eo17
    go_wp2
    repeat (go_quiet (fail); try go_wp2)
    go_ret
    exact ⟨by rfl, by (with_reducible exact HB.out)⟩
def spec_SuffixWeight.l0 : Nat → ByteArray → List ByteArray → Int → Option (Int)
 | 0, _, _, _ => none
 | k + 1, x0, x3, x4 => if x4 < (x3.length : Int) then (if 0 ≤ x4 then (if (rdOf ByteArray.empty x3 x4).toList = x0.toList then (some x4) else (spec_SuffixWeight.l0 k x0 x3 (wrap64 (x4 + 1)))) else (none)) else (some (x3.length : Int))
def spec_SuffixWeight.f (k : Nat) (a0 : ByteArray) : Option (Int) := spec_SuffixWeight.l0 k a0 (([(⟨#[97, 108, 112, 104, 97]⟩ : ByteArray), (⟨#[98, 101, 116, 97]⟩ : ByteArray), (⟨#[112, 114, 101]⟩ : ByteArray), (⟨#[114, 99]⟩ : ByteArray), (⟨#[]⟩ : ByteArray), (⟨#[99, 118, 115]⟩ : ByteArray), (⟨#[115, 118, 110]⟩ : ByteArray), (⟨#[103, 105, 116]⟩ : ByteArray), (⟨#[104, 103]⟩ : ByteArray)] : List ByteArray)) 0
set_option maxHeartbeats 8000000 in
set_option maxRecDepth 100000 in
theorem spec_SuffixWeight.calls (k : Nat) (a0 : ByteArray) (r : Int) (w : World) (h : spec_SuffixWeight.f k a0 = some r) :
  Calls Tryd.prog 40 #[.string a0] w fun e w' => e = .returned (.int .i64 r) ∧ Below w.heap.size w w' := by
 have HB := Aside0.mk (Below.refl w.heap.size w)
 have H : (spec_SuffixWeight.l0 k a0 (([(⟨#[97, 108, 112, 104, 97]⟩ : ByteArray), (⟨#[98, 101, 116, 97]⟩ : ByteArray), (⟨#[112, 114, 101]⟩ : ByteArray), (⟨#[114, 99]⟩ : ByteArray), (⟨#[]⟩ : ByteArray), (⟨#[99, 118, 115]⟩ : ByteArray), (⟨#[115, 118, 110]⟩ : ByteArray), (⟨#[103, 105, 116]⟩ : ByteArray), (⟨#[104, 103]⟩ : ByteArray)] : List ByteArray)) 0) = some r := h
 clear h
 obtain ⟨y351, hy351⟩ : ∃ y_ : List ByteArray, y_ = (([(⟨#[97, 108, 112, 104, 97]⟩ : ByteArray), (⟨#[98, 101, 116, 97]⟩ : ByteArray), (⟨#[112, 114, 101]⟩ : ByteArray), (⟨#[114, 99]⟩ : ByteArray), (⟨#[]⟩ : ByteArray), (⟨#[99, 118, 115]⟩ : ByteArray), (⟨#[115, 118, 110]⟩ : ByteArray), (⟨#[103, 105, 116]⟩ : ByteArray), (⟨#[104, 103]⟩ : ByteArray)] : List ByteArray)) := ⟨_, rfl⟩
 replace H : (spec_SuffixWeight.l0 k a0 y351 0) = some r := by (rw [hy351]; with_reducible exact H)
 have Ny351 := Aside0.mk hy351
 clear hy351
 have H' := Aside0.mk H
 clear H
 go_enter Tryd.func40, Tryd.ntmps40
 go_wp2_with (first | ((with_reducible refine gate_dst (N := 5) rfl ?_); refine Kd.R_lit Kd.string _ 9 ?hg (N := 5) ?hd (xs := ([(⟨#[97, 108, 112, 104, 97]⟩ : ByteArray), (⟨#[98, 101, 116, 97]⟩ : ByteArray), (⟨#[112, 114, 101]⟩ : ByteArray), (⟨#[114, 99]⟩ : ByteArray), (⟨#[]⟩ : ByteArray), (⟨#[99, 118, 115]⟩ : ByteArray), (⟨#[115, 118, 110]⟩ : ByteArray), (⟨#[103, 105, 116]⟩ : ByteArray), (⟨#[104, 103]⟩ : ByteArray)] : List ByteArray)) (inner := [.string (⟨#[97, 108, 112, 104, 97]⟩ : ByteArray), .string (⟨#[98, 101, 116, 97]⟩ : ByteArray), .string (⟨#[112, 114, 101]⟩ : ByteArray), .string (⟨#[114, 99]⟩ : ByteArray), .string ⟨#[]⟩, .string (⟨#[99, 118, 115]⟩ : ByteArray), .string (⟨#[115, 118, 110]⟩ : ByteArray), .string (⟨#[103, 105, 116]⟩ : ByteArray), .string (⟨#[104, 103]⟩ : ByteArray)]) (ok := fun _ => True) (okp := fun _ => True) ?hr ?hp (fun _ hk => hk) trivial (Below.refl _ _) (Nat.le_refl _) (by simp) ?_; (case hd => rfl); (case hg => rfl); (case hr => first | (go_simp; done) | (go_simp; rfl)); (case hp => exact (Reps.one (show Kd.M Kd.string _ _ _ (⟨#[97, 108, 112, 104, 97]⟩ : ByteArray) [.string (⟨#[97, 108, 112, 104, 97]⟩ : ByteArray)] from rfl) (Reps.one (show Kd.M Kd.string _ _ _ (⟨#[98, 101, 116, 97]⟩ : ByteArray) [.string (⟨#[98, 101, 116, 97]⟩ : ByteArray)] from rfl) (Reps.one (show Kd.M Kd.string _ _ _ (⟨#[112, 114, 101]⟩ : ByteArray) [.string (⟨#[112, 114, 101]⟩ : ByteArray)] from rfl) (Reps.one (show Kd.M Kd.string _ _ _ (⟨#[114, 99]⟩ : ByteArray) [.string (⟨#[114, 99]⟩ : ByteArray)] from rfl) (Reps.one (show Kd.M Kd.string _ _ _ (⟨#[]⟩ : ByteArray) [.string ⟨#[]⟩] from rfl) (Reps.one (show Kd.M Kd.string _ _ _ (⟨#[99, 118, 115]⟩ : ByteArray) [.string (⟨#[99, 118, 115]⟩ : ByteArray)] from rfl) (Reps.one (show Kd.M Kd.string _ _ _ (⟨#[115, 118, 110]⟩ : ByteArray) [.string (⟨#[115, 118, 110]⟩ : ByteArray)] from rfl) (Reps.one (show Kd.M Kd.string _ _ _ (⟨#[103, 105, 116]⟩ : ByteArray) [.string (⟨#[103, 105, 116]⟩ : ByteArray)] from rfl) (Reps.one (show Kd.M Kd.string _ _ _ (⟨#[104, 103]⟩ : ByteArray) [.string (⟨#[104, 103]⟩ : ByteArray)] from rfl) (Reps.none _ _))))))))))); intro v352 w2 ho3 hb hg_ hnew_; clear hg_ hnew_; (first | rw [← Ny351.out] at ho3 | (simp only [Int.reduceToNat] at ho3; rw [← Ny351.out] at ho3)); have n0_ := Aside0.mk (Kd.R_lower ho3 (below_size (by (with_reducible exact HB.out)))); have n1_ := Aside0.mk (below_step (by (with_reducible exact HB.out)) hb); clear HB; have HO353 := n0_; have HB := n1_; clear n0_ n1_; clear hb ho3))
 (try simp only [Act.put, List.setIfInBounds_toArray, List.set_cons_zero, List.set_cons_succ])
 go_loopg [4] k (fun kq v4 w' => ∃ (x4_1 : Int), v4 = .int .i64 x4_1 ∧ Aside0 (spec_SuffixWeight.l0 kq a0 y351 x4_1 = some r) ∧ Aside0 (kq ≤ k) ∧ Aside0 (Kd.R Kd.string 9 w' w.heap.size (fun _ => True) v352 y351) ∧ Aside0 (Below w.heap.size w w'))
 case atStart => exact ⟨(0), (by rfl), H', ⟨Nat.le_refl _⟩, ⟨by (with_reducible repeat (first | apply Kd.R_alloc | apply Kd.R_drewN | apply Kd.R_drew)); exact HO353.out⟩, ⟨by (with_reducible exact HB.out)⟩⟩
 case round =>
  clear H'
  obtain ⟨x4_1, rfl, HA, HK1, HO_3, HB⟩ := hrel
  cases gk with
  | zero => exact absurd HA.out (by simp [spec_SuffixWeight.l0])
  | succ k1 =>
   have H := HA.out
   clear HA
   simp only [spec_SuffixWeight.l0] at H
   by_cases c4 : x4_1 < (y351.length : Int)
   ·rw [if_pos c4] at H
    have c4b0 : decide (x4_1 < (y351.length : Int)) = true := decide_eq_true c4
    clear c4
    by_cases c5 : 0 ≤ x4_1
    ·rw [if_pos c5] at H
     have c5b0 : decide (0 ≤ x4_1) = true := decide_eq_true c5
     clear c5
     by_cases c6 : (rdOf ByteArray.empty y351 x4_1).toList = a0.toList
     ·rw [if_pos c6] at H
      have c6b0 : ((rdOf ByteArray.empty y351 x4_1).toList == a0.toList) = true := beq_iff_eq.mpr c6
      have c6b1 : ((rdOf ByteArray.empty y351 x4_1).toList != a0.toList) = false := bne_eq_false_iff_eq.mpr c6
      clear c6
      obtain rfl := Option.some.inj H
      obtain ⟨Ao7, co7, eo7⟩ := Kd.R_slice HO_3.out
      subst eo7
      have p354 : 0 ≤ (x4_1 : Int) := of_decide_eq_true (by (with_reducible assumption))
      have q354 : x4_1 < (y351.length : Int) := of_decide_eq_true (by (with_reducible assumption))
      obtain ⟨ad354, e354, hx354_0⟩ := Kd.at_string (Kd.R_reads' HO_3.out).2.2 x4_1 p354 q354
      cases e354
      replace p354 := eq_true p354
      replace q354 := eq_true q354
      go_wp2
      go_ret
      exact ⟨by rfl, by (with_reducible exact HB.out)⟩
     ·rw [if_neg c6] at H
      have c6b0 : ((rdOf ByteArray.empty y351 x4_1).toList == a0.toList) = false := beq_eq_false_iff_ne.mpr c6
      have c6b1 : ((rdOf ByteArray.empty y351 x4_1).toList != a0.toList) = true := bne_iff_ne.mpr c6
      have H' := Aside0.mk H
      clear H
      obtain ⟨Ao8, co8, eo8⟩ := Kd.R_slice HO_3.out
      subst eo8
      have p354 : 0 ≤ (x4_1 : Int) := of_decide_eq_true (by (with_reducible assumption))
      have q354 : x4_1 < (y351.length : Int) := of_decide_eq_true (by (with_reducible assumption))
      obtain ⟨ad354, e354, hx354_0⟩ := Kd.at_string (Kd.R_reads' HO_3.out).2.2 x4_1 p354 q354
      cases e354
      replace p354 := eq_true p354
      replace q354 := eq_true q354
      go_wp2
      go_roundg k1
      case measure => have := HK1.out; omega
      case rel => exact ⟨(wrap64 (x4_1 + 1)), (by rfl), H', ⟨by have := HK1.out; omega⟩, ⟨by (with_reducible repeat (first | apply Kd.R_alloc | apply Kd.R_drewN | apply Kd.R_drew)); exact HO_3.out⟩, ⟨by (with_reducible exact HB.out)⟩⟩
    ·rw [if_neg c5] at H
     exact absurd H (by simp)
   ·rw [if_neg c4] at H
    have c4b0 : decide (x4_1 < (y351.length : Int)) = false := decide_eq_false c4
    clear c4
    obtain rfl := Option.some.inj H
    obtain ⟨Ao9, co9, eo9⟩ := Kd.R_slice HO_3.out
    subst eo9
    go_wp2
    go_ret
    exact ⟨by rfl, by (with_reducible exact HB.out)⟩
def spec_alpReadSuffixes.l0 : Nat → ByteArray → List (S58) → Option ((List (S58)) × ByteArray)
 | 0, _, _ => none
 | k + 1, x0, x2 => (spec_alpWord.f k x0).bind fun t355 => (if t355.toList = ([] : List UInt8) then (some (x2, x0)) else (if 0 ≤ (wrap64 ((t355.size : Int) + 1)) then (if (wrap64 ((t355.size : Int) + 1)) ≤ (x0.size : Int) then ((some (x0.extract ((wrap64 ((t355.size : Int) + 1)) : Int).toNat x0.size : ByteArray)).bind fun y356 => ((E1.spec_alpRun.f k y356).bind fun t357 => ((spec_SuffixWeight.f k t355).bind fun t358 => (if 0 ≤ t357 then (if t357 ≤ (y356.size : Int) then ((spec_intOf.f k (y356.extract 0 (t357 : Int).toNat)).bind fun bt359 => (if x2.length < 4398046511104 then (spec_alpReadSuffixes.l0 k (y356.extract (t357 : Int).toNat y356.size) (x2 ++ [(⟨t358, (⟨bt359.1, bt359.2⟩ : S31)⟩ : S58)])) else (none))) else (none)) else (none))))) else (none)) else (none)))
def spec_alpReadSuffixes.f (k : Nat) (a0 : ByteArray) : Option ((List (S58)) × ByteArray) := spec_alpReadSuffixes.l0 k a0 ([] : List (S58))
def spec_alpReadSuffixes.T6 : Bool × List (List Nat × List Nat) := (true, [([], []), ([], []), ([1], [1]), ([], []), ([], []), ([3, 4], [3, 4]), ([5, 2], [5]), ([2, 6], [2, 6]), ([7], [7]), ([0, 8, 6], [0, 8]), ([9, 9, 0, 1, 2, 3, 4, 5, 6, 7, 8, 9], [0, 9])])
def spec_alpReadSuffixes.B6 : List Nat := [0, 0, 2, 0, 0, 24, 62, 126, 254, 511, 1023]
theorem spec_alpReadSuffixes.tab6 : rtab .any (opsOf Tryd.f27 6) = spec_alpReadSuffixes.T6 := by kernel_rfl
theorem spec_alpReadSuffixes.bits6 : waitsOk spec_alpReadSuffixes.T6.2 spec_alpReadSuffixes.B6 = true := by kernel_rfl
set_option maxHeartbeats 8000000 in
set_option maxRecDepth 100000 in
theorem spec_alpReadSuffixes.calls (k : Nat) (a0 : ByteArray) (r1 : List (S58)) (r2 : ByteArray) (w : World) (h : spec_alpReadSuffixes.f k a0 = some (r1, r2)) :
  Calls Tryd.prog 27 #[.string a0] w fun e w' => ∃ v0_ : Value, e = .returned (.tuple #[v0_, .string r2]) ∧ Kd.R k58 58 w' w.heap.size (fun _ => True) v0_ r1 ∧ Below w.heap.size w w' := by
 have hu58 := Tryd.underlying58
 have HB := Aside0.mk (Below.refl w.heap.size w)
 have H : (spec_alpReadSuffixes.l0 k a0 ([] : List (S58))) = some (r1, r2) := h
 clear h
 have H' := Aside0.mk H
 clear H
 go_enter Tryd.func27, Tryd.ntmps27
 go_wp2
 (try simp only [Act.put, List.setIfInBounds_toArray, List.set_cons_zero, List.set_cons_succ])
 go_loopg [0, 2] k (fun kq v0 v2 w' => ∃ (x0_1 : ByteArray) (x2_1 : List (S58)), v0 = .string x0_1 ∧ Aside0 (spec_alpReadSuffixes.l0 kq x0_1 x2_1 = some (r1, r2)) ∧ Aside0 (kq ≤ k) ∧ Aside0 (Kd.R k58 58 w' w.heap.size (fun _ => True) v2 x2_1) ∧ Aside0 (Below w.heap.size w w'))
 case atStart => exact ⟨(a0), (([] : List (S58))), (by rfl), H', ⟨Nat.le_refl _⟩, ⟨by exact Kd.R_nil _ _ _ _ _⟩, ⟨by (with_reducible exact HB.out)⟩⟩
 case round =>
  clear H'
  obtain ⟨x0_1, x2_1, rfl, HA, HK1, HO_2, HB⟩ := hrel
  cases gk with
  | zero => exact absurd HA.out (by simp [spec_alpReadSuffixes.l0])
  | succ k1 =>
   have H := HA.out
   clear HA
   simp only [spec_alpReadSuffixes.l0] at H
   replace H := Option.bind_eq_some_iff.mp H
   obtain ⟨t355, A20, H⟩ := H
   replace H : (if t355.toList = ([] : List UInt8) then (some (x2_1, x0_1)) else (if 0 ≤ (wrap64 ((t355.size : Int) + 1)) then (if (wrap64 ((t355.size : Int) + 1)) ≤ (x0_1.size : Int) then ((some (x0_1.extract ((wrap64 ((t355.size : Int) + 1)) : Int).toNat x0_1.size : ByteArray)).bind fun y356 => ((E1.spec_alpRun.f k1 y356).bind fun t357 => ((spec_SuffixWeight.f k1 t355).bind fun t358 => (if 0 ≤ t357 then (if t357 ≤ (y356.size : Int) then ((spec_intOf.f k1 (y356.extract 0 (t357 : Int).toNat)).bind fun bt359 => (if x2_1.length < 4398046511104 then (spec_alpReadSuffixes.l0 k1 (y356.extract (t357 : Int).toNat y356.size) (x2_1 ++ [(⟨t358, (⟨bt359.1, bt359.2⟩ : S31)⟩ : S58)])) else (none))) else (none)) else (none))))) else (none)) else (none))) = some (r1, r2) := H
   have A2 := Aside0.mk A20
   clear A20
   by_cases c3 : t355.toList = ([] : List UInt8)
   ·rw [if_pos c3] at H
    have c3b0 : (t355.toList == ([] : List UInt8)) = true := beq_iff_eq.mpr c3
    have c3b1 : (t355.toList != ([] : List UInt8)) = false := bne_eq_false_iff_eq.mpr c3
    try have c3b9 : t355.toList.isEmpty = true := by simpa using c3b0
    clear c3
    simp only [Option.some.injEq, Prod.mk.injEq] at H
    obtain ⟨rfl, rfl⟩ := H
    go_wp2_with (first | ((with_reducible refine gate_callee (f := 28) rfl ?_); refine goesL_ (some 7) rfl rfl Tryd.func28 (by kernel_rfl) rfl #[.string x0_1] rfl (by (try simp only [List.map_toArray, List.map_cons, List.map_nil]); first | done | rfl | (simp only [List.length_drop, List.length_take]; rfl)) ?_; (with_reducible refine (spec_alpWord.calls k1 x0_1 t355 _ A2.out).mono ?_); rintro e w4 ⟨rfl, hb⟩; refine ⟨_, rfl, ?_⟩; have n0_ := Aside0.mk (Kd.R_below (by (with_reducible repeat (first | apply Kd.R_alloc | apply Kd.R_drewN | apply Kd.R_drew)); exact HO_2.out) hb); have n1_ := Aside0.mk (below_step (by (with_reducible exact HB.out)) hb); clear HO_2; clear HB; have HO_2 := n0_; have HB := n1_; clear n0_ n1_; (try clear hb); (try clear hb2); (try clear hk); (try clear hi)))
    go_ret2
    exact ⟨_, by rfl, by (with_reducible repeat (first | apply Kd.R_alloc | apply Kd.R_drewN | apply Kd.R_drew)); exact HO_2.out, by (with_reducible exact HB.out)⟩
   ·rw [if_neg c3] at H
    have c3b0 : (t355.toList == ([] : List UInt8)) = false := beq_eq_false_iff_ne.mpr c3
    have c3b1 : (t355.toList != ([] : List UInt8)) = true := bne_iff_ne.mpr c3
    try have c3b9 : t355.toList.isEmpty = false := by simpa using c3b0
    obtain ⟨ji5, hji5⟩ : ∃ j_ : Int, (wrap64 ((t355.size : Int) + 1)) = j_ := ⟨_, rfl⟩
    replace H : (if 0 ≤ (ji5) then (if (ji5) ≤ (x0_1.size : Int) then ((some (x0_1.extract ((ji5) : Int).toNat x0_1.size : ByteArray)).bind fun y356 => ((E1.spec_alpRun.f k1 y356).bind fun t357 => ((spec_SuffixWeight.f k1 t355).bind fun t358 => (if 0 ≤ t357 then (if t357 ≤ (y356.size : Int) then ((spec_intOf.f k1 (y356.extract 0 (t357 : Int).toNat)).bind fun bt359 => (if x2_1.length < 4398046511104 then (spec_alpReadSuffixes.l0 k1 (y356.extract (t357 : Int).toNat y356.size) (x2_1 ++ [(⟨t358, (⟨bt359.1, bt359.2⟩ : S31)⟩ : S58)])) else (none))) else (none)) else (none))))) else (none)) else (none)) = some (r1, r2) := by (rw [hji5] at H; exact H)
    (try rw [hji5] at A2)
    have hji5w : (IntKind.i64.wrap ((t355.size : Int) + 1)) = ji5 := (i64_w _).trans hji5
    by_cases c6 : 0 ≤ (ji5)
    ·rw [if_pos c6] at H
     have c6b0 := eq_true c6
     have c6b1 : decide (0 ≤ (ji5)) = true := decide_eq_true c6
     clear c6
     by_cases c7 : (ji5) ≤ (x0_1.size : Int)
     ·rw [if_pos c7] at H
      have c7b0 := eq_true c7
      have c7b1 : decide ((ji5) ≤ (x0_1.size : Int)) = true := decide_eq_true c7
      clear c7
      obtain ⟨y356, hy356⟩ : ∃ y_ : ByteArray, y_ = (x0_1.extract ((ji5) : Int).toNat x0_1.size) := ⟨_, rfl⟩
      replace H : ((E1.spec_alpRun.f k1 y356).bind fun t357 => ((spec_SuffixWeight.f k1 t355).bind fun t358 => (if 0 ≤ t357 then (if t357 ≤ (y356.size : Int) then ((spec_intOf.f k1 (y356.extract 0 (t357 : Int).toNat)).bind fun bt359 => (if x2_1.length < 4398046511104 then (spec_alpReadSuffixes.l0 k1 (y356.extract (t357 : Int).toNat y356.size) (x2_1 ++ [(⟨t358, (⟨bt359.1, bt359.2⟩ : S31)⟩ : S58)])) else (none))) else (none)) else (none)))) = some (r1, r2) := by (have H2_ := (Option.bind_some _ _).symm.trans H; rw [hy356]; with_reducible exact H2_)
      have Ny356 := Aside0.mk hy356
      clear hy356
      replace H := Option.bind_eq_some_iff.mp H
      obtain ⟨t357, A80, H⟩ := H
      replace H : ((spec_SuffixWeight.f k1 t355).bind fun t358 => (if 0 ≤ t357 then (if t357 ≤ (y356.size : Int) then ((spec_intOf.f k1 (y356.extract 0 (t357 : Int).toNat)).bind fun bt359 => (if x2_1.length < 4398046511104 then (spec_alpReadSuffixes.l0 k1 (y356.extract (t357 : Int).toNat y356.size) (x2_1 ++ [(⟨t358, (⟨bt359.1, bt359.2⟩ : S31)⟩ : S58)])) else (none))) else (none)) else (none))) = some (r1, r2) := H
      have A8 := Aside0.mk A80
      clear A80
      replace H := Option.bind_eq_some_iff.mp H
      obtain ⟨t358, A90, H⟩ := H
      replace H : (if 0 ≤ t357 then (if t357 ≤ (y356.size : Int) then ((spec_intOf.f k1 (y356.extract 0 (t357 : Int).toNat)).bind fun bt359 => (if x2_1.length < 4398046511104 then (spec_alpReadSuffixes.l0 k1 (y356.extract (t357 : Int).toNat y356.size) (x2_1 ++ [(⟨t358, (⟨bt359.1, bt359.2⟩ : S31)⟩ : S58)])) else (none))) else (none)) else (none)) = some (r1, r2) := H
      have A9 := Aside0.mk A90
      clear A90
      by_cases c10 : 0 ≤ t357
      ·rw [if_pos c10] at H
       have c10b0 := eq_true c10
       have c10b1 : decide (0 ≤ t357) = true := decide_eq_true c10
       clear c10
       by_cases c11 : t357 ≤ (y356.size : Int)
       ·rw [if_pos c11] at H
        have c11b0 := eq_true c11
        have c11b1 : decide (t357 ≤ (y356.size : Int)) = true := decide_eq_true c11
        clear c11
        replace H := Option.bind_eq_some_iff.mp H
        obtain ⟨⟨t359, t360⟩, A120, H⟩ := H
        replace H : (if x2_1.length < 4398046511104 then (spec_alpReadSuffixes.l0 k1 (y356.extract (t357 : Int).toNat y356.size) (x2_1 ++ [(⟨t358, (⟨t359, t360⟩ : S31)⟩ : S58)])) else (none)) = some (r1, r2) := H
        have A12 := Aside0.mk A120
        clear A120
        by_cases c13 : x2_1.length < 4398046511104
        ·rw [if_pos c13] at H
         have LMc13 := Aside0.mk c13
         clear c13
         obtain ⟨y361, hy361⟩ : ∃ y_ : List (S58), y_ = (x2_1 ++ [(⟨t358, (⟨t359, t360⟩ : S31)⟩ : S58)]) := ⟨_, rfl⟩
         replace H : (spec_alpReadSuffixes.l0 k1 (y356.extract (t357 : Int).toNat y356.size) y361) = some (r1, r2) := by (rw [hy361]; with_reducible exact H)
         have Ny361 := Aside0.mk hy361
         clear hy361
         have c14b0 := eq_true (of_decide_eq_true (by (with_reducible assumption)) : 0 ≤ t357)
         have c15b0 := eq_true (of_decide_eq_true (by (with_reducible assumption)) : t357 ≤ (y356.size : Int))
         obtain ⟨y364, hy364⟩ : ∃ y_ : ByteArray, y_ = (y356.extract (t357 : Int).toNat y356.size) := ⟨_, rfl⟩
         replace H : (spec_alpReadSuffixes.l0 k1 y364 y361) = some (r1, r2) := by (rw [hy364]; with_reducible exact H)
         have Ny364 := Aside0.mk hy364
         clear hy364
         have H' := Aside0.mk H
         clear H
         try go_wp2_with (first | ((with_reducible refine gate_callee (f := 28) rfl ?_); refine goesL_ (some 7) rfl rfl Tryd.func28 (by kernel_rfl) rfl #[.string x0_1] rfl (by (try simp only [List.map_toArray, List.map_cons, List.map_nil]); first | done | rfl | (simp only [List.length_drop, List.length_take]; rfl)) ?_; (with_reducible refine (spec_alpWord.calls k1 x0_1 t355 _ A2.out).mono ?_); rintro e w16 ⟨rfl, hb⟩; refine ⟨_, rfl, ?_⟩; have n0_ := Aside0.mk (Kd.R_below (by (with_reducible repeat (first | apply Kd.R_alloc | apply Kd.R_drewN | apply Kd.R_drew)); exact HO_2.out) hb); have n1_ := Aside0.mk (below_step (by (with_reducible exact HB.out)) hb); clear HO_2; clear HB; have HO_2 := n0_; have HB := n1_; clear n0_ n1_; (try clear hb); (try clear hb2); (try clear hk); (try clear hi)) | ((with_reducible refine gate_dst (N := 16) rfl ?_); refine named_event ?hg (N := 16) ?hd (v := .string (x0_1.extract ((ji5) : Int).toNat x0_1.size)) (v' := .string y356) ?hr (congrArg Value.string Ny356.out.symm) ?_; (case hd => rfl); (case hg => rfl); (case hr => first | (go_simp; done) | (go_simp; rfl))) | ((with_reducible refine gate_callee (f := 33) rfl ?_); refine goesL_ (some 18) rfl rfl Tryd.func33 (by kernel_rfl) rfl #[.string y356, .func (.func 34) #[] #[]] rfl (by (try simp only [List.map_toArray, List.map_cons, List.map_nil]); first | done | rfl | (simp only [List.length_drop, List.length_take]; rfl)) ?_; (with_reducible refine (E1.spec_alpRun.calls k1 y356 t357 _ A8.out).mono ?_); rintro e w' ⟨rfl, ⟨nd, rfl⟩⟩; refine ⟨_, rfl, ?_⟩))
         (try (rw [drewN_self w16]; generalize hq_ : World.drewN w16 _ = w16; have n0_ : Aside0 (Kd.R k58 58 w16 w.heap.size (fun _ => True) u2 x2_1) := ⟨by rw [← hq_]; exact (by (with_reducible repeat (first | apply Kd.R_alloc | apply Kd.R_drewN | apply Kd.R_drew)); exact HO_2.out)⟩; have n1_ : Aside0 (Below w.heap.size w w16) := ⟨by rw [← hq_]; exact (by (with_reducible apply pw_below_drewN; with_reducible exact HB.out))⟩; clear HO_2 HB hq_; have HO_2 := n0_; have HB := n1_; clear n0_ n1_))
         have n0_ := Aside0.mk (Kd.R_drew HO_2.out)
         have n1_ := Aside0.mk (below_drew1 HB.out)
         clear HO_2
         clear HB
         have HO_2 := n0_
         have HB := n1_
         clear n0_ n1_
         refine start_ (n := 11) (S := fun w' => True) (ds := []) #[false, false, false, false, false, false, false, false, false, false, false] (by kernel_rfl) rfl rfl trivial (fun hHeld => ?_); refine with_tabW spec_alpReadSuffixes.tab6 spec_alpReadSuffixes.bits6 (fun HT_ HW_ => ?_)
         generalize w16.drew = w17 at HO_2 HB hHeld ⊢
         refine pure_ (i := 0) (N := some 19) (v := ?_) (a' := ?_) #[true, false, false, false, false, false, false, false, false, false, false] rfl rfl (any_of HT_.out (by kernel_rfl)) (fun _ _ _ h => h) (Or.inl ⟨by rfl, ?_⟩) ?_ ?_
         rotate_left
         ·intro w'
          go_simp
          with_reducible rfl
         rotate_left
         ·simp only [Act.put, List.setIfInBounds_toArray, List.set_cons_zero, List.set_cons_succ, i64_w, i32_w]
          rfl
         refine pure_ (i := 1) (N := some 20) (v := ?_) (a' := ?_) #[true, true, false, false, false, false, false, false, false, false, false] rfl rfl (any_of HT_.out (by kernel_rfl)) (fun _ _ _ h => h) (Or.inl ⟨by rfl, ?_⟩) ?_ ?_
         rotate_left
         ·intro w'
          go_simp
          with_reducible rfl
         rotate_left
         ·simp only [Act.put, List.setIfInBounds_toArray, List.set_cons_zero, List.set_cons_succ, i64_w, i32_w]
          rfl
         refine pure_ (i := 3) (N := some 22) (v := ?_) (a' := ?_) #[true, true, false, true, false, false, false, false, false, false, false] rfl rfl (any_of HT_.out (by kernel_rfl)) (fun _ _ _ h => h) (Or.inl ⟨by rfl, ?_⟩) ?_ ?_
         rotate_left
         ·intro w'
          go_simp
          with_reducible rfl
         rotate_left
         ·simp only [Act.put, List.setIfInBounds_toArray, List.set_cons_zero, List.set_cons_succ, i64_w, i32_w]
          rfl
         refine pure_ (i := 4) (N := some 23) (v := ?_) (a' := ?_) #[true, true, false, true, true, false, false, false, false, false, false] rfl rfl (any_of HT_.out (by kernel_rfl)) (fun _ _ _ h => h) (Or.inl ⟨by rfl, ?_⟩) ?_ ?_
         rotate_left
         ·intro w'
          go_simp
          with_reducible rfl
         rotate_left
         ·simp only [Act.put, List.setIfInBounds_toArray, List.set_cons_zero, List.set_cons_succ, i64_w, i32_w]
          rfl
         refine pure_ (i := 5) (N := some 24) (v := ?_) (a' := ?_) #[true, true, false, true, true, true, false, false, false, false, false] rfl rfl (any_of HT_.out (by kernel_rfl)) (fun _ _ _ h => h) (Or.inl ⟨by rfl, ?_⟩) ?_ ?_
         rotate_left
         ·intro w'
          go_simp
          with_reducible rfl
         rotate_left
         ·simp only [Act.put, List.setIfInBounds_toArray, List.set_cons_zero, List.set_cons_succ, i64_w, i32_w]
          rfl
         refine one_ (i := 2) (N := some 21) #[true, true, true, true, true, true, false, false, false, false, false] rfl rfl (one_of HT_.out (by kernel_rfl)) (by decide) (fun K hK => ?_)
         refine goes_ Tryd.func40 (by kernel_rfl) rfl #[.string t355] (by rfl) rfl rfl (by (try simp only [List.map_toArray, List.map_cons, List.map_nil]); first | done | rfl | (simp only [List.length_drop, List.length_take]; rfl)) ?_
         with_reducible refine (spec_SuffixWeight.calls k1 t355 t358 _ A9.out).mono ?_
         rintro e w18 ⟨rfl, hb⟩
         refine ⟨_, rfl, ?_⟩
         have n0_ := Aside0.mk (Kd.R_below (by (with_reducible repeat (first | apply Kd.R_alloc | apply Kd.R_drewN | apply Kd.R_drew)); exact HO_2.out) hb)
         have n1_ := Aside0.mk (below_step (by (with_reducible exact HB.out)) hb)
         clear HO_2
         clear HB
         have HO_2 := n0_
         have HB := n1_
         clear n0_ n1_
         (try clear hb)
         (try clear hb2)
         (try clear hk)
         (try clear hi)
         refine hK.out _ _ trivial (fun hHeld => ?_)
         clear hK K
         refine norm_ (a' := ?_) ?_ ?_
         rotate_left
         ·show Act.put _ (some 21) _ = _
          simp only [Act.put, List.setIfInBounds_toArray, List.set_cons_zero, List.set_cons_succ, i64_w, i32_w]
          rfl
         refine one_ (i := 6) (N := some 25) #[true, true, true, true, true, true, true, false, false, false, false] rfl rfl (one_of HT_.out (by kernel_rfl)) (by decide) (fun K hK => ?_)
         refine goes_ Tryd.func35 (by kernel_rfl) rfl #[.string (y356.extract 0 (t357 : Int).toNat)] (by rfl) rfl rfl (by (try simp only [List.map_toArray, List.map_cons, List.map_nil]); first | done | rfl | (simp only [List.length_drop, List.length_take]; rfl)) ?_
         with_reducible refine (spec_intOf.calls k1 (y356.extract 0 (t357 : Int).toNat) t359 t360 _ A12.out).mono ?_
         rintro e w19 ⟨rfl, hb⟩
         refine ⟨_, rfl, ?_⟩
         have n0_ := Aside0.mk (Kd.R_below (by (with_reducible repeat (first | apply Kd.R_alloc | apply Kd.R_drewN | apply Kd.R_drew)); exact HO_2.out) hb)
         have n1_ := Aside0.mk (below_step (by (with_reducible exact HB.out)) hb)
         clear HO_2
         clear HB
         have HO_2 := n0_
         have HB := n1_
         clear n0_ n1_
         (try clear hb)
         (try clear hb2)
         (try clear hk)
         (try clear hi)
         refine hK.out _ _ trivial (fun hHeld => ?_)
         clear hK K
         refine norm_ (a' := ?_) ?_ ?_
         rotate_left
         ·show Act.put _ (some 25) _ = _
          simp only [Act.put, List.setIfInBounds_toArray, List.set_cons_zero, List.set_cons_succ, i64_w, i32_w]
          rfl
         refine pure_ (i := 7) (N := some 26) (v := ?_) (a' := ?_) #[true, true, true, true, true, true, true, true, false, false, false] rfl rfl (any_of HT_.out (by kernel_rfl)) (fun _ _ _ h => h) (Or.inl ⟨by rfl, ?_⟩) ?_ ?_
         rotate_left
         ·intro w'
          go_simp
          with_reducible rfl
         rotate_left
         ·simp only [Act.put, List.setIfInBounds_toArray, List.set_cons_zero, List.set_cons_succ, i64_w, i32_w]
          rfl
         refine one_ (i := 8) (N := some 27) #[true, true, true, true, true, true, true, true, true, false, false] rfl rfl (one_of HT_.out (by kernel_rfl)) (by decide) (fun K hK => ?_)
         refine value_ (w1 := ?_) (v := ?_) (by rfl) rfl ?_ ?_
         rotate_left 2
         ·go_simp
          constructor
          ·rfl
          ·rfl
         refine hK.out _ _ trivial (fun hHeld => ?_)
         clear hK K
         refine norm_ (a' := ?_) ?_ ?_
         rotate_left
         ·show Act.put _ (some 27) _ = _
          simp only [Act.put, List.setIfInBounds_toArray, List.set_cons_zero, List.set_cons_succ, i64_w, i32_w]
          rfl
         refine one_ (i := 9) (N := some 28) #[true, true, true, true, true, true, true, true, true, true, false] rfl rfl (one_of HT_.out (by kernel_rfl)) (by decide) (fun K hK => ?_)
         refine Kd.R_append_step k58 (w0 := w) w.heap.size (by rfl) (.tmp 19) (.tmp 27) 29 58 (.agg #[(.int .i64 0), (.bool false), (.string ⟨#[]⟩)]) 32 rfl Tryd.underlying29 info58 rfl (by decide) (by omega) u2 x2_1 (⟨t358, (⟨t359, t360⟩ : S31)⟩ : S58) [.int .i64 t358, .bool t359, .string t360] (fun _ => True) (fun _ => False) rfl rfl ?aP (fun _ hk => hk.elim) ?aF ?aO ?aB ?aS ?aL ?_
         (case aP => exact k58_mkM _ _ _ (⟨t358, (⟨t359, t360⟩ : S31)⟩ : S58))
         (case aB => exact (by (with_reducible exact HB.out)))
         (case aF => exact (fun _ _ => trivial))
         (case aO => exact (by (with_reducible repeat (first | apply Kd.R_alloc | apply Kd.R_drewN | apply Kd.R_drew)); exact HO_2.out))
         (case aS => exact (below_size (by (with_reducible exact HB.out))))
         (case aL => have := LMc13.out; omega)
         intro v362 w20 ho hb hg hat
         rw [← Ny361.out] at ho
         have n0_ := Aside0.mk (hb)
         have n1_ := Aside0.mk (ho)
         clear HB
         clear HO_2
         have HB := n0_
         have HO363 := n1_
         clear n0_ n1_
         clear ho hb hg hat
         refine hK.out _ _ trivial (fun hHeld => ?_)
         clear hK K
         refine norm_ (a' := ?_) ?_ ?_
         rotate_left
         ·show Act.put _ (some 28) _ = _
          simp only [Act.put, List.setIfInBounds_toArray, List.set_cons_zero, List.set_cons_succ, i64_w, i32_w]
          rfl
         refine pure_ (i := 10) (N := some 2) (v := ?_) (a' := ?_) #[true, true, true, true, true, true, true, true, true, true, true] rfl rfl (any_of HT_.out (by kernel_rfl)) (fun _ _ _ h => h) (Or.inl ⟨by rfl, ?_⟩) ?_ ?_
         rotate_left
         ·intro w'
          go_simp
          with_reducible rfl
         rotate_left
         ·simp only [Act.put, List.setIfInBounds_toArray, List.set_cons_zero, List.set_cons_succ, i64_w, i32_w]
          rfl
         refine done_ (done_of HT_.out (by kernel_rfl)) ?_
         try go_wp2_with (first | ((with_reducible refine gate_dst (N := 31) rfl ?_); refine named_event ?hg (N := 31) ?hd (v := .string (y356.extract (t357 : Int).toNat y356.size)) (v' := .string y364) ?hr (congrArg Value.string Ny364.out.symm) ?_; (case hd => rfl); (case hg => rfl); (case hr => first | (go_simp; done) | (go_simp; rfl))))
         go_roundg k1
         case measure => have := HK1.out; omega
         case rel => exact ⟨(y364), (y361), (by rfl), H', ⟨by have := HK1.out; omega⟩, ⟨by (with_reducible repeat (first | apply Kd.R_alloc | apply Kd.R_drewN | apply Kd.R_drew)); exact HO363.out⟩, ⟨by (with_reducible exact HB.out)⟩⟩
        ·rw [if_neg c13] at H
         exact absurd H (by simp)
       ·rw [if_neg c11] at H
        exact absurd H (by simp)
      ·rw [if_neg c10] at H
       exact absurd H (by simp)
     ·rw [if_neg c7] at H
      exact absurd H (by simp)
    ·rw [if_neg c6] at H
     exact absurd H (by simp)
end Go.Proofs.YtapaijpglfmfgaaDoor.Q
end
section -- Qx15
namespace Go.Proofs.YtapaijpglfmfgaaDoor.Q
open Go.RowKit Go.Proofs.YtapaijpglfmfgaaDoorH Go.Proofs.YtapaijpglfmfgaaDoorG Go.Proofs.YtapaijpglfmfgaaDoorW.PrintWords Go.Proofs.YtapaijpglfmfgaaDoorW.PrintLast Go.Proofs.YtapaijpglfmfgaaDoorW.PrintMore
attribute [local go_sem] max2_int min2_int max_two min_two max_three min_three max_four min_four   -- for this text's walks alone
set_option linter.unusedVariables false
set_option linter.unusedSimpArgs false
mutual
def spec_AlpineTextKnown.j0 : Nat → ByteArray → Bool → Option (Bool)
 | 0, _, _ => none
 | k + 1, x4, x25 => if x25 = true then (if 1 ≤ (x4.size : Int) then (spec_AlpineTextKnown.j1 k (x4.extract 1 x4.size)) else (none)) else (spec_AlpineTextKnown.j1 k x4)
def spec_AlpineTextKnown.j1 : Nat → ByteArray → Option (Bool)
 | 0, _ => none
 | k + 1, x4 => (spec_alpReadSuffixes.f k x4).bind fun bt371 => (spec_AlpineTextKnown.l0 k bt371.2 0)
def spec_AlpineTextKnown.l0 : Nat → ByteArray → Int → Option (Bool)
 | 0, _, _ => none
 | k + 1, x4, x5 => if x5 < (x4.size : Int) then (if 0 ≤ x5 then (if x5 ≤ (x4.size : Int) then ((spec_alpWord.f k (x4.extract (x5 : Int).toNat x4.size)).bind fun t376 => (if t376.toList = ([] : List UInt8) then (spec_AlpineTextKnown.l0 k x4 (wrap64 (x5 + 1))) else (some false))) else (none)) else (none)) else (some true)
end
def spec_AlpineTextKnown.f (k : Nat) (a0 : ByteArray) : Option (Bool) := (spec_Ascii.f k a0).bind fun t365 => (if t365 = true then ((spec_alpReadNumbers.f k a0).bind fun bt366 => (if bt366.2.toList = ([] : List UInt8) then (spec_AlpineTextKnown.j0 k bt366.2 false) else (if 0 < (bt366.2.size : Int) then (if (bt bt366.2 0) ≥ 97 then (spec_AlpineTextKnown.j0 k bt366.2 (decide ((bt bt366.2 0) ≤ 122))) else (spec_AlpineTextKnown.j0 k bt366.2 false)) else (none)))) else (some false))
set_option maxHeartbeats 8000000 in
set_option maxRecDepth 100000 in
theorem spec_AlpineTextKnown.calls (k : Nat) (a0 : ByteArray) (r : Bool) (w : World) (h : spec_AlpineTextKnown.f k a0 = some r) :
  Calls Tryd.prog 11 #[.string a0] w fun e w' => e = .returned (.bool r) ∧ Below w.heap.size w w' := by
 have HB := Aside0.mk (Below.refl w.heap.size w)
 have H : ((spec_Ascii.f k a0).bind fun t365 => (if t365 = true then ((spec_alpReadNumbers.f k a0).bind fun bt366 => (if bt366.2.toList = ([] : List UInt8) then (spec_AlpineTextKnown.j0 k bt366.2 false) else (if 0 < (bt366.2.size : Int) then (if (bt bt366.2 0) ≥ 97 then (spec_AlpineTextKnown.j0 k bt366.2 (decide ((bt bt366.2 0) ≤ 122))) else (spec_AlpineTextKnown.j0 k bt366.2 false)) else (none)))) else (some false))) = some r := h
 clear h
 replace H := Option.bind_eq_some_iff.mp H
 obtain ⟨t365, A20, H⟩ := H
 replace H : (if t365 = true then ((spec_alpReadNumbers.f k a0).bind fun bt366 => (if bt366.2.toList = ([] : List UInt8) then (spec_AlpineTextKnown.j0 k bt366.2 false) else (if 0 < (bt366.2.size : Int) then (if (bt bt366.2 0) ≥ 97 then (spec_AlpineTextKnown.j0 k bt366.2 (decide ((bt bt366.2 0) ≤ 122))) else (spec_AlpineTextKnown.j0 k bt366.2 false)) else (none)))) else (some false)) = some r := H
 have A2 := Aside0.mk A20
 clear A20
 by_cases c3 : t365 = true
 ·subst c3
  have H1 : ((spec_alpReadNumbers.f k a0).bind fun bt366 => (if bt366.2.toList = ([] : List UInt8) then (spec_AlpineTextKnown.j0 k bt366.2 false) else (if 0 < (bt366.2.size : Int) then (if (bt bt366.2 0) ≥ 97 then (spec_AlpineTextKnown.j0 k bt366.2 (decide ((bt bt366.2 0) ≤ 122))) else (spec_AlpineTextKnown.j0 k bt366.2 false)) else (none)))) = some r := by rw [if_pos rfl] at H; exact H
  clear H
  have H := H1
  clear H1
  replace H := Option.bind_eq_some_iff.mp H
  obtain ⟨⟨t366, t367⟩, A40, H⟩ := H
  replace H : (if t367.toList = ([] : List UInt8) then (spec_AlpineTextKnown.j0 k t367 false) else (if 0 < (t367.size : Int) then (if (bt t367 0) ≥ 97 then (spec_AlpineTextKnown.j0 k t367 (decide ((bt t367 0) ≤ 122))) else (spec_AlpineTextKnown.j0 k t367 false)) else (none))) = some r := H
  have A4 := Aside0.mk A40
  clear A40
  have HC5 := Aside0.mk H
  clear H
  go_enter Tryd.func11, Tryd.ntmps11
  go_upto_region 4 with (first | ((with_reducible refine gate_callee (f := 25) rfl ?_); refine goesL_ (some 7) rfl rfl Tryd.func25 (by kernel_rfl) rfl #[.string a0] rfl (by (try simp only [List.map_toArray, List.map_cons, List.map_nil]); first | done | rfl | (simp only [List.length_drop, List.length_take]; rfl)) ?_; (with_reducible refine (spec_Ascii.calls k a0 true _ A2.out).mono ?_); rintro e w' ⟨rfl, ⟨nd, rfl⟩⟩; refine ⟨_, rfl, ?_⟩) | ((with_reducible refine gate_callee (f := 26) rfl ?_); refine goesL_ (some 11) rfl rfl Tryd.func26 (by kernel_rfl) rfl #[.string a0] rfl (by (try simp only [List.map_toArray, List.map_cons, List.map_nil]); first | done | rfl | (simp only [List.length_drop, List.length_take]; rfl)) ?_; (with_reducible refine (spec_alpReadNumbers.calls k a0 t366 t367 _ A4.out).mono ?_); rintro e w6 ⟨v368, rfl, ho0, hb⟩; refine ⟨_, rfl, ?_⟩; have n0_ := Aside0.mk (Kd.R_lower ho0 (below_size (by (with_reducible apply pw_below_drewN; with_reducible exact HB.out)))); have n1_ := Aside0.mk (below_step (by (with_reducible apply pw_below_drewN; with_reducible exact HB.out)) hb); clear HB; have HO369 := n0_; have HB := n1_; clear n0_ n1_; (try clear hb); (try clear hb2); (try clear hk); (try clear hi); (try clear ho0)))
  (try simp only [Act.put, List.setIfInBounds_toArray, List.set_cons_zero, List.set_cons_succ])
  go_cut [25] (fun v25 wc => ∃ (kq : Nat) (x25_4 : Bool), v25 = .bool x25_4 ∧ Aside0 (spec_AlpineTextKnown.j0 kq t367 x25_4 = some r) ∧ Aside0 (kq ≤ k) ∧ Aside0 (Below w.heap.size w wc))
  case first =>
   have H := HC5.out
   clear HC5
   by_cases c7 : t367.toList = ([] : List UInt8)
   ·rw [if_pos c7] at H
    have c7b0 : (t367.toList == ([] : List UInt8)) = true := beq_iff_eq.mpr c7
    have c7b1 : (t367.toList != ([] : List UInt8)) = false := bne_eq_false_iff_eq.mpr c7
    try have c7b9 : t367.toList.isEmpty = true := by simpa using c7b0
    clear c7
    (first | rw [c7b0] | (simp only [i64_w, i32_w]; rw [c7b0]) | rw [c7b9] | skip)
    have H' := Aside0.mk H
    clear H
    go_wp2
    go_meet
    case rel => exact ⟨_, (false), (by rfl), H', ⟨by omega⟩, ⟨by (with_reducible exact HB.out)⟩⟩
   ·rw [if_neg c7] at H
    have c7b0 : (t367.toList == ([] : List UInt8)) = false := beq_eq_false_iff_ne.mpr c7
    have c7b1 : (t367.toList != ([] : List UInt8)) = true := bne_iff_ne.mpr c7
    try have c7b9 : t367.toList.isEmpty = false := by simpa using c7b0
    (first | rw [c7b0] | (simp only [i64_w, i32_w]; rw [c7b0]) | rw [c7b9] | skip)
    by_cases c8 : 0 < (t367.size : Int)
    ·rw [if_pos c8] at H
     have c8b0 : decide (0 < (t367.size : Int)) = true := decide_eq_true c8
     have c8b1 : decide (0 < t367.size) = true := decide_eq_true (by omega)
     clear c8
     by_cases c10 : (bt t367 0) ≥ 97
     ·rw [if_pos c10] at H
      have c10b0 : decide (97 ≤ (bt t367 0)) = true := decide_eq_true c10
      clear c10
      have H' := Aside0.mk H
      clear H
      have p9 : 0 ≤ (0 : Int) := (by omega)
      have q9 : 0 < t367.size := (by have : (0 : Int) < (t367.size : Int) := of_decide_eq_true (by (with_reducible assumption)); omega)
      have hx9 : ∀ h : 0 < t367.size, ((t367[0]'h).toNat : Int) = bt t367 0 := bt_at t367 0
      clear p9
      have qi9 : (0 < (t367.size : Int)) = True := eq_true (of_decide_eq_true (by (with_reducible assumption)))
      replace q9 := eq_true q9
      have p11 : 0 ≤ (0 : Int) := (by omega)
      have q11 : 0 < t367.size := (by have : (0 : Int) < (t367.size : Int) := of_decide_eq_true (by (with_reducible assumption)); omega)
      have hx11 : ∀ h : 0 < t367.size, ((t367[0]'h).toNat : Int) = bt t367 0 := bt_at t367 0
      clear p11
      have qi11 : (0 < (t367.size : Int)) = True := eq_true (of_decide_eq_true (by (with_reducible assumption)))
      replace q11 := eq_true q11
      go_wp2
      go_meet
      case rel => exact ⟨_, (decide ((bt t367 0) ≤ 122)), (by rfl), H', ⟨by omega⟩, ⟨by (with_reducible exact HB.out)⟩⟩
     ·rw [if_neg c10] at H
      have c10b0 : decide (97 ≤ (bt t367 0)) = false := decide_eq_false c10
      clear c10
      have H' := Aside0.mk H
      clear H
      have p9 : 0 ≤ (0 : Int) := (by omega)
      have q9 : 0 < t367.size := (by have : (0 : Int) < (t367.size : Int) := of_decide_eq_true (by (with_reducible assumption)); omega)
      have hx9 : ∀ h : 0 < t367.size, ((t367[0]'h).toNat : Int) = bt t367 0 := bt_at t367 0
      clear p9
      have qi9 : (0 < (t367.size : Int)) = True := eq_true (of_decide_eq_true (by (with_reducible assumption)))
      replace q9 := eq_true q9
      go_wp2
      go_meet
      case rel => exact ⟨_, (false), (by rfl), H', ⟨by omega⟩, ⟨by (with_reducible exact HB.out)⟩⟩
    ·rw [if_neg c8] at H
     exact absurd H (by simp)
  case rest =>
   clear HC5
   obtain ⟨kq, x25_4, rfl, HA, HJ4, HB⟩ := hcut
   cases kq with
   | zero => exact absurd HA.out (by simp [spec_AlpineTextKnown.j0])
   | succ kj4 =>
    have H := HA.out
    clear HA
    simp only [spec_AlpineTextKnown.j0] at H
    have HC12 := Aside0.mk H
    clear H
    go_upto_if 25 with (fail)
    go_cut [4, 25] (fun v4 v25 wc => ∃ (kq : Nat) (x4_11 : ByteArray), v4 = .string x4_11 ∧ Aside0 (spec_AlpineTextKnown.j1 kq x4_11 = some r) ∧ Aside0 (kq ≤ kj4) ∧ Aside0 (Below w.heap.size w wc))
    case first =>
     have H := HC12.out
     clear HC12
     by_cases c13 : x25_4 = true
     ·subst c13
      have H1 : (if 1 ≤ (t367.size : Int) then (spec_AlpineTextKnown.j1 kj4 (t367.extract 1 t367.size)) else (none)) = some r := by rw [if_pos rfl] at H; exact H
      clear H
      have H := H1
      clear H1
      by_cases c14 : 1 ≤ (t367.size : Int)
      ·rw [if_pos c14] at H
       have c14b0 := eq_true c14
       have c14b1 : decide (1 ≤ (t367.size : Int)) = true := decide_eq_true c14
       clear c14
       obtain ⟨y370, hy370⟩ : ∃ y_ : ByteArray, y_ = (t367.extract 1 t367.size) := ⟨_, rfl⟩
       replace H : (spec_AlpineTextKnown.j1 kj4 y370) = some r := by (rw [hy370]; with_reducible exact H)
       have Ny370 := Aside0.mk hy370
       clear hy370
       have H' := Aside0.mk H
       clear H
       go_wp2_with (first | ((with_reducible refine gate_dst (N := 27) rfl ?_); refine named_event ?hg (N := 27) ?hd (v := .string (t367.extract 1 t367.size)) (v' := .string y370) ?hr (congrArg Value.string Ny370.out.symm) ?_; (case hd => rfl); (case hg => rfl); (case hr => first | (go_simp; done) | (go_simp; rfl))))
       go_meet
       case rel => exact ⟨_, (y370), (by rfl), H', ⟨by have := HJ4.out; first | omega | exact Nat.le_refl _⟩, ⟨by (with_reducible exact HB.out)⟩⟩
      ·rw [if_neg c14] at H
       exact absurd H (by simp)
     ·replace c13 := Bool.eq_false_iff.mpr c13
      subst c13
      have H1 : (spec_AlpineTextKnown.j1 kj4 t367) = some r := by rw [if_neg (show ¬ (false = true) by decide)] at H; exact H
      clear H
      have H := H1
      clear H1
      have H' := Aside0.mk H
      clear H
      go_wp2
      go_meet
      case rel => exact ⟨_, (t367), (by rfl), H', ⟨by have := HJ4.out; first | omega | exact Nat.le_refl _⟩, ⟨by (with_reducible exact HB.out)⟩⟩
    case rest =>
     clear HC12
     obtain ⟨kq, x4_11, rfl, HA, HJ11, HB⟩ := hcut
     cases kq with
     | zero => exact absurd HA.out (by simp [spec_AlpineTextKnown.j1])
     | succ kj11 =>
      have H := HA.out
      clear HA
      simp only [spec_AlpineTextKnown.j1] at H
      replace H := Option.bind_eq_some_iff.mp H
      obtain ⟨⟨t371, t372⟩, A150, H⟩ := H
      replace H : (spec_AlpineTextKnown.l0 kj11 t372 0) = some r := H
      have A15 := Aside0.mk A150
      clear A150
      have H' := Aside0.mk H
      clear H
      go_wp2_with (first | ((with_reducible refine gate_callee (f := 27) rfl ?_); refine goesL_ (some 30) rfl rfl Tryd.func27 (by kernel_rfl) rfl #[.string x4_11] rfl (by (try simp only [List.map_toArray, List.map_cons, List.map_nil]); first | done | rfl | (simp only [List.length_drop, List.length_take]; rfl)) ?_; (with_reducible refine (spec_alpReadSuffixes.calls kj11 x4_11 t371 t372 _ A15.out).mono ?_); rintro e w16 ⟨v373, rfl, ho0, hb⟩; refine ⟨_, rfl, ?_⟩; have n0_ := Aside0.mk (Kd.R_lower ho0 (below_size (by (with_reducible exact HB.out)))); have n1_ := Aside0.mk (below_step (by (with_reducible exact HB.out)) hb); clear HB; have HO374 := n0_; have HB := n1_; clear n0_ n1_; (try clear hb); (try clear hb2); (try clear hk); (try clear hi); (try clear ho0)))
      (try simp only [Act.put, List.setIfInBounds_toArray, List.set_cons_zero, List.set_cons_succ])
      go_loopg [5] kj11 (fun kq v5 w' => ∃ (x5_3 : Int), v5 = .int .i64 x5_3 ∧ Aside0 (spec_AlpineTextKnown.l0 kq t372 x5_3 = some r) ∧ Aside0 (kq ≤ kj11) ∧ Aside0 (Below w.heap.size w w'))
      case atStart => exact ⟨(0), (by rfl), H', ⟨Nat.le_refl _⟩, ⟨by (with_reducible exact HB.out)⟩⟩
      case round =>
       clear H'
       obtain ⟨x5_3, rfl, HA, HK3, HB⟩ := hrel
       cases gk with
       | zero => exact absurd HA.out (by simp [spec_AlpineTextKnown.l0])
       | succ k3 =>
        have H := HA.out
        clear HA
        simp only [spec_AlpineTextKnown.l0] at H
        by_cases c17 : x5_3 < (t372.size : Int)
        ·rw [if_pos c17] at H
         have c17b0 : decide (x5_3 < (t372.size : Int)) = true := decide_eq_true c17
         clear c17
         by_cases c18 : 0 ≤ x5_3
         ·rw [if_pos c18] at H
          have c18b0 := eq_true c18
          have c18b1 : decide (0 ≤ x5_3) = true := decide_eq_true c18
          clear c18
          by_cases c19 : x5_3 ≤ (t372.size : Int)
          ·rw [if_pos c19] at H
           have c19b0 := eq_true c19
           have c19b1 : decide (x5_3 ≤ (t372.size : Int)) = true := decide_eq_true c19
           clear c19
           obtain ⟨y375, hy375⟩ : ∃ y_ : ByteArray, y_ = (t372.extract (x5_3 : Int).toNat t372.size) := ⟨_, rfl⟩
           replace H : ((spec_alpWord.f k3 y375).bind fun t376 => (if t376.toList = ([] : List UInt8) then (spec_AlpineTextKnown.l0 k3 t372 (wrap64 (x5_3 + 1))) else (some false))) = some r := by (rw [hy375]; with_reducible exact H)
           have Ny375 := Aside0.mk hy375
           clear hy375
           replace H := Option.bind_eq_some_iff.mp H
           obtain ⟨t376, A200, H⟩ := H
           replace H : (if t376.toList = ([] : List UInt8) then (spec_AlpineTextKnown.l0 k3 t372 (wrap64 (x5_3 + 1))) else (some false)) = some r := H
           have A20 := Aside0.mk A200
           clear A200
           by_cases c21 : t376.toList = ([] : List UInt8)
           ·rw [if_pos c21] at H
            have c21b0 : (t376.toList == ([] : List UInt8)) = true := beq_iff_eq.mpr c21
            have c21b1 : (t376.toList != ([] : List UInt8)) = false := bne_eq_false_iff_eq.mpr c21
            try have c21b9 : t376.toList.isEmpty = true := by simpa using c21b0
            clear c21
            have H' := Aside0.mk H
            clear H
            go_wp2_with (first | ((with_reducible refine gate_dst (N := 41) rfl ?_); refine named_event ?hg (N := 41) ?hd (v := .string (t372.extract (x5_3 : Int).toNat t372.size)) (v' := .string y375) ?hr (congrArg Value.string Ny375.out.symm) ?_; (case hd => rfl); (case hg => rfl); (case hr => first | (go_simp; done) | (go_simp; rfl))) | ((with_reducible refine gate_callee (f := 28) rfl ?_); refine goesL_ (some 42) rfl rfl Tryd.func28 (by kernel_rfl) rfl #[.string y375] rfl (by (try simp only [List.map_toArray, List.map_cons, List.map_nil]); first | done | rfl | (simp only [List.length_drop, List.length_take]; rfl)) ?_; (with_reducible refine (spec_alpWord.calls k3 y375 t376 _ A20.out).mono ?_); rintro e w22 ⟨rfl, hb⟩; refine ⟨_, rfl, ?_⟩; have n0_ := Aside0.mk (below_step (by (with_reducible exact HB.out)) hb); clear HB; have HB := n0_; clear n0_; (try clear hb); (try clear hb2); (try clear hk); (try clear hi)))
            go_roundg k3
            case measure => have := HJ4.out; have := HJ11.out; have := HK3.out; omega
            case rel => exact ⟨(wrap64 (x5_3 + 1)), (by rfl), H', ⟨by have := HJ4.out; have := HJ11.out; have := HK3.out; omega⟩, ⟨by (with_reducible exact HB.out)⟩⟩
           ·rw [if_neg c21] at H
            have c21b0 : (t376.toList == ([] : List UInt8)) = false := beq_eq_false_iff_ne.mpr c21
            have c21b1 : (t376.toList != ([] : List UInt8)) = true := bne_iff_ne.mpr c21
            try have c21b9 : t376.toList.isEmpty = false := by simpa using c21b0
            obtain rfl := Option.some.inj H
            go_wp2_with (first | ((with_reducible refine gate_dst (N := 41) rfl ?_); refine named_event ?hg (N := 41) ?hd (v := .string (t372.extract (x5_3 : Int).toNat t372.size)) (v' := .string y375) ?hr (congrArg Value.string Ny375.out.symm) ?_; (case hd => rfl); (case hg => rfl); (case hr => first | (go_simp; done) | (go_simp; rfl))) | ((with_reducible refine gate_callee (f := 28) rfl ?_); refine goesL_ (some 42) rfl rfl Tryd.func28 (by kernel_rfl) rfl #[.string y375] rfl (by (try simp only [List.map_toArray, List.map_cons, List.map_nil]); first | done | rfl | (simp only [List.length_drop, List.length_take]; rfl)) ?_; (with_reducible refine (spec_alpWord.calls k3 y375 t376 _ A20.out).mono ?_); rintro e w23 ⟨rfl, hb⟩; refine ⟨_, rfl, ?_⟩; have n0_ := Aside0.mk (below_step (by (with_reducible exact HB.out)) hb); clear HB; have HB := n0_; clear n0_; (try clear hb); (try clear hb2); (try clear hk); (try clear hi)))
            go_ret
            exact ⟨by rfl, by (with_reducible exact HB.out)⟩
          ·rw [if_neg c19] at H
           exact absurd H (by simp)
         ·rw [if_neg c18] at H
          exact absurd H (by simp)
        ·rw [if_neg c17] at H
         have c17b0 : decide (x5_3 < (t372.size : Int)) = false := decide_eq_false c17
         clear c17
         obtain rfl := Option.some.inj H
         go_wp2
         go_ret
         exact ⟨by rfl, by (with_reducible exact HB.out)⟩
 ·replace c3 := Bool.eq_false_iff.mpr c3
  subst c3
  have H1 : (some false) = some r := by rw [if_neg (show ¬ (false = true) by decide)] at H; exact H
  clear H
  have H := H1
  clear H1
  obtain rfl := Option.some.inj H
  go_enter Tryd.func11, Tryd.ntmps11
  go_wp2_with (first | ((with_reducible refine gate_callee (f := 25) rfl ?_); refine goesL_ (some 7) rfl rfl Tryd.func25 (by kernel_rfl) rfl #[.string a0] rfl (by (try simp only [List.map_toArray, List.map_cons, List.map_nil]); first | done | rfl | (simp only [List.length_drop, List.length_take]; rfl)) ?_; (with_reducible refine (spec_Ascii.calls k a0 false _ A2.out).mono ?_); rintro e w' ⟨rfl, ⟨nd, rfl⟩⟩; refine ⟨_, rfl, ?_⟩))
  go_ret
  exact ⟨by rfl, by (with_reducible apply pw_below_drewN; with_reducible exact HB.out)⟩
def spec_alpHex.f (a0 : Int) : Option (Bool) := (spec_isDigit.f a0).bind fun t377 => (if t377 = true then (some true) else (if a0 ≥ 97 then (some (decide (a0 ≤ 102))) else (some false)))
set_option maxHeartbeats 8000000 in
set_option maxRecDepth 100000 in
theorem spec_alpHex.calls (a0 : Int) (r : Bool) (w : World) (h : spec_alpHex.f a0 = some r) :
  Calls Tryd.prog 32 #[.int .u8 a0] w fun e w' => e = .returned (.bool r) ∧ Drawn0 w w' := by
 have H : ((spec_isDigit.f a0).bind fun t377 => (if t377 = true then (some true) else (if a0 ≥ 97 then (some (decide (a0 ≤ 102))) else (some false)))) = some r := h
 clear h
 replace H := Option.bind_eq_some_iff.mp H
 obtain ⟨t377, A20, H⟩ := H
 replace H : (if t377 = true then (some true) else (if a0 ≥ 97 then (some (decide (a0 ≤ 102))) else (some false))) = some r := H
 have A2 := Aside0.mk A20
 clear A20
 by_cases c3 : t377 = true
 ·subst c3
  have H1 : (some true) = some r := by rw [if_pos rfl] at H; exact H
  clear H
  have H := H1
  clear H1
  obtain rfl := Option.some.inj H
  go_enter Tryd.func32, Tryd.ntmps32
  go_wp2_with (first | ((with_reducible refine gate_callee (f := 34) rfl ?_); refine goesL_ (some 4) rfl rfl Tryd.func34 (by kernel_rfl) rfl #[.int .u8 a0] rfl (by (try simp only [List.map_toArray, List.map_cons, List.map_nil]); first | done | rfl | (simp only [List.length_drop, List.length_take]; rfl)) ?_; (with_reducible refine (spec_isDigit.calls a0 true _ A2.out).mono ?_); rintro e w' ⟨rfl, ⟨nd, rfl⟩⟩; refine ⟨_, rfl, ?_⟩))
  go_ret
  exact ⟨by rfl, by repeat (first | exact Drawn0.refl _ | apply Drawn0.step)⟩
 ·replace c3 := Bool.eq_false_iff.mpr c3
  subst c3
  have H1 : (if a0 ≥ 97 then (some (decide (a0 ≤ 102))) else (some false)) = some r := by rw [if_neg (show ¬ (false = true) by decide)] at H; exact H
  clear H
  have H := H1
  clear H1
  by_cases c4 : a0 ≥ 97
  ·rw [if_pos c4] at H
   have c4b0 : decide (97 ≤ a0) = true := decide_eq_true c4
   clear c4
   obtain rfl := Option.some.inj H
   go_enter Tryd.func32, Tryd.ntmps32
   go_wp2_with (first | ((with_reducible refine gate_callee (f := 34) rfl ?_); refine goesL_ (some 4) rfl rfl Tryd.func34 (by kernel_rfl) rfl #[.int .u8 a0] rfl (by (try simp only [List.map_toArray, List.map_cons, List.map_nil]); first | done | rfl | (simp only [List.length_drop, List.length_take]; rfl)) ?_; (with_reducible refine (spec_isDigit.calls a0 false _ A2.out).mono ?_); rintro e w' ⟨rfl, ⟨nd, rfl⟩⟩; refine ⟨_, rfl, ?_⟩))
   go_ret
   exact ⟨by rfl, by repeat (first | exact Drawn0.refl _ | apply Drawn0.step)⟩
  ·rw [if_neg c4] at H
   have c4b0 : decide (97 ≤ a0) = false := decide_eq_false c4
   clear c4
   obtain rfl := Option.some.inj H
   go_enter Tryd.func32, Tryd.ntmps32
   go_wp2_with (first | ((with_reducible refine gate_callee (f := 34) rfl ?_); refine goesL_ (some 4) rfl rfl Tryd.func34 (by kernel_rfl) rfl #[.int .u8 a0] rfl (by (try simp only [List.map_toArray, List.map_cons, List.map_nil]); first | done | rfl | (simp only [List.length_drop, List.length_take]; rfl)) ?_; (with_reducible refine (spec_isDigit.calls a0 false _ A2.out).mono ?_); rintro e w' ⟨rfl, ⟨nd, rfl⟩⟩; refine ⟨_, rfl, ?_⟩))
   go_ret
   exact ⟨by rfl, by repeat (first | exact Drawn0.refl _ | apply Drawn0.step)⟩
end Go.Proofs.YtapaijpglfmfgaaDoor.Q
end
section -- Qx16
namespace Go.Proofs.YtapaijpglfmfgaaDoor.Q
open Go.RowKit Go.Proofs.YtapaijpglfmfgaaDoorH Go.Proofs.YtapaijpglfmfgaaDoorG Go.Proofs.YtapaijpglfmfgaaDoorW.PrintWords Go.Proofs.YtapaijpglfmfgaaDoorW.PrintLast Go.Proofs.YtapaijpglfmfgaaDoorW.PrintMore
attribute [local go_sem] max2_int min2_int max_two min_two max_three min_three max_four min_four   -- for this text's walks alone
set_option linter.unusedVariables false
set_option linter.unusedSimpArgs false
mutual
def spec_AlpineParse.j0 : Nat → ByteArray → Bool → ByteArray → ByteArray → ByteArray → ByteArray → Bool → List (S54) → Bool → Bool → ByteArray → Option (ByteArray × ByteArray × ByteArray × ByteArray × Bool × (List (S54)) × (List (S58)) × Bool × Bool × ByteArray × Bool)
 | 0, _, _, _, _, _, _, _, _, _, _, _ => none
 | k + 1, x0, x26, x379000, x379001, x379002, x379003, x379004, x379005, x379007, x379008, x379009 => if x26 = true then (if 0 ≤ 1 then (if 1 ≤ (x0.size : Int) then (spec_AlpineParse.j1 k (x0.extract 1 x0.size) x379000 x379001 (x0.extract 0 1) x379003 x379004 x379005 x379007 x379008 x379009) else (none)) else (none)) else (spec_AlpineParse.j1 k x0 x379000 x379001 x379002 x379003 x379004 x379005 x379007 x379008 x379009)
def spec_AlpineParse.j1 : Nat → ByteArray → ByteArray → ByteArray → ByteArray → ByteArray → Bool → List (S54) → Bool → Bool → ByteArray → Option (ByteArray × ByteArray × ByteArray × ByteArray × Bool × (List (S54)) × (List (S58)) × Bool × Bool × ByteArray × Bool)
 | 0, _, _, _, _, _, _, _, _, _, _ => none
 | k + 1, x0, x379000, x379001, x379002, x379003, x379004, x379005, x379007, x379008, x379009 => (spec_alpReadSuffixes.f k x0).bind fun bt383 => (if (bt383.2.size : Int) > 1 then (if 0 < (bt383.2.size : Int) then (if (bt bt383.2 0) = 126 then (if 1 < (bt383.2.size : Int) then ((spec_alpHex.f (bt bt383.2 1)).bind fun t387 => (spec_AlpineParse.j2 k bt383.2 t387 x379000 x379001 x379002 x379003 x379004 x379005 bt383.1 x379007 x379008 x379009)) else (none)) else (spec_AlpineParse.j2 k bt383.2 false x379000 x379001 x379002 x379003 x379004 x379005 bt383.1 x379007 x379008 x379009)) else (none)) else (spec_AlpineParse.j2 k bt383.2 false x379000 x379001 x379002 x379003 x379004 x379005 bt383.1 x379007 x379008 x379009))
def spec_AlpineParse.j2 : Nat → ByteArray → Bool → ByteArray → ByteArray → ByteArray → ByteArray → Bool → List (S54) → List (S58) → Bool → Bool → ByteArray → Option (ByteArray × ByteArray × ByteArray × ByteArray × Bool × (List (S54)) × (List (S58)) × Bool × Bool × ByteArray × Bool)
 | 0, _, _, _, _, _, _, _, _, _, _, _, _ => none
 | k + 1, x0, x50, x379000, x379001, x379002, x379003, x379004, x379005, x379006, x379007, x379008, x379009 => if x50 = true then (if 1 ≤ (x0.size : Int) then ((E2.spec_alpRun.f k (x0.extract 1 x0.size)).bind fun t388 => (if 0 ≤ (wrap64 (1 + t388)) then (if (wrap64 (1 + t388)) ≤ (x0.size : Int) then (spec_AlpineParse.j3 k (x0.extract ((wrap64 (1 + t388)) : Int).toNat x0.size) x379000 x379001 x379002 (x0.extract 0 ((wrap64 (1 + t388)) : Int).toNat) x379004 x379005 x379006 x379007 x379008 x379009) else (none)) else (none))) else (none)) else (spec_AlpineParse.j3 k x0 x379000 x379001 x379002 x379003 x379004 x379005 x379006 x379007 x379008 x379009)
def spec_AlpineParse.j3 : Nat → ByteArray → ByteArray → ByteArray → ByteArray → ByteArray → Bool → List (S54) → List (S58) → Bool → Bool → ByteArray → Option (ByteArray × ByteArray × ByteArray × ByteArray × Bool × (List (S54)) × (List (S58)) × Bool × Bool × ByteArray × Bool)
 | 0, _, _, _, _, _, _, _, _, _, _, _ => none
 | k + 1, x0, x379000, x379001, x379002, x379003, x379004, x379005, x379006, x379007, x379008, x379009 => if (x0.size : Int) > 1 then (if 0 ≤ 2 then (if 2 ≤ (x0.size : Int) then (spec_AlpineParse.j4 k x0 ((x0.extract 0 2).toList == ([45, 114] : List UInt8)) x379000 x379001 x379002 x379003 x379004 x379005 x379006 x379007 x379008 x379009) else (none)) else (none)) else (spec_AlpineParse.j4 k x0 false x379000 x379001 x379002 x379003 x379004 x379005 x379006 x379007 x379008 x379009)
def spec_AlpineParse.j4 : Nat → ByteArray → Bool → ByteArray → ByteArray → ByteArray → ByteArray → Bool → List (S54) → List (S58) → Bool → Bool → ByteArray → Option (ByteArray × ByteArray × ByteArray × ByteArray × Bool × (List (S54)) × (List (S58)) × Bool × Bool × ByteArray × Bool)
 | 0, _, _, _, _, _, _, _, _, _, _, _, _ => none
 | k + 1, x0, x62, x379000, x379001, x379002, x379003, x379004, x379005, x379006, x379007, x379008, x379009 => if x62 = true then (if 2 ≤ (x0.size : Int) then ((E1.spec_alpRun.f k (x0.extract 2 x0.size)).bind fun t389 => (if 2 ≤ (wrap64 (2 + t389)) then (if (wrap64 (2 + t389)) ≤ (x0.size : Int) then ((spec_intOf.f k (x0.extract 2 ((wrap64 (2 + t389)) : Int).toNat)).bind fun bt390 => (if 0 ≤ (wrap64 (2 + t389)) then (some (x379000, x0.extract ((wrap64 (2 + t389)) : Int).toNat x0.size, x379002, x379003, x379004, x379005, x379006, x379007, bt390.1, bt390.2, true)) else (none))) else (none)) else (none))) else (none)) else (if x0.toList = ([] : List UInt8) then (some (x379000, x379001, x379002, x379003, x379004, x379005, x379006, x379007, x379008, x379009, true)) else (some (x379000, x0, x379002, x379003, true, x379005, x379006, x379007, x379008, x379009, true)))
end
def spec_AlpineParse.f (k : Nat) (a0 : ByteArray) : Option (ByteArray × ByteArray × ByteArray × ByteArray × Bool × (List (S54)) × (List (S58)) × Bool × Bool × ByteArray × Bool) := (spec_alpReadNumbers.f k a0).bind fun bt379 => (if bt379.2.toList = ([] : List UInt8) then (spec_AlpineParse.j0 k bt379.2 false a0 (⟨#[]⟩ : ByteArray) (⟨#[]⟩ : ByteArray) (⟨#[]⟩ : ByteArray) false bt379.1 true false (⟨#[]⟩ : ByteArray)) else (if 0 < (bt379.2.size : Int) then (if (bt bt379.2 0) ≥ 97 then (spec_AlpineParse.j0 k bt379.2 (decide ((bt bt379.2 0) ≤ 122)) a0 (⟨#[]⟩ : ByteArray) (⟨#[]⟩ : ByteArray) (⟨#[]⟩ : ByteArray) false bt379.1 true false (⟨#[]⟩ : ByteArray)) else (spec_AlpineParse.j0 k bt379.2 false a0 (⟨#[]⟩ : ByteArray) (⟨#[]⟩ : ByteArray) (⟨#[]⟩ : ByteArray) false bt379.1 true false (⟨#[]⟩ : ByteArray))) else (none)))
def spec_AlpineParse.T8 : Bool × List (List Nat × List Nat) := (true, [([], []), ([], []), ([0, 1], [0, 1]), ([], []), ([], []), ([3, 4], [3, 4]), ([0, 1, 2], []), ([6, 2, 0, 1, 2], [2, 6]), ([5, 7, 0, 1, 2, 3, 4, 5, 6, 7], [0, 3, 5])])
def spec_AlpineParse.B8 : List Nat := [0, 0, 3, 0, 0, 24, 7, 71, 255]
theorem spec_AlpineParse.tab8 : rtab .any (opsOf Tryd.f13 8) = spec_AlpineParse.T8 := by kernel_rfl
theorem spec_AlpineParse.bits8 : waitsOk spec_AlpineParse.T8.2 spec_AlpineParse.B8 = true := by kernel_rfl
def spec_AlpineParse.T11 : Bool × List (List Nat × List Nat) := (true, [([], []), ([], []), ([1], [1]), ([0, 2], [0, 2]), ([3], [3]), ([], []), ([], []), ([6], [6]), ([5, 7], [5, 7]), ([0, 1, 2, 3, 4], []), ([9, 4, 4, 0, 1, 2, 3, 4], [4, 9]), ([0, 1, 2, 3, 4, 5, 6, 7, 8, 9, 10], []), ([11, 8, 10, 0, 1, 2, 3, 4, 5, 6, 7, 8, 9, 10], [8, 11])])
def spec_AlpineParse.B11 : List Nat := [0, 0, 2, 7, 15, 0, 0, 64, 224, 31, 543, 2047, 4095]
theorem spec_AlpineParse.tab11 : rtab .any (opsOf Tryd.f13 11) = spec_AlpineParse.T11 := by kernel_rfl
theorem spec_AlpineParse.bits11 : waitsOk spec_AlpineParse.T11.2 spec_AlpineParse.B11 = true := by kernel_rfl
set_option maxHeartbeats 8000000 in
set_option maxRecDepth 100000 in
theorem spec_AlpineParse.calls (k : Nat) (a0 : ByteArray) (r1 : ByteArray) (r2 : ByteArray) (r3 : ByteArray) (r4 : ByteArray) (r5 : Bool) (r6 : List (S54)) (r7 : List (S58)) (r8 : Bool) (r9 : Bool) (r10 : ByteArray) (r11 : Bool) (w : World) (h : spec_AlpineParse.f k a0 = some (r1, r2, r3, r4, r5, r6, r7, r8, r9, r10, r11)) :
  Calls Tryd.prog 13 #[.string a0] w fun e w' => ∃ v5_ v6_ : Value, e = .returned (.tuple #[.agg #[.string r1, .string r2, .string r3, .string r4, .bool r5, v5_, v6_, .bool r8, .bool r9, .string r10], .bool r11]) ∧ Kd.R k54 54 w' w.heap.size (fun _ => True) v5_ r6 ∧ Kd.R k58 58 w' w.heap.size (fun _ => True) v6_ r7 ∧ Below w.heap.size w w' := by
 have hu33 := Tryd.underlying33
 have hu31 := Tryd.underlying31
 have HB := Aside0.mk (Below.refl w.heap.size w)
 have H : ((spec_alpReadNumbers.f k a0).bind fun bt379 => (if bt379.2.toList = ([] : List UInt8) then (spec_AlpineParse.j0 k bt379.2 false a0 (⟨#[]⟩ : ByteArray) (⟨#[]⟩ : ByteArray) (⟨#[]⟩ : ByteArray) false bt379.1 true false (⟨#[]⟩ : ByteArray)) else (if 0 < (bt379.2.size : Int) then (if (bt bt379.2 0) ≥ 97 then (spec_AlpineParse.j0 k bt379.2 (decide ((bt bt379.2 0) ≤ 122)) a0 (⟨#[]⟩ : ByteArray) (⟨#[]⟩ : ByteArray) (⟨#[]⟩ : ByteArray) false bt379.1 true false (⟨#[]⟩ : ByteArray)) else (spec_AlpineParse.j0 k bt379.2 false a0 (⟨#[]⟩ : ByteArray) (⟨#[]⟩ : ByteArray) (⟨#[]⟩ : ByteArray) false bt379.1 true false (⟨#[]⟩ : ByteArray))) else (none)))) = some (r1, r2, r3, r4, r5, r6, r7, r8, r9, r10, r11) := h
 clear h
 replace H := Option.bind_eq_some_iff.mp H
 obtain ⟨⟨t379, t380⟩, A20, H⟩ := H
 replace H : (if t380.toList = ([] : List UInt8) then (spec_AlpineParse.j0 k t380 false a0 (⟨#[]⟩ : ByteArray) (⟨#[]⟩ : ByteArray) (⟨#[]⟩ : ByteArray) false t379 true false (⟨#[]⟩ : ByteArray)) else (if 0 < (t380.size : Int) then (if (bt t380 0) ≥ 97 then (spec_AlpineParse.j0 k t380 (decide ((bt t380 0) ≤ 122)) a0 (⟨#[]⟩ : ByteArray) (⟨#[]⟩ : ByteArray) (⟨#[]⟩ : ByteArray) false t379 true false (⟨#[]⟩ : ByteArray)) else (spec_AlpineParse.j0 k t380 false a0 (⟨#[]⟩ : ByteArray) (⟨#[]⟩ : ByteArray) (⟨#[]⟩ : ByteArray) false t379 true false (⟨#[]⟩ : ByteArray))) else (none))) = some (r1, r2, r3, r4, r5, r6, r7, r8, r9, r10, r11) := H
 have A2 := Aside0.mk A20
 clear A20
 have HC3 := Aside0.mk H
 clear H
 go_enter Tryd.func13, Tryd.ntmps13
 go_upto_region 3 with (first | ((with_reducible refine gate_dst (N := 2) rfl ?_); refine box_event ?hg (N := 2) ?hd (cs := #[.string ⟨#[]⟩, .string ⟨#[]⟩, .string ⟨#[]⟩, .string ⟨#[]⟩, .bool false, .slice none 0 0, .slice none 0 0, .bool false, .bool false, .string ⟨#[]⟩]) (t := 33) ?hr ?_; (case hd => rfl); (case hg => rfl); (case hr => first | (go_simp; done) | (go_simp; rfl)); intro gb378 hg w4 hbox hb; have n0_ := Aside0.mk (below_step (by (with_reducible exact HB.out)) hb); have n1_ := Aside0.mk (hbox); have n2_ := Aside0.mk ((by rw [hg]; exact (below_size (by (with_reducible exact HB.out))) : w.heap.size ≤ gb378)); have n3_ := Aside0.mk ((by rw [hg]; exact (below_size (by (with_reducible exact HB.out))) : w.heap.size ≤ gb378)); clear HB; have HB := n0_; have BK378 := n1_; have GW378 := n2_; have GE378 := n3_; clear n0_ n1_ n2_ n3_; clear hb hbox hg; have hcz5_0 : w4.cell? ⟨gb378, 0, none⟩ = some (.string ⟨#[]⟩) := (blk_cell BK378.out 0).trans rfl; have hcz5_1 : w4.cell? ⟨gb378, 1, none⟩ = some (.string ⟨#[]⟩) := (blk_cell BK378.out 1).trans rfl; have hcz5_2 : w4.cell? ⟨gb378, 2, none⟩ = some (.string ⟨#[]⟩) := (blk_cell BK378.out 2).trans rfl; have hcz5_3 : w4.cell? ⟨gb378, 3, none⟩ = some (.string ⟨#[]⟩) := (blk_cell BK378.out 3).trans rfl; have hcz5_4 : w4.cell? ⟨gb378, 4, none⟩ = some (.bool false) := (blk_cell BK378.out 4).trans rfl; have hcz5_5 : w4.cell? ⟨gb378, 5, none⟩ = some (.slice none 0 0) := (blk_cell BK378.out 5).trans rfl; have hcz5_6 : w4.cell? ⟨gb378, 6, none⟩ = some (.slice none 0 0) := (blk_cell BK378.out 6).trans rfl; have hcz5_7 : w4.cell? ⟨gb378, 7, none⟩ = some (.bool false) := (blk_cell BK378.out 7).trans rfl; have hcz5_8 : w4.cell? ⟨gb378, 8, none⟩ = some (.bool false) := (blk_cell BK378.out 8).trans rfl; have hcz5_9 : w4.cell? ⟨gb378, 9, none⟩ = some (.string ⟨#[]⟩) := (blk_cell BK378.out 9).trans rfl; have hfz5_0 := blk_frozen BK378.out 0; have hfz5_1 := blk_frozen BK378.out 1; have hfz5_2 := blk_frozen BK378.out 2; have hfz5_3 := blk_frozen BK378.out 3; have hfz5_4 := blk_frozen BK378.out 4; have hfz5_5 := blk_frozen BK378.out 5; have hfz5_6 := blk_frozen BK378.out 6; have hfz5_7 := blk_frozen BK378.out 7; have hfz5_8 := blk_frozen BK378.out 8; have hfz5_9 := blk_frozen BK378.out 9) | ((with_reducible refine gate_callee (f := 26) rfl ?_); refine goesL_ (some 11) rfl rfl Tryd.func26 (by kernel_rfl) rfl #[.string a0] rfl (by (try simp only [List.map_toArray, List.map_cons, List.map_nil]); first | done | rfl | (simp only [List.length_drop, List.length_take]; rfl)) ?_; (with_reducible refine (spec_alpReadNumbers.calls k a0 t379 t380 _ A2.out).mono ?_); rintro e w6 ⟨v381, rfl, ho0, hb⟩; refine ⟨_, rfl, ?_⟩; have n0_ := Aside0.mk (Kd.R_lower ho0 (below_size (by (with_reducible refine below_set ?_ GE378.out; with_reducible refine below_set ?_ GE378.out; with_reducible exact HB.out)))); have n1_ := Aside0.mk (blk_below (g := gb378) (o := .cells #[.string a0, .string ⟨#[]⟩, .string ⟨#[]⟩, .string ⟨#[]⟩, .bool false, .slice none 0 0, .slice none 0 0, .bool true, .bool false, .string ⟨#[]⟩] 33 (0, 0)) (by refine blk_put (cs := #[.string a0, .string ⟨#[]⟩, .string ⟨#[]⟩, .string ⟨#[]⟩, .bool false, .slice none 0 0, .slice none 0 0, .bool false, .bool false, .string ⟨#[]⟩]) ?_ 7 _ rfl; refine blk_put (cs := #[.string ⟨#[]⟩, .string ⟨#[]⟩, .string ⟨#[]⟩, .string ⟨#[]⟩, .bool false, .slice none 0 0, .slice none 0 0, .bool false, .bool false, .string ⟨#[]⟩]) ?_ 0 _ rfl; exact BK378.out) hb); have n2_ := Aside0.mk (below_step (by (with_reducible refine below_set ?_ GE378.out; with_reducible refine below_set ?_ GE378.out; with_reducible exact HB.out)) hb); clear BK378; clear HB; have HO382 := n0_; have BK378 := n1_; have HB := n2_; clear n0_ n1_ n2_; (try clear hb); (try clear hb2); (try clear hk); (try clear hi); (try clear ho0); obtain ⟨Ao7, co7, eo7⟩ := Kd.R_slice HO382.out; subst eo7; have hcz8_0 : w6.cell? ⟨gb378, 0, none⟩ = some (.string a0) := (blk_cell BK378.out 0).trans rfl; have hcz8_1 : w6.cell? ⟨gb378, 1, none⟩ = some (.string ⟨#[]⟩) := (blk_cell BK378.out 1).trans rfl; have hcz8_2 : w6.cell? ⟨gb378, 2, none⟩ = some (.string ⟨#[]⟩) := (blk_cell BK378.out 2).trans rfl; have hcz8_3 : w6.cell? ⟨gb378, 3, none⟩ = some (.string ⟨#[]⟩) := (blk_cell BK378.out 3).trans rfl; have hcz8_4 : w6.cell? ⟨gb378, 4, none⟩ = some (.bool false) := (blk_cell BK378.out 4).trans rfl; have hcz8_5 : w6.cell? ⟨gb378, 5, none⟩ = some (.slice none 0 0) := (blk_cell BK378.out 5).trans rfl; have hcz8_6 : w6.cell? ⟨gb378, 6, none⟩ = some (.slice none 0 0) := (blk_cell BK378.out 6).trans rfl; have hcz8_7 : w6.cell? ⟨gb378, 7, none⟩ = some (.bool true) := (blk_cell BK378.out 7).trans rfl; have hcz8_8 : w6.cell? ⟨gb378, 8, none⟩ = some (.bool false) := (blk_cell BK378.out 8).trans rfl; have hcz8_9 : w6.cell? ⟨gb378, 9, none⟩ = some (.string ⟨#[]⟩) := (blk_cell BK378.out 9).trans rfl; have hfz8_0 := blk_frozen BK378.out 0; have hfz8_1 := blk_frozen BK378.out 1; have hfz8_2 := blk_frozen BK378.out 2; have hfz8_3 := blk_frozen BK378.out 3; have hfz8_4 := blk_frozen BK378.out 4; have hfz8_5 := blk_frozen BK378.out 5; have hfz8_6 := blk_frozen BK378.out 6; have hfz8_7 := blk_frozen BK378.out 7; have hfz8_8 := blk_frozen BK378.out 8; have hfz8_9 := blk_frozen BK378.out 9))
 (try simp only [Act.put, List.setIfInBounds_toArray, List.set_cons_zero, List.set_cons_succ])
 go_cut [26] (fun v26 wc => ∃ (kq : Nat) (x26_2 : Bool), v26 = .bool x26_2 ∧ Aside0 (spec_AlpineParse.j0 kq t380 x26_2 a0 (⟨#[]⟩ : ByteArray) (⟨#[]⟩ : ByteArray) (⟨#[]⟩ : ByteArray) false t379 true false (⟨#[]⟩ : ByteArray) = some (r1, r2, r3, r4, r5, r6, r7, r8, r9, r10, r11)) ∧ Aside0 (kq ≤ k) ∧ Aside0 (Kd.R k54 54 wc w.heap.size (fun _ => True) (.slice Ao7 t379.length co7) t379) ∧ Aside0 (wc.heap[gb378]? = some (.cells #[.string a0, .string ⟨#[]⟩, .string ⟨#[]⟩, .string ⟨#[]⟩, .bool false, (.slice Ao7 t379.length co7), (.slice none 0 0), .bool true, .bool false, .string ⟨#[]⟩] 33 (0, 0))) ∧ Aside0 (Below w.heap.size w wc))
 case first =>
  have H := HC3.out
  clear HC3
  by_cases c9 : t380.toList = ([] : List UInt8)
  ·rw [if_pos c9] at H
   have c9b0 : (t380.toList == ([] : List UInt8)) = true := beq_iff_eq.mpr c9
   have c9b1 : (t380.toList != ([] : List UInt8)) = false := bne_eq_false_iff_eq.mpr c9
   try have c9b9 : t380.toList.isEmpty = true := by simpa using c9b0
   clear c9
   (first | rw [c9b0] | (simp only [i64_w, i32_w]; rw [c9b0]) | rw [c9b9] | skip)
   have H' := Aside0.mk H
   clear H
   go_wp2
   go_meet
   case rel => exact ⟨_, (false), (by rfl), H', ⟨by omega⟩, ⟨by (with_reducible repeat (first | apply Kd.R_alloc | apply Kd.R_drewN | apply Kd.R_drew)); exact Kd.R_mono (Kd.R_far (p := ⟨gb378, 5, none⟩) (Kd.R_types HO382.out BK378.out (by decide)) (fun _ hk => hk.2) (.slice Ao7 t379.length co7)) (fun _ hk => trivial)⟩, ⟨by refine blk_put (cs := #[.string a0, .string ⟨#[]⟩, .string ⟨#[]⟩, .string ⟨#[]⟩, .bool false, .slice none 0 0, .slice none 0 0, .bool true, .bool false, .string ⟨#[]⟩]) ?_ 5 _ rfl; exact BK378.out⟩, ⟨by (with_reducible refine below_set ?_ GE378.out; with_reducible exact HB.out)⟩⟩
  ·rw [if_neg c9] at H
   have c9b0 : (t380.toList == ([] : List UInt8)) = false := beq_eq_false_iff_ne.mpr c9
   have c9b1 : (t380.toList != ([] : List UInt8)) = true := bne_iff_ne.mpr c9
   try have c9b9 : t380.toList.isEmpty = false := by simpa using c9b0
   (first | rw [c9b0] | (simp only [i64_w, i32_w]; rw [c9b0]) | rw [c9b9] | skip)
   by_cases c10 : 0 < (t380.size : Int)
   ·rw [if_pos c10] at H
    have c10b0 : decide (0 < (t380.size : Int)) = true := decide_eq_true c10
    have c10b1 : decide (0 < t380.size) = true := decide_eq_true (by omega)
    clear c10
    by_cases c12 : (bt t380 0) ≥ 97
    ·rw [if_pos c12] at H
     have c12b0 : decide (97 ≤ (bt t380 0)) = true := decide_eq_true c12
     clear c12
     have H' := Aside0.mk H
     clear H
     have p11 : 0 ≤ (0 : Int) := (by omega)
     have q11 : 0 < t380.size := (by have : (0 : Int) < (t380.size : Int) := of_decide_eq_true (by (with_reducible assumption)); omega)
     have hx11 : ∀ h : 0 < t380.size, ((t380[0]'h).toNat : Int) = bt t380 0 := bt_at t380 0
     clear p11
     have qi11 : (0 < (t380.size : Int)) = True := eq_true (of_decide_eq_true (by (with_reducible assumption)))
     replace q11 := eq_true q11
     have p13 : 0 ≤ (0 : Int) := (by omega)
     have q13 : 0 < t380.size := (by have : (0 : Int) < (t380.size : Int) := of_decide_eq_true (by (with_reducible assumption)); omega)
     have hx13 : ∀ h : 0 < t380.size, ((t380[0]'h).toNat : Int) = bt t380 0 := bt_at t380 0
     clear p13
     have qi13 : (0 < (t380.size : Int)) = True := eq_true (of_decide_eq_true (by (with_reducible assumption)))
     replace q13 := eq_true q13
     go_wp2
     go_meet
     case rel => exact ⟨_, (decide ((bt t380 0) ≤ 122)), (by rfl), H', ⟨by omega⟩, ⟨by (with_reducible repeat (first | apply Kd.R_alloc | apply Kd.R_drewN | apply Kd.R_drew)); exact Kd.R_mono (Kd.R_far (p := ⟨gb378, 5, none⟩) (Kd.R_types HO382.out BK378.out (by decide)) (fun _ hk => hk.2) (.slice Ao7 t379.length co7)) (fun _ hk => trivial)⟩, ⟨by refine blk_put (cs := #[.string a0, .string ⟨#[]⟩, .string ⟨#[]⟩, .string ⟨#[]⟩, .bool false, .slice none 0 0, .slice none 0 0, .bool true, .bool false, .string ⟨#[]⟩]) ?_ 5 _ rfl; exact BK378.out⟩, ⟨by (with_reducible refine below_set ?_ GE378.out; with_reducible exact HB.out)⟩⟩
    ·rw [if_neg c12] at H
     have c12b0 : decide (97 ≤ (bt t380 0)) = false := decide_eq_false c12
     clear c12
     have H' := Aside0.mk H
     clear H
     have p11 : 0 ≤ (0 : Int) := (by omega)
     have q11 : 0 < t380.size := (by have : (0 : Int) < (t380.size : Int) := of_decide_eq_true (by (with_reducible assumption)); omega)
     have hx11 : ∀ h : 0 < t380.size, ((t380[0]'h).toNat : Int) = bt t380 0 := bt_at t380 0
     clear p11
     have qi11 : (0 < (t380.size : Int)) = True := eq_true (of_decide_eq_true (by (with_reducible assumption)))
     replace q11 := eq_true q11
     go_wp2
     go_meet
     case rel => exact ⟨_, (false), (by rfl), H', ⟨by omega⟩, ⟨by (with_reducible repeat (first | apply Kd.R_alloc | apply Kd.R_drewN | apply Kd.R_drew)); exact Kd.R_mono (Kd.R_far (p := ⟨gb378, 5, none⟩) (Kd.R_types HO382.out BK378.out (by decide)) (fun _ hk => hk.2) (.slice Ao7 t379.length co7)) (fun _ hk => trivial)⟩, ⟨by refine blk_put (cs := #[.string a0, .string ⟨#[]⟩, .string ⟨#[]⟩, .string ⟨#[]⟩, .bool false, .slice none 0 0, .slice none 0 0, .bool true, .bool false, .string ⟨#[]⟩]) ?_ 5 _ rfl; exact BK378.out⟩, ⟨by (with_reducible refine below_set ?_ GE378.out; with_reducible exact HB.out)⟩⟩
   ·rw [if_neg c10] at H
    exact absurd H (by simp)
 case rest =>
  clear HC3
  clear hcz5_0 hcz5_1 hcz5_2 hcz5_3 hcz5_4 hcz5_5 hcz5_6 hcz5_7 hcz5_8 hcz5_9 hcz8_0 hcz8_1 hcz8_2 hcz8_3 hcz8_4 hcz8_5 hcz8_6 hcz8_7 hcz8_8 hcz8_9 hfz5_0 hfz5_1 hfz5_2 hfz5_3 hfz5_4 hfz5_5 hfz5_6 hfz5_7 hfz5_8 hfz5_9 hfz8_0 hfz8_1 hfz8_2 hfz8_3 hfz8_4 hfz8_5 hfz8_6 hfz8_7 hfz8_8 hfz8_9
  obtain ⟨kq, x26_2, rfl, HA, HJ2, HO_379005, BK378, HB⟩ := hcut
  cases kq with
  | zero => exact absurd HA.out (by simp [spec_AlpineParse.j0])
  | succ kj2 =>
   have H := HA.out
   clear HA
   simp only [spec_AlpineParse.j0] at H
   have HC14 := Aside0.mk H
   clear H
   go_upto_if 26 with (fail)
   go_cut [0, 26] (fun v0 v26 wc => ∃ (kq : Nat) (x0_13 : ByteArray) (x379002_13 : ByteArray), v0 = .string x0_13 ∧ Aside0 (spec_AlpineParse.j1 kq x0_13 a0 (⟨#[]⟩ : ByteArray) x379002_13 (⟨#[]⟩ : ByteArray) false t379 true false (⟨#[]⟩ : ByteArray) = some (r1, r2, r3, r4, r5, r6, r7, r8, r9, r10, r11)) ∧ Aside0 (kq ≤ kj2) ∧ Aside0 (Kd.R k54 54 wc w.heap.size (fun _ => True) (.slice Ao7 t379.length co7) t379) ∧ Aside0 (wc.heap[gb378]? = some (.cells #[.string a0, .string ⟨#[]⟩, .string x379002_13, .string ⟨#[]⟩, .bool false, (.slice Ao7 t379.length co7), (.slice none 0 0), .bool true, .bool false, .string ⟨#[]⟩] 33 (0, 0))) ∧ Aside0 (Below w.heap.size w wc))
   case first =>
    have H := HC14.out
    clear HC14
    by_cases c15 : x26_2 = true
    ·subst c15
     have H1 : (if 0 ≤ 1 then (if 1 ≤ (t380.size : Int) then (spec_AlpineParse.j1 kj2 (t380.extract 1 t380.size) a0 (⟨#[]⟩ : ByteArray) (t380.extract 0 1) (⟨#[]⟩ : ByteArray) false t379 true false (⟨#[]⟩ : ByteArray)) else (none)) else (none)) = some (r1, r2, r3, r4, r5, r6, r7, r8, r9, r10, r11) := by rw [if_pos rfl] at H; exact H
     clear H
     have H := H1
     clear H1
     by_cases c16 : 0 ≤ 1
     ·rw [if_pos c16] at H
      have c16b0 := eq_true c16
      have c16b1 : decide (0 ≤ 1) = true := decide_eq_true c16
      clear c16
      by_cases c17 : 1 ≤ (t380.size : Int)
      ·rw [if_pos c17] at H
       have c17b0 := eq_true c17
       have c17b1 : decide (1 ≤ (t380.size : Int)) = true := decide_eq_true c17
       clear c17
       have c18b0 := eq_true (of_decide_eq_true (by (with_reducible assumption)) : 1 ≤ (t380.size : Int))
       have H' := Aside0.mk H
       clear H
       try go_wp2
       have n0_ := Aside0.mk (Kd.R_drew HO_379005.out)
       have n1_ := Aside0.mk (blk_drew BK378.out)
       have n2_ := Aside0.mk (below_drew1 HB.out)
       clear HO_379005
       clear BK378
       clear HB
       have HO_379005 := n0_
       have BK378 := n1_
       have HB := n2_
       clear n0_ n1_ n2_
       refine start_ (n := 7) (S := fun w' => True) (ds := []) #[false, false, false, false, false, false, false] (by kernel_rfl) rfl rfl trivial (fun hHeld => ?_)
       generalize wc.drew = w19 at HO_379005 BK378 HB hHeld ⊢
       refine pure_ (i := 0) (N := some 27) (v := ?_) (a' := ?_) #[true, false, false, false, false, false, false] rfl rfl (by kernel_rfl) (fun _ _ _ h => h) (Or.inl ⟨by rfl, ?_⟩) ?_ ?_
       rotate_left
       ·intro w'
        go_simp
        with_reducible rfl
       rotate_left
       ·simp only [Act.put, List.setIfInBounds_toArray, List.set_cons_zero, List.set_cons_succ, i64_w, i32_w]
        rfl
       refine pure_ (i := 1) (N := some 28) (v := ?_) (a' := ?_) #[true, true, false, false, false, false, false] rfl rfl (by kernel_rfl) (fun _ _ _ h => h) (Or.inl ⟨by rfl, ?_⟩) ?_ ?_
       rotate_left
       ·intro w'
        go_simp
        with_reducible rfl
       rotate_left
       ·simp only [Act.put, List.setIfInBounds_toArray, List.set_cons_zero, List.set_cons_succ, i64_w, i32_w]
        rfl
       refine pure_ (i := 2) (N := some 29) (v := ?_) (a' := ?_) #[true, true, true, false, false, false, false] rfl rfl (by kernel_rfl) (fun _ _ _ h => h) (Or.inl ⟨by rfl, ?_⟩) ?_ ?_
       rotate_left
       ·intro w'
        go_simp
        with_reducible rfl
       rotate_left
       ·simp only [Act.put, List.setIfInBounds_toArray, List.set_cons_zero, List.set_cons_succ, i64_w, i32_w]
        rfl
       refine pure_ (i := 3) (N := some 30) (v := ?_) (a' := ?_) #[true, true, true, true, false, false, false] rfl rfl (by kernel_rfl) (fun _ _ _ h => h) (Or.inl ⟨by rfl, ?_⟩) ?_ ?_
       rotate_left
       ·intro w'
        go_simp
        with_reducible rfl
       rotate_left
       ·simp only [Act.put, List.setIfInBounds_toArray, List.set_cons_zero, List.set_cons_succ, i64_w, i32_w]
        rfl
       refine pure_ (i := 4) (N := some 31) (v := ?_) (a' := ?_) #[true, true, true, true, true, false, false] rfl rfl (by kernel_rfl) (fun _ _ _ h => h) (Or.inl ⟨by rfl, ?_⟩) ?_ ?_
       rotate_left
       ·intro w'
        go_simp
        with_reducible rfl
       rotate_left
       ·simp only [Act.put, List.setIfInBounds_toArray, List.set_cons_zero, List.set_cons_succ, i64_w, i32_w]
        rfl
       refine one_ (i := 5) (N := none) #[true, true, true, true, true, true, false] rfl rfl (by kernel_rfl) (by decide) (fun K hK => ?_)
       have hs20 : w19.cell? ⟨gb378, 2, none⟩ = some (.string ⟨#[]⟩) := (blk_cell BK378.out 2).trans rfl
       have hfs20 := blk_frozen BK378.out 2
       refine skip_ (w1 := ?_) (by rfl) rfl ?_ ?_
       rotate_left
       ·go_simp
        rfl
       refine hK.out _ _ trivial (fun hHeld => ?_)
       clear hK K
       refine pure_ (i := 6) (N := some 0) (v := ?_) (a' := ?_) #[true, true, true, true, true, true, true] rfl rfl (by kernel_rfl) (fun _ _ _ h => h) (Or.inl ⟨by rfl, ?_⟩) ?_ ?_
       rotate_left
       ·intro w'
        go_simp
        with_reducible rfl
       rotate_left
       ·simp only [Act.put, List.setIfInBounds_toArray, List.set_cons_zero, List.set_cons_succ, i64_w, i32_w]
        rfl
       refine done_ (by kernel_rfl) ?_
       try go_wp2
       go_meet
       case rel => exact ⟨_, (t380.extract 1 t380.size), (t380.extract 0 1), (by rfl), (by exact H'), ⟨by have := HJ2.out; first | omega | exact Nat.le_refl _⟩, ⟨by (with_reducible repeat (first | apply Kd.R_alloc | apply Kd.R_drewN | apply Kd.R_drew)); exact Kd.R_mono (Kd.R_far (p := ⟨gb378, 2, none⟩) (Kd.R_types HO_379005.out BK378.out (by decide)) (fun _ hk => hk.2) (.string (t380.extract 0 1))) (fun _ hk => trivial)⟩, ⟨by refine blk_put (cs := #[.string a0, .string ⟨#[]⟩, .string ⟨#[]⟩, .string ⟨#[]⟩, .bool false, .slice Ao7 t379.length co7, .slice none 0 0, .bool true, .bool false, .string ⟨#[]⟩]) ?_ 2 _ rfl; exact BK378.out⟩, ⟨by (with_reducible refine below_set ?_ GE378.out; with_reducible exact HB.out)⟩⟩
      ·rw [if_neg c17] at H
       exact absurd H (by simp)
     ·rw [if_neg c16] at H
      exact absurd H (by simp)
    ·replace c15 := Bool.eq_false_iff.mpr c15
     subst c15
     have H1 : (spec_AlpineParse.j1 kj2 t380 a0 (⟨#[]⟩ : ByteArray) (⟨#[]⟩ : ByteArray) (⟨#[]⟩ : ByteArray) false t379 true false (⟨#[]⟩ : ByteArray)) = some (r1, r2, r3, r4, r5, r6, r7, r8, r9, r10, r11) := by rw [if_neg (show ¬ (false = true) by decide)] at H; exact H
     clear H
     have H := H1
     clear H1
     have H' := Aside0.mk H
     clear H
     go_wp2
     go_meet
     case rel => exact ⟨_, (t380), ((⟨#[]⟩ : ByteArray)), (by rfl), (by exact H'), ⟨by have := HJ2.out; first | omega | exact Nat.le_refl _⟩, ⟨by (with_reducible repeat (first | apply Kd.R_alloc | apply Kd.R_drewN | apply Kd.R_drew)); exact HO_379005.out⟩, ⟨by exact BK378.out⟩, ⟨by (with_reducible exact HB.out)⟩⟩
   case rest =>
    clear HC14
    obtain ⟨kq, x0_13, x379002_13, rfl, HA, HJ13, HO_379005, BK378, HB⟩ := hcut
    cases kq with
    | zero => exact absurd HA.out (by simp [spec_AlpineParse.j1])
    | succ kj13 =>
     have H := HA.out
     clear HA
     simp only [spec_AlpineParse.j1] at H
     replace H := Option.bind_eq_some_iff.mp H
     obtain ⟨⟨t383, t384⟩, A210, H⟩ := H
     replace H : (if (t384.size : Int) > 1 then (if 0 < (t384.size : Int) then (if (bt t384 0) = 126 then (if 1 < (t384.size : Int) then ((spec_alpHex.f (bt t384 1)).bind fun t387 => (spec_AlpineParse.j2 kj13 t384 t387 a0 (⟨#[]⟩ : ByteArray) x379002_13 (⟨#[]⟩ : ByteArray) false t379 t383 true false (⟨#[]⟩ : ByteArray))) else (none)) else (spec_AlpineParse.j2 kj13 t384 false a0 (⟨#[]⟩ : ByteArray) x379002_13 (⟨#[]⟩ : ByteArray) false t379 t383 true false (⟨#[]⟩ : ByteArray))) else (none)) else (spec_AlpineParse.j2 kj13 t384 false a0 (⟨#[]⟩ : ByteArray) x379002_13 (⟨#[]⟩ : ByteArray) false t379 t383 true false (⟨#[]⟩ : ByteArray))) = some (r1, r2, r3, r4, r5, r6, r7, r8, r9, r10, r11) := H
     have A21 := Aside0.mk A210
     clear A210
     have HC22 := Aside0.mk H
     clear H
     go_upto_region 6 with (first | ((with_reducible refine gate_callee (f := 27) rfl ?_); refine goesL_ (some 34) rfl rfl Tryd.func27 (by kernel_rfl) rfl #[.string x0_13] rfl (by (try simp only [List.map_toArray, List.map_cons, List.map_nil]); first | done | rfl | (simp only [List.length_drop, List.length_take]; rfl)) ?_; (with_reducible refine (spec_alpReadSuffixes.calls kj13 x0_13 t383 t384 _ A21.out).mono ?_); rintro e w23 ⟨v385, rfl, ho0, hb⟩; refine ⟨_, rfl, ?_⟩; have n0_ := Aside0.mk (Kd.R_below (by (with_reducible repeat (first | apply Kd.R_alloc | apply Kd.R_drewN | apply Kd.R_drew)); exact HO_379005.out) hb); have n1_ := Aside0.mk (Kd.R_lower ho0 (below_size (by (with_reducible exact HB.out)))); have n2_ := Aside0.mk (blk_below (g := gb378) (o := .cells #[.string a0, .string ⟨#[]⟩, .string x379002_13, .string ⟨#[]⟩, .bool false, .slice Ao7 t379.length co7, .slice none 0 0, .bool true, .bool false, .string ⟨#[]⟩] 33 (0, 0)) (by exact BK378.out) hb); have n3_ := Aside0.mk (below_step (by (with_reducible exact HB.out)) hb); clear HO_379005; clear BK378; clear HB; have HO_379005 := n0_; have HO386 := n1_; have BK378 := n2_; have HB := n3_; clear n0_ n1_ n2_ n3_; (try clear hb); (try clear hb2); (try clear hk); (try clear hi); (try clear ho0); obtain ⟨Ao24, co24, eo24⟩ := Kd.R_slice HO386.out; subst eo24; have hcz25_0 : w23.cell? ⟨gb378, 0, none⟩ = some (.string a0) := (blk_cell BK378.out 0).trans rfl; have hcz25_1 : w23.cell? ⟨gb378, 1, none⟩ = some (.string ⟨#[]⟩) := (blk_cell BK378.out 1).trans rfl; have hcz25_2 : w23.cell? ⟨gb378, 2, none⟩ = some (.string x379002_13) := (blk_cell BK378.out 2).trans rfl; have hcz25_3 : w23.cell? ⟨gb378, 3, none⟩ = some (.string ⟨#[]⟩) := (blk_cell BK378.out 3).trans rfl; have hcz25_4 : w23.cell? ⟨gb378, 4, none⟩ = some (.bool false) := (blk_cell BK378.out 4).trans rfl; have hcz25_5 : w23.cell? ⟨gb378, 5, none⟩ = some (.slice Ao7 t379.length co7) := (blk_cell BK378.out 5).trans rfl; have hcz25_6 : w23.cell? ⟨gb378, 6, none⟩ = some (.slice none 0 0) := (blk_cell BK378.out 6).trans rfl; have hcz25_7 : w23.cell? ⟨gb378, 7, none⟩ = some (.bool true) := (blk_cell BK378.out 7).trans rfl; have hcz25_8 : w23.cell? ⟨gb378, 8, none⟩ = some (.bool false) := (blk_cell BK378.out 8).trans rfl; have hcz25_9 : w23.cell? ⟨gb378, 9, none⟩ = some (.string ⟨#[]⟩) := (blk_cell BK378.out 9).trans rfl; have hfz25_0 := blk_frozen BK378.out 0; have hfz25_1 := blk_frozen BK378.out 1; have hfz25_2 := blk_frozen BK378.out 2; have hfz25_3 := blk_frozen BK378.out 3; have hfz25_4 := blk_frozen BK378.out 4; have hfz25_5 := blk_frozen BK378.out 5; have hfz25_6 := blk_frozen BK378.out 6; have hfz25_7 := blk_frozen BK378.out 7; have hfz25_8 := blk_frozen BK378.out 8; have hfz25_9 := blk_frozen BK378.out 9))
     (try simp only [Act.put, List.setIfInBounds_toArray, List.set_cons_zero, List.set_cons_succ])
     go_cut [50] (fun v50 wc => ∃ (kq : Nat) (x50_21 : Bool), v50 = .bool x50_21 ∧ Aside0 (spec_AlpineParse.j2 kq t384 x50_21 a0 (⟨#[]⟩ : ByteArray) x379002_13 (⟨#[]⟩ : ByteArray) false t379 t383 true false (⟨#[]⟩ : ByteArray) = some (r1, r2, r3, r4, r5, r6, r7, r8, r9, r10, r11)) ∧ Aside0 (kq ≤ kj13) ∧ Aside0 (Kd.R k54 54 wc w.heap.size (fun _ => True) (.slice Ao7 t379.length co7) t379) ∧ Aside0 (Kd.R k58 58 wc w.heap.size (fun _ => True) (.slice Ao24 t383.length co24) t383) ∧ Aside0 (wc.heap[gb378]? = some (.cells #[.string a0, .string ⟨#[]⟩, .string x379002_13, .string ⟨#[]⟩, .bool false, (.slice Ao7 t379.length co7), (.slice Ao24 t383.length co24), .bool true, .bool false, .string ⟨#[]⟩] 33 (0, 0))) ∧ Aside0 (Below w.heap.size w wc))
     case first =>
      have H := HC22.out
      clear HC22
      by_cases c26 : (t384.size : Int) > 1
      ·rw [if_pos c26] at H
       have c26b0 : decide (1 < (t384.size : Int)) = true := decide_eq_true c26
       have c26b1 : decide (1 < t384.size) = true := decide_eq_true (by omega)
       clear c26
       (first | rw [c26b0] | (simp only [i64_w, i32_w]; rw [c26b0]) | skip)
       by_cases c27 : 0 < (t384.size : Int)
       ·rw [if_pos c27] at H
        have c27b0 : decide (0 < (t384.size : Int)) = true := decide_eq_true c27
        have c27b1 : decide (0 < t384.size) = true := decide_eq_true (by omega)
        clear c27
        by_cases c29 : (bt t384 0) = 126
        ·rw [if_pos c29] at H
         have c29b0 : ((bt t384 0) == 126) = true := beq_iff_eq.mpr c29
         have c29b1 : ((bt t384 0) != 126) = false := bne_eq_false_iff_eq.mpr c29
         clear c29
         by_cases c30 : 1 < (t384.size : Int)
         ·rw [if_pos c30] at H
          have c30b0 : decide (1 < (t384.size : Int)) = true := decide_eq_true c30
          have c30b1 : decide (1 < t384.size) = true := decide_eq_true (by omega)
          clear c30
          replace H := Option.bind_eq_some_iff.mp H
          obtain ⟨t387, A320, H⟩ := H
          replace H : (spec_AlpineParse.j2 kj13 t384 t387 a0 (⟨#[]⟩ : ByteArray) x379002_13 (⟨#[]⟩ : ByteArray) false t379 t383 true false (⟨#[]⟩ : ByteArray)) = some (r1, r2, r3, r4, r5, r6, r7, r8, r9, r10, r11) := H
          have A32 := Aside0.mk A320
          clear A320
          have H' := Aside0.mk H
          clear H
          have p28 : 0 ≤ (0 : Int) := (by omega)
          have q28 : 0 < t384.size := (by have : (0 : Int) < (t384.size : Int) := of_decide_eq_true (by (with_reducible assumption)); omega)
          have hx28 : ∀ h : 0 < t384.size, ((t384[0]'h).toNat : Int) = bt t384 0 := bt_at t384 0
          clear p28
          have qi28 : (0 < (t384.size : Int)) = True := eq_true (of_decide_eq_true (by (with_reducible assumption)))
          replace q28 := eq_true q28
          have p31 : 0 ≤ (1 : Int) := (by omega)
          have q31 : 1 < t384.size := (by have : (1 : Int) < (t384.size : Int) := of_decide_eq_true (by (with_reducible assumption)); omega)
          have hx31 : ∀ h : 1 < t384.size, ((t384[1]'h).toNat : Int) = bt t384 1 := bt_at t384 1
          clear p31
          have qi31 : (1 < (t384.size : Int)) = True := eq_true (of_decide_eq_true (by (with_reducible assumption)))
          replace q31 := eq_true q31
          go_wp2_with (first | (go_at_call 32; (with_reducible refine (spec_alpHex.calls (bt t384 1) t387 _ A32.out).mono ?_); rintro e w' ⟨rfl, ⟨nd, rfl⟩⟩))
          go_meet
          case rel => exact ⟨_, (t387), (by rfl), (by exact H'), ⟨by have := HJ2.out; have := HJ13.out; first | omega | exact Nat.le_refl _⟩, ⟨by (with_reducible repeat (first | apply Kd.R_alloc | apply Kd.R_drewN | apply Kd.R_drew)); exact Kd.R_mono (Kd.R_far (p := ⟨gb378, 6, none⟩) (Kd.R_types HO_379005.out BK378.out (by decide)) (fun _ hk => hk.2) (.slice Ao24 t383.length co24)) (fun _ hk => trivial)⟩, ⟨by (with_reducible repeat (first | apply Kd.R_alloc | apply Kd.R_drewN | apply Kd.R_drew)); exact Kd.R_mono (Kd.R_far (p := ⟨gb378, 6, none⟩) (Kd.R_types HO386.out BK378.out (by decide)) (fun _ hk => hk.2) (.slice Ao24 t383.length co24)) (fun _ hk => trivial)⟩, ⟨by (with_reducible (refine blk_drewN ?_ _)); refine blk_put (cs := #[.string a0, .string ⟨#[]⟩, .string x379002_13, .string ⟨#[]⟩, .bool false, .slice Ao7 t379.length co7, .slice none 0 0, .bool true, .bool false, .string ⟨#[]⟩]) ?_ 6 _ rfl; exact BK378.out⟩, ⟨by (with_reducible apply pw_below_drewN; with_reducible refine below_set ?_ GE378.out; with_reducible exact HB.out)⟩⟩
         ·rw [if_neg c30] at H
          exact absurd H (by simp)
        ·rw [if_neg c29] at H
         have c29b0 : ((bt t384 0) == 126) = false := beq_eq_false_iff_ne.mpr c29
         have c29b1 : ((bt t384 0) != 126) = true := bne_iff_ne.mpr c29
         have H' := Aside0.mk H
         clear H
         have p28 : 0 ≤ (0 : Int) := (by omega)
         have q28 : 0 < t384.size := (by have : (0 : Int) < (t384.size : Int) := of_decide_eq_true (by (with_reducible assumption)); omega)
         have hx28 : ∀ h : 0 < t384.size, ((t384[0]'h).toNat : Int) = bt t384 0 := bt_at t384 0
         clear p28
         have qi28 : (0 < (t384.size : Int)) = True := eq_true (of_decide_eq_true (by (with_reducible assumption)))
         replace q28 := eq_true q28
         go_wp2
         go_meet
         case rel => exact ⟨_, (false), (by rfl), (by exact H'), ⟨by have := HJ2.out; have := HJ13.out; first | omega | exact Nat.le_refl _⟩, ⟨by (with_reducible repeat (first | apply Kd.R_alloc | apply Kd.R_drewN | apply Kd.R_drew)); exact Kd.R_mono (Kd.R_far (p := ⟨gb378, 6, none⟩) (Kd.R_types HO_379005.out BK378.out (by decide)) (fun _ hk => hk.2) (.slice Ao24 t383.length co24)) (fun _ hk => trivial)⟩, ⟨by (with_reducible repeat (first | apply Kd.R_alloc | apply Kd.R_drewN | apply Kd.R_drew)); exact Kd.R_mono (Kd.R_far (p := ⟨gb378, 6, none⟩) (Kd.R_types HO386.out BK378.out (by decide)) (fun _ hk => hk.2) (.slice Ao24 t383.length co24)) (fun _ hk => trivial)⟩, ⟨by refine blk_put (cs := #[.string a0, .string ⟨#[]⟩, .string x379002_13, .string ⟨#[]⟩, .bool false, .slice Ao7 t379.length co7, .slice none 0 0, .bool true, .bool false, .string ⟨#[]⟩]) ?_ 6 _ rfl; exact BK378.out⟩, ⟨by (with_reducible refine below_set ?_ GE378.out; with_reducible exact HB.out)⟩⟩
       ·rw [if_neg c27] at H
        exact absurd H (by simp)
      ·rw [if_neg c26] at H
       have c26b0 : decide (1 < (t384.size : Int)) = false := decide_eq_false c26
       have c26b1 : decide (1 < t384.size) = false := decide_eq_false (by omega)
       clear c26
       (first | rw [c26b0] | (simp only [i64_w, i32_w]; rw [c26b0]) | skip)
       have H' := Aside0.mk H
       clear H
       go_wp2
       go_meet
       case rel => exact ⟨_, (false), (by rfl), (by exact H'), ⟨by have := HJ2.out; have := HJ13.out; first | omega | exact Nat.le_refl _⟩, ⟨by (with_reducible repeat (first | apply Kd.R_alloc | apply Kd.R_drewN | apply Kd.R_drew)); exact Kd.R_mono (Kd.R_far (p := ⟨gb378, 6, none⟩) (Kd.R_types HO_379005.out BK378.out (by decide)) (fun _ hk => hk.2) (.slice Ao24 t383.length co24)) (fun _ hk => trivial)⟩, ⟨by (with_reducible repeat (first | apply Kd.R_alloc | apply Kd.R_drewN | apply Kd.R_drew)); exact Kd.R_mono (Kd.R_far (p := ⟨gb378, 6, none⟩) (Kd.R_types HO386.out BK378.out (by decide)) (fun _ hk => hk.2) (.slice Ao24 t383.length co24)) (fun _ hk => trivial)⟩, ⟨by refine blk_put (cs := #[.string a0, .string ⟨#[]⟩, .string x379002_13, .string ⟨#[]⟩, .bool false, .slice Ao7 t379.length co7, .slice none 0 0, .bool true, .bool false, .string ⟨#[]⟩]) ?_ 6 _ rfl; exact BK378.out⟩, ⟨by (with_reducible refine below_set ?_ GE378.out; with_reducible exact HB.out)⟩⟩
     case rest =>
      clear HC22
      clear hcz25_0 hcz25_1 hcz25_2 hcz25_3 hcz25_4 hcz25_5 hcz25_6 hcz25_7 hcz25_8 hcz25_9 hfz25_0 hfz25_1 hfz25_2 hfz25_3 hfz25_4 hfz25_5 hfz25_6 hfz25_7 hfz25_8 hfz25_9
      obtain ⟨kq, x50_21, rfl, HA, HJ21, HO_379005, HO_379006, BK378, HB⟩ := hcut
      cases kq with
      | zero => exact absurd HA.out (by simp [spec_AlpineParse.j2])
      | succ kj21 =>
       have H := HA.out
       clear HA
       simp only [spec_AlpineParse.j2] at H
       have HC33 := Aside0.mk H
       clear H
       go_upto_if 50 with (fail)
       go_cut [0, 50] (fun v0 v50 wc => ∃ (kq : Nat) (x0_32 : ByteArray) (x379003_32 : ByteArray), v0 = .string x0_32 ∧ Aside0 (spec_AlpineParse.j3 kq x0_32 a0 (⟨#[]⟩ : ByteArray) x379002_13 x379003_32 false t379 t383 true false (⟨#[]⟩ : ByteArray) = some (r1, r2, r3, r4, r5, r6, r7, r8, r9, r10, r11)) ∧ Aside0 (kq ≤ kj21) ∧ Aside0 (Kd.R k54 54 wc w.heap.size (fun _ => True) (.slice Ao7 t379.length co7) t379) ∧ Aside0 (Kd.R k58 58 wc w.heap.size (fun _ => True) (.slice Ao24 t383.length co24) t383) ∧ Aside0 (wc.heap[gb378]? = some (.cells #[.string a0, .string ⟨#[]⟩, .string x379002_13, .string x379003_32, .bool false, (.slice Ao7 t379.length co7), (.slice Ao24 t383.length co24), .bool true, .bool false, .string ⟨#[]⟩] 33 (0, 0))) ∧ Aside0 (Below w.heap.size w wc))
       case first =>
        have H := HC33.out
        clear HC33
        by_cases c34 : x50_21 = true
        ·subst c34
         have H1 : (if 1 ≤ (t384.size : Int) then ((E2.spec_alpRun.f kj21 (t384.extract 1 t384.size)).bind fun t388 => (if 0 ≤ (wrap64 (1 + t388)) then (if (wrap64 (1 + t388)) ≤ (t384.size : Int) then (spec_AlpineParse.j3 kj21 (t384.extract ((wrap64 (1 + t388)) : Int).toNat t384.size) a0 (⟨#[]⟩ : ByteArray) x379002_13 (t384.extract 0 ((wrap64 (1 + t388)) : Int).toNat) false t379 t383 true false (⟨#[]⟩ : ByteArray)) else (none)) else (none))) else (none)) = some (r1, r2, r3, r4, r5, r6, r7, r8, r9, r10, r11) := by rw [if_pos rfl] at H; exact H
         clear H
         have H := H1
         clear H1
         by_cases c35 : 1 ≤ (t384.size : Int)
         ·rw [if_pos c35] at H
          have c35b0 := eq_true c35
          have c35b1 : decide (1 ≤ (t384.size : Int)) = true := decide_eq_true c35
          clear c35
          replace H := Option.bind_eq_some_iff.mp H
          obtain ⟨t388, A360, H⟩ := H
          replace H : (if 0 ≤ (wrap64 (1 + t388)) then (if (wrap64 (1 + t388)) ≤ (t384.size : Int) then (spec_AlpineParse.j3 kj21 (t384.extract ((wrap64 (1 + t388)) : Int).toNat t384.size) a0 (⟨#[]⟩ : ByteArray) x379002_13 (t384.extract 0 ((wrap64 (1 + t388)) : Int).toNat) false t379 t383 true false (⟨#[]⟩ : ByteArray)) else (none)) else (none)) = some (r1, r2, r3, r4, r5, r6, r7, r8, r9, r10, r11) := H
          have A36 := Aside0.mk A360
          clear A360
          obtain ⟨ji37, hji37⟩ : ∃ j_ : Int, (wrap64 (1 + t388)) = j_ := ⟨_, rfl⟩
          replace H : (if 0 ≤ (ji37) then (if (ji37) ≤ (t384.size : Int) then (spec_AlpineParse.j3 kj21 (t384.extract ((ji37) : Int).toNat t384.size) a0 (⟨#[]⟩ : ByteArray) x379002_13 (t384.extract 0 ((ji37) : Int).toNat) false t379 t383 true false (⟨#[]⟩ : ByteArray)) else (none)) else (none)) = some (r1, r2, r3, r4, r5, r6, r7, r8, r9, r10, r11) := by (rw [hji37] at H; exact H)
          (try rw [hji37] at A36)
          have hji37w : (IntKind.i64.wrap (1 + t388)) = ji37 := (i64_w _).trans hji37
          by_cases c38 : 0 ≤ (ji37)
          ·rw [if_pos c38] at H
           have c38b0 := eq_true c38
           have c38b1 : decide (0 ≤ (ji37)) = true := decide_eq_true c38
           clear c38
           by_cases c39 : (ji37) ≤ (t384.size : Int)
           ·rw [if_pos c39] at H
            have c39b0 := eq_true c39
            have c39b1 : decide ((ji37) ≤ (t384.size : Int)) = true := decide_eq_true c39
            clear c39
            have c40b0 := eq_true (of_decide_eq_true (by (with_reducible assumption)) : 0 ≤ (ji37))
            have c41b0 := eq_true (of_decide_eq_true (by (with_reducible assumption)) : (ji37) ≤ (t384.size : Int))
            have H' := Aside0.mk H
            clear H
            try go_wp2_with (first | ((with_reducible refine gate_callee (f := 33) rfl ?_); refine goesL_ (some 53) rfl rfl Tryd.func33 (by kernel_rfl) rfl #[.string (t384.extract 1 t384.size), .func (.func 32) #[] #[]] rfl (by (try simp only [List.map_toArray, List.map_cons, List.map_nil]); first | done | rfl | (simp only [List.length_drop, List.length_take]; rfl)) ?_; (with_reducible refine (E2.spec_alpRun.calls kj21 (t384.extract 1 t384.size) t388 _ A36.out).mono ?_); rintro e w' ⟨rfl, ⟨nd, rfl⟩⟩; refine ⟨_, rfl, ?_⟩; (try (rw [drewN_self wc]; generalize hq_ : World.drewN wc _ = wc; have n0_ : Aside0 (Kd.R k54 54 wc w.heap.size (fun _ => True) (.slice Ao7 t379.length co7) t379) := ⟨by rw [← hq_]; exact (by (with_reducible repeat (first | apply Kd.R_alloc | apply Kd.R_drewN | apply Kd.R_drew)); exact HO_379005.out)⟩; have n1_ : Aside0 (Kd.R k58 58 wc w.heap.size (fun _ => True) (.slice Ao24 t383.length co24) t383) := ⟨by rw [← hq_]; exact (by (with_reducible repeat (first | apply Kd.R_alloc | apply Kd.R_drewN | apply Kd.R_drew)); exact HO_379006.out)⟩; have n2_ : Aside0 (wc.heap[gb378]? = some (.cells #[.string a0, .string ⟨#[]⟩, .string x379002_13, .string ⟨#[]⟩, .bool false, .slice Ao7 t379.length co7, .slice Ao24 t383.length co24, .bool true, .bool false, .string ⟨#[]⟩] 33 (0, 0))) := ⟨by rw [← hq_]; exact (by (with_reducible (refine blk_drewN ?_ _)); exact BK378.out)⟩; have n3_ : Aside0 (Below w.heap.size w wc) := ⟨by rw [← hq_]; exact (by (with_reducible apply pw_below_drewN; with_reducible exact HB.out))⟩; clear HO_379005 HO_379006 BK378 HB hq_; have HO_379005 := n0_; have HO_379006 := n1_; have BK378 := n2_; have HB := n3_; clear n0_ n1_ n2_ n3_))))
            have n0_ := Aside0.mk (Kd.R_drew HO_379005.out)
            have n1_ := Aside0.mk (Kd.R_drew HO_379006.out)
            have n2_ := Aside0.mk (blk_drew BK378.out)
            have n3_ := Aside0.mk (below_drew1 HB.out)
            clear HO_379005
            clear HO_379006
            clear BK378
            clear HB
            have HO_379005 := n0_
            have HO_379006 := n1_
            have BK378 := n2_
            have HB := n3_
            clear n0_ n1_ n2_ n3_
            refine start_ (n := 9) (S := fun w' => True) (ds := []) #[false, false, false, false, false, false, false, false, false] (by kernel_rfl) rfl rfl trivial (fun hHeld => ?_); refine with_tabW spec_AlpineParse.tab8 spec_AlpineParse.bits8 (fun HT_ HW_ => ?_)
            generalize wc.drew = w42 at HO_379005 HO_379006 BK378 HB hHeld ⊢
            refine pure_ (i := 0) (N := some 55) (v := ?_) (a' := ?_) #[true, false, false, false, false, false, false, false, false] rfl rfl (any_of HT_.out (by kernel_rfl)) (fun _ _ _ h => h) (Or.inl ⟨by rfl, ?_⟩) ?_ ?_
            rotate_left
            ·intro w'
             go_simp
             with_reducible rfl
            rotate_left
            ·simp only [Act.put, List.setIfInBounds_toArray, List.set_cons_zero, List.set_cons_succ, i64_w, i32_w]
             rfl
            refine pure_ (i := 1) (N := some 56) (v := ?_) (a' := ?_) #[true, true, false, false, false, false, false, false, false] rfl rfl (any_of HT_.out (by kernel_rfl)) (fun _ _ _ h => h) (Or.inl ⟨by rfl, ?_⟩) ?_ ?_
            rotate_left
            ·intro w'
             go_simp
             with_reducible rfl
            rotate_left
            ·simp only [Act.put, List.setIfInBounds_toArray, List.set_cons_zero, List.set_cons_succ, i64_w, i32_w]
             rfl
            refine pure_ (i := 2) (N := some 57) (v := ?_) (a' := ?_) #[true, true, true, false, false, false, false, false, false] rfl rfl (any_of HT_.out (by kernel_rfl)) (fun _ _ _ h => h) (Or.inl ⟨by rfl, ?_⟩) ?_ ?_
            rotate_left
            ·intro w'
             go_simp
             with_reducible rfl
            rotate_left
            ·simp only [Act.put, List.setIfInBounds_toArray, List.set_cons_zero, List.set_cons_succ, i64_w, i32_w]
             rfl
            refine pure_ (i := 3) (N := some 58) (v := ?_) (a' := ?_) #[true, true, true, true, false, false, false, false, false] rfl rfl (any_of HT_.out (by kernel_rfl)) (fun _ _ _ h => h) (Or.inl ⟨by rfl, ?_⟩) ?_ ?_
            rotate_left
            ·intro w'
             go_simp
             with_reducible rfl
            rotate_left
            ·simp only [Act.put, List.setIfInBounds_toArray, List.set_cons_zero, List.set_cons_succ, i64_w, i32_w]
             rfl
            refine pure_ (i := 4) (N := some 59) (v := ?_) (a' := ?_) #[true, true, true, true, true, false, false, false, false] rfl rfl (any_of HT_.out (by kernel_rfl)) (fun _ _ _ h => h) (Or.inl ⟨by rfl, ?_⟩) ?_ ?_
            rotate_left
            ·intro w'
             go_simp
             with_reducible rfl
            rotate_left
            ·simp only [Act.put, List.setIfInBounds_toArray, List.set_cons_zero, List.set_cons_succ, i64_w, i32_w]
             rfl
            refine pure_ (i := 5) (N := some 60) (v := ?_) (a' := ?_) #[true, true, true, true, true, true, false, false, false] rfl rfl (any_of HT_.out (by kernel_rfl)) (fun _ _ _ h => h) (Or.inl ⟨by rfl, ?_⟩) ?_ ?_
            rotate_left
            ·intro w'
             go_simp
             with_reducible rfl
            rotate_left
            ·simp only [Act.put, List.setIfInBounds_toArray, List.set_cons_zero, List.set_cons_succ, i64_w, i32_w]
             rfl
            refine pure_ (i := 6) (N := some 61) (v := ?_) (a' := ?_) #[true, true, true, true, true, true, true, false, false] rfl rfl (any_of HT_.out (by kernel_rfl)) (fun _ _ _ h => h) (Or.inl ⟨by rfl, ?_⟩) ?_ ?_
            rotate_left
            ·intro w'
             go_simp
             with_reducible rfl
            rotate_left
            ·simp only [Act.put, List.setIfInBounds_toArray, List.set_cons_zero, List.set_cons_succ, i64_w, i32_w]
             rfl
            refine one_ (i := 7) (N := none) #[true, true, true, true, true, true, true, true, false] rfl rfl (one_of HT_.out (by kernel_rfl)) (by decide) (fun K hK => ?_)
            have hs43 : w42.cell? ⟨gb378, 3, none⟩ = some (.string ⟨#[]⟩) := (blk_cell BK378.out 3).trans rfl
            have hfs43 := blk_frozen BK378.out 3
            refine skip_ (w1 := ?_) (by rfl) rfl ?_ ?_
            rotate_left
            ·go_simp
             rfl
            refine hK.out _ _ trivial (fun hHeld => ?_)
            clear hK K
            refine pure_ (i := 8) (N := some 0) (v := ?_) (a' := ?_) #[true, true, true, true, true, true, true, true, true] rfl rfl (any_of HT_.out (by kernel_rfl)) (fun _ _ _ h => h) (Or.inl ⟨by rfl, ?_⟩) ?_ ?_
            rotate_left
            ·intro w'
             go_simp
             with_reducible rfl
            rotate_left
            ·simp only [Act.put, List.setIfInBounds_toArray, List.set_cons_zero, List.set_cons_succ, i64_w, i32_w]
             rfl
            refine done_ (done_of HT_.out (by kernel_rfl)) ?_
            try go_wp2
            go_meet
            case rel => exact ⟨_, (t384.extract ((ji37) : Int).toNat t384.size), (t384.extract 0 ((ji37) : Int).toNat), (by rfl), (by exact H'), ⟨by have := HJ2.out; have := HJ13.out; have := HJ21.out; first | omega | exact Nat.le_refl _⟩, ⟨by (with_reducible repeat (first | apply Kd.R_alloc | apply Kd.R_drewN | apply Kd.R_drew)); exact Kd.R_mono (Kd.R_far (p := ⟨gb378, 3, none⟩) (Kd.R_types HO_379005.out BK378.out (by decide)) (fun _ hk => hk.2) (.string (t384.extract 0 ((ji37) : Int).toNat))) (fun _ hk => trivial)⟩, ⟨by (with_reducible repeat (first | apply Kd.R_alloc | apply Kd.R_drewN | apply Kd.R_drew)); exact Kd.R_mono (Kd.R_far (p := ⟨gb378, 3, none⟩) (Kd.R_types HO_379006.out BK378.out (by decide)) (fun _ hk => hk.2) (.string (t384.extract 0 ((ji37) : Int).toNat))) (fun _ hk => trivial)⟩, ⟨by refine blk_put (cs := #[.string a0, .string ⟨#[]⟩, .string x379002_13, .string ⟨#[]⟩, .bool false, .slice Ao7 t379.length co7, .slice Ao24 t383.length co24, .bool true, .bool false, .string ⟨#[]⟩]) ?_ 3 _ rfl; exact BK378.out⟩, ⟨by (with_reducible refine below_set ?_ GE378.out; with_reducible exact HB.out)⟩⟩
           ·rw [if_neg c39] at H
            exact absurd H (by simp)
          ·rw [if_neg c38] at H
           exact absurd H (by simp)
         ·rw [if_neg c35] at H
          exact absurd H (by simp)
        ·replace c34 := Bool.eq_false_iff.mpr c34
         subst c34
         have H1 : (spec_AlpineParse.j3 kj21 t384 a0 (⟨#[]⟩ : ByteArray) x379002_13 (⟨#[]⟩ : ByteArray) false t379 t383 true false (⟨#[]⟩ : ByteArray)) = some (r1, r2, r3, r4, r5, r6, r7, r8, r9, r10, r11) := by rw [if_neg (show ¬ (false = true) by decide)] at H; exact H
         clear H
         have H := H1
         clear H1
         have H' := Aside0.mk H
         clear H
         go_wp2
         go_meet
         case rel => exact ⟨_, (t384), ((⟨#[]⟩ : ByteArray)), (by rfl), (by exact H'), ⟨by have := HJ2.out; have := HJ13.out; have := HJ21.out; first | omega | exact Nat.le_refl _⟩, ⟨by (with_reducible repeat (first | apply Kd.R_alloc | apply Kd.R_drewN | apply Kd.R_drew)); exact HO_379005.out⟩, ⟨by (with_reducible repeat (first | apply Kd.R_alloc | apply Kd.R_drewN | apply Kd.R_drew)); exact HO_379006.out⟩, ⟨by exact BK378.out⟩, ⟨by (with_reducible exact HB.out)⟩⟩
       case rest =>
        clear HC33
        obtain ⟨kq, x0_32, x379003_32, rfl, HA, HJ32, HO_379005, HO_379006, BK378, HB⟩ := hcut
        cases kq with
        | zero => exact absurd HA.out (by simp [spec_AlpineParse.j3])
        | succ kj32 =>
         have H := HA.out
         clear HA
         simp only [spec_AlpineParse.j3] at H
         have HC44 := Aside0.mk H
         clear H
         go_upto_region 9 with (fail)
         go_cut [62] (fun v62 wc => ∃ (kq : Nat) (x62_43 : Bool), v62 = .bool x62_43 ∧ Aside0 (spec_AlpineParse.j4 kq x0_32 x62_43 a0 (⟨#[]⟩ : ByteArray) x379002_13 x379003_32 false t379 t383 true false (⟨#[]⟩ : ByteArray) = some (r1, r2, r3, r4, r5, r6, r7, r8, r9, r10, r11)) ∧ Aside0 (kq ≤ kj32) ∧ Aside0 (Kd.R k54 54 wc w.heap.size (fun _ => True) (.slice Ao7 t379.length co7) t379) ∧ Aside0 (Kd.R k58 58 wc w.heap.size (fun _ => True) (.slice Ao24 t383.length co24) t383) ∧ Aside0 (wc.heap[gb378]? = some (.cells #[.string a0, .string ⟨#[]⟩, .string x379002_13, .string x379003_32, .bool false, (.slice Ao7 t379.length co7), (.slice Ao24 t383.length co24), .bool true, .bool false, .string ⟨#[]⟩] 33 (0, 0))) ∧ Aside0 (Below w.heap.size w wc))
         case first =>
          have H := HC44.out
          clear HC44
          by_cases c45 : (x0_32.size : Int) > 1
          ·rw [if_pos c45] at H
           have c45b0 : decide (1 < (x0_32.size : Int)) = true := decide_eq_true c45
           have c45b1 : decide (1 < x0_32.size) = true := decide_eq_true (by omega)
           clear c45
           (first | rw [c45b0] | (simp only [i64_w, i32_w]; rw [c45b0]) | skip)
           by_cases c46 : 0 ≤ 2
           ·rw [if_pos c46] at H
            have c46b0 := eq_true c46
            have c46b1 : decide (0 ≤ 2) = true := decide_eq_true c46
            clear c46
            by_cases c47 : 2 ≤ (x0_32.size : Int)
            ·rw [if_pos c47] at H
             have c47b0 := eq_true c47
             have c47b1 : decide (2 ≤ (x0_32.size : Int)) = true := decide_eq_true c47
             clear c47
             have H' := Aside0.mk H
             clear H
             go_wp2
             go_meet
             case rel => exact ⟨_, (((x0_32.extract 0 2).toList == ([45, 114] : List UInt8))), (by rfl), (by exact H'), ⟨by have := HJ2.out; have := HJ13.out; have := HJ21.out; have := HJ32.out; first | omega | exact Nat.le_refl _⟩, ⟨by (with_reducible repeat (first | apply Kd.R_alloc | apply Kd.R_drewN | apply Kd.R_drew)); exact HO_379005.out⟩, ⟨by (with_reducible repeat (first | apply Kd.R_alloc | apply Kd.R_drewN | apply Kd.R_drew)); exact HO_379006.out⟩, ⟨by exact BK378.out⟩, ⟨by (with_reducible exact HB.out)⟩⟩
            ·rw [if_neg c47] at H
             exact absurd H (by simp)
           ·rw [if_neg c46] at H
            exact absurd H (by simp)
          ·rw [if_neg c45] at H
           have c45b0 : decide (1 < (x0_32.size : Int)) = false := decide_eq_false c45
           have c45b1 : decide (1 < x0_32.size) = false := decide_eq_false (by omega)
           clear c45
           (first | rw [c45b0] | (simp only [i64_w, i32_w]; rw [c45b0]) | skip)
           have H' := Aside0.mk H
           clear H
           go_wp2
           go_meet
           case rel => exact ⟨_, (false), (by rfl), (by exact H'), ⟨by have := HJ2.out; have := HJ13.out; have := HJ21.out; have := HJ32.out; first | omega | exact Nat.le_refl _⟩, ⟨by (with_reducible repeat (first | apply Kd.R_alloc | apply Kd.R_drewN | apply Kd.R_drew)); exact HO_379005.out⟩, ⟨by (with_reducible repeat (first | apply Kd.R_alloc | apply Kd.R_drewN | apply Kd.R_drew)); exact HO_379006.out⟩, ⟨by exact BK378.out⟩, ⟨by (with_reducible exact HB.out)⟩⟩
         case rest =>
          clear HC44
          obtain ⟨kq, x62_43, rfl, HA, HJ43, HO_379005, HO_379006, BK378, HB⟩ := hcut
          cases kq with
          | zero => exact absurd HA.out (by simp [spec_AlpineParse.j4])
          | succ kj43 =>
           have H := HA.out
           clear HA
           simp only [spec_AlpineParse.j4] at H
           by_cases c48 : x62_43 = true
           ·subst c48
            have H1 : (if 2 ≤ (x0_32.size : Int) then ((E1.spec_alpRun.f kj43 (x0_32.extract 2 x0_32.size)).bind fun t389 => (if 2 ≤ (wrap64 (2 + t389)) then (if (wrap64 (2 + t389)) ≤ (x0_32.size : Int) then ((spec_intOf.f kj43 (x0_32.extract 2 ((wrap64 (2 + t389)) : Int).toNat)).bind fun bt390 => (if 0 ≤ (wrap64 (2 + t389)) then (some (a0, x0_32.extract ((wrap64 (2 + t389)) : Int).toNat x0_32.size, x379002_13, x379003_32, false, t379, t383, true, bt390.1, bt390.2, true)) else (none))) else (none)) else (none))) else (none)) = some (r1, r2, r3, r4, r5, r6, r7, r8, r9, r10, r11) := by rw [if_pos rfl] at H; exact H
            clear H
            have H := H1
            clear H1
            by_cases c49 : 2 ≤ (x0_32.size : Int)
            ·rw [if_pos c49] at H
             have c49b0 := eq_true c49
             have c49b1 : decide (2 ≤ (x0_32.size : Int)) = true := decide_eq_true c49
             clear c49
             replace H := Option.bind_eq_some_iff.mp H
             obtain ⟨t389, A500, H⟩ := H
             replace H : (if 2 ≤ (wrap64 (2 + t389)) then (if (wrap64 (2 + t389)) ≤ (x0_32.size : Int) then ((spec_intOf.f kj43 (x0_32.extract 2 ((wrap64 (2 + t389)) : Int).toNat)).bind fun bt390 => (if 0 ≤ (wrap64 (2 + t389)) then (some (a0, x0_32.extract ((wrap64 (2 + t389)) : Int).toNat x0_32.size, x379002_13, x379003_32, false, t379, t383, true, bt390.1, bt390.2, true)) else (none))) else (none)) else (none)) = some (r1, r2, r3, r4, r5, r6, r7, r8, r9, r10, r11) := H
             have A50 := Aside0.mk A500
             clear A500
             by_cases c51 : 2 ≤ (wrap64 (2 + t389))
             ·rw [if_pos c51] at H
              have c51b0 := eq_true c51
              have c51b1 : decide (2 ≤ (wrap64 (2 + t389))) = true := decide_eq_true c51
              by_cases c52 : (wrap64 (2 + t389)) ≤ (x0_32.size : Int)
              ·rw [if_pos c52] at H
               have c52b0 := eq_true c52
               have c52b1 : decide ((wrap64 (2 + t389)) ≤ (x0_32.size : Int)) = true := decide_eq_true c52
               replace H := Option.bind_eq_some_iff.mp H
               obtain ⟨⟨t390, t391⟩, A530, H⟩ := H
               replace H : (if 0 ≤ (wrap64 (2 + t389)) then (some (a0, x0_32.extract ((wrap64 (2 + t389)) : Int).toNat x0_32.size, x379002_13, x379003_32, false, t379, t383, true, t390, t391, true)) else (none)) = some (r1, r2, r3, r4, r5, r6, r7, r8, r9, r10, r11) := H
               have A53 := Aside0.mk A530
               clear A530
               obtain ⟨ji54, hji54⟩ : ∃ j_ : Int, (wrap64 (2 + t389)) = j_ := ⟨_, rfl⟩
               (try rw [hji54] at hji37)
               (try rw [hji54] at hji37w)
               replace H : (if 0 ≤ (ji54) then (some (a0, x0_32.extract ((ji54) : Int).toNat x0_32.size, x379002_13, x379003_32, false, t379, t383, true, t390, t391, true)) else (none)) = some (r1, r2, r3, r4, r5, r6, r7, r8, r9, r10, r11) := by (rw [hji54] at H; exact H)
               (try rw [hji54] at c51b0)
               (try rw [hji54] at c51b1)
               (try rw [hji54] at c51)
               (try rw [hji54] at c52b0)
               (try rw [hji54] at c52b1)
               (try rw [hji54] at c52)
               (try rw [hji54] at A50)
               (try rw [hji54] at A53)
               have hji54w : (IntKind.i64.wrap (2 + t389)) = ji54 := (i64_w _).trans hji54
               by_cases c55 : 0 ≤ (ji54)
               ·rw [if_pos c55] at H
                have c55b0 := eq_true c55
                have c55b1 : decide (0 ≤ (ji54)) = true := decide_eq_true c55
                clear c55
                have c56b0 := eq_true (of_decide_eq_true (by (with_reducible assumption)) : (ji54) ≤ (x0_32.size : Int))
                simp only [Option.some.injEq, Prod.mk.injEq] at H
                obtain ⟨rfl, rfl, rfl, rfl, rfl, rfl, rfl, rfl, rfl, rfl, rfl⟩ := H
                try go_wp2_with (first | ((with_reducible refine gate_callee (f := 33) rfl ?_); refine goesL_ (some 73) rfl rfl Tryd.func33 (by kernel_rfl) rfl #[.string (x0_32.extract 2 x0_32.size), .func (.func 34) #[] #[]] rfl (by (try simp only [List.map_toArray, List.map_cons, List.map_nil]); first | done | rfl | (simp only [List.length_drop, List.length_take]; rfl)) ?_; (with_reducible refine (E1.spec_alpRun.calls kj43 (x0_32.extract 2 x0_32.size) t389 _ A50.out).mono ?_); rintro e w' ⟨rfl, ⟨nd, rfl⟩⟩; refine ⟨_, rfl, ?_⟩; (try (rw [drewN_self wc]; generalize hq_ : World.drewN wc _ = wc; have n0_ : Aside0 (Kd.R k54 54 wc w.heap.size (fun _ => True) (.slice Ao7 t379.length co7) t379) := ⟨by rw [← hq_]; exact (by (with_reducible repeat (first | apply Kd.R_alloc | apply Kd.R_drewN | apply Kd.R_drew)); exact HO_379005.out)⟩; have n1_ : Aside0 (Kd.R k58 58 wc w.heap.size (fun _ => True) (.slice Ao24 t383.length co24) t383) := ⟨by rw [← hq_]; exact (by (with_reducible repeat (first | apply Kd.R_alloc | apply Kd.R_drewN | apply Kd.R_drew)); exact HO_379006.out)⟩; have n2_ : Aside0 (wc.heap[gb378]? = some (.cells #[.string a0, .string ⟨#[]⟩, .string x379002_13, .string x379003_32, .bool false, .slice Ao7 t379.length co7, .slice Ao24 t383.length co24, .bool true, .bool false, .string ⟨#[]⟩] 33 (0, 0))) := ⟨by rw [← hq_]; exact (by (with_reducible (refine blk_drewN ?_ _)); exact BK378.out)⟩; have n3_ : Aside0 (Below w.heap.size w wc) := ⟨by rw [← hq_]; exact (by (with_reducible apply pw_below_drewN; with_reducible exact HB.out))⟩; clear HO_379005 HO_379006 BK378 HB hq_; have HO_379005 := n0_; have HO_379006 := n1_; have BK378 := n2_; have HB := n3_; clear n0_ n1_ n2_ n3_))))
                have n0_ := Aside0.mk (Kd.R_drew HO_379005.out)
                have n1_ := Aside0.mk (Kd.R_drew HO_379006.out)
                have n2_ := Aside0.mk (blk_drew BK378.out)
                have n3_ := Aside0.mk (below_drew1 HB.out)
                clear HO_379005
                clear HO_379006
                clear BK378
                clear HB
                have HO_379005 := n0_
                have HO_379006 := n1_
                have BK378 := n2_
                have HB := n3_
                clear n0_ n1_ n2_ n3_
                refine start_ (n := 13) (S := fun w' => True) (ds := []) #[false, false, false, false, false, false, false, false, false, false, false, false, false] (by kernel_rfl) rfl rfl trivial (fun hHeld => ?_); refine with_tabW spec_AlpineParse.tab11 spec_AlpineParse.bits11 (fun HT_ HW_ => ?_)
                generalize wc.drew = w57 at HO_379005 HO_379006 BK378 HB hHeld ⊢
                refine pure_ (i := 0) (N := some 74) (v := ?_) (a' := ?_) #[true, false, false, false, false, false, false, false, false, false, false, false, false] rfl rfl (any_of HT_.out (by kernel_rfl)) (fun _ _ _ h => h) (Or.inl ⟨by rfl, ?_⟩) ?_ ?_
                rotate_left
                ·intro w'
                 go_simp
                 with_reducible rfl
                rotate_left
                ·simp only [Act.put, List.setIfInBounds_toArray, List.set_cons_zero, List.set_cons_succ, i64_w, i32_w]
                 rfl
                refine pure_ (i := 1) (N := some 75) (v := ?_) (a' := ?_) #[true, true, false, false, false, false, false, false, false, false, false, false, false] rfl rfl (any_of HT_.out (by kernel_rfl)) (fun _ _ _ h => h) (Or.inl ⟨by rfl, ?_⟩) ?_ ?_
                rotate_left
                ·intro w'
                 go_simp
                 with_reducible rfl
                rotate_left
                ·simp only [Act.put, List.setIfInBounds_toArray, List.set_cons_zero, List.set_cons_succ, i64_w, i32_w]
                 rfl
                refine pure_ (i := 2) (N := some 76) (v := ?_) (a' := ?_) #[true, true, true, false, false, false, false, false, false, false, false, false, false] rfl rfl (any_of HT_.out (by kernel_rfl)) (fun _ _ _ h => h) (Or.inl ⟨by rfl, ?_⟩) ?_ ?_
                rotate_left
                ·intro w'
                 go_simp
                 with_reducible rfl
                rotate_left
                ·simp only [Act.put, List.setIfInBounds_toArray, List.set_cons_zero, List.set_cons_succ, i64_w, i32_w]
                 rfl
                refine pure_ (i := 3) (N := some 77) (v := ?_) (a' := ?_) #[true, true, true, true, false, false, false, false, false, false, false, false, false] rfl rfl (any_of HT_.out (by kernel_rfl)) (fun _ _ _ h => h) (Or.inl ⟨by rfl, ?_⟩) ?_ ?_
                rotate_left
                ·intro w'
                 go_simp
                 with_reducible rfl
                rotate_left
                ·simp only [Act.put, List.setIfInBounds_toArray, List.set_cons_zero, List.set_cons_succ, i64_w, i32_w]
                 rfl
                refine pure_ (i := 5) (N := some 79) (v := ?_) (a' := ?_) #[true, true, true, true, false, true, false, false, false, false, false, false, false] rfl rfl (any_of HT_.out (by kernel_rfl)) (fun _ _ _ h => h) (Or.inl ⟨by rfl, ?_⟩) ?_ ?_
                rotate_left
                ·intro w'
                 go_simp
                 with_reducible rfl
                rotate_left
                ·simp only [Act.put, List.setIfInBounds_toArray, List.set_cons_zero, List.set_cons_succ, i64_w, i32_w]
                 rfl
                refine pure_ (i := 6) (N := some 80) (v := ?_) (a' := ?_) #[true, true, true, true, false, true, true, false, false, false, false, false, false] rfl rfl (any_of HT_.out (by kernel_rfl)) (fun _ _ _ h => h) (Or.inl ⟨by rfl, ?_⟩) ?_ ?_
                rotate_left
                ·intro w'
                 go_simp
                 with_reducible rfl
                rotate_left
                ·simp only [Act.put, List.setIfInBounds_toArray, List.set_cons_zero, List.set_cons_succ, i64_w, i32_w]
                 rfl
                refine pure_ (i := 7) (N := some 81) (v := ?_) (a' := ?_) #[true, true, true, true, false, true, true, true, false, false, false, false, false] rfl rfl (any_of HT_.out (by kernel_rfl)) (fun _ _ _ h => h) (Or.inl ⟨by rfl, ?_⟩) ?_ ?_
                rotate_left
                ·intro w'
                 go_simp
                 with_reducible rfl
                rotate_left
                ·simp only [Act.put, List.setIfInBounds_toArray, List.set_cons_zero, List.set_cons_succ, i64_w, i32_w]
                 rfl
                refine pure_ (i := 8) (N := some 82) (v := ?_) (a' := ?_) #[true, true, true, true, false, true, true, true, true, false, false, false, false] rfl rfl (any_of HT_.out (by kernel_rfl)) (fun _ _ _ h => h) (Or.inl ⟨by rfl, ?_⟩) ?_ ?_
                rotate_left
                ·intro w'
                 go_simp
                 with_reducible rfl
                rotate_left
                ·simp only [Act.put, List.setIfInBounds_toArray, List.set_cons_zero, List.set_cons_succ, i64_w, i32_w]
                 rfl
                refine one_ (i := 4) (N := some 78) #[true, true, true, true, true, true, true, true, true, false, false, false, false] rfl rfl (one_of HT_.out (by kernel_rfl)) (by decide) (fun K hK => ?_)
                refine goes_ Tryd.func35 (by kernel_rfl) rfl #[.string (x0_32.extract 2 ((ji54) : Int).toNat)] (by rfl) rfl rfl (by (try simp only [List.map_toArray, List.map_cons, List.map_nil]); first | done | (simp only [hji54]; rfl) | rfl | (simp only [List.length_drop, List.length_take]; rfl)) ?_
                with_reducible refine (spec_intOf.calls kj43 (x0_32.extract 2 ((ji54) : Int).toNat) t390 t391 _ A53.out).mono ?_
                rintro e w58 ⟨rfl, hb⟩
                refine ⟨_, rfl, ?_⟩
                have n0_ := Aside0.mk (Kd.R_below (by (with_reducible repeat (first | apply Kd.R_alloc | apply Kd.R_drewN | apply Kd.R_drew)); exact HO_379005.out) hb)
                have n1_ := Aside0.mk (Kd.R_below (by (with_reducible repeat (first | apply Kd.R_alloc | apply Kd.R_drewN | apply Kd.R_drew)); exact HO_379006.out) hb)
                have n2_ := Aside0.mk (blk_below (g := gb378) (o := .cells #[.string a0, .string ⟨#[]⟩, .string x379002_13, .string x379003_32, .bool false, .slice Ao7 t379.length co7, .slice Ao24 t383.length co24, .bool true, .bool false, .string ⟨#[]⟩] 33 (0, 0)) (by exact BK378.out) hb)
                have n3_ := Aside0.mk (below_step (by (with_reducible exact HB.out)) hb)
                clear HO_379005
                clear HO_379006
                clear BK378
                clear HB
                have HO_379005 := n0_
                have HO_379006 := n1_
                have BK378 := n2_
                have HB := n3_
                clear n0_ n1_ n2_ n3_
                (try clear hb)
                (try clear hb2)
                (try clear hk)
                (try clear hi)
                refine hK.out _ _ trivial (fun hHeld => ?_)
                clear hK K
                refine norm_ (a' := ?_) ?_ ?_
                rotate_left
                ·show Act.put _ (some 78) _ = _
                 simp only [Act.put, List.setIfInBounds_toArray, List.set_cons_zero, List.set_cons_succ, i64_w, i32_w]
                 rfl
                refine pure_ (i := 9) (N := some 83) (v := ?_) (a' := ?_) #[true, true, true, true, true, true, true, true, true, true, false, false, false] rfl rfl (any_of HT_.out (by kernel_rfl)) (fun _ _ _ h => h) (Or.inl ⟨by rfl, ?_⟩) ?_ ?_
                rotate_left
                ·intro w'
                 go_simp
                 with_reducible rfl
                rotate_left
                ·simp only [Act.put, List.setIfInBounds_toArray, List.set_cons_zero, List.set_cons_succ, i64_w, i32_w]
                 rfl
                refine one_ (i := 10) (N := none) #[true, true, true, true, true, true, true, true, true, true, true, false, false] rfl rfl (one_of HT_.out (by kernel_rfl)) (by decide) (fun K hK => ?_)
                have hs59 : w58.cell? ⟨gb378, 8, none⟩ = some (.bool false) := (blk_cell BK378.out 8).trans rfl
                have hfs59 := blk_frozen BK378.out 8
                have hs60 : w58.cell? ⟨gb378, 9, none⟩ = some (.string ⟨#[]⟩) := (blk_cell BK378.out 9).trans rfl
                have hfs60 := blk_frozen BK378.out 9
                refine skip_ (w1 := ?_) (by rfl) rfl ?_ ?_
                rotate_left
                ·go_simp
                 rfl
                refine hK.out _ _ trivial (fun hHeld => ?_)
                clear hK K
                refine pure_ (i := 11) (N := some 84) (v := ?_) (a' := ?_) #[true, true, true, true, true, true, true, true, true, true, true, true, false] rfl rfl (any_of HT_.out (by kernel_rfl)) (fun _ _ _ h => h) (Or.inl ⟨by rfl, ?_⟩) ?_ ?_
                rotate_left
                ·intro w'
                 go_simp
                 with_reducible rfl
                rotate_left
                ·simp only [Act.put, List.setIfInBounds_toArray, List.set_cons_zero, List.set_cons_succ, i64_w, i32_w]
                 rfl
                refine one_ (i := 12) (N := none) #[true, true, true, true, true, true, true, true, true, true, true, true, true] rfl rfl (one_of HT_.out (by kernel_rfl)) (by decide) (fun K hK => ?_)
                have hs61 : w58.cell? ⟨gb378, 1, none⟩ = some (.string ⟨#[]⟩) := (blk_cell BK378.out 1).trans rfl
                have hfs61 := blk_frozen BK378.out 1
                refine skip_ (w1 := ?_) (by rfl) rfl ?_ ?_
                rotate_left
                ·go_simp
                 rfl
                refine hK.out _ _ trivial (fun hHeld => ?_)
                clear hK K
                refine done_ (done_of HT_.out (by kernel_rfl)) ?_
                have hcz62_0 : w58.cell? ⟨gb378, 0, none⟩ = some (.string a0) := (blk_cell BK378.out 0).trans rfl
                have hcz62_1 : w58.cell? ⟨gb378, 1, none⟩ = some (.string ⟨#[]⟩) := (blk_cell BK378.out 1).trans rfl
                have hcz62_2 : w58.cell? ⟨gb378, 2, none⟩ = some (.string x379002_13) := (blk_cell BK378.out 2).trans rfl
                have hcz62_3 : w58.cell? ⟨gb378, 3, none⟩ = some (.string x379003_32) := (blk_cell BK378.out 3).trans rfl
                have hcz62_4 : w58.cell? ⟨gb378, 4, none⟩ = some (.bool false) := (blk_cell BK378.out 4).trans rfl
                have hcz62_5 : w58.cell? ⟨gb378, 5, none⟩ = some (.slice Ao7 t379.length co7) := (blk_cell BK378.out 5).trans rfl
                have hcz62_6 : w58.cell? ⟨gb378, 6, none⟩ = some (.slice Ao24 t383.length co24) := (blk_cell BK378.out 6).trans rfl
                have hcz62_7 : w58.cell? ⟨gb378, 7, none⟩ = some (.bool true) := (blk_cell BK378.out 7).trans rfl
                have hcz62_8 : w58.cell? ⟨gb378, 8, none⟩ = some (.bool false) := (blk_cell BK378.out 8).trans rfl
                have hcz62_9 : w58.cell? ⟨gb378, 9, none⟩ = some (.string ⟨#[]⟩) := (blk_cell BK378.out 9).trans rfl
                have hfz62_0 := blk_frozen BK378.out 0
                have hfz62_1 := blk_frozen BK378.out 1
                have hfz62_2 := blk_frozen BK378.out 2
                have hfz62_3 := blk_frozen BK378.out 3
                have hfz62_4 := blk_frozen BK378.out 4
                have hfz62_5 := blk_frozen BK378.out 5
                have hfz62_6 := blk_frozen BK378.out 6
                have hfz62_7 := blk_frozen BK378.out 7
                have hfz62_8 := blk_frozen BK378.out 8
                have hfz62_9 := blk_frozen BK378.out 9
                try go_wp2
                refine bodyPost_ret (results_ct rfl _ _ gb378 33 #[.string a0, .string (x0_32.extract ((ji54) : Int).toNat x0_32.size), .string x379002_13, .string x379003_32, .bool false, .slice Ao7 t379.length co7, .slice Ao24 t383.length co24, .bool true, .bool t390, .string t391] (0, 0) _ rfl (by refine blk_put (cs := #[.string a0, .string (x0_32.extract ((ji54) : Int).toNat x0_32.size), .string x379002_13, .string x379003_32, .bool false, .slice Ao7 t379.length co7, .slice Ao24 t383.length co24, .bool true, .bool t390, .string t391]) ?_ 9 _ rfl; refine blk_put (cs := #[.string a0, .string (x0_32.extract ((ji54) : Int).toNat x0_32.size), .string x379002_13, .string x379003_32, .bool false, .slice Ao7 t379.length co7, .slice Ao24 t383.length co24, .bool true, .bool t390, .string t391]) ?_ 8 _ rfl; refine blk_put (cs := #[.string a0, .string (x0_32.extract ((ji54) : Int).toNat x0_32.size), .string x379002_13, .string x379003_32, .bool false, .slice Ao7 t379.length co7, .slice Ao24 t383.length co24, .bool true, .bool t390, .string t391]) ?_ 7 _ rfl; refine blk_put (cs := #[.string a0, .string (x0_32.extract ((ji54) : Int).toNat x0_32.size), .string x379002_13, .string x379003_32, .bool false, .slice Ao7 t379.length co7, .slice Ao24 t383.length co24, .bool true, .bool t390, .string t391]) ?_ 6 _ rfl; refine blk_put (cs := #[.string a0, .string (x0_32.extract ((ji54) : Int).toNat x0_32.size), .string x379002_13, .string x379003_32, .bool false, .slice Ao7 t379.length co7, .slice Ao24 t383.length co24, .bool true, .bool t390, .string t391]) ?_ 5 _ rfl; refine blk_put (cs := #[.string a0, .string (x0_32.extract ((ji54) : Int).toNat x0_32.size), .string x379002_13, .string x379003_32, .bool false, .slice Ao7 t379.length co7, .slice Ao24 t383.length co24, .bool true, .bool t390, .string t391]) ?_ 4 _ rfl; refine blk_put (cs := #[.string a0, .string (x0_32.extract ((ji54) : Int).toNat x0_32.size), .string x379002_13, .string x379003_32, .bool false, .slice Ao7 t379.length co7, .slice Ao24 t383.length co24, .bool true, .bool t390, .string t391]) ?_ 3 _ rfl; refine blk_put (cs := #[.string a0, .string (x0_32.extract ((ji54) : Int).toNat x0_32.size), .string x379002_13, .string x379003_32, .bool false, .slice Ao7 t379.length co7, .slice Ao24 t383.length co24, .bool true, .bool t390, .string t391]) ?_ 2 _ rfl; refine blk_put (cs := #[.string a0, .string (x0_32.extract ((ji54) : Int).toNat x0_32.size), .string x379002_13, .string x379003_32, .bool false, .slice Ao7 t379.length co7, .slice Ao24 t383.length co24, .bool true, .bool t390, .string t391]) ?_ 1 _ rfl; refine blk_put (cs := #[.string a0, .string (x0_32.extract ((ji54) : Int).toNat x0_32.size), .string x379002_13, .string x379003_32, .bool false, .slice Ao7 t379.length co7, .slice Ao24 t383.length co24, .bool true, .bool t390, .string t391]) ?_ 0 _ rfl; refine blk_put (cs := #[.string a0, .string ⟨#[]⟩, .string x379002_13, .string x379003_32, .bool false, .slice Ao7 t379.length co7, .slice Ao24 t383.length co24, .bool true, .bool t390, .string t391]) ?_ 1 _ rfl; refine blk_put (cs := #[.string a0, .string ⟨#[]⟩, .string x379002_13, .string x379003_32, .bool false, .slice Ao7 t379.length co7, .slice Ao24 t383.length co24, .bool true, .bool t390, .string ⟨#[]⟩]) ?_ 9 _ rfl; refine blk_put (cs := #[.string a0, .string ⟨#[]⟩, .string x379002_13, .string x379003_32, .bool false, .slice Ao7 t379.length co7, .slice Ao24 t383.length co24, .bool true, .bool false, .string ⟨#[]⟩]) ?_ 8 _ rfl; exact BK378.out) Tryd.underlying33 rfl (by kernel_rfl)) rfl ?_
                exact ⟨_, _, by rfl, by (with_reducible repeat (first | apply Kd.R_alloc | apply Kd.R_drewN | apply Kd.R_drew)); exact Kd.R_mono (Kd.R_far (p := ⟨gb378, 9, none⟩) (Kd.R_far (p := ⟨gb378, 8, none⟩) (Kd.R_far (p := ⟨gb378, 7, none⟩) (Kd.R_far (p := ⟨gb378, 6, none⟩) (Kd.R_far (p := ⟨gb378, 5, none⟩) (Kd.R_far (p := ⟨gb378, 4, none⟩) (Kd.R_far (p := ⟨gb378, 3, none⟩) (Kd.R_far (p := ⟨gb378, 2, none⟩) (Kd.R_far (p := ⟨gb378, 1, none⟩) (Kd.R_far (p := ⟨gb378, 0, none⟩) (Kd.R_far (p := ⟨gb378, 1, none⟩) (Kd.R_far (p := ⟨gb378, 9, none⟩) (Kd.R_far (p := ⟨gb378, 8, none⟩) (Kd.R_types HO_379005.out BK378.out (by decide)) (fun _ hk => hk.2) (.bool t390)) (fun _ hk => hk.2) (.string t391)) (fun _ hk => hk.2) (.string (x0_32.extract ((ji54) : Int).toNat x0_32.size))) (fun _ hk => hk.2) (.string a0)) (fun _ hk => hk.2) (.string (x0_32.extract ((ji54) : Int).toNat x0_32.size))) (fun _ hk => hk.2) (.string x379002_13)) (fun _ hk => hk.2) (.string x379003_32)) (fun _ hk => hk.2) (.bool false)) (fun _ hk => hk.2) (.slice Ao7 t379.length co7)) (fun _ hk => hk.2) (.slice Ao24 t383.length co24)) (fun _ hk => hk.2) (.bool true)) (fun _ hk => hk.2) (.bool t390)) (fun _ hk => hk.2) (.string t391)) (fun _ hk => trivial), by (with_reducible repeat (first | apply Kd.R_alloc | apply Kd.R_drewN | apply Kd.R_drew)); exact Kd.R_mono (Kd.R_far (p := ⟨gb378, 9, none⟩) (Kd.R_far (p := ⟨gb378, 8, none⟩) (Kd.R_far (p := ⟨gb378, 7, none⟩) (Kd.R_far (p := ⟨gb378, 6, none⟩) (Kd.R_far (p := ⟨gb378, 5, none⟩) (Kd.R_far (p := ⟨gb378, 4, none⟩) (Kd.R_far (p := ⟨gb378, 3, none⟩) (Kd.R_far (p := ⟨gb378, 2, none⟩) (Kd.R_far (p := ⟨gb378, 1, none⟩) (Kd.R_far (p := ⟨gb378, 0, none⟩) (Kd.R_far (p := ⟨gb378, 1, none⟩) (Kd.R_far (p := ⟨gb378, 9, none⟩) (Kd.R_far (p := ⟨gb378, 8, none⟩) (Kd.R_types HO_379006.out BK378.out (by decide)) (fun _ hk => hk.2) (.bool t390)) (fun _ hk => hk.2) (.string t391)) (fun _ hk => hk.2) (.string (x0_32.extract ((ji54) : Int).toNat x0_32.size))) (fun _ hk => hk.2) (.string a0)) (fun _ hk => hk.2) (.string (x0_32.extract ((ji54) : Int).toNat x0_32.size))) (fun _ hk => hk.2) (.string x379002_13)) (fun _ hk => hk.2) (.string x379003_32)) (fun _ hk => hk.2) (.bool false)) (fun _ hk => hk.2) (.slice Ao7 t379.length co7)) (fun _ hk => hk.2) (.slice Ao24 t383.length co24)) (fun _ hk => hk.2) (.bool true)) (fun _ hk => hk.2) (.bool t390)) (fun _ hk => hk.2) (.string t391)) (fun _ hk => trivial), by repeat (first | (with_reducible first | exact HB.out | apply below_alloc | apply pw_below_drewN | apply below_drew1 | refine below_set ?_ GE378.out) | exact HB.out)⟩
               ·rw [if_neg c55] at H
                exact absurd H (by simp)
              ·rw [if_neg c52] at H
               exact absurd H (by simp)
             ·rw [if_neg c51] at H
              exact absurd H (by simp)
            ·rw [if_neg c49] at H
             exact absurd H (by simp)
           ·replace c48 := Bool.eq_false_iff.mpr c48
            subst c48
            have H1 : (if x0_32.toList = ([] : List UInt8) then (some (a0, (⟨#[]⟩ : ByteArray), x379002_13, x379003_32, false, t379, t383, true, false, (⟨#[]⟩ : ByteArray), true)) else (some (a0, x0_32, x379002_13, x379003_32, true, t379, t383, true, false, (⟨#[]⟩ : ByteArray), true))) = some (r1, r2, r3, r4, r5, r6, r7, r8, r9, r10, r11) := by rw [if_neg (show ¬ (false = true) by decide)] at H; exact H
            clear H
            have H := H1
            clear H1
            by_cases c63 : x0_32.toList = ([] : List UInt8)
            ·rw [if_pos c63] at H
             have c63b0 : (x0_32.toList == ([] : List UInt8)) = true := beq_iff_eq.mpr c63
             have c63b1 : (x0_32.toList != ([] : List UInt8)) = false := bne_eq_false_iff_eq.mpr c63
             try have c63b9 : x0_32.toList.isEmpty = true := by simpa using c63b0
             clear c63
             simp only [Option.some.injEq, Prod.mk.injEq] at H
             obtain ⟨rfl, rfl, rfl, rfl, rfl, rfl, rfl, rfl, rfl, rfl, rfl⟩ := H
             have hcz64_0 : wc.cell? ⟨gb378, 0, none⟩ = some (.string a0) := (blk_cell BK378.out 0).trans rfl
             have hcz64_1 : wc.cell? ⟨gb378, 1, none⟩ = some (.string ⟨#[]⟩) := (blk_cell BK378.out 1).trans rfl
             have hcz64_2 : wc.cell? ⟨gb378, 2, none⟩ = some (.string x379002_13) := (blk_cell BK378.out 2).trans rfl
             have hcz64_3 : wc.cell? ⟨gb378, 3, none⟩ = some (.string x379003_32) := (blk_cell BK378.out 3).trans rfl
             have hcz64_4 : wc.cell? ⟨gb378, 4, none⟩ = some (.bool false) := (blk_cell BK378.out 4).trans rfl
             have hcz64_5 : wc.cell? ⟨gb378, 5, none⟩ = some (.slice Ao7 t379.length co7) := (blk_cell BK378.out 5).trans rfl
             have hcz64_6 : wc.cell? ⟨gb378, 6, none⟩ = some (.slice Ao24 t383.length co24) := (blk_cell BK378.out 6).trans rfl
             have hcz64_7 : wc.cell? ⟨gb378, 7, none⟩ = some (.bool true) := (blk_cell BK378.out 7).trans rfl
             have hcz64_8 : wc.cell? ⟨gb378, 8, none⟩ = some (.bool false) := (blk_cell BK378.out 8).trans rfl
             have hcz64_9 : wc.cell? ⟨gb378, 9, none⟩ = some (.string ⟨#[]⟩) := (blk_cell BK378.out 9).trans rfl
             have hfz64_0 := blk_frozen BK378.out 0
             have hfz64_1 := blk_frozen BK378.out 1
             have hfz64_2 := blk_frozen BK378.out 2
             have hfz64_3 := blk_frozen BK378.out 3
             have hfz64_4 := blk_frozen BK378.out 4
             have hfz64_5 := blk_frozen BK378.out 5
             have hfz64_6 := blk_frozen BK378.out 6
             have hfz64_7 := blk_frozen BK378.out 7
             have hfz64_8 := blk_frozen BK378.out 8
             have hfz64_9 := blk_frozen BK378.out 9
             go_wp2
             refine bodyPost_ret (results_ct rfl _ _ gb378 33 #[.string a0, .string ⟨#[]⟩, .string x379002_13, .string x379003_32, .bool false, .slice Ao7 t379.length co7, .slice Ao24 t383.length co24, .bool true, .bool false, .string ⟨#[]⟩] (0, 0) _ rfl (by refine blk_put (cs := #[.string a0, .string ⟨#[]⟩, .string x379002_13, .string x379003_32, .bool false, .slice Ao7 t379.length co7, .slice Ao24 t383.length co24, .bool true, .bool false, .string ⟨#[]⟩]) ?_ 9 _ rfl; refine blk_put (cs := #[.string a0, .string ⟨#[]⟩, .string x379002_13, .string x379003_32, .bool false, .slice Ao7 t379.length co7, .slice Ao24 t383.length co24, .bool true, .bool false, .string ⟨#[]⟩]) ?_ 8 _ rfl; refine blk_put (cs := #[.string a0, .string ⟨#[]⟩, .string x379002_13, .string x379003_32, .bool false, .slice Ao7 t379.length co7, .slice Ao24 t383.length co24, .bool true, .bool false, .string ⟨#[]⟩]) ?_ 7 _ rfl; refine blk_put (cs := #[.string a0, .string ⟨#[]⟩, .string x379002_13, .string x379003_32, .bool false, .slice Ao7 t379.length co7, .slice Ao24 t383.length co24, .bool true, .bool false, .string ⟨#[]⟩]) ?_ 6 _ rfl; refine blk_put (cs := #[.string a0, .string ⟨#[]⟩, .string x379002_13, .string x379003_32, .bool false, .slice Ao7 t379.length co7, .slice Ao24 t383.length co24, .bool true, .bool false, .string ⟨#[]⟩]) ?_ 5 _ rfl; refine blk_put (cs := #[.string a0, .string ⟨#[]⟩, .string x379002_13, .string x379003_32, .bool false, .slice Ao7 t379.length co7, .slice Ao24 t383.length co24, .bool true, .bool false, .string ⟨#[]⟩]) ?_ 4 _ rfl; refine blk_put (cs := #[.string a0, .string ⟨#[]⟩, .string x379002_13, .string x379003_32, .bool false, .slice Ao7 t379.length co7, .slice Ao24 t383.length co24, .bool true, .bool false, .string ⟨#[]⟩]) ?_ 3 _ rfl; refine blk_put (cs := #[.string a0, .string ⟨#[]⟩, .string x379002_13, .string x379003_32, .bool false, .slice Ao7 t379.length co7, .slice Ao24 t383.length co24, .bool true, .bool false, .string ⟨#[]⟩]) ?_ 2 _ rfl; refine blk_put (cs := #[.string a0, .string ⟨#[]⟩, .string x379002_13, .string x379003_32, .bool false, .slice Ao7 t379.length co7, .slice Ao24 t383.length co24, .bool true, .bool false, .string ⟨#[]⟩]) ?_ 1 _ rfl; refine blk_put (cs := #[.string a0, .string ⟨#[]⟩, .string x379002_13, .string x379003_32, .bool false, .slice Ao7 t379.length co7, .slice Ao24 t383.length co24, .bool true, .bool false, .string ⟨#[]⟩]) ?_ 0 _ rfl; exact BK378.out) Tryd.underlying33 rfl (by kernel_rfl)) rfl ?_
             exact ⟨_, _, by rfl, by (with_reducible repeat (first | apply Kd.R_alloc | apply Kd.R_drewN | apply Kd.R_drew)); exact Kd.R_mono (Kd.R_far (p := ⟨gb378, 9, none⟩) (Kd.R_far (p := ⟨gb378, 8, none⟩) (Kd.R_far (p := ⟨gb378, 7, none⟩) (Kd.R_far (p := ⟨gb378, 6, none⟩) (Kd.R_far (p := ⟨gb378, 5, none⟩) (Kd.R_far (p := ⟨gb378, 4, none⟩) (Kd.R_far (p := ⟨gb378, 3, none⟩) (Kd.R_far (p := ⟨gb378, 2, none⟩) (Kd.R_far (p := ⟨gb378, 1, none⟩) (Kd.R_far (p := ⟨gb378, 0, none⟩) (Kd.R_types HO_379005.out BK378.out (by decide)) (fun _ hk => hk.2) (.string a0)) (fun _ hk => hk.2) (.string ⟨#[]⟩)) (fun _ hk => hk.2) (.string x379002_13)) (fun _ hk => hk.2) (.string x379003_32)) (fun _ hk => hk.2) (.bool false)) (fun _ hk => hk.2) (.slice Ao7 t379.length co7)) (fun _ hk => hk.2) (.slice Ao24 t383.length co24)) (fun _ hk => hk.2) (.bool true)) (fun _ hk => hk.2) (.bool false)) (fun _ hk => hk.2) (.string ⟨#[]⟩)) (fun _ hk => trivial), by (with_reducible repeat (first | apply Kd.R_alloc | apply Kd.R_drewN | apply Kd.R_drew)); exact Kd.R_mono (Kd.R_far (p := ⟨gb378, 9, none⟩) (Kd.R_far (p := ⟨gb378, 8, none⟩) (Kd.R_far (p := ⟨gb378, 7, none⟩) (Kd.R_far (p := ⟨gb378, 6, none⟩) (Kd.R_far (p := ⟨gb378, 5, none⟩) (Kd.R_far (p := ⟨gb378, 4, none⟩) (Kd.R_far (p := ⟨gb378, 3, none⟩) (Kd.R_far (p := ⟨gb378, 2, none⟩) (Kd.R_far (p := ⟨gb378, 1, none⟩) (Kd.R_far (p := ⟨gb378, 0, none⟩) (Kd.R_types HO_379006.out BK378.out (by decide)) (fun _ hk => hk.2) (.string a0)) (fun _ hk => hk.2) (.string ⟨#[]⟩)) (fun _ hk => hk.2) (.string x379002_13)) (fun _ hk => hk.2) (.string x379003_32)) (fun _ hk => hk.2) (.bool false)) (fun _ hk => hk.2) (.slice Ao7 t379.length co7)) (fun _ hk => hk.2) (.slice Ao24 t383.length co24)) (fun _ hk => hk.2) (.bool true)) (fun _ hk => hk.2) (.bool false)) (fun _ hk => hk.2) (.string ⟨#[]⟩)) (fun _ hk => trivial), by repeat (first | (with_reducible first | exact HB.out | apply below_alloc | apply pw_below_drewN | apply below_drew1 | refine below_set ?_ GE378.out) | exact HB.out)⟩
            ·rw [if_neg c63] at H
             have c63b0 : (x0_32.toList == ([] : List UInt8)) = false := beq_eq_false_iff_ne.mpr c63
             have c63b1 : (x0_32.toList != ([] : List UInt8)) = true := bne_iff_ne.mpr c63
             try have c63b9 : x0_32.toList.isEmpty = false := by simpa using c63b0
             simp only [Option.some.injEq, Prod.mk.injEq] at H
             obtain ⟨rfl, rfl, rfl, rfl, rfl, rfl, rfl, rfl, rfl, rfl, rfl⟩ := H
             have hcz65_0 : wc.cell? ⟨gb378, 0, none⟩ = some (.string a0) := (blk_cell BK378.out 0).trans rfl
             have hcz65_1 : wc.cell? ⟨gb378, 1, none⟩ = some (.string ⟨#[]⟩) := (blk_cell BK378.out 1).trans rfl
             have hcz65_2 : wc.cell? ⟨gb378, 2, none⟩ = some (.string x379002_13) := (blk_cell BK378.out 2).trans rfl
             have hcz65_3 : wc.cell? ⟨gb378, 3, none⟩ = some (.string x379003_32) := (blk_cell BK378.out 3).trans rfl
             have hcz65_4 : wc.cell? ⟨gb378, 4, none⟩ = some (.bool false) := (blk_cell BK378.out 4).trans rfl
             have hcz65_5 : wc.cell? ⟨gb378, 5, none⟩ = some (.slice Ao7 t379.length co7) := (blk_cell BK378.out 5).trans rfl
             have hcz65_6 : wc.cell? ⟨gb378, 6, none⟩ = some (.slice Ao24 t383.length co24) := (blk_cell BK378.out 6).trans rfl
             have hcz65_7 : wc.cell? ⟨gb378, 7, none⟩ = some (.bool true) := (blk_cell BK378.out 7).trans rfl
             have hcz65_8 : wc.cell? ⟨gb378, 8, none⟩ = some (.bool false) := (blk_cell BK378.out 8).trans rfl
             have hcz65_9 : wc.cell? ⟨gb378, 9, none⟩ = some (.string ⟨#[]⟩) := (blk_cell BK378.out 9).trans rfl
             have hfz65_0 := blk_frozen BK378.out 0
             have hfz65_1 := blk_frozen BK378.out 1
             have hfz65_2 := blk_frozen BK378.out 2
             have hfz65_3 := blk_frozen BK378.out 3
             have hfz65_4 := blk_frozen BK378.out 4
             have hfz65_5 := blk_frozen BK378.out 5
             have hfz65_6 := blk_frozen BK378.out 6
             have hfz65_7 := blk_frozen BK378.out 7
             have hfz65_8 := blk_frozen BK378.out 8
             have hfz65_9 := blk_frozen BK378.out 9
             go_wp2
             refine bodyPost_ret (results_ct rfl _ _ gb378 33 #[.string a0, .string x0_32, .string x379002_13, .string x379003_32, .bool true, .slice Ao7 t379.length co7, .slice Ao24 t383.length co24, .bool true, .bool false, .string ⟨#[]⟩] (0, 0) _ rfl (by refine blk_put (cs := #[.string a0, .string x0_32, .string x379002_13, .string x379003_32, .bool true, .slice Ao7 t379.length co7, .slice Ao24 t383.length co24, .bool true, .bool false, .string ⟨#[]⟩]) ?_ 9 _ rfl; refine blk_put (cs := #[.string a0, .string x0_32, .string x379002_13, .string x379003_32, .bool true, .slice Ao7 t379.length co7, .slice Ao24 t383.length co24, .bool true, .bool false, .string ⟨#[]⟩]) ?_ 8 _ rfl; refine blk_put (cs := #[.string a0, .string x0_32, .string x379002_13, .string x379003_32, .bool true, .slice Ao7 t379.length co7, .slice Ao24 t383.length co24, .bool true, .bool false, .string ⟨#[]⟩]) ?_ 7 _ rfl; refine blk_put (cs := #[.string a0, .string x0_32, .string x379002_13, .string x379003_32, .bool true, .slice Ao7 t379.length co7, .slice Ao24 t383.length co24, .bool true, .bool false, .string ⟨#[]⟩]) ?_ 6 _ rfl; refine blk_put (cs := #[.string a0, .string x0_32, .string x379002_13, .string x379003_32, .bool true, .slice Ao7 t379.length co7, .slice Ao24 t383.length co24, .bool true, .bool false, .string ⟨#[]⟩]) ?_ 5 _ rfl; refine blk_put (cs := #[.string a0, .string x0_32, .string x379002_13, .string x379003_32, .bool true, .slice Ao7 t379.length co7, .slice Ao24 t383.length co24, .bool true, .bool false, .string ⟨#[]⟩]) ?_ 4 _ rfl; refine blk_put (cs := #[.string a0, .string x0_32, .string x379002_13, .string x379003_32, .bool true, .slice Ao7 t379.length co7, .slice Ao24 t383.length co24, .bool true, .bool false, .string ⟨#[]⟩]) ?_ 3 _ rfl; refine blk_put (cs := #[.string a0, .string x0_32, .string x379002_13, .string x379003_32, .bool true, .slice Ao7 t379.length co7, .slice Ao24 t383.length co24, .bool true, .bool false, .string ⟨#[]⟩]) ?_ 2 _ rfl; refine blk_put (cs := #[.string a0, .string x0_32, .string x379002_13, .string x379003_32, .bool true, .slice Ao7 t379.length co7, .slice Ao24 t383.length co24, .bool true, .bool false, .string ⟨#[]⟩]) ?_ 1 _ rfl; refine blk_put (cs := #[.string a0, .string x0_32, .string x379002_13, .string x379003_32, .bool true, .slice Ao7 t379.length co7, .slice Ao24 t383.length co24, .bool true, .bool false, .string ⟨#[]⟩]) ?_ 0 _ rfl; refine blk_put (cs := #[.string a0, .string ⟨#[]⟩, .string x379002_13, .string x379003_32, .bool true, .slice Ao7 t379.length co7, .slice Ao24 t383.length co24, .bool true, .bool false, .string ⟨#[]⟩]) ?_ 1 _ rfl; refine blk_put (cs := #[.string a0, .string ⟨#[]⟩, .string x379002_13, .string x379003_32, .bool false, .slice Ao7 t379.length co7, .slice Ao24 t383.length co24, .bool true, .bool false, .string ⟨#[]⟩]) ?_ 4 _ rfl; exact BK378.out) Tryd.underlying33 rfl (by kernel_rfl)) rfl ?_
             exact ⟨_, _, by rfl, by (with_reducible repeat (first | apply Kd.R_alloc | apply Kd.R_drewN | apply Kd.R_drew)); exact Kd.R_mono (Kd.R_far (p := ⟨gb378, 9, none⟩) (Kd.R_far (p := ⟨gb378, 8, none⟩) (Kd.R_far (p := ⟨gb378, 7, none⟩) (Kd.R_far (p := ⟨gb378, 6, none⟩) (Kd.R_far (p := ⟨gb378, 5, none⟩) (Kd.R_far (p := ⟨gb378, 4, none⟩) (Kd.R_far (p := ⟨gb378, 3, none⟩) (Kd.R_far (p := ⟨gb378, 2, none⟩) (Kd.R_far (p := ⟨gb378, 1, none⟩) (Kd.R_far (p := ⟨gb378, 0, none⟩) (Kd.R_far (p := ⟨gb378, 1, none⟩) (Kd.R_far (p := ⟨gb378, 4, none⟩) (Kd.R_types HO_379005.out BK378.out (by decide)) (fun _ hk => hk.2) (.bool true)) (fun _ hk => hk.2) (.string x0_32)) (fun _ hk => hk.2) (.string a0)) (fun _ hk => hk.2) (.string x0_32)) (fun _ hk => hk.2) (.string x379002_13)) (fun _ hk => hk.2) (.string x379003_32)) (fun _ hk => hk.2) (.bool true)) (fun _ hk => hk.2) (.slice Ao7 t379.length co7)) (fun _ hk => hk.2) (.slice Ao24 t383.length co24)) (fun _ hk => hk.2) (.bool true)) (fun _ hk => hk.2) (.bool false)) (fun _ hk => hk.2) (.string ⟨#[]⟩)) (fun _ hk => trivial), by (with_reducible repeat (first | apply Kd.R_alloc | apply Kd.R_drewN | apply Kd.R_drew)); exact Kd.R_mono (Kd.R_far (p := ⟨gb378, 9, none⟩) (Kd.R_far (p := ⟨gb378, 8, none⟩) (Kd.R_far (p := ⟨gb378, 7, none⟩) (Kd.R_far (p := ⟨gb378, 6, none⟩) (Kd.R_far (p := ⟨gb378, 5, none⟩) (Kd.R_far (p := ⟨gb378, 4, none⟩) (Kd.R_far (p := ⟨gb378, 3, none⟩) (Kd.R_far (p := ⟨gb378, 2, none⟩) (Kd.R_far (p := ⟨gb378, 1, none⟩) (Kd.R_far (p := ⟨gb378, 0, none⟩) (Kd.R_far (p := ⟨gb378, 1, none⟩) (Kd.R_far (p := ⟨gb378, 4, none⟩) (Kd.R_types HO_379006.out BK378.out (by decide)) (fun _ hk => hk.2) (.bool true)) (fun _ hk => hk.2) (.string x0_32)) (fun _ hk => hk.2) (.string a0)) (fun _ hk => hk.2) (.string x0_32)) (fun _ hk => hk.2) (.string x379002_13)) (fun _ hk => hk.2) (.string x379003_32)) (fun _ hk => hk.2) (.bool true)) (fun _ hk => hk.2) (.slice Ao7 t379.length co7)) (fun _ hk => hk.2) (.slice Ao24 t383.length co24)) (fun _ hk => hk.2) (.bool true)) (fun _ hk => hk.2) (.bool false)) (fun _ hk => hk.2) (.string ⟨#[]⟩)) (fun _ hk => trivial), by repeat (first | (with_reducible first | exact HB.out | apply below_alloc | apply pw_below_drewN | apply below_drew1 | refine below_set ?_ GE378.out) | exact HB.out)⟩
end Go.Proofs.YtapaijpglfmfgaaDoor.Q
end
section -- Qx1
namespace Go.Proofs.YtapaijpglfmfgaaDoor.Q
open Go.RowKit Go.Proofs.YtapaijpglfmfgaaDoorH Go.Proofs.YtapaijpglfmfgaaDoorG Go.Proofs.YtapaijpglfmfgaaDoorW.PrintWords Go.Proofs.YtapaijpglfmfgaaDoorW.PrintLast Go.Proofs.YtapaijpglfmfgaaDoorW.PrintMore
attribute [local go_sem] max2_int min2_int max_two min_two max_three min_three max_four min_four   -- for this text's walks alone
set_option linter.unusedVariables false
set_option linter.unusedSimpArgs false
theorem eqA31 (d : Nat) (w : World) (x0 y0 : Bool) (x1 y1 : ByteArray) :
  (Op.equalIn (d + 2) 31 (.agg #[.bool x0, .string x1]) (.agg #[.bool y0, .string y1])).run Tryd.prog w = .ok (x0 == y0 && (x1.toList == y1.toList)) w := by
 refine eqA_of Tryd.underlying31 (by kernel_rfl) ?_
 refine eqf_cons (by rfl) (by go_simp; rfl) (by go_simp; rfl) (by go_simp) ?_
 exact eqf_last (by rfl) (by go_simp; rfl) (by go_simp; rfl) (by go_simp)
end Go.Proofs.YtapaijpglfmfgaaDoor.Q
end
section -- Qx2
namespace Go.Proofs.YtapaijpglfmfgaaDoor.Q
open Go.RowKit Go.Proofs.YtapaijpglfmfgaaDoorH Go.Proofs.YtapaijpglfmfgaaDoorG Go.Proofs.YtapaijpglfmfgaaDoorW.PrintWords Go.Proofs.YtapaijpglfmfgaaDoorW.PrintLast Go.Proofs.YtapaijpglfmfgaaDoorW.PrintMore
attribute [local go_sem] max2_int min2_int max_two min_two max_three min_three max_four min_four   -- for this text's walks alone
set_option linter.unusedVariables false
set_option linter.unusedSimpArgs false
theorem eqA54 (d : Nat) (w : World) (x0 y0 : ByteArray) (x1 y1 : Bool) (x2 y2 : ByteArray) (x3 y3 : Int) :
  (Op.equalIn (d + 3) 54 (.agg #[.string x0, .bool x1, .string x2, .int .i64 x3]) (.agg #[.string y0, .bool y1, .string y2, .int .i64 y3])).run Tryd.prog w = .ok (x0.toList == y0.toList && ((x1 == y1 && (x2.toList == y2.toList)) && (x3 == y3))) w := by
 refine eqA_of Tryd.underlying54 (by kernel_rfl) ?_
 refine eqf_cons (by rfl) (by go_simp; rfl) (by go_simp; rfl) (by go_simp) ?_
 refine eqf_cons (by rfl) (by go_simp) (by go_simp) (eqA31 (d + 0) w _ _ _ _) ?_
 exact eqf_last (by rfl) (by go_simp; rfl) (by go_simp; rfl) (by go_simp)
end Go.Proofs.YtapaijpglfmfgaaDoor.Q
end
section -- Qx3
namespace Go.Proofs.YtapaijpglfmfgaaDoor.Q
open Go.RowKit Go.Proofs.YtapaijpglfmfgaaDoorH Go.Proofs.YtapaijpglfmfgaaDoorG Go.Proofs.YtapaijpglfmfgaaDoorW.PrintWords Go.Proofs.YtapaijpglfmfgaaDoorW.PrintLast Go.Proofs.YtapaijpglfmfgaaDoorW.PrintMore
attribute [local go_sem] max2_int min2_int max_two min_two max_three min_three max_four min_four   -- for this text's walks alone
set_option linter.unusedVariables false
set_option linter.unusedSimpArgs false
theorem eqA58 (d : Nat) (w : World) (x0 y0 : Int) (x1 y1 : Bool) (x2 y2 : ByteArray) :
  (Op.equalIn (d + 3) 58 (.agg #[.int .i64 x0, .bool x1, .string x2]) (.agg #[.int .i64 y0, .bool y1, .string y2])).run Tryd.prog w = .ok (x0 == y0 && ((x1 == y1 && (x2.toList == y2.toList)))) w := by
 refine eqA_of Tryd.underlying58 (by kernel_rfl) ?_
 refine eqf_cons (by rfl) (by go_simp; rfl) (by go_simp; rfl) (by go_simp) ?_
 exact eqf_last (by rfl) (by go_simp) (by go_simp) (eqA31 (d + 0) w _ _ _ _)
end Go.Proofs.YtapaijpglfmfgaaDoor.Q
end
section -- Qx17
namespace Go.Proofs.YtapaijpglfmfgaaDoor.Q
open Go.RowKit Go.Proofs.YtapaijpglfmfgaaDoorH Go.Proofs.YtapaijpglfmfgaaDoorG Go.Proofs.YtapaijpglfmfgaaDoorW.PrintWords Go.Proofs.YtapaijpglfmfgaaDoorW.PrintLast Go.Proofs.YtapaijpglfmfgaaDoorW.PrintMore
attribute [local go_sem] max2_int min2_int max_two min_two max_three min_three max_four min_four   -- for this text's walks alone
set_option linter.unusedVariables false
set_option linter.unusedSimpArgs false
attribute [local go_sem high] eqA31 eqA54 eqA58
mutual
def laws_alpine.j0 : Nat → Bool → ByteArray → ByteArray → ByteArray → ByteArray → Bool → List (S54) → List (S58) → Bool → Bool → ByteArray → ByteArray → ByteArray → ByteArray → ByteArray → Bool → List (S54) → List (S58) → Bool → Bool → ByteArray → Option (Bool)
 | 0, _, _, _, _, _, _, _, _, _, _, _, _, _, _, _, _, _, _, _, _, _ => none
 | k + 1, x53, x393000, x393001, x393002, x393003, x393004, x393005, x393006, x393007, x393008, x393009, x394000, x394001, x394002, x394003, x394004, x394005, x394006, x394007, x394008, x394009 => if x53 = true then (some false) else (if (x393005.length : Int) = (x394005.length : Int) then (laws_alpine.j1 k ((x393006.length : Int) != (x394006.length : Int)) x393000 x393001 x393002 x393003 x393004 x393005 x393006 x393007 x393008 x393009 x394000 x394001 x394002 x394003 x394004 x394005 x394006 x394007 x394008 x394009) else (laws_alpine.j1 k true x393000 x393001 x393002 x393003 x393004 x393005 x393006 x393007 x393008 x393009 x394000 x394001 x394002 x394003 x394004 x394005 x394006 x394007 x394008 x394009))
def laws_alpine.j1 : Nat → Bool → ByteArray → ByteArray → ByteArray → ByteArray → Bool → List (S54) → List (S58) → Bool → Bool → ByteArray → ByteArray → ByteArray → ByteArray → ByteArray → Bool → List (S54) → List (S58) → Bool → Bool → ByteArray → Option (Bool)
 | 0, _, _, _, _, _, _, _, _, _, _, _, _, _, _, _, _, _, _, _, _, _ => none
 | k + 1, x69, x393000, x393001, x393002, x393003, x393004, x393005, x393006, x393007, x393008, x393009, x394000, x394001, x394002, x394003, x394004, x394005, x394006, x394007, x394008, x394009 => if x69 = true then (some false) else (laws_alpine.l0 k (x393005.length : Int) 0 x393000 x393001 x393002 x393003 x393004 x393005 x393006 x393007 x393008 x393009 x394000 x394001 x394002 x394003 x394004 x394005 x394006 x394007 x394008 x394009)
def laws_alpine.l0 : Nat → Int → Int → ByteArray → ByteArray → ByteArray → ByteArray → Bool → List (S54) → List (S58) → Bool → Bool → ByteArray → ByteArray → ByteArray → ByteArray → ByteArray → Bool → List (S54) → List (S58) → Bool → Bool → ByteArray → Option (Bool)
 | 0, _, _, _, _, _, _, _, _, _, _, _, _, _, _, _, _, _, _, _, _, _, _ => none
 | k + 1, x72, x73, x393000, x393001, x393002, x393003, x393004, x393005, x393006, x393007, x393008, x393009, x394000, x394001, x394002, x394003, x394004, x394005, x394006, x394007, x394008, x394009 => if x73 < x72 then (if 0 ≤ x73 then (if x73 < (x393005.length : Int) then (if x73 < (x394005.length : Int) then (if (!((((rd_T54 x393005 x73).f0).toList) == (((rd_T54 x394005 x73).f0).toList)) || ((!(((rd_T54 x393005 x73).f1.f0) == ((rd_T54 x394005 x73).f1.f0)) || (!((((rd_T54 x393005 x73).f1.f1).toList) == (((rd_T54 x394005 x73).f1.f1).toList)))) || (!(((rd_T54 x393005 x73).f2) == ((rd_T54 x394005 x73).f2))))) = true then (some false) else (laws_alpine.l0 k x72 (wrap64 (x73 + 1)) x393000 x393001 x393002 x393003 x393004 x393005 x393006 x393007 x393008 x393009 x394000 x394001 x394002 x394003 x394004 x394005 x394006 x394007 x394008 x394009)) else (none)) else (none)) else (none)) else (laws_alpine.l1 k (x393006.length : Int) 0 x393000 x393001 x393002 x393003 x393004 x393005 x393006 x393007 x393008 x393009 x394000 x394001 x394002 x394003 x394004 x394005 x394006 x394007 x394008 x394009)
def laws_alpine.l1 : Nat → Int → Int → ByteArray → ByteArray → ByteArray → ByteArray → Bool → List (S54) → List (S58) → Bool → Bool → ByteArray → ByteArray → ByteArray → ByteArray → ByteArray → Bool → List (S54) → List (S58) → Bool → Bool → ByteArray → Option (Bool)
 | 0, _, _, _, _, _, _, _, _, _, _, _, _, _, _, _, _, _, _, _, _, _, _ => none
 | k + 1, x90, x91, x393000, x393001, x393002, x393003, x393004, x393005, x393006, x393007, x393008, x393009, x394000, x394001, x394002, x394003, x394004, x394005, x394006, x394007, x394008, x394009 => if x91 < x90 then (if 0 ≤ x91 then (if x91 < (x393006.length : Int) then (if x91 < (x394006.length : Int) then (if (!(((rd_T58 x393006 x91).f0) == ((rd_T58 x394006 x91).f0)) || ((!(((rd_T58 x393006 x91).f1.f0) == ((rd_T58 x394006 x91).f1.f0)) || (!((((rd_T58 x393006 x91).f1.f1).toList) == (((rd_T58 x394006 x91).f1.f1).toList)))))) = true then (some false) else (laws_alpine.l1 k x90 (wrap64 (x91 + 1)) x393000 x393001 x393002 x393003 x393004 x393005 x393006 x393007 x393008 x393009 x394000 x394001 x394002 x394003 x394004 x394005 x394006 x394007 x394008 x394009)) else (none)) else (none)) else (none)) else (some true)
end
def laws_alpine.f (k : Nat) (a0_0 : ByteArray) (a0_1 : ByteArray) (a0_2 : ByteArray) (a0_3 : ByteArray) (a0_4 : Bool) (l0_5 : List (S54)) (l0_6 : List (S58)) (a0_7 : Bool) (a0_8 : Bool) (a0_9 : ByteArray) (a1_0 : ByteArray) (a1_1 : ByteArray) (a1_2 : ByteArray) (a1_3 : ByteArray) (a1_4 : Bool) (l1_5 : List (S54)) (l1_6 : List (S58)) (a1_7 : Bool) (a1_8 : Bool) (a1_9 : ByteArray) : Option (Bool) := if a0_0.toList = a1_0.toList then (if a0_1.toList = a1_1.toList then (if a0_2.toList = a1_2.toList then (if a0_3.toList = a1_3.toList then (if (a0_4 != a1_4) = true then (laws_alpine.j0 k true a0_0 a0_1 a0_2 a0_3 a0_4 l0_5 l0_6 a0_7 a0_8 a0_9 a1_0 a1_1 a1_2 a1_3 a1_4 l1_5 l1_6 a1_7 a1_8 a1_9) else (if (a0_7 != a1_7) = true then (laws_alpine.j0 k true a0_0 a0_1 a0_2 a0_3 a0_4 l0_5 l0_6 a0_7 a0_8 a0_9 a1_0 a1_1 a1_2 a1_3 a1_4 l1_5 l1_6 a1_7 a1_8 a1_9) else (laws_alpine.j0 k (!(a0_8 == a1_8) || (!(a0_9.toList == a1_9.toList))) a0_0 a0_1 a0_2 a0_3 a0_4 l0_5 l0_6 a0_7 a0_8 a0_9 a1_0 a1_1 a1_2 a1_3 a1_4 l1_5 l1_6 a1_7 a1_8 a1_9))) else (laws_alpine.j0 k true a0_0 a0_1 a0_2 a0_3 a0_4 l0_5 l0_6 a0_7 a0_8 a0_9 a1_0 a1_1 a1_2 a1_3 a1_4 l1_5 l1_6 a1_7 a1_8 a1_9)) else (laws_alpine.j0 k true a0_0 a0_1 a0_2 a0_3 a0_4 l0_5 l0_6 a0_7 a0_8 a0_9 a1_0 a1_1 a1_2 a1_3 a1_4 l1_5 l1_6 a1_7 a1_8 a1_9)) else (laws_alpine.j0 k true a0_0 a0_1 a0_2 a0_3 a0_4 l0_5 l0_6 a0_7 a0_8 a0_9 a1_0 a1_1 a1_2 a1_3 a1_4 l1_5 l1_6 a1_7 a1_8 a1_9)) else (laws_alpine.j0 k true a0_0 a0_1 a0_2 a0_3 a0_4 l0_5 l0_6 a0_7 a0_8 a0_9 a1_0 a1_1 a1_2 a1_3 a1_4 l1_5 l1_6 a1_7 a1_8 a1_9)
set_option maxHeartbeats 8000000 in
set_option maxRecDepth 100000 in
theorem laws_alpine.calls (k : Nat) (a0_0 : ByteArray) (a0_1 : ByteArray) (a0_2 : ByteArray) (a0_3 : ByteArray) (a0_4 : Bool) (A0_5 : Option Addr) (c0_5 : Nat) (l0_5 : List (S54)) (A0_6 : Option Addr) (c0_6 : Nat) (l0_6 : List (S58)) (a0_7 : Bool) (a0_8 : Bool) (a0_9 : ByteArray) (a1_0 : ByteArray) (a1_1 : ByteArray) (a1_2 : ByteArray) (a1_3 : ByteArray) (a1_4 : Bool) (A1_5 : Option Addr) (c1_5 : Nat) (l1_5 : List (S54)) (A1_6 : Option Addr) (c1_6 : Nat) (l1_6 : List (S58)) (a1_7 : Bool) (a1_8 : Bool) (a1_9 : ByteArray) (r : Bool) (w : World) (hr0_5 : Kd.C k54 w A0_5 l0_5.length l0_5) (hc0_5 : l0_5.length ≤ c0_5) (hr0_6 : Kd.C k58 w A0_6 l0_6.length l0_6) (hc0_6 : l0_6.length ≤ c0_6) (hr1_5 : Kd.C k54 w A1_5 l1_5.length l1_5) (hc1_5 : l1_5.length ≤ c1_5) (hr1_6 : Kd.C k58 w A1_6 l1_6.length l1_6) (hc1_6 : l1_6.length ≤ c1_6) (h : laws_alpine.f k a0_0 a0_1 a0_2 a0_3 a0_4 l0_5 l0_6 a0_7 a0_8 a0_9 a1_0 a1_1 a1_2 a1_3 a1_4 l1_5 l1_6 a1_7 a1_8 a1_9 = some r) :
  Calls Tryd.prog 14 #[.agg #[.string a0_0, .string a0_1, .string a0_2, .string a0_3, .bool a0_4, .slice A0_5 l0_5.length c0_5, .slice A0_6 l0_6.length c0_6, .bool a0_7, .bool a0_8, .string a0_9], .agg #[.string a1_0, .string a1_1, .string a1_2, .string a1_3, .bool a1_4, .slice A1_5 l1_5.length c1_5, .slice A1_6 l1_6.length c1_6, .bool a1_7, .bool a1_8, .string a1_9]] w fun e w' => e = .returned (.bool r) ∧ Below w.heap.size w w' := by
 have hu33 := Tryd.underlying33
 have hu31 := Tryd.underlying31
 have hu54 := Tryd.underlying54
 have hu58 := Tryd.underlying58
 have HR0_5 := Aside0.mk hr0_5
 have HC0_5 := Aside0.mk hc0_5
 clear hr0_5 hc0_5
 have HR0_6 := Aside0.mk hr0_6
 have HC0_6 := Aside0.mk hc0_6
 clear hr0_6 hc0_6
 have HR1_5 := Aside0.mk hr1_5
 have HC1_5 := Aside0.mk hc1_5
 clear hr1_5 hc1_5
 have HR1_6 := Aside0.mk hr1_6
 have HC1_6 := Aside0.mk hc1_6
 clear hr1_6 hc1_6
 have HB := Aside0.mk (Below.refl w.heap.size w)
 have H : (if a0_0.toList = a1_0.toList then (if a0_1.toList = a1_1.toList then (if a0_2.toList = a1_2.toList then (if a0_3.toList = a1_3.toList then (if (a0_4 != a1_4) = true then (laws_alpine.j0 k true a0_0 a0_1 a0_2 a0_3 a0_4 l0_5 l0_6 a0_7 a0_8 a0_9 a1_0 a1_1 a1_2 a1_3 a1_4 l1_5 l1_6 a1_7 a1_8 a1_9) else (if (a0_7 != a1_7) = true then (laws_alpine.j0 k true a0_0 a0_1 a0_2 a0_3 a0_4 l0_5 l0_6 a0_7 a0_8 a0_9 a1_0 a1_1 a1_2 a1_3 a1_4 l1_5 l1_6 a1_7 a1_8 a1_9) else (laws_alpine.j0 k (!(a0_8 == a1_8) || (!(a0_9.toList == a1_9.toList))) a0_0 a0_1 a0_2 a0_3 a0_4 l0_5 l0_6 a0_7 a0_8 a0_9 a1_0 a1_1 a1_2 a1_3 a1_4 l1_5 l1_6 a1_7 a1_8 a1_9))) else (laws_alpine.j0 k true a0_0 a0_1 a0_2 a0_3 a0_4 l0_5 l0_6 a0_7 a0_8 a0_9 a1_0 a1_1 a1_2 a1_3 a1_4 l1_5 l1_6 a1_7 a1_8 a1_9)) else (laws_alpine.j0 k true a0_0 a0_1 a0_2 a0_3 a0_4 l0_5 l0_6 a0_7 a0_8 a0_9 a1_0 a1_1 a1_2 a1_3 a1_4 l1_5 l1_6 a1_7 a1_8 a1_9)) else (laws_alpine.j0 k true a0_0 a0_1 a0_2 a0_3 a0_4 l0_5 l0_6 a0_7 a0_8 a0_9 a1_0 a1_1 a1_2 a1_3 a1_4 l1_5 l1_6 a1_7 a1_8 a1_9)) else (laws_alpine.j0 k true a0_0 a0_1 a0_2 a0_3 a0_4 l0_5 l0_6 a0_7 a0_8 a0_9 a1_0 a1_1 a1_2 a1_3 a1_4 l1_5 l1_6 a1_7 a1_8 a1_9)) = some r := h
 clear h
 have HC3 := Aside0.mk H
 clear H
 go_enter Tryd.func14, Tryd.ntmps14
 go_upto_region 1 with (first | ((with_reducible refine gate_dst (N := 2) rfl ?_); (try (refine gate_guard (by rfl) ?_; dsimp only)); refine box_event ?hg (N := 2) ?hd (cs := #[.string a0_0, .string a0_1, .string a0_2, .string a0_3, .bool a0_4, .slice A0_5 l0_5.length c0_5, .slice A0_6 l0_6.length c0_6, .bool a0_7, .bool a0_8, .string a0_9]) (t := 33) ?hr ?_; (case hd => rfl); (case hg => rfl); (case hr => first | (go_simp; done) | (go_simp; rfl)); intro gb392 hg w4 hbox hb; have n0_ := Aside0.mk (below_step (by (with_reducible exact HB.out)) hb); have n1_ := Aside0.mk (hbox); have n2_ := Aside0.mk ((by rw [hg]; exact (below_size (by (with_reducible exact HB.out))) : w.heap.size ≤ gb392)); have n3_ := Aside0.mk ((by rw [hg]; exact (below_size (by (with_reducible exact HB.out))) : w.heap.size ≤ gb392)); clear HB; have HB := n0_; have BK392 := n1_; have GW392 := n2_; have GE392 := n3_; clear n0_ n1_ n2_ n3_; clear hb hbox hg) | ((with_reducible refine gate_dst (N := 3) rfl ?_); (try (refine gate_guard (by rfl) ?_; dsimp only)); refine box_event ?hg (N := 3) ?hd (cs := #[.string a1_0, .string a1_1, .string a1_2, .string a1_3, .bool a1_4, .slice A1_5 l1_5.length c1_5, .slice A1_6 l1_6.length c1_6, .bool a1_7, .bool a1_8, .string a1_9]) (t := 33) ?hr ?_; (case hd => rfl); (case hg => rfl); (case hr => first | (go_simp; done) | (go_simp; rfl)); intro gb393 hg w5 hbox hb; have n0_ := Aside0.mk (blk_below (g := gb392) (o := .cells #[.string a0_0, .string a0_1, .string a0_2, .string a0_3, .bool a0_4, .slice A0_5 l0_5.length c0_5, .slice A0_6 l0_6.length c0_6, .bool a0_7, .bool a0_8, .string a0_9] 33 (0, 0)) (by exact BK392.out) hb); have n1_ := Aside0.mk (below_step (by (with_reducible exact HB.out)) hb); have n2_ := Aside0.mk (hbox); have n3_ := Aside0.mk ((by rw [hg]; exact (below_size (by (with_reducible exact HB.out))) : w.heap.size ≤ gb393)); have n4_ := Aside0.mk ((by rw [hg]; exact (below_size (by (with_reducible exact HB.out))) : w.heap.size ≤ gb393)); have n5_ := Aside0.mk ((by rw [hg]; exact Nat.ne_of_lt (blk_lt (g := gb392) (o := .cells #[.string a0_0, .string a0_1, .string a0_2, .string a0_3, .bool a0_4, .slice A0_5 l0_5.length c0_5, .slice A0_6 l0_6.length c0_6, .bool a0_7, .bool a0_8, .string a0_9] 33 (0, 0)) (by exact BK392.out)) : gb392 ≠ gb393)); have n6_ := Aside0.mk ((by rw [hg]; exact Nat.ne_of_gt (blk_lt (g := gb392) (o := .cells #[.string a0_0, .string a0_1, .string a0_2, .string a0_3, .bool a0_4, .slice A0_5 l0_5.length c0_5, .slice A0_6 l0_6.length c0_6, .bool a0_7, .bool a0_8, .string a0_9] 33 (0, 0)) (by exact BK392.out)) : gb393 ≠ gb392)); clear BK392; clear HB; have BK392 := n0_; have HB := n1_; have BK393 := n2_; have GW393 := n3_; have GE393 := n4_; have NB392_393 := n5_; have NB393_392 := n6_; clear n0_ n1_ n2_ n3_ n4_ n5_ n6_; clear hb hbox hg))
 repeat (go_quiet (first | ((with_reducible refine gate_dst (N := 2) rfl ?_); (try (refine gate_guard (by rfl) ?_; dsimp only)); refine box_event ?hg (N := 2) ?hd (cs := #[.string a0_0, .string a0_1, .string a0_2, .string a0_3, .bool a0_4, .slice A0_5 l0_5.length c0_5, .slice A0_6 l0_6.length c0_6, .bool a0_7, .bool a0_8, .string a0_9]) (t := 33) ?hr ?_; (case hd => rfl); (case hg => rfl); (case hr => first | (go_simp; done) | (go_simp; rfl)); intro gb392 hg w4 hbox hb; have n0_ := Aside0.mk (below_step (by repeat (first | (with_reducible first | exact HB.out | apply below_alloc | apply pw_below_drewN | apply below_drew1) | exact HB.out)) hb); have n1_ := Aside0.mk (hbox); have n2_ := Aside0.mk ((by rw [hg]; exact (below_size (by repeat (first | (with_reducible first | exact HB.out | apply below_alloc | apply pw_below_drewN | apply below_drew1) | exact HB.out))) : w.heap.size ≤ gb392)); have n3_ := Aside0.mk ((by rw [hg]; exact (below_size (by repeat (first | (with_reducible first | exact HB.out | apply below_alloc | apply pw_below_drewN | apply below_drew1) | exact HB.out))) : w.heap.size ≤ gb392)); clear HB; have HB := n0_; have BK392 := n1_; have GW392 := n2_; have GE392 := n3_; clear n0_ n1_ n2_ n3_; clear hb hbox hg) | ((with_reducible refine gate_dst (N := 3) rfl ?_); (try (refine gate_guard (by rfl) ?_; dsimp only)); refine box_event ?hg (N := 3) ?hd (cs := #[.string a1_0, .string a1_1, .string a1_2, .string a1_3, .bool a1_4, .slice A1_5 l1_5.length c1_5, .slice A1_6 l1_6.length c1_6, .bool a1_7, .bool a1_8, .string a1_9]) (t := 33) ?hr ?_; (case hd => rfl); (case hg => rfl); (case hr => first | (go_simp; done) | (go_simp; rfl)); intro gb393 hg w5 hbox hb; have n0_ := Aside0.mk (blk_below (g := gb392) (o := .cells #[.string a0_0, .string a0_1, .string a0_2, .string a0_3, .bool a0_4, .slice A0_5 l0_5.length c0_5, .slice A0_6 l0_6.length c0_6, .bool a0_7, .bool a0_8, .string a0_9] 33 (0, 0)) (by (with_reducible repeat (first | refine blk_drewN ?_ _ | refine blk_drew ?_ | refine blk_alloc ?_ _)); exact BK392.out) hb); have n1_ := Aside0.mk (below_step (by repeat (first | (with_reducible first | exact HB.out | apply below_alloc | apply pw_below_drewN | apply below_drew1 | refine below_set ?_ GE392.out) | exact HB.out)) hb); have n2_ := Aside0.mk (hbox); have n3_ := Aside0.mk ((by rw [hg]; exact (below_size (by repeat (first | (with_reducible first | exact HB.out | apply below_alloc | apply pw_below_drewN | apply below_drew1 | refine below_set ?_ GE392.out) | exact HB.out))) : w.heap.size ≤ gb393)); have n4_ := Aside0.mk ((by rw [hg]; exact (below_size (by repeat (first | (with_reducible first | exact HB.out | apply below_alloc | apply pw_below_drewN | apply below_drew1 | refine below_set ?_ GE392.out) | exact HB.out))) : w.heap.size ≤ gb393)); have n5_ := Aside0.mk ((by rw [hg]; exact Nat.ne_of_lt (blk_lt (g := gb392) (o := .cells #[.string a0_0, .string a0_1, .string a0_2, .string a0_3, .bool a0_4, .slice A0_5 l0_5.length c0_5, .slice A0_6 l0_6.length c0_6, .bool a0_7, .bool a0_8, .string a0_9] 33 (0, 0)) (by (with_reducible repeat (first | refine blk_drewN ?_ _ | refine blk_drew ?_ | refine blk_alloc ?_ _)); exact BK392.out)) : gb392 ≠ gb393)); have n6_ := Aside0.mk ((by rw [hg]; exact Nat.ne_of_gt (blk_lt (g := gb392) (o := .cells #[.string a0_0, .string a0_1, .string a0_2, .string a0_3, .bool a0_4, .slice A0_5 l0_5.length c0_5, .slice A0_6 l0_6.length c0_6, .bool a0_7, .bool a0_8, .string a0_9] 33 (0, 0)) (by (with_reducible repeat (first | refine blk_drewN ?_ _ | refine blk_drew ?_ | refine blk_alloc ?_ _)); exact BK392.out)) : gb393 ≠ gb392)); clear BK392; clear HB; have BK392 := n0_; have HB := n1_; have BK393 := n2_; have GW393 := n3_; have GE393 := n4_; have NB392_393 := n5_; have NB393_392 := n6_; clear n0_ n1_ n2_ n3_ n4_ n5_ n6_; clear hb hbox hg)); go_upto_region 1 with (first | ((with_reducible refine gate_dst (N := 2) rfl ?_); (try (refine gate_guard (by rfl) ?_; dsimp only)); refine box_event ?hg (N := 2) ?hd (cs := #[.string a0_0, .string a0_1, .string a0_2, .string a0_3, .bool a0_4, .slice A0_5 l0_5.length c0_5, .slice A0_6 l0_6.length c0_6, .bool a0_7, .bool a0_8, .string a0_9]) (t := 33) ?hr ?_; (case hd => rfl); (case hg => rfl); (case hr => first | (go_simp; done) | (go_simp; rfl)); intro gb392 hg w4 hbox hb; have n0_ := Aside0.mk (below_step (by repeat (first | (with_reducible first | exact HB.out | apply below_alloc | apply pw_below_drewN | apply below_drew1) | exact HB.out)) hb); have n1_ := Aside0.mk (hbox); have n2_ := Aside0.mk ((by rw [hg]; exact (below_size (by repeat (first | (with_reducible first | exact HB.out | apply below_alloc | apply pw_below_drewN | apply below_drew1) | exact HB.out))) : w.heap.size ≤ gb392)); have n3_ := Aside0.mk ((by rw [hg]; exact (below_size (by repeat (first | (with_reducible first | exact HB.out | apply below_alloc | apply pw_below_drewN | apply below_drew1) | exact HB.out))) : w.heap.size ≤ gb392)); clear HB; have HB := n0_; have BK392 := n1_; have GW392 := n2_; have GE392 := n3_; clear n0_ n1_ n2_ n3_; clear hb hbox hg) | ((with_reducible refine gate_dst (N := 3) rfl ?_); (try (refine gate_guard (by rfl) ?_; dsimp only)); refine box_event ?hg (N := 3) ?hd (cs := #[.string a1_0, .string a1_1, .string a1_2, .string a1_3, .bool a1_4, .slice A1_5 l1_5.length c1_5, .slice A1_6 l1_6.length c1_6, .bool a1_7, .bool a1_8, .string a1_9]) (t := 33) ?hr ?_; (case hd => rfl); (case hg => rfl); (case hr => first | (go_simp; done) | (go_simp; rfl)); intro gb393 hg w5 hbox hb; have n0_ := Aside0.mk (blk_below (g := gb392) (o := .cells #[.string a0_0, .string a0_1, .string a0_2, .string a0_3, .bool a0_4, .slice A0_5 l0_5.length c0_5, .slice A0_6 l0_6.length c0_6, .bool a0_7, .bool a0_8, .string a0_9] 33 (0, 0)) (by (with_reducible repeat (first | refine blk_drewN ?_ _ | refine blk_drew ?_ | refine blk_alloc ?_ _)); exact BK392.out) hb); have n1_ := Aside0.mk (below_step (by repeat (first | (with_reducible first | exact HB.out | apply below_alloc | apply pw_below_drewN | apply below_drew1 | refine below_set ?_ GE392.out) | exact HB.out)) hb); have n2_ := Aside0.mk (hbox); have n3_ := Aside0.mk ((by rw [hg]; exact (below_size (by repeat (first | (with_reducible first | exact HB.out | apply below_alloc | apply pw_below_drewN | apply below_drew1 | refine below_set ?_ GE392.out) | exact HB.out))) : w.heap.size ≤ gb393)); have n4_ := Aside0.mk ((by rw [hg]; exact (below_size (by repeat (first | (with_reducible first | exact HB.out | apply below_alloc | apply pw_below_drewN | apply below_drew1 | refine below_set ?_ GE392.out) | exact HB.out))) : w.heap.size ≤ gb393)); have n5_ := Aside0.mk ((by rw [hg]; exact Nat.ne_of_lt (blk_lt (g := gb392) (o := .cells #[.string a0_0, .string a0_1, .string a0_2, .string a0_3, .bool a0_4, .slice A0_5 l0_5.length c0_5, .slice A0_6 l0_6.length c0_6, .bool a0_7, .bool a0_8, .string a0_9] 33 (0, 0)) (by (with_reducible repeat (first | refine blk_drewN ?_ _ | refine blk_drew ?_ | refine blk_alloc ?_ _)); exact BK392.out)) : gb392 ≠ gb393)); have n6_ := Aside0.mk ((by rw [hg]; exact Nat.ne_of_gt (blk_lt (g := gb392) (o := .cells #[.string a0_0, .string a0_1, .string a0_2, .string a0_3, .bool a0_4, .slice A0_5 l0_5.length c0_5, .slice A0_6 l0_6.length c0_6, .bool a0_7, .bool a0_8, .string a0_9] 33 (0, 0)) (by (with_reducible repeat (first | refine blk_drewN ?_ _ | refine blk_drew ?_ | refine blk_alloc ?_ _)); exact BK392.out)) : gb393 ≠ gb392)); clear BK392; clear HB; have BK392 := n0_; have HB := n1_; have BK393 := n2_; have GW393 := n3_; have GE393 := n4_; have NB392_393 := n5_; have NB393_392 := n6_; clear n0_ n1_ n2_ n3_ n4_ n5_ n6_; clear hb hbox hg)))
 (try simp only [Act.put, List.setIfInBounds_toArray, List.set_cons_zero, List.set_cons_succ])
 go_cut [53] (fun v53 wc => ∃ (kq : Nat) (x53_2 : Bool), v53 = .bool x53_2 ∧ Aside0 (laws_alpine.j0 kq x53_2 a0_0 a0_1 a0_2 a0_3 a0_4 l0_5 l0_6 a0_7 a0_8 a0_9 a1_0 a1_1 a1_2 a1_3 a1_4 l1_5 l1_6 a1_7 a1_8 a1_9 = some r) ∧ Aside0 (kq ≤ k) ∧ Aside0 (wc.heap[gb392]? = some (.cells #[.string a0_0, .string a0_1, .string a0_2, .string a0_3, .bool a0_4, (.slice A0_5 l0_5.length c0_5), (.slice A0_6 l0_6.length c0_6), .bool a0_7, .bool a0_8, .string a0_9] 33 (0, 0))) ∧ Aside0 (wc.heap[gb393]? = some (.cells #[.string a1_0, .string a1_1, .string a1_2, .string a1_3, .bool a1_4, (.slice A1_5 l1_5.length c1_5), (.slice A1_6 l1_6.length c1_6), .bool a1_7, .bool a1_8, .string a1_9] 33 (0, 0))) ∧ Aside0 (Below w.heap.size w wc))
 case first =>
  have H := HC3.out
  clear HC3
  by_cases c6 : a0_0.toList = a1_0.toList
  ·rw [if_pos c6] at H
   have c6b0 : (a0_0.toList == a1_0.toList) = true := beq_iff_eq.mpr c6
   have c6b1 : (a0_0.toList != a1_0.toList) = false := bne_eq_false_iff_eq.mpr c6
   clear c6
   (first | rw [c6b0] | (simp only [i64_w, i32_w]; rw [c6b0]) | skip)
   by_cases c7 : a0_1.toList = a1_1.toList
   ·rw [if_pos c7] at H
    have c7b0 : (a0_1.toList == a1_1.toList) = true := beq_iff_eq.mpr c7
    have c7b1 : (a0_1.toList != a1_1.toList) = false := bne_eq_false_iff_eq.mpr c7
    clear c7
    by_cases c8 : a0_2.toList = a1_2.toList
    ·rw [if_pos c8] at H
     have c8b0 : (a0_2.toList == a1_2.toList) = true := beq_iff_eq.mpr c8
     have c8b1 : (a0_2.toList != a1_2.toList) = false := bne_eq_false_iff_eq.mpr c8
     clear c8
     by_cases c9 : a0_3.toList = a1_3.toList
     ·rw [if_pos c9] at H
      have c9b0 : (a0_3.toList == a1_3.toList) = true := beq_iff_eq.mpr c9
      have c9b1 : (a0_3.toList != a1_3.toList) = false := bne_eq_false_iff_eq.mpr c9
      clear c9
      by_cases c10 : (a0_4 != a1_4) = true
      ·rw [if_pos c10] at H
       have c10b0 : (a0_4 != a1_4) = true := c10
       (try (have c10b1 : decide (a0_4 = a1_4) = false := by simpa using c10))
       (try (have c10b2 : (a0_4 == a1_4) = false := by simpa using c10))
       (try (have c10b3 : ¬ (a0_4 = a1_4) := by simpa using c10))
       clear c10
       have H' := Aside0.mk H
       clear H
       have hnb11 := NB392_393.out
       have hnc11 := NB393_392.out
       have hcz12_0 : w5.cell? ⟨gb392, 0, none⟩ = some (.string a0_0) := (blk_cell BK392.out 0).trans rfl
       have hcz12_1 : w5.cell? ⟨gb392, 1, none⟩ = some (.string a0_1) := (blk_cell BK392.out 1).trans rfl
       have hcz12_2 : w5.cell? ⟨gb392, 2, none⟩ = some (.string a0_2) := (blk_cell BK392.out 2).trans rfl
       have hcz12_3 : w5.cell? ⟨gb392, 3, none⟩ = some (.string a0_3) := (blk_cell BK392.out 3).trans rfl
       have hcz12_4 : w5.cell? ⟨gb392, 4, none⟩ = some (.bool a0_4) := (blk_cell BK392.out 4).trans rfl
       have hcz12_5 : w5.cell? ⟨gb392, 5, none⟩ = some (.slice A0_5 l0_5.length c0_5) := (blk_cell BK392.out 5).trans rfl
       have hcz12_6 : w5.cell? ⟨gb392, 6, none⟩ = some (.slice A0_6 l0_6.length c0_6) := (blk_cell BK392.out 6).trans rfl
       have hcz12_7 : w5.cell? ⟨gb392, 7, none⟩ = some (.bool a0_7) := (blk_cell BK392.out 7).trans rfl
       have hcz12_8 : w5.cell? ⟨gb392, 8, none⟩ = some (.bool a0_8) := (blk_cell BK392.out 8).trans rfl
       have hcz12_9 : w5.cell? ⟨gb392, 9, none⟩ = some (.string a0_9) := (blk_cell BK392.out 9).trans rfl
       have hfz12_0 := blk_frozen BK392.out 0
       have hfz12_1 := blk_frozen BK392.out 1
       have hfz12_2 := blk_frozen BK392.out 2
       have hfz12_3 := blk_frozen BK392.out 3
       have hfz12_4 := blk_frozen BK392.out 4
       have hfz12_5 := blk_frozen BK392.out 5
       have hfz12_6 := blk_frozen BK392.out 6
       have hfz12_7 := blk_frozen BK392.out 7
       have hfz12_8 := blk_frozen BK392.out 8
       have hfz12_9 := blk_frozen BK392.out 9
       have hcz13_0 : w5.cell? ⟨gb393, 0, none⟩ = some (.string a1_0) := (blk_cell BK393.out 0).trans rfl
       have hcz13_1 : w5.cell? ⟨gb393, 1, none⟩ = some (.string a1_1) := (blk_cell BK393.out 1).trans rfl
       have hcz13_2 : w5.cell? ⟨gb393, 2, none⟩ = some (.string a1_2) := (blk_cell BK393.out 2).trans rfl
       have hcz13_3 : w5.cell? ⟨gb393, 3, none⟩ = some (.string a1_3) := (blk_cell BK393.out 3).trans rfl
       have hcz13_4 : w5.cell? ⟨gb393, 4, none⟩ = some (.bool a1_4) := (blk_cell BK393.out 4).trans rfl
       have hcz13_5 : w5.cell? ⟨gb393, 5, none⟩ = some (.slice A1_5 l1_5.length c1_5) := (blk_cell BK393.out 5).trans rfl
       have hcz13_6 : w5.cell? ⟨gb393, 6, none⟩ = some (.slice A1_6 l1_6.length c1_6) := (blk_cell BK393.out 6).trans rfl
       have hcz13_7 : w5.cell? ⟨gb393, 7, none⟩ = some (.bool a1_7) := (blk_cell BK393.out 7).trans rfl
       have hcz13_8 : w5.cell? ⟨gb393, 8, none⟩ = some (.bool a1_8) := (blk_cell BK393.out 8).trans rfl
       have hcz13_9 : w5.cell? ⟨gb393, 9, none⟩ = some (.string a1_9) := (blk_cell BK393.out 9).trans rfl
       have hfz13_0 := blk_frozen BK393.out 0
       have hfz13_1 := blk_frozen BK393.out 1
       have hfz13_2 := blk_frozen BK393.out 2
       have hfz13_3 := blk_frozen BK393.out 3
       have hfz13_4 := blk_frozen BK393.out 4
       have hfz13_5 := blk_frozen BK393.out 5
       have hfz13_6 := blk_frozen BK393.out 6
       have hfz13_7 := blk_frozen BK393.out 7
       have hfz13_8 := blk_frozen BK393.out 8
       have hfz13_9 := blk_frozen BK393.out 9
       go_wp2
       repeat (go_quiet (fail); try go_wp2)
       go_meet
       case rel => exact ⟨_, (true), (by rfl), H', ⟨by omega⟩, ⟨by exact BK392.out⟩, ⟨by exact BK393.out⟩, ⟨by (with_reducible exact HB.out)⟩⟩
      ·rw [if_neg c10] at H
       have c10b0 : (a0_4 != a1_4) = false := by simpa using c10
       (try (have c10b1 : decide (a0_4 = a1_4) = true := by simpa using c10))
       (try (have c10b2 : (a0_4 == a1_4) = true := by simpa using c10))
       clear c10
       by_cases c14 : (a0_7 != a1_7) = true
       ·rw [if_pos c14] at H
        have c14b0 : (a0_7 != a1_7) = true := c14
        (try (have c14b1 : decide (a0_7 = a1_7) = false := by simpa using c14))
        (try (have c14b2 : (a0_7 == a1_7) = false := by simpa using c14))
        (try (have c14b3 : ¬ (a0_7 = a1_7) := by simpa using c14))
        clear c14
        have H' := Aside0.mk H
        clear H
        have hnb15 := NB392_393.out
        have hnc15 := NB393_392.out
        have hcz16_0 : w5.cell? ⟨gb392, 0, none⟩ = some (.string a0_0) := (blk_cell BK392.out 0).trans rfl
        have hcz16_1 : w5.cell? ⟨gb392, 1, none⟩ = some (.string a0_1) := (blk_cell BK392.out 1).trans rfl
        have hcz16_2 : w5.cell? ⟨gb392, 2, none⟩ = some (.string a0_2) := (blk_cell BK392.out 2).trans rfl
        have hcz16_3 : w5.cell? ⟨gb392, 3, none⟩ = some (.string a0_3) := (blk_cell BK392.out 3).trans rfl
        have hcz16_4 : w5.cell? ⟨gb392, 4, none⟩ = some (.bool a0_4) := (blk_cell BK392.out 4).trans rfl
        have hcz16_5 : w5.cell? ⟨gb392, 5, none⟩ = some (.slice A0_5 l0_5.length c0_5) := (blk_cell BK392.out 5).trans rfl
        have hcz16_6 : w5.cell? ⟨gb392, 6, none⟩ = some (.slice A0_6 l0_6.length c0_6) := (blk_cell BK392.out 6).trans rfl
        have hcz16_7 : w5.cell? ⟨gb392, 7, none⟩ = some (.bool a0_7) := (blk_cell BK392.out 7).trans rfl
        have hcz16_8 : w5.cell? ⟨gb392, 8, none⟩ = some (.bool a0_8) := (blk_cell BK392.out 8).trans rfl
        have hcz16_9 : w5.cell? ⟨gb392, 9, none⟩ = some (.string a0_9) := (blk_cell BK392.out 9).trans rfl
        have hfz16_0 := blk_frozen BK392.out 0
        have hfz16_1 := blk_frozen BK392.out 1
        have hfz16_2 := blk_frozen BK392.out 2
        have hfz16_3 := blk_frozen BK392.out 3
        have hfz16_4 := blk_frozen BK392.out 4
        have hfz16_5 := blk_frozen BK392.out 5
        have hfz16_6 := blk_frozen BK392.out 6
        have hfz16_7 := blk_frozen BK392.out 7
        have hfz16_8 := blk_frozen BK392.out 8
        have hfz16_9 := blk_frozen BK392.out 9
        have hcz17_0 : w5.cell? ⟨gb393, 0, none⟩ = some (.string a1_0) := (blk_cell BK393.out 0).trans rfl
        have hcz17_1 : w5.cell? ⟨gb393, 1, none⟩ = some (.string a1_1) := (blk_cell BK393.out 1).trans rfl
        have hcz17_2 : w5.cell? ⟨gb393, 2, none⟩ = some (.string a1_2) := (blk_cell BK393.out 2).trans rfl
        have hcz17_3 : w5.cell? ⟨gb393, 3, none⟩ = some (.string a1_3) := (blk_cell BK393.out 3).trans rfl
        have hcz17_4 : w5.cell? ⟨gb393, 4, none⟩ = some (.bool a1_4) := (blk_cell BK393.out 4).trans rfl
        have hcz17_5 : w5.cell? ⟨gb393, 5, none⟩ = some (.slice A1_5 l1_5.length c1_5) := (blk_cell BK393.out 5).trans rfl
        have hcz17_6 : w5.cell? ⟨gb393, 6, none⟩ = some (.slice A1_6 l1_6.length c1_6) := (blk_cell BK393.out 6).trans rfl
        have hcz17_7 : w5.cell? ⟨gb393, 7, none⟩ = some (.bool a1_7) := (blk_cell BK393.out 7).trans rfl
        have hcz17_8 : w5.cell? ⟨gb393, 8, none⟩ = some (.bool a1_8) := (blk_cell BK393.out 8).trans rfl
        have hcz17_9 : w5.cell? ⟨gb393, 9, none⟩ = some (.string a1_9) := (blk_cell BK393.out 9).trans rfl
        have hfz17_0 := blk_frozen BK393.out 0
        have hfz17_1 := blk_frozen BK393.out 1
        have hfz17_2 := blk_frozen BK393.out 2
        have hfz17_3 := blk_frozen BK393.out 3
        have hfz17_4 := blk_frozen BK393.out 4
        have hfz17_5 := blk_frozen BK393.out 5
        have hfz17_6 := blk_frozen BK393.out 6
        have hfz17_7 := blk_frozen BK393.out 7
        have hfz17_8 := blk_frozen BK393.out 8
        have hfz17_9 := blk_frozen BK393.out 9
        go_wp2
        repeat (go_quiet (fail); try go_wp2)
        go_meet
        case rel => exact ⟨_, (true), (by rfl), H', ⟨by omega⟩, ⟨by exact BK392.out⟩, ⟨by exact BK393.out⟩, ⟨by (with_reducible exact HB.out)⟩⟩
       ·rw [if_neg c14] at H
        have c14b0 : (a0_7 != a1_7) = false := by simpa using c14
        (try (have c14b1 : decide (a0_7 = a1_7) = true := by simpa using c14))
        (try (have c14b2 : (a0_7 == a1_7) = true := by simpa using c14))
        clear c14
        have H' := Aside0.mk H
        clear H
        have hnb18 := NB392_393.out
        have hnc18 := NB393_392.out
        have hcz19_0 : w5.cell? ⟨gb392, 0, none⟩ = some (.string a0_0) := (blk_cell BK392.out 0).trans rfl
        have hcz19_1 : w5.cell? ⟨gb392, 1, none⟩ = some (.string a0_1) := (blk_cell BK392.out 1).trans rfl
        have hcz19_2 : w5.cell? ⟨gb392, 2, none⟩ = some (.string a0_2) := (blk_cell BK392.out 2).trans rfl
        have hcz19_3 : w5.cell? ⟨gb392, 3, none⟩ = some (.string a0_3) := (blk_cell BK392.out 3).trans rfl
        have hcz19_4 : w5.cell? ⟨gb392, 4, none⟩ = some (.bool a0_4) := (blk_cell BK392.out 4).trans rfl
        have hcz19_5 : w5.cell? ⟨gb392, 5, none⟩ = some (.slice A0_5 l0_5.length c0_5) := (blk_cell BK392.out 5).trans rfl
        have hcz19_6 : w5.cell? ⟨gb392, 6, none⟩ = some (.slice A0_6 l0_6.length c0_6) := (blk_cell BK392.out 6).trans rfl
        have hcz19_7 : w5.cell? ⟨gb392, 7, none⟩ = some (.bool a0_7) := (blk_cell BK392.out 7).trans rfl
        have hcz19_8 : w5.cell? ⟨gb392, 8, none⟩ = some (.bool a0_8) := (blk_cell BK392.out 8).trans rfl
        have hcz19_9 : w5.cell? ⟨gb392, 9, none⟩ = some (.string a0_9) := (blk_cell BK392.out 9).trans rfl
        have hfz19_0 := blk_frozen BK392.out 0
        have hfz19_1 := blk_frozen BK392.out 1
        have hfz19_2 := blk_frozen BK392.out 2
        have hfz19_3 := blk_frozen BK392.out 3
        have hfz19_4 := blk_frozen BK392.out 4
        have hfz19_5 := blk_frozen BK392.out 5
        have hfz19_6 := blk_frozen BK392.out 6
        have hfz19_7 := blk_frozen BK392.out 7
        have hfz19_8 := blk_frozen BK392.out 8
        have hfz19_9 := blk_frozen BK392.out 9
        have hcz20_0 : w5.cell? ⟨gb393, 0, none⟩ = some (.string a1_0) := (blk_cell BK393.out 0).trans rfl
        have hcz20_1 : w5.cell? ⟨gb393, 1, none⟩ = some (.string a1_1) := (blk_cell BK393.out 1).trans rfl
        have hcz20_2 : w5.cell? ⟨gb393, 2, none⟩ = some (.string a1_2) := (blk_cell BK393.out 2).trans rfl
        have hcz20_3 : w5.cell? ⟨gb393, 3, none⟩ = some (.string a1_3) := (blk_cell BK393.out 3).trans rfl
        have hcz20_4 : w5.cell? ⟨gb393, 4, none⟩ = some (.bool a1_4) := (blk_cell BK393.out 4).trans rfl
        have hcz20_5 : w5.cell? ⟨gb393, 5, none⟩ = some (.slice A1_5 l1_5.length c1_5) := (blk_cell BK393.out 5).trans rfl
        have hcz20_6 : w5.cell? ⟨gb393, 6, none⟩ = some (.slice A1_6 l1_6.length c1_6) := (blk_cell BK393.out 6).trans rfl
        have hcz20_7 : w5.cell? ⟨gb393, 7, none⟩ = some (.bool a1_7) := (blk_cell BK393.out 7).trans rfl
        have hcz20_8 : w5.cell? ⟨gb393, 8, none⟩ = some (.bool a1_8) := (blk_cell BK393.out 8).trans rfl
        have hcz20_9 : w5.cell? ⟨gb393, 9, none⟩ = some (.string a1_9) := (blk_cell BK393.out 9).trans rfl
        have hfz20_0 := blk_frozen BK393.out 0
        have hfz20_1 := blk_frozen BK393.out 1
        have hfz20_2 := blk_frozen BK393.out 2
        have hfz20_3 := blk_frozen BK393.out 3
        have hfz20_4 := blk_frozen BK393.out 4
        have hfz20_5 := blk_frozen BK393.out 5
        have hfz20_6 := blk_frozen BK393.out 6
        have hfz20_7 := blk_frozen BK393.out 7
        have hfz20_8 := blk_frozen BK393.out 8
        have hfz20_9 := blk_frozen BK393.out 9
        go_wp2
        repeat (go_quiet (fail); try go_wp2)
        go_meet
        case rel => exact ⟨_, ((!(a0_8 == a1_8) || (!(a0_9.toList == a1_9.toList)))), (by rfl), H', ⟨by omega⟩, ⟨by exact BK392.out⟩, ⟨by exact BK393.out⟩, ⟨by (with_reducible exact HB.out)⟩⟩
     ·rw [if_neg c9] at H
      have c9b0 : (a0_3.toList == a1_3.toList) = false := beq_eq_false_iff_ne.mpr c9
      have c9b1 : (a0_3.toList != a1_3.toList) = true := bne_iff_ne.mpr c9
      have H' := Aside0.mk H
      clear H
      have hnb21 := NB392_393.out
      have hnc21 := NB393_392.out
      have hcz22_0 : w5.cell? ⟨gb392, 0, none⟩ = some (.string a0_0) := (blk_cell BK392.out 0).trans rfl
      have hcz22_1 : w5.cell? ⟨gb392, 1, none⟩ = some (.string a0_1) := (blk_cell BK392.out 1).trans rfl
      have hcz22_2 : w5.cell? ⟨gb392, 2, none⟩ = some (.string a0_2) := (blk_cell BK392.out 2).trans rfl
      have hcz22_3 : w5.cell? ⟨gb392, 3, none⟩ = some (.string a0_3) := (blk_cell BK392.out 3).trans rfl
      have hcz22_4 : w5.cell? ⟨gb392, 4, none⟩ = some (.bool a0_4) := (blk_cell BK392.out 4).trans rfl
      have hcz22_5 : w5.cell? ⟨gb392, 5, none⟩ = some (.slice A0_5 l0_5.length c0_5) := (blk_cell BK392.out 5).trans rfl
      have hcz22_6 : w5.cell? ⟨gb392, 6, none⟩ = some (.slice A0_6 l0_6.length c0_6) := (blk_cell BK392.out 6).trans rfl
      have hcz22_7 : w5.cell? ⟨gb392, 7, none⟩ = some (.bool a0_7) := (blk_cell BK392.out 7).trans rfl
      have hcz22_8 : w5.cell? ⟨gb392, 8, none⟩ = some (.bool a0_8) := (blk_cell BK392.out 8).trans rfl
      have hcz22_9 : w5.cell? ⟨gb392, 9, none⟩ = some (.string a0_9) := (blk_cell BK392.out 9).trans rfl
      have hfz22_0 := blk_frozen BK392.out 0
      have hfz22_1 := blk_frozen BK392.out 1
      have hfz22_2 := blk_frozen BK392.out 2
      have hfz22_3 := blk_frozen BK392.out 3
      have hfz22_4 := blk_frozen BK392.out 4
      have hfz22_5 := blk_frozen BK392.out 5
      have hfz22_6 := blk_frozen BK392.out 6
      have hfz22_7 := blk_frozen BK392.out 7
      have hfz22_8 := blk_frozen BK392.out 8
      have hfz22_9 := blk_frozen BK392.out 9
      have hcz23_0 : w5.cell? ⟨gb393, 0, none⟩ = some (.string a1_0) := (blk_cell BK393.out 0).trans rfl
      have hcz23_1 : w5.cell? ⟨gb393, 1, none⟩ = some (.string a1_1) := (blk_cell BK393.out 1).trans rfl
      have hcz23_2 : w5.cell? ⟨gb393, 2, none⟩ = some (.string a1_2) := (blk_cell BK393.out 2).trans rfl
      have hcz23_3 : w5.cell? ⟨gb393, 3, none⟩ = some (.string a1_3) := (blk_cell BK393.out 3).trans rfl
      have hcz23_4 : w5.cell? ⟨gb393, 4, none⟩ = some (.bool a1_4) := (blk_cell BK393.out 4).trans rfl
      have hcz23_5 : w5.cell? ⟨gb393, 5, none⟩ = some (.slice A1_5 l1_5.length c1_5) := (blk_cell BK393.out 5).trans rfl
      have hcz23_6 : w5.cell? ⟨gb393, 6, none⟩ = some (.slice A1_6 l1_6.length c1_6) := (blk_cell BK393.out 6).trans rfl
      have hcz23_7 : w5.cell? ⟨gb393, 7, none⟩ = some (.bool a1_7) := (blk_cell BK393.out 7).trans rfl
      have hcz23_8 : w5.cell? ⟨gb393, 8, none⟩ = some (.bool a1_8) := (blk_cell BK393.out 8).trans rfl
      have hcz23_9 : w5.cell? ⟨gb393, 9, none⟩ = some (.string a1_9) := (blk_cell BK393.out 9).trans rfl
      have hfz23_0 := blk_frozen BK393.out 0
      have hfz23_1 := blk_frozen BK393.out 1
      have hfz23_2 := blk_frozen BK393.out 2
      have hfz23_3 := blk_frozen BK393.out 3
      have hfz23_4 := blk_frozen BK393.out 4
      have hfz23_5 := blk_frozen BK393.out 5
      have hfz23_6 := blk_frozen BK393.out 6
      have hfz23_7 := blk_frozen BK393.out 7
      have hfz23_8 := blk_frozen BK393.out 8
      have hfz23_9 := blk_frozen BK393.out 9
      go_wp2
      repeat (go_quiet (fail); try go_wp2)
      go_meet
      case rel => exact ⟨_, (true), (by rfl), H', ⟨by omega⟩, ⟨by exact BK392.out⟩, ⟨by exact BK393.out⟩, ⟨by (with_reducible exact HB.out)⟩⟩
    ·rw [if_neg c8] at H
     have c8b0 : (a0_2.toList == a1_2.toList) = false := beq_eq_false_iff_ne.mpr c8
     have c8b1 : (a0_2.toList != a1_2.toList) = true := bne_iff_ne.mpr c8
     have H' := Aside0.mk H
     clear H
     have hnb24 := NB392_393.out
     have hnc24 := NB393_392.out
     have hcz25_0 : w5.cell? ⟨gb392, 0, none⟩ = some (.string a0_0) := (blk_cell BK392.out 0).trans rfl
     have hcz25_1 : w5.cell? ⟨gb392, 1, none⟩ = some (.string a0_1) := (blk_cell BK392.out 1).trans rfl
     have hcz25_2 : w5.cell? ⟨gb392, 2, none⟩ = some (.string a0_2) := (blk_cell BK392.out 2).trans rfl
     have hcz25_3 : w5.cell? ⟨gb392, 3, none⟩ = some (.string a0_3) := (blk_cell BK392.out 3).trans rfl
     have hcz25_4 : w5.cell? ⟨gb392, 4, none⟩ = some (.bool a0_4) := (blk_cell BK392.out 4).trans rfl
     have hcz25_5 : w5.cell? ⟨gb392, 5, none⟩ = some (.slice A0_5 l0_5.length c0_5) := (blk_cell BK392.out 5).trans rfl
     have hcz25_6 : w5.cell? ⟨gb392, 6, none⟩ = some (.slice A0_6 l0_6.length c0_6) := (blk_cell BK392.out 6).trans rfl
     have hcz25_7 : w5.cell? ⟨gb392, 7, none⟩ = some (.bool a0_7) := (blk_cell BK392.out 7).trans rfl
     have hcz25_8 : w5.cell? ⟨gb392, 8, none⟩ = some (.bool a0_8) := (blk_cell BK392.out 8).trans rfl
     have hcz25_9 : w5.cell? ⟨gb392, 9, none⟩ = some (.string a0_9) := (blk_cell BK392.out 9).trans rfl
     have hfz25_0 := blk_frozen BK392.out 0
     have hfz25_1 := blk_frozen BK392.out 1
     have hfz25_2 := blk_frozen BK392.out 2
     have hfz25_3 := blk_frozen BK392.out 3
     have hfz25_4 := blk_frozen BK392.out 4
     have hfz25_5 := blk_frozen BK392.out 5
     have hfz25_6 := blk_frozen BK392.out 6
     have hfz25_7 := blk_frozen BK392.out 7
     have hfz25_8 := blk_frozen BK392.out 8
     have hfz25_9 := blk_frozen BK392.out 9
     have hcz26_0 : w5.cell? ⟨gb393, 0, none⟩ = some (.string a1_0) := (blk_cell BK393.out 0).trans rfl
     have hcz26_1 : w5.cell? ⟨gb393, 1, none⟩ = some (.string a1_1) := (blk_cell BK393.out 1).trans rfl
     have hcz26_2 : w5.cell? ⟨gb393, 2, none⟩ = some (.string a1_2) := (blk_cell BK393.out 2).trans rfl
     have hcz26_3 : w5.cell? ⟨gb393, 3, none⟩ = some (.string a1_3) := (blk_cell BK393.out 3).trans rfl
     have hcz26_4 : w5.cell? ⟨gb393, 4, none⟩ = some (.bool a1_4) := (blk_cell BK393.out 4).trans rfl
     have hcz26_5 : w5.cell? ⟨gb393, 5, none⟩ = some (.slice A1_5 l1_5.length c1_5) := (blk_cell BK393.out 5).trans rfl
     have hcz26_6 : w5.cell? ⟨gb393, 6, none⟩ = some (.slice A1_6 l1_6.length c1_6) := (blk_cell BK393.out 6).trans rfl
     have hcz26_7 : w5.cell? ⟨gb393, 7, none⟩ = some (.bool a1_7) := (blk_cell BK393.out 7).trans rfl
     have hcz26_8 : w5.cell? ⟨gb393, 8, none⟩ = some (.bool a1_8) := (blk_cell BK393.out 8).trans rfl
     have hcz26_9 : w5.cell? ⟨gb393, 9, none⟩ = some (.string a1_9) := (blk_cell BK393.out 9).trans rfl
     have hfz26_0 := blk_frozen BK393.out 0
     have hfz26_1 := blk_frozen BK393.out 1
     have hfz26_2 := blk_frozen BK393.out 2
     have hfz26_3 := blk_frozen BK393.out 3
     have hfz26_4 := blk_frozen BK393.out 4
     have hfz26_5 := blk_frozen BK393.out 5
     have hfz26_6 := blk_frozen BK393.out 6
     have hfz26_7 := blk_frozen BK393.out 7
     have hfz26_8 := blk_frozen BK393.out 8
     have hfz26_9 := blk_frozen BK393.out 9
     go_wp2
     repeat (go_quiet (fail); try go_wp2)
     go_meet
     case rel => exact ⟨_, (true), (by rfl), H', ⟨by omega⟩, ⟨by exact BK392.out⟩, ⟨by exact BK393.out⟩, ⟨by (with_reducible exact HB.out)⟩⟩
   ·rw [if_neg c7] at H
    have c7b0 : (a0_1.toList == a1_1.toList) = false := beq_eq_false_iff_ne.mpr c7
    have c7b1 : (a0_1.toList != a1_1.toList) = true := bne_iff_ne.mpr c7
    have H' := Aside0.mk H
    clear H
    have hnb27 := NB392_393.out
    have hnc27 := NB393_392.out
    have hcz28_0 : w5.cell? ⟨gb392, 0, none⟩ = some (.string a0_0) := (blk_cell BK392.out 0).trans rfl
    have hcz28_1 : w5.cell? ⟨gb392, 1, none⟩ = some (.string a0_1) := (blk_cell BK392.out 1).trans rfl
    have hcz28_2 : w5.cell? ⟨gb392, 2, none⟩ = some (.string a0_2) := (blk_cell BK392.out 2).trans rfl
    have hcz28_3 : w5.cell? ⟨gb392, 3, none⟩ = some (.string a0_3) := (blk_cell BK392.out 3).trans rfl
    have hcz28_4 : w5.cell? ⟨gb392, 4, none⟩ = some (.bool a0_4) := (blk_cell BK392.out 4).trans rfl
    have hcz28_5 : w5.cell? ⟨gb392, 5, none⟩ = some (.slice A0_5 l0_5.length c0_5) := (blk_cell BK392.out 5).trans rfl
    have hcz28_6 : w5.cell? ⟨gb392, 6, none⟩ = some (.slice A0_6 l0_6.length c0_6) := (blk_cell BK392.out 6).trans rfl
    have hcz28_7 : w5.cell? ⟨gb392, 7, none⟩ = some (.bool a0_7) := (blk_cell BK392.out 7).trans rfl
    have hcz28_8 : w5.cell? ⟨gb392, 8, none⟩ = some (.bool a0_8) := (blk_cell BK392.out 8).trans rfl
    have hcz28_9 : w5.cell? ⟨gb392, 9, none⟩ = some (.string a0_9) := (blk_cell BK392.out 9).trans rfl
    have hfz28_0 := blk_frozen BK392.out 0
    have hfz28_1 := blk_frozen BK392.out 1
    have hfz28_2 := blk_frozen BK392.out 2
    have hfz28_3 := blk_frozen BK392.out 3
    have hfz28_4 := blk_frozen BK392.out 4
    have hfz28_5 := blk_frozen BK392.out 5
    have hfz28_6 := blk_frozen BK392.out 6
    have hfz28_7 := blk_frozen BK392.out 7
    have hfz28_8 := blk_frozen BK392.out 8
    have hfz28_9 := blk_frozen BK392.out 9
    have hcz29_0 : w5.cell? ⟨gb393, 0, none⟩ = some (.string a1_0) := (blk_cell BK393.out 0).trans rfl
    have hcz29_1 : w5.cell? ⟨gb393, 1, none⟩ = some (.string a1_1) := (blk_cell BK393.out 1).trans rfl
    have hcz29_2 : w5.cell? ⟨gb393, 2, none⟩ = some (.string a1_2) := (blk_cell BK393.out 2).trans rfl
    have hcz29_3 : w5.cell? ⟨gb393, 3, none⟩ = some (.string a1_3) := (blk_cell BK393.out 3).trans rfl
    have hcz29_4 : w5.cell? ⟨gb393, 4, none⟩ = some (.bool a1_4) := (blk_cell BK393.out 4).trans rfl
    have hcz29_5 : w5.cell? ⟨gb393, 5, none⟩ = some (.slice A1_5 l1_5.length c1_5) := (blk_cell BK393.out 5).trans rfl
    have hcz29_6 : w5.cell? ⟨gb393, 6, none⟩ = some (.slice A1_6 l1_6.length c1_6) := (blk_cell BK393.out 6).trans rfl
    have hcz29_7 : w5.cell? ⟨gb393, 7, none⟩ = some (.bool a1_7) := (blk_cell BK393.out 7).trans rfl
    have hcz29_8 : w5.cell? ⟨gb393, 8, none⟩ = some (.bool a1_8) := (blk_cell BK393.out 8).trans rfl
    have hcz29_9 : w5.cell? ⟨gb393, 9, none⟩ = some (.string a1_9) := (blk_cell BK393.out 9).trans rfl
    have hfz29_0 := blk_frozen BK393.out 0
    have hfz29_1 := blk_frozen BK393.out 1
    have hfz29_2 := blk_frozen BK393.out 2
    have hfz29_3 := blk_frozen BK393.out 3
    have hfz29_4 := blk_frozen BK393.out 4
    have hfz29_5 := blk_frozen BK393.out 5
    have hfz29_6 := blk_frozen BK393.out 6
    have hfz29_7 := blk_frozen BK393.out 7
    have hfz29_8 := blk_frozen BK393.out 8
    have hfz29_9 := blk_frozen BK393.out 9
    go_wp2
    repeat (go_quiet (fail); try go_wp2)
    go_meet
    case rel => exact ⟨_, (true), (by rfl), H', ⟨by omega⟩, ⟨by exact BK392.out⟩, ⟨by exact BK393.out⟩, ⟨by (with_reducible exact HB.out)⟩⟩
  ·rw [if_neg c6] at H
   have c6b0 : (a0_0.toList == a1_0.toList) = false := beq_eq_false_iff_ne.mpr c6
   have c6b1 : (a0_0.toList != a1_0.toList) = true := bne_iff_ne.mpr c6
   (first | rw [c6b0] | (simp only [i64_w, i32_w]; rw [c6b0]) | skip)
   have H' := Aside0.mk H
   clear H
   have hnb30 := NB392_393.out
   have hnc30 := NB393_392.out
   have hcz31_0 : w5.cell? ⟨gb392, 0, none⟩ = some (.string a0_0) := (blk_cell BK392.out 0).trans rfl
   have hcz31_1 : w5.cell? ⟨gb392, 1, none⟩ = some (.string a0_1) := (blk_cell BK392.out 1).trans rfl
   have hcz31_2 : w5.cell? ⟨gb392, 2, none⟩ = some (.string a0_2) := (blk_cell BK392.out 2).trans rfl
   have hcz31_3 : w5.cell? ⟨gb392, 3, none⟩ = some (.string a0_3) := (blk_cell BK392.out 3).trans rfl
   have hcz31_4 : w5.cell? ⟨gb392, 4, none⟩ = some (.bool a0_4) := (blk_cell BK392.out 4).trans rfl
   have hcz31_5 : w5.cell? ⟨gb392, 5, none⟩ = some (.slice A0_5 l0_5.length c0_5) := (blk_cell BK392.out 5).trans rfl
   have hcz31_6 : w5.cell? ⟨gb392, 6, none⟩ = some (.slice A0_6 l0_6.length c0_6) := (blk_cell BK392.out 6).trans rfl
   have hcz31_7 : w5.cell? ⟨gb392, 7, none⟩ = some (.bool a0_7) := (blk_cell BK392.out 7).trans rfl
   have hcz31_8 : w5.cell? ⟨gb392, 8, none⟩ = some (.bool a0_8) := (blk_cell BK392.out 8).trans rfl
   have hcz31_9 : w5.cell? ⟨gb392, 9, none⟩ = some (.string a0_9) := (blk_cell BK392.out 9).trans rfl
   have hfz31_0 := blk_frozen BK392.out 0
   have hfz31_1 := blk_frozen BK392.out 1
   have hfz31_2 := blk_frozen BK392.out 2
   have hfz31_3 := blk_frozen BK392.out 3
   have hfz31_4 := blk_frozen BK392.out 4
   have hfz31_5 := blk_frozen BK392.out 5
   have hfz31_6 := blk_frozen BK392.out 6
   have hfz31_7 := blk_frozen BK392.out 7
   have hfz31_8 := blk_frozen BK392.out 8
   have hfz31_9 := blk_frozen BK392.out 9
   have hcz32_0 : w5.cell? ⟨gb393, 0, none⟩ = some (.string a1_0) := (blk_cell BK393.out 0).trans rfl
   have hcz32_1 : w5.cell? ⟨gb393, 1, none⟩ = some (.string a1_1) := (blk_cell BK393.out 1).trans rfl
   have hcz32_2 : w5.cell? ⟨gb393, 2, none⟩ = some (.string a1_2) := (blk_cell BK393.out 2).trans rfl
   have hcz32_3 : w5.cell? ⟨gb393, 3, none⟩ = some (.string a1_3) := (blk_cell BK393.out 3).trans rfl
   have hcz32_4 : w5.cell? ⟨gb393, 4, none⟩ = some (.bool a1_4) := (blk_cell BK393.out 4).trans rfl
   have hcz32_5 : w5.cell? ⟨gb393, 5, none⟩ = some (.slice A1_5 l1_5.length c1_5) := (blk_cell BK393.out 5).trans rfl
   have hcz32_6 : w5.cell? ⟨gb393, 6, none⟩ = some (.slice A1_6 l1_6.length c1_6) := (blk_cell BK393.out 6).trans rfl
   have hcz32_7 : w5.cell? ⟨gb393, 7, none⟩ = some (.bool a1_7) := (blk_cell BK393.out 7).trans rfl
   have hcz32_8 : w5.cell? ⟨gb393, 8, none⟩ = some (.bool a1_8) := (blk_cell BK393.out 8).trans rfl
   have hcz32_9 : w5.cell? ⟨gb393, 9, none⟩ = some (.string a1_9) := (blk_cell BK393.out 9).trans rfl
   have hfz32_0 := blk_frozen BK393.out 0
   have hfz32_1 := blk_frozen BK393.out 1
   have hfz32_2 := blk_frozen BK393.out 2
   have hfz32_3 := blk_frozen BK393.out 3
   have hfz32_4 := blk_frozen BK393.out 4
   have hfz32_5 := blk_frozen BK393.out 5
   have hfz32_6 := blk_frozen BK393.out 6
   have hfz32_7 := blk_frozen BK393.out 7
   have hfz32_8 := blk_frozen BK393.out 8
   have hfz32_9 := blk_frozen BK393.out 9
   go_wp2
   repeat (go_quiet (fail); try go_wp2)
   go_meet
   case rel => exact ⟨_, (true), (by rfl), H', ⟨by omega⟩, ⟨by exact BK392.out⟩, ⟨by exact BK393.out⟩, ⟨by (with_reducible exact HB.out)⟩⟩
 case rest =>
  clear HC3
  obtain ⟨kq, x53_2, rfl, HA, HJ2, BK392, BK393, HB⟩ := hcut
  cases kq with
  | zero => exact absurd HA.out (by simp [laws_alpine.j0])
  | succ kj2 =>
   have H := HA.out
   clear HA
   simp only [laws_alpine.j0] at H
   by_cases c33 : x53_2 = true
   ·subst c33
    have H1 : (some false) = some r := by rw [if_pos rfl] at H; exact H
    clear H
    have H := H1
    clear H1
    obtain rfl := Option.some.inj H
    go_wp2
    repeat (go_quiet (fail); try go_wp2)
    go_ret
    exact ⟨by rfl, by (with_reducible exact HB.out)⟩
   ·replace c33 := Bool.eq_false_iff.mpr c33
    subst c33
    have H1 : (if (l0_5.length : Int) = (l1_5.length : Int) then (laws_alpine.j1 kj2 ((l0_6.length : Int) != (l1_6.length : Int)) a0_0 a0_1 a0_2 a0_3 a0_4 l0_5 l0_6 a0_7 a0_8 a0_9 a1_0 a1_1 a1_2 a1_3 a1_4 l1_5 l1_6 a1_7 a1_8 a1_9) else (laws_alpine.j1 kj2 true a0_0 a0_1 a0_2 a0_3 a0_4 l0_5 l0_6 a0_7 a0_8 a0_9 a1_0 a1_1 a1_2 a1_3 a1_4 l1_5 l1_6 a1_7 a1_8 a1_9)) = some r := by rw [if_neg (show ¬ (false = true) by decide)] at H; exact H
    clear H
    have H := H1
    clear H1
    have HC34 := Aside0.mk H
    clear H
    go_upto_region 3 with (fail)
    repeat (go_quiet (fail); go_upto_region 3 with (fail))
    go_cut [69] (fun v69 wc => ∃ (kq : Nat) (x69_33 : Bool), v69 = .bool x69_33 ∧ Aside0 (laws_alpine.j1 kq x69_33 a0_0 a0_1 a0_2 a0_3 a0_4 l0_5 l0_6 a0_7 a0_8 a0_9 a1_0 a1_1 a1_2 a1_3 a1_4 l1_5 l1_6 a1_7 a1_8 a1_9 = some r) ∧ Aside0 (kq ≤ kj2) ∧ Aside0 (wc.heap[gb392]? = some (.cells #[.string a0_0, .string a0_1, .string a0_2, .string a0_3, .bool a0_4, (.slice A0_5 l0_5.length c0_5), (.slice A0_6 l0_6.length c0_6), .bool a0_7, .bool a0_8, .string a0_9] 33 (0, 0))) ∧ Aside0 (wc.heap[gb393]? = some (.cells #[.string a1_0, .string a1_1, .string a1_2, .string a1_3, .bool a1_4, (.slice A1_5 l1_5.length c1_5), (.slice A1_6 l1_6.length c1_6), .bool a1_7, .bool a1_8, .string a1_9] 33 (0, 0))) ∧ Aside0 (Below w.heap.size w wc))
    case first =>
     have H := HC34.out
     clear HC34
     by_cases c35 : (l0_5.length : Int) = (l1_5.length : Int)
     ·rw [if_pos c35] at H
      have c35b0 : ((l0_5.length : Int) == (l1_5.length : Int)) = true := beq_iff_eq.mpr c35
      have c35b1 : ((l0_5.length : Int) != (l1_5.length : Int)) = false := bne_eq_false_iff_eq.mpr c35
      have c35b2 : (l0_5.length == l1_5.length) = true := by (simp at c35 ⊢; omega)
      clear c35
      (first | rw [c35b0] | (simp only [i64_w, i32_w]; rw [c35b0]) | skip)
      have H' := Aside0.mk H
      clear H
      have hnb36 := NB392_393.out
      have hnc36 := NB393_392.out
      have hcz37_0 : wc.cell? ⟨gb392, 0, none⟩ = some (.string a0_0) := (blk_cell BK392.out 0).trans rfl
      have hcz37_1 : wc.cell? ⟨gb392, 1, none⟩ = some (.string a0_1) := (blk_cell BK392.out 1).trans rfl
      have hcz37_2 : wc.cell? ⟨gb392, 2, none⟩ = some (.string a0_2) := (blk_cell BK392.out 2).trans rfl
      have hcz37_3 : wc.cell? ⟨gb392, 3, none⟩ = some (.string a0_3) := (blk_cell BK392.out 3).trans rfl
      have hcz37_4 : wc.cell? ⟨gb392, 4, none⟩ = some (.bool a0_4) := (blk_cell BK392.out 4).trans rfl
      have hcz37_5 : wc.cell? ⟨gb392, 5, none⟩ = some (.slice A0_5 l0_5.length c0_5) := (blk_cell BK392.out 5).trans rfl
      have hcz37_6 : wc.cell? ⟨gb392, 6, none⟩ = some (.slice A0_6 l0_6.length c0_6) := (blk_cell BK392.out 6).trans rfl
      have hcz37_7 : wc.cell? ⟨gb392, 7, none⟩ = some (.bool a0_7) := (blk_cell BK392.out 7).trans rfl
      have hcz37_8 : wc.cell? ⟨gb392, 8, none⟩ = some (.bool a0_8) := (blk_cell BK392.out 8).trans rfl
      have hcz37_9 : wc.cell? ⟨gb392, 9, none⟩ = some (.string a0_9) := (blk_cell BK392.out 9).trans rfl
      have hfz37_0 := blk_frozen BK392.out 0
      have hfz37_1 := blk_frozen BK392.out 1
      have hfz37_2 := blk_frozen BK392.out 2
      have hfz37_3 := blk_frozen BK392.out 3
      have hfz37_4 := blk_frozen BK392.out 4
      have hfz37_5 := blk_frozen BK392.out 5
      have hfz37_6 := blk_frozen BK392.out 6
      have hfz37_7 := blk_frozen BK392.out 7
      have hfz37_8 := blk_frozen BK392.out 8
      have hfz37_9 := blk_frozen BK392.out 9
      have hcz38_0 : wc.cell? ⟨gb393, 0, none⟩ = some (.string a1_0) := (blk_cell BK393.out 0).trans rfl
      have hcz38_1 : wc.cell? ⟨gb393, 1, none⟩ = some (.string a1_1) := (blk_cell BK393.out 1).trans rfl
      have hcz38_2 : wc.cell? ⟨gb393, 2, none⟩ = some (.string a1_2) := (blk_cell BK393.out 2).trans rfl
      have hcz38_3 : wc.cell? ⟨gb393, 3, none⟩ = some (.string a1_3) := (blk_cell BK393.out 3).trans rfl
      have hcz38_4 : wc.cell? ⟨gb393, 4, none⟩ = some (.bool a1_4) := (blk_cell BK393.out 4).trans rfl
      have hcz38_5 : wc.cell? ⟨gb393, 5, none⟩ = some (.slice A1_5 l1_5.length c1_5) := (blk_cell BK393.out 5).trans rfl
      have hcz38_6 : wc.cell? ⟨gb393, 6, none⟩ = some (.slice A1_6 l1_6.length c1_6) := (blk_cell BK393.out 6).trans rfl
      have hcz38_7 : wc.cell? ⟨gb393, 7, none⟩ = some (.bool a1_7) := (blk_cell BK393.out 7).trans rfl
      have hcz38_8 : wc.cell? ⟨gb393, 8, none⟩ = some (.bool a1_8) := (blk_cell BK393.out 8).trans rfl
      have hcz38_9 : wc.cell? ⟨gb393, 9, none⟩ = some (.string a1_9) := (blk_cell BK393.out 9).trans rfl
      have hfz38_0 := blk_frozen BK393.out 0
      have hfz38_1 := blk_frozen BK393.out 1
      have hfz38_2 := blk_frozen BK393.out 2
      have hfz38_3 := blk_frozen BK393.out 3
      have hfz38_4 := blk_frozen BK393.out 4
      have hfz38_5 := blk_frozen BK393.out 5
      have hfz38_6 := blk_frozen BK393.out 6
      have hfz38_7 := blk_frozen BK393.out 7
      have hfz38_8 := blk_frozen BK393.out 8
      have hfz38_9 := blk_frozen BK393.out 9
      go_wp2
      repeat (go_quiet (fail); try go_wp2)
      go_meet
      case rel => exact ⟨_, (((l0_6.length : Int) != (l1_6.length : Int))), (by rfl), H', ⟨by have := HJ2.out; first | omega | exact Nat.le_refl _⟩, ⟨by exact BK392.out⟩, ⟨by exact BK393.out⟩, ⟨by (with_reducible exact HB.out)⟩⟩
     ·rw [if_neg c35] at H
      have c35b0 : ((l0_5.length : Int) == (l1_5.length : Int)) = false := beq_eq_false_iff_ne.mpr c35
      have c35b1 : ((l0_5.length : Int) != (l1_5.length : Int)) = true := bne_iff_ne.mpr c35
      have c35b2 : (l0_5.length == l1_5.length) = false := by (simp at c35 ⊢; omega)
      (first | rw [c35b0] | (simp only [i64_w, i32_w]; rw [c35b0]) | skip)
      have H' := Aside0.mk H
      clear H
      have hnb39 := NB392_393.out
      have hnc39 := NB393_392.out
      have hcz40_0 : wc.cell? ⟨gb392, 0, none⟩ = some (.string a0_0) := (blk_cell BK392.out 0).trans rfl
      have hcz40_1 : wc.cell? ⟨gb392, 1, none⟩ = some (.string a0_1) := (blk_cell BK392.out 1).trans rfl
      have hcz40_2 : wc.cell? ⟨gb392, 2, none⟩ = some (.string a0_2) := (blk_cell BK392.out 2).trans rfl
      have hcz40_3 : wc.cell? ⟨gb392, 3, none⟩ = some (.string a0_3) := (blk_cell BK392.out 3).trans rfl
      have hcz40_4 : wc.cell? ⟨gb392, 4, none⟩ = some (.bool a0_4) := (blk_cell BK392.out 4).trans rfl
      have hcz40_5 : wc.cell? ⟨gb392, 5, none⟩ = some (.slice A0_5 l0_5.length c0_5) := (blk_cell BK392.out 5).trans rfl
      have hcz40_6 : wc.cell? ⟨gb392, 6, none⟩ = some (.slice A0_6 l0_6.length c0_6) := (blk_cell BK392.out 6).trans rfl
      have hcz40_7 : wc.cell? ⟨gb392, 7, none⟩ = some (.bool a0_7) := (blk_cell BK392.out 7).trans rfl
      have hcz40_8 : wc.cell? ⟨gb392, 8, none⟩ = some (.bool a0_8) := (blk_cell BK392.out 8).trans rfl
      have hcz40_9 : wc.cell? ⟨gb392, 9, none⟩ = some (.string a0_9) := (blk_cell BK392.out 9).trans rfl
      have hfz40_0 := blk_frozen BK392.out 0
      have hfz40_1 := blk_frozen BK392.out 1
      have hfz40_2 := blk_frozen BK392.out 2
      have hfz40_3 := blk_frozen BK392.out 3
      have hfz40_4 := blk_frozen BK392.out 4
      have hfz40_5 := blk_frozen BK392.out 5
      have hfz40_6 := blk_frozen BK392.out 6
      have hfz40_7 := blk_frozen BK392.out 7
      have hfz40_8 := blk_frozen BK392.out 8
      have hfz40_9 := blk_frozen BK392.out 9
      have hcz41_0 : wc.cell? ⟨gb393, 0, none⟩ = some (.string a1_0) := (blk_cell BK393.out 0).trans rfl
      have hcz41_1 : wc.cell? ⟨gb393, 1, none⟩ = some (.string a1_1) := (blk_cell BK393.out 1).trans rfl
      have hcz41_2 : wc.cell? ⟨gb393, 2, none⟩ = some (.string a1_2) := (blk_cell BK393.out 2).trans rfl
      have hcz41_3 : wc.cell? ⟨gb393, 3, none⟩ = some (.string a1_3) := (blk_cell BK393.out 3).trans rfl
      have hcz41_4 : wc.cell? ⟨gb393, 4, none⟩ = some (.bool a1_4) := (blk_cell BK393.out 4).trans rfl
      have hcz41_5 : wc.cell? ⟨gb393, 5, none⟩ = some (.slice A1_5 l1_5.length c1_5) := (blk_cell BK393.out 5).trans rfl
      have hcz41_6 : wc.cell? ⟨gb393, 6, none⟩ = some (.slice A1_6 l1_6.length c1_6) := (blk_cell BK393.out 6).trans rfl
      have hcz41_7 : wc.cell? ⟨gb393, 7, none⟩ = some (.bool a1_7) := (blk_cell BK393.out 7).trans rfl
      have hcz41_8 : wc.cell? ⟨gb393, 8, none⟩ = some (.bool a1_8) := (blk_cell BK393.out 8).trans rfl
      have hcz41_9 : wc.cell? ⟨gb393, 9, none⟩ = some (.string a1_9) := (blk_cell BK393.out 9).trans rfl
      have hfz41_0 := blk_frozen BK393.out 0
      have hfz41_1 := blk_frozen BK393.out 1
      have hfz41_2 := blk_frozen BK393.out 2
      have hfz41_3 := blk_frozen BK393.out 3
      have hfz41_4 := blk_frozen BK393.out 4
      have hfz41_5 := blk_frozen BK393.out 5
      have hfz41_6 := blk_frozen BK393.out 6
      have hfz41_7 := blk_frozen BK393.out 7
      have hfz41_8 := blk_frozen BK393.out 8
      have hfz41_9 := blk_frozen BK393.out 9
      go_wp2
      repeat (go_quiet (fail); try go_wp2)
      go_meet
      case rel => exact ⟨_, (true), (by rfl), H', ⟨by have := HJ2.out; first | omega | exact Nat.le_refl _⟩, ⟨by exact BK392.out⟩, ⟨by exact BK393.out⟩, ⟨by (with_reducible exact HB.out)⟩⟩
    case rest =>
     clear HC34
     obtain ⟨kq, x69_33, rfl, HA, HJ33, BK392, BK393, HB⟩ := hcut
     cases kq with
     | zero => exact absurd HA.out (by simp [laws_alpine.j1])
     | succ kj33 =>
      have H := HA.out
      clear HA
      simp only [laws_alpine.j1] at H
      by_cases c42 : x69_33 = true
      ·subst c42
       have H1 : (some false) = some r := by rw [if_pos rfl] at H; exact H
       clear H
       have H := H1
       clear H1
       obtain rfl := Option.some.inj H
       go_wp2
       repeat (go_quiet (fail); try go_wp2)
       go_ret
       exact ⟨by rfl, by (with_reducible exact HB.out)⟩
      ·replace c42 := Bool.eq_false_iff.mpr c42
       subst c42
       have H1 : (laws_alpine.l0 kj33 (l0_5.length : Int) 0 a0_0 a0_1 a0_2 a0_3 a0_4 l0_5 l0_6 a0_7 a0_8 a0_9 a1_0 a1_1 a1_2 a1_3 a1_4 l1_5 l1_6 a1_7 a1_8 a1_9) = some r := by rw [if_neg (show ¬ (false = true) by decide)] at H; exact H
       clear H
       have H := H1
       clear H1
       have H' := Aside0.mk H
       clear H
       have hnb43 := NB392_393.out
       have hnc43 := NB393_392.out
       have hcz44_0 : wc.cell? ⟨gb392, 0, none⟩ = some (.string a0_0) := (blk_cell BK392.out 0).trans rfl
       have hcz44_1 : wc.cell? ⟨gb392, 1, none⟩ = some (.string a0_1) := (blk_cell BK392.out 1).trans rfl
       have hcz44_2 : wc.cell? ⟨gb392, 2, none⟩ = some (.string a0_2) := (blk_cell BK392.out 2).trans rfl
       have hcz44_3 : wc.cell? ⟨gb392, 3, none⟩ = some (.string a0_3) := (blk_cell BK392.out 3).trans rfl
       have hcz44_4 : wc.cell? ⟨gb392, 4, none⟩ = some (.bool a0_4) := (blk_cell BK392.out 4).trans rfl
       have hcz44_5 : wc.cell? ⟨gb392, 5, none⟩ = some (.slice A0_5 l0_5.length c0_5) := (blk_cell BK392.out 5).trans rfl
       have hcz44_6 : wc.cell? ⟨gb392, 6, none⟩ = some (.slice A0_6 l0_6.length c0_6) := (blk_cell BK392.out 6).trans rfl
       have hcz44_7 : wc.cell? ⟨gb392, 7, none⟩ = some (.bool a0_7) := (blk_cell BK392.out 7).trans rfl
       have hcz44_8 : wc.cell? ⟨gb392, 8, none⟩ = some (.bool a0_8) := (blk_cell BK392.out 8).trans rfl
       have hcz44_9 : wc.cell? ⟨gb392, 9, none⟩ = some (.string a0_9) := (blk_cell BK392.out 9).trans rfl
       have hfz44_0 := blk_frozen BK392.out 0
       have hfz44_1 := blk_frozen BK392.out 1
       have hfz44_2 := blk_frozen BK392.out 2
       have hfz44_3 := blk_frozen BK392.out 3
       have hfz44_4 := blk_frozen BK392.out 4
       have hfz44_5 := blk_frozen BK392.out 5
       have hfz44_6 := blk_frozen BK392.out 6
       have hfz44_7 := blk_frozen BK392.out 7
       have hfz44_8 := blk_frozen BK392.out 8
       have hfz44_9 := blk_frozen BK392.out 9
       go_wp2
       repeat (go_quiet (fail); try go_wp2)
       (try simp only [Act.put, List.setIfInBounds_toArray, List.set_cons_zero, List.set_cons_succ])
       go_loopg [73] kj33 (fun kq v73 w' => ∃ (x73_3 : Int), v73 = .int .i64 x73_3 ∧ Aside0 (laws_alpine.l0 kq (l0_5.length : Int) x73_3 a0_0 a0_1 a0_2 a0_3 a0_4 l0_5 l0_6 a0_7 a0_8 a0_9 a1_0 a1_1 a1_2 a1_3 a1_4 l1_5 l1_6 a1_7 a1_8 a1_9 = some r) ∧ Aside0 (kq ≤ kj33) ∧ Aside0 (w'.heap[gb392]? = some (.cells #[.string a0_0, .string a0_1, .string a0_2, .string a0_3, .bool a0_4, (.slice A0_5 l0_5.length c0_5), (.slice A0_6 l0_6.length c0_6), .bool a0_7, .bool a0_8, .string a0_9] 33 (0, 0))) ∧ Aside0 (w'.heap[gb393]? = some (.cells #[.string a1_0, .string a1_1, .string a1_2, .string a1_3, .bool a1_4, (.slice A1_5 l1_5.length c1_5), (.slice A1_6 l1_6.length c1_6), .bool a1_7, .bool a1_8, .string a1_9] 33 (0, 0))) ∧ Aside0 (Below w.heap.size w w'))
       case atStart => exact ⟨(0), (by rfl), H', ⟨Nat.le_refl _⟩, ⟨by exact BK392.out⟩, ⟨by exact BK393.out⟩, ⟨by (with_reducible exact HB.out)⟩⟩
       case round =>
        clear H'
        clear hcz44_0 hcz44_1 hcz44_2 hcz44_3 hcz44_4 hcz44_5 hcz44_6 hcz44_7 hcz44_8 hcz44_9 hfz44_0 hfz44_1 hfz44_2 hfz44_3 hfz44_4 hfz44_5 hfz44_6 hfz44_7 hfz44_8 hfz44_9
        obtain ⟨x73_3, rfl, HA, HK3, BK392, BK393, HB⟩ := hrel
        cases gk with
        | zero => exact absurd HA.out (by simp [laws_alpine.l0])
        | succ k3 =>
         have H := HA.out
         clear HA
         simp only [laws_alpine.l0] at H
         by_cases c45 : x73_3 < (l0_5.length : Int)
         ·rw [if_pos c45] at H
          have c45b0 : decide (x73_3 < (l0_5.length : Int)) = true := decide_eq_true c45
          clear c45
          by_cases c46 : 0 ≤ x73_3
          ·rw [if_pos c46] at H
           have c46b0 : decide (0 ≤ x73_3) = true := decide_eq_true c46
           clear c46
           by_cases c47 : x73_3 < (l0_5.length : Int)
           ·rw [if_pos c47] at H
            have c47b0 : decide (x73_3 < (l0_5.length : Int)) = true := decide_eq_true c47
            clear c47
            by_cases c48 : x73_3 < (l1_5.length : Int)
            ·rw [if_pos c48] at H
             have c48b0 : decide (x73_3 < (l1_5.length : Int)) = true := decide_eq_true c48
             clear c48
             by_cases c49 : (!((((rd_T54 l0_5 x73_3).f0).toList) == (((rd_T54 l1_5 x73_3).f0).toList)) || ((!(((rd_T54 l0_5 x73_3).f1.f0) == ((rd_T54 l1_5 x73_3).f1.f0)) || (!((((rd_T54 l0_5 x73_3).f1.f1).toList) == (((rd_T54 l1_5 x73_3).f1.f1).toList)))) || (!(((rd_T54 l0_5 x73_3).f2) == ((rd_T54 l1_5 x73_3).f2))))) = true
             ·rw [if_pos c49] at H
              have c49b0 : (!((((rd_T54 l0_5 x73_3).f0).toList) == (((rd_T54 l1_5 x73_3).f0).toList)) || ((!(((rd_T54 l0_5 x73_3).f1.f0) == ((rd_T54 l1_5 x73_3).f1.f0)) || (!((((rd_T54 l0_5 x73_3).f1.f1).toList) == (((rd_T54 l1_5 x73_3).f1.f1).toList)))) || (!(((rd_T54 l0_5 x73_3).f2) == ((rd_T54 l1_5 x73_3).f2))))) = true := c49
              clear c49
              obtain rfl := Option.some.inj H
              have hnb50 := NB392_393.out
              have hnc50 := NB393_392.out
              have hcz51_0 : wr.cell? ⟨gb392, 0, none⟩ = some (.string a0_0) := (blk_cell BK392.out 0).trans rfl
              have hcz51_1 : wr.cell? ⟨gb392, 1, none⟩ = some (.string a0_1) := (blk_cell BK392.out 1).trans rfl
              have hcz51_2 : wr.cell? ⟨gb392, 2, none⟩ = some (.string a0_2) := (blk_cell BK392.out 2).trans rfl
              have hcz51_3 : wr.cell? ⟨gb392, 3, none⟩ = some (.string a0_3) := (blk_cell BK392.out 3).trans rfl
              have hcz51_4 : wr.cell? ⟨gb392, 4, none⟩ = some (.bool a0_4) := (blk_cell BK392.out 4).trans rfl
              have hcz51_5 : wr.cell? ⟨gb392, 5, none⟩ = some (.slice A0_5 l0_5.length c0_5) := (blk_cell BK392.out 5).trans rfl
              have hcz51_6 : wr.cell? ⟨gb392, 6, none⟩ = some (.slice A0_6 l0_6.length c0_6) := (blk_cell BK392.out 6).trans rfl
              have hcz51_7 : wr.cell? ⟨gb392, 7, none⟩ = some (.bool a0_7) := (blk_cell BK392.out 7).trans rfl
              have hcz51_8 : wr.cell? ⟨gb392, 8, none⟩ = some (.bool a0_8) := (blk_cell BK392.out 8).trans rfl
              have hcz51_9 : wr.cell? ⟨gb392, 9, none⟩ = some (.string a0_9) := (blk_cell BK392.out 9).trans rfl
              have hfz51_0 := blk_frozen BK392.out 0
              have hfz51_1 := blk_frozen BK392.out 1
              have hfz51_2 := blk_frozen BK392.out 2
              have hfz51_3 := blk_frozen BK392.out 3
              have hfz51_4 := blk_frozen BK392.out 4
              have hfz51_5 := blk_frozen BK392.out 5
              have hfz51_6 := blk_frozen BK392.out 6
              have hfz51_7 := blk_frozen BK392.out 7
              have hfz51_8 := blk_frozen BK392.out 8
              have hfz51_9 := blk_frozen BK392.out 9
              have p394 : 0 ≤ (x73_3 : Int) := of_decide_eq_true (by (with_reducible assumption))
              have q394 : x73_3 < (l0_5.length : Int) := of_decide_eq_true (by (with_reducible assumption))
              obtain ⟨ad394, e394, hx394_0, hx394_1, hx394_2, hx394_3⟩ := at_T54 HR0_5.out x73_3 p394 q394
              cases e394
              replace hx394_0 := (HB.out.cell (World.block_lt_of_cell? w _ hx394_0)).trans hx394_0
              replace hx394_1 := (HB.out.cell (World.block_lt_of_cell? w _ hx394_1)).trans hx394_1
              replace hx394_2 := (HB.out.cell (World.block_lt_of_cell? w _ hx394_2)).trans hx394_2
              replace hx394_3 := (HB.out.cell (World.block_lt_of_cell? w _ hx394_3)).trans hx394_3
              replace p394 := eq_true p394
              replace q394 := eq_true q394
              have hcz52_0 : wr.cell? ⟨gb393, 0, none⟩ = some (.string a1_0) := (blk_cell BK393.out 0).trans rfl
              have hcz52_1 : wr.cell? ⟨gb393, 1, none⟩ = some (.string a1_1) := (blk_cell BK393.out 1).trans rfl
              have hcz52_2 : wr.cell? ⟨gb393, 2, none⟩ = some (.string a1_2) := (blk_cell BK393.out 2).trans rfl
              have hcz52_3 : wr.cell? ⟨gb393, 3, none⟩ = some (.string a1_3) := (blk_cell BK393.out 3).trans rfl
              have hcz52_4 : wr.cell? ⟨gb393, 4, none⟩ = some (.bool a1_4) := (blk_cell BK393.out 4).trans rfl
              have hcz52_5 : wr.cell? ⟨gb393, 5, none⟩ = some (.slice A1_5 l1_5.length c1_5) := (blk_cell BK393.out 5).trans rfl
              have hcz52_6 : wr.cell? ⟨gb393, 6, none⟩ = some (.slice A1_6 l1_6.length c1_6) := (blk_cell BK393.out 6).trans rfl
              have hcz52_7 : wr.cell? ⟨gb393, 7, none⟩ = some (.bool a1_7) := (blk_cell BK393.out 7).trans rfl
              have hcz52_8 : wr.cell? ⟨gb393, 8, none⟩ = some (.bool a1_8) := (blk_cell BK393.out 8).trans rfl
              have hcz52_9 : wr.cell? ⟨gb393, 9, none⟩ = some (.string a1_9) := (blk_cell BK393.out 9).trans rfl
              have hfz52_0 := blk_frozen BK393.out 0
              have hfz52_1 := blk_frozen BK393.out 1
              have hfz52_2 := blk_frozen BK393.out 2
              have hfz52_3 := blk_frozen BK393.out 3
              have hfz52_4 := blk_frozen BK393.out 4
              have hfz52_5 := blk_frozen BK393.out 5
              have hfz52_6 := blk_frozen BK393.out 6
              have hfz52_7 := blk_frozen BK393.out 7
              have hfz52_8 := blk_frozen BK393.out 8
              have hfz52_9 := blk_frozen BK393.out 9
              have p395 : 0 ≤ (x73_3 : Int) := of_decide_eq_true (by (with_reducible assumption))
              have q395 : x73_3 < (l1_5.length : Int) := of_decide_eq_true (by (with_reducible assumption))
              obtain ⟨ad395, e395, hx395_0, hx395_1, hx395_2, hx395_3⟩ := at_T54 HR1_5.out x73_3 p395 q395
              cases e395
              replace hx395_0 := (HB.out.cell (World.block_lt_of_cell? w _ hx395_0)).trans hx395_0
              replace hx395_1 := (HB.out.cell (World.block_lt_of_cell? w _ hx395_1)).trans hx395_1
              replace hx395_2 := (HB.out.cell (World.block_lt_of_cell? w _ hx395_2)).trans hx395_2
              replace hx395_3 := (HB.out.cell (World.block_lt_of_cell? w _ hx395_3)).trans hx395_3
              replace p395 := eq_true p395
              replace q395 := eq_true q395
              go_wp2
              repeat (go_quiet (fail); try go_wp2)
              go_ret
              exact ⟨by rfl, by (with_reducible apply pw_below_drewN; with_reducible exact HB.out)⟩
             ·rw [if_neg c49] at H
              have c49b0 : (!((((rd_T54 l0_5 x73_3).f0).toList) == (((rd_T54 l1_5 x73_3).f0).toList)) || ((!(((rd_T54 l0_5 x73_3).f1.f0) == ((rd_T54 l1_5 x73_3).f1.f0)) || (!((((rd_T54 l0_5 x73_3).f1.f1).toList) == (((rd_T54 l1_5 x73_3).f1.f1).toList)))) || (!(((rd_T54 l0_5 x73_3).f2) == ((rd_T54 l1_5 x73_3).f2))))) = false := by simpa using c49
              clear c49
              have H' := Aside0.mk H
              clear H
              have hnb53 := NB392_393.out
              have hnc53 := NB393_392.out
              have hcz54_0 : wr.cell? ⟨gb392, 0, none⟩ = some (.string a0_0) := (blk_cell BK392.out 0).trans rfl
              have hcz54_1 : wr.cell? ⟨gb392, 1, none⟩ = some (.string a0_1) := (blk_cell BK392.out 1).trans rfl
              have hcz54_2 : wr.cell? ⟨gb392, 2, none⟩ = some (.string a0_2) := (blk_cell BK392.out 2).trans rfl
              have hcz54_3 : wr.cell? ⟨gb392, 3, none⟩ = some (.string a0_3) := (blk_cell BK392.out 3).trans rfl
              have hcz54_4 : wr.cell? ⟨gb392, 4, none⟩ = some (.bool a0_4) := (blk_cell BK392.out 4).trans rfl
              have hcz54_5 : wr.cell? ⟨gb392, 5, none⟩ = some (.slice A0_5 l0_5.length c0_5) := (blk_cell BK392.out 5).trans rfl
              have hcz54_6 : wr.cell? ⟨gb392, 6, none⟩ = some (.slice A0_6 l0_6.length c0_6) := (blk_cell BK392.out 6).trans rfl
              have hcz54_7 : wr.cell? ⟨gb392, 7, none⟩ = some (.bool a0_7) := (blk_cell BK392.out 7).trans rfl
              have hcz54_8 : wr.cell? ⟨gb392, 8, none⟩ = some (.bool a0_8) := (blk_cell BK392.out 8).trans rfl
              have hcz54_9 : wr.cell? ⟨gb392, 9, none⟩ = some (.string a0_9) := (blk_cell BK392.out 9).trans rfl
              have hfz54_0 := blk_frozen BK392.out 0
              have hfz54_1 := blk_frozen BK392.out 1
              have hfz54_2 := blk_frozen BK392.out 2
              have hfz54_3 := blk_frozen BK392.out 3
              have hfz54_4 := blk_frozen BK392.out 4
              have hfz54_5 := blk_frozen BK392.out 5
              have hfz54_6 := blk_frozen BK392.out 6
              have hfz54_7 := blk_frozen BK392.out 7
              have hfz54_8 := blk_frozen BK392.out 8
              have hfz54_9 := blk_frozen BK392.out 9
              have p394 : 0 ≤ (x73_3 : Int) := of_decide_eq_true (by (with_reducible assumption))
              have q394 : x73_3 < (l0_5.length : Int) := of_decide_eq_true (by (with_reducible assumption))
              obtain ⟨ad394, e394, hx394_0, hx394_1, hx394_2, hx394_3⟩ := at_T54 HR0_5.out x73_3 p394 q394
              cases e394
              replace hx394_0 := (HB.out.cell (World.block_lt_of_cell? w _ hx394_0)).trans hx394_0
              replace hx394_1 := (HB.out.cell (World.block_lt_of_cell? w _ hx394_1)).trans hx394_1
              replace hx394_2 := (HB.out.cell (World.block_lt_of_cell? w _ hx394_2)).trans hx394_2
              replace hx394_3 := (HB.out.cell (World.block_lt_of_cell? w _ hx394_3)).trans hx394_3
              replace p394 := eq_true p394
              replace q394 := eq_true q394
              have hcz55_0 : wr.cell? ⟨gb393, 0, none⟩ = some (.string a1_0) := (blk_cell BK393.out 0).trans rfl
              have hcz55_1 : wr.cell? ⟨gb393, 1, none⟩ = some (.string a1_1) := (blk_cell BK393.out 1).trans rfl
              have hcz55_2 : wr.cell? ⟨gb393, 2, none⟩ = some (.string a1_2) := (blk_cell BK393.out 2).trans rfl
              have hcz55_3 : wr.cell? ⟨gb393, 3, none⟩ = some (.string a1_3) := (blk_cell BK393.out 3).trans rfl
              have hcz55_4 : wr.cell? ⟨gb393, 4, none⟩ = some (.bool a1_4) := (blk_cell BK393.out 4).trans rfl
              have hcz55_5 : wr.cell? ⟨gb393, 5, none⟩ = some (.slice A1_5 l1_5.length c1_5) := (blk_cell BK393.out 5).trans rfl
              have hcz55_6 : wr.cell? ⟨gb393, 6, none⟩ = some (.slice A1_6 l1_6.length c1_6) := (blk_cell BK393.out 6).trans rfl
              have hcz55_7 : wr.cell? ⟨gb393, 7, none⟩ = some (.bool a1_7) := (blk_cell BK393.out 7).trans rfl
              have hcz55_8 : wr.cell? ⟨gb393, 8, none⟩ = some (.bool a1_8) := (blk_cell BK393.out 8).trans rfl
              have hcz55_9 : wr.cell? ⟨gb393, 9, none⟩ = some (.string a1_9) := (blk_cell BK393.out 9).trans rfl
              have hfz55_0 := blk_frozen BK393.out 0
              have hfz55_1 := blk_frozen BK393.out 1
              have hfz55_2 := blk_frozen BK393.out 2
              have hfz55_3 := blk_frozen BK393.out 3
              have hfz55_4 := blk_frozen BK393.out 4
              have hfz55_5 := blk_frozen BK393.out 5
              have hfz55_6 := blk_frozen BK393.out 6
              have hfz55_7 := blk_frozen BK393.out 7
              have hfz55_8 := blk_frozen BK393.out 8
              have hfz55_9 := blk_frozen BK393.out 9
              have p395 : 0 ≤ (x73_3 : Int) := of_decide_eq_true (by (with_reducible assumption))
              have q395 : x73_3 < (l1_5.length : Int) := of_decide_eq_true (by (with_reducible assumption))
              obtain ⟨ad395, e395, hx395_0, hx395_1, hx395_2, hx395_3⟩ := at_T54 HR1_5.out x73_3 p395 q395
              cases e395
              replace hx395_0 := (HB.out.cell (World.block_lt_of_cell? w _ hx395_0)).trans hx395_0
              replace hx395_1 := (HB.out.cell (World.block_lt_of_cell? w _ hx395_1)).trans hx395_1
              replace hx395_2 := (HB.out.cell (World.block_lt_of_cell? w _ hx395_2)).trans hx395_2
              replace hx395_3 := (HB.out.cell (World.block_lt_of_cell? w _ hx395_3)).trans hx395_3
              replace p395 := eq_true p395
              replace q395 := eq_true q395
              go_wp2
              repeat (go_quiet (fail); try go_wp2)
              go_roundg k3
              case measure => have := HJ2.out; have := HJ33.out; have := HK3.out; omega
              case rel => exact ⟨(wrap64 (x73_3 + 1)), (by rfl), H', ⟨by have := HJ2.out; have := HJ33.out; have := HK3.out; omega⟩, ⟨by (with_reducible (refine blk_drewN ?_ _)); exact BK392.out⟩, ⟨by (with_reducible (refine blk_drewN ?_ _)); exact BK393.out⟩, ⟨by (with_reducible apply pw_below_drewN; with_reducible exact HB.out)⟩⟩
            ·rw [if_neg c48] at H
             exact absurd H (by simp)
           ·rw [if_neg c47] at H
            exact absurd H (by simp)
          ·rw [if_neg c46] at H
           exact absurd H (by simp)
         ·rw [if_neg c45] at H
          have c45b0 : decide (x73_3 < (l0_5.length : Int)) = false := decide_eq_false c45
          clear c45
          have H' := Aside0.mk H
          clear H
          have hnb56 := NB392_393.out
          have hnc56 := NB393_392.out
          have hcz57_0 : wr.cell? ⟨gb392, 0, none⟩ = some (.string a0_0) := (blk_cell BK392.out 0).trans rfl
          have hcz57_1 : wr.cell? ⟨gb392, 1, none⟩ = some (.string a0_1) := (blk_cell BK392.out 1).trans rfl
          have hcz57_2 : wr.cell? ⟨gb392, 2, none⟩ = some (.string a0_2) := (blk_cell BK392.out 2).trans rfl
          have hcz57_3 : wr.cell? ⟨gb392, 3, none⟩ = some (.string a0_3) := (blk_cell BK392.out 3).trans rfl
          have hcz57_4 : wr.cell? ⟨gb392, 4, none⟩ = some (.bool a0_4) := (blk_cell BK392.out 4).trans rfl
          have hcz57_5 : wr.cell? ⟨gb392, 5, none⟩ = some (.slice A0_5 l0_5.length c0_5) := (blk_cell BK392.out 5).trans rfl
          have hcz57_6 : wr.cell? ⟨gb392, 6, none⟩ = some (.slice A0_6 l0_6.length c0_6) := (blk_cell BK392.out 6).trans rfl
          have hcz57_7 : wr.cell? ⟨gb392, 7, none⟩ = some (.bool a0_7) := (blk_cell BK392.out 7).trans rfl
          have hcz57_8 : wr.cell? ⟨gb392, 8, none⟩ = some (.bool a0_8) := (blk_cell BK392.out 8).trans rfl
          have hcz57_9 : wr.cell? ⟨gb392, 9, none⟩ = some (.string a0_9) := (blk_cell BK392.out 9).trans rfl
          have hfz57_0 := blk_frozen BK392.out 0
          have hfz57_1 := blk_frozen BK392.out 1
          have hfz57_2 := blk_frozen BK392.out 2
          have hfz57_3 := blk_frozen BK392.out 3
          have hfz57_4 := blk_frozen BK392.out 4
          have hfz57_5 := blk_frozen BK392.out 5
          have hfz57_6 := blk_frozen BK392.out 6
          have hfz57_7 := blk_frozen BK392.out 7
          have hfz57_8 := blk_frozen BK392.out 8
          have hfz57_9 := blk_frozen BK392.out 9
          go_wp2
          repeat (go_quiet (fail); try go_wp2)
          (try simp only [Act.put, List.setIfInBounds_toArray, List.set_cons_zero, List.set_cons_succ])
          go_loopg [91] k3 (fun kq v91 w' => ∃ (x91_4 : Int), v91 = .int .i64 x91_4 ∧ Aside0 (laws_alpine.l1 kq (l0_6.length : Int) x91_4 a0_0 a0_1 a0_2 a0_3 a0_4 l0_5 l0_6 a0_7 a0_8 a0_9 a1_0 a1_1 a1_2 a1_3 a1_4 l1_5 l1_6 a1_7 a1_8 a1_9 = some r) ∧ Aside0 (kq ≤ k3) ∧ Aside0 (w'.heap[gb392]? = some (.cells #[.string a0_0, .string a0_1, .string a0_2, .string a0_3, .bool a0_4, (.slice A0_5 l0_5.length c0_5), (.slice A0_6 l0_6.length c0_6), .bool a0_7, .bool a0_8, .string a0_9] 33 (0, 0))) ∧ Aside0 (w'.heap[gb393]? = some (.cells #[.string a1_0, .string a1_1, .string a1_2, .string a1_3, .bool a1_4, (.slice A1_5 l1_5.length c1_5), (.slice A1_6 l1_6.length c1_6), .bool a1_7, .bool a1_8, .string a1_9] 33 (0, 0))) ∧ Aside0 (Below w.heap.size w w'))
          case atStart => exact ⟨(0), (by rfl), H', ⟨Nat.le_refl _⟩, ⟨by exact BK392.out⟩, ⟨by exact BK393.out⟩, ⟨by (with_reducible exact HB.out)⟩⟩
          case round =>
           clear H'
           clear c45b0 hcz57_0 hcz57_1 hcz57_2 hcz57_3 hcz57_4 hcz57_5 hcz57_6 hcz57_7 hcz57_8 hcz57_9 hfz57_0 hfz57_1 hfz57_2 hfz57_3 hfz57_4 hfz57_5 hfz57_6 hfz57_7 hfz57_8 hfz57_9
           obtain ⟨x91_4, rfl, HA, HK4, BK392, BK393, HB⟩ := hrel
           cases gk with
           | zero => exact absurd HA.out (by simp [laws_alpine.l1])
           | succ k4 =>
            have H := HA.out
            clear HA
            simp only [laws_alpine.l1] at H
            by_cases c58 : x91_4 < (l0_6.length : Int)
            ·rw [if_pos c58] at H
             have c58b0 : decide (x91_4 < (l0_6.length : Int)) = true := decide_eq_true c58
             clear c58
             by_cases c59 : 0 ≤ x91_4
             ·rw [if_pos c59] at H
              have c59b0 : decide (0 ≤ x91_4) = true := decide_eq_true c59
              clear c59
              by_cases c60 : x91_4 < (l0_6.length : Int)
              ·rw [if_pos c60] at H
               have c60b0 : decide (x91_4 < (l0_6.length : Int)) = true := decide_eq_true c60
               clear c60
               by_cases c61 : x91_4 < (l1_6.length : Int)
               ·rw [if_pos c61] at H
                have c61b0 : decide (x91_4 < (l1_6.length : Int)) = true := decide_eq_true c61
                clear c61
                by_cases c62 : (!(((rd_T58 l0_6 x91_4).f0) == ((rd_T58 l1_6 x91_4).f0)) || ((!(((rd_T58 l0_6 x91_4).f1.f0) == ((rd_T58 l1_6 x91_4).f1.f0)) || (!((((rd_T58 l0_6 x91_4).f1.f1).toList) == (((rd_T58 l1_6 x91_4).f1.f1).toList)))))) = true
                ·rw [if_pos c62] at H
                 have c62b0 : (!(((rd_T58 l0_6 x91_4).f0) == ((rd_T58 l1_6 x91_4).f0)) || ((!(((rd_T58 l0_6 x91_4).f1.f0) == ((rd_T58 l1_6 x91_4).f1.f0)) || (!((((rd_T58 l0_6 x91_4).f1.f1).toList) == (((rd_T58 l1_6 x91_4).f1.f1).toList)))))) = true := c62
                 clear c62
                 obtain rfl := Option.some.inj H
                 have hnb63 := NB392_393.out
                 have hnc63 := NB393_392.out
                 have hcz64_0 : wr.cell? ⟨gb392, 0, none⟩ = some (.string a0_0) := (blk_cell BK392.out 0).trans rfl
                 have hcz64_1 : wr.cell? ⟨gb392, 1, none⟩ = some (.string a0_1) := (blk_cell BK392.out 1).trans rfl
                 have hcz64_2 : wr.cell? ⟨gb392, 2, none⟩ = some (.string a0_2) := (blk_cell BK392.out 2).trans rfl
                 have hcz64_3 : wr.cell? ⟨gb392, 3, none⟩ = some (.string a0_3) := (blk_cell BK392.out 3).trans rfl
                 have hcz64_4 : wr.cell? ⟨gb392, 4, none⟩ = some (.bool a0_4) := (blk_cell BK392.out 4).trans rfl
                 have hcz64_5 : wr.cell? ⟨gb392, 5, none⟩ = some (.slice A0_5 l0_5.length c0_5) := (blk_cell BK392.out 5).trans rfl
                 have hcz64_6 : wr.cell? ⟨gb392, 6, none⟩ = some (.slice A0_6 l0_6.length c0_6) := (blk_cell BK392.out 6).trans rfl
                 have hcz64_7 : wr.cell? ⟨gb392, 7, none⟩ = some (.bool a0_7) := (blk_cell BK392.out 7).trans rfl
                 have hcz64_8 : wr.cell? ⟨gb392, 8, none⟩ = some (.bool a0_8) := (blk_cell BK392.out 8).trans rfl
                 have hcz64_9 : wr.cell? ⟨gb392, 9, none⟩ = some (.string a0_9) := (blk_cell BK392.out 9).trans rfl
                 have hfz64_0 := blk_frozen BK392.out 0
                 have hfz64_1 := blk_frozen BK392.out 1
                 have hfz64_2 := blk_frozen BK392.out 2
                 have hfz64_3 := blk_frozen BK392.out 3
                 have hfz64_4 := blk_frozen BK392.out 4
                 have hfz64_5 := blk_frozen BK392.out 5
                 have hfz64_6 := blk_frozen BK392.out 6
                 have hfz64_7 := blk_frozen BK392.out 7
                 have hfz64_8 := blk_frozen BK392.out 8
                 have hfz64_9 := blk_frozen BK392.out 9
                 have p396 : 0 ≤ (x91_4 : Int) := of_decide_eq_true (by (with_reducible assumption))
                 have q396 : x91_4 < (l0_6.length : Int) := of_decide_eq_true (by (with_reducible assumption))
                 obtain ⟨ad396, e396, hx396_0, hx396_1, hx396_2⟩ := at_T58 HR0_6.out x91_4 p396 q396
                 cases e396
                 replace hx396_0 := (HB.out.cell (World.block_lt_of_cell? w _ hx396_0)).trans hx396_0
                 replace hx396_1 := (HB.out.cell (World.block_lt_of_cell? w _ hx396_1)).trans hx396_1
                 replace hx396_2 := (HB.out.cell (World.block_lt_of_cell? w _ hx396_2)).trans hx396_2
                 replace p396 := eq_true p396
                 replace q396 := eq_true q396
                 have hcz65_0 : wr.cell? ⟨gb393, 0, none⟩ = some (.string a1_0) := (blk_cell BK393.out 0).trans rfl
                 have hcz65_1 : wr.cell? ⟨gb393, 1, none⟩ = some (.string a1_1) := (blk_cell BK393.out 1).trans rfl
                 have hcz65_2 : wr.cell? ⟨gb393, 2, none⟩ = some (.string a1_2) := (blk_cell BK393.out 2).trans rfl
                 have hcz65_3 : wr.cell? ⟨gb393, 3, none⟩ = some (.string a1_3) := (blk_cell BK393.out 3).trans rfl
                 have hcz65_4 : wr.cell? ⟨gb393, 4, none⟩ = some (.bool a1_4) := (blk_cell BK393.out 4).trans rfl
                 have hcz65_5 : wr.cell? ⟨gb393, 5, none⟩ = some (.slice A1_5 l1_5.length c1_5) := (blk_cell BK393.out 5).trans rfl
                 have hcz65_6 : wr.cell? ⟨gb393, 6, none⟩ = some (.slice A1_6 l1_6.length c1_6) := (blk_cell BK393.out 6).trans rfl
                 have hcz65_7 : wr.cell? ⟨gb393, 7, none⟩ = some (.bool a1_7) := (blk_cell BK393.out 7).trans rfl
                 have hcz65_8 : wr.cell? ⟨gb393, 8, none⟩ = some (.bool a1_8) := (blk_cell BK393.out 8).trans rfl
                 have hcz65_9 : wr.cell? ⟨gb393, 9, none⟩ = some (.string a1_9) := (blk_cell BK393.out 9).trans rfl
                 have hfz65_0 := blk_frozen BK393.out 0
                 have hfz65_1 := blk_frozen BK393.out 1
                 have hfz65_2 := blk_frozen BK393.out 2
                 have hfz65_3 := blk_frozen BK393.out 3
                 have hfz65_4 := blk_frozen BK393.out 4
                 have hfz65_5 := blk_frozen BK393.out 5
                 have hfz65_6 := blk_frozen BK393.out 6
                 have hfz65_7 := blk_frozen BK393.out 7
                 have hfz65_8 := blk_frozen BK393.out 8
                 have hfz65_9 := blk_frozen BK393.out 9
                 have p397 : 0 ≤ (x91_4 : Int) := of_decide_eq_true (by (with_reducible assumption))
                 have q397 : x91_4 < (l1_6.length : Int) := of_decide_eq_true (by (with_reducible assumption))
                 obtain ⟨ad397, e397, hx397_0, hx397_1, hx397_2⟩ := at_T58 HR1_6.out x91_4 p397 q397
                 cases e397
                 replace hx397_0 := (HB.out.cell (World.block_lt_of_cell? w _ hx397_0)).trans hx397_0
                 replace hx397_1 := (HB.out.cell (World.block_lt_of_cell? w _ hx397_1)).trans hx397_1
                 replace hx397_2 := (HB.out.cell (World.block_lt_of_cell? w _ hx397_2)).trans hx397_2
                 replace p397 := eq_true p397
                 replace q397 := eq_true q397
                 go_wp2
                 repeat (go_quiet (fail); try go_wp2)
                 go_ret
                 exact ⟨by rfl, by (with_reducible apply pw_below_drewN; with_reducible exact HB.out)⟩
                ·rw [if_neg c62] at H
                 have c62b0 : (!(((rd_T58 l0_6 x91_4).f0) == ((rd_T58 l1_6 x91_4).f0)) || ((!(((rd_T58 l0_6 x91_4).f1.f0) == ((rd_T58 l1_6 x91_4).f1.f0)) || (!((((rd_T58 l0_6 x91_4).f1.f1).toList) == (((rd_T58 l1_6 x91_4).f1.f1).toList)))))) = false := by simpa using c62
                 clear c62
                 have H' := Aside0.mk H
                 clear H
                 have hnb66 := NB392_393.out
                 have hnc66 := NB393_392.out
                 have hcz67_0 : wr.cell? ⟨gb392, 0, none⟩ = some (.string a0_0) := (blk_cell BK392.out 0).trans rfl
                 have hcz67_1 : wr.cell? ⟨gb392, 1, none⟩ = some (.string a0_1) := (blk_cell BK392.out 1).trans rfl
                 have hcz67_2 : wr.cell? ⟨gb392, 2, none⟩ = some (.string a0_2) := (blk_cell BK392.out 2).trans rfl
                 have hcz67_3 : wr.cell? ⟨gb392, 3, none⟩ = some (.string a0_3) := (blk_cell BK392.out 3).trans rfl
                 have hcz67_4 : wr.cell? ⟨gb392, 4, none⟩ = some (.bool a0_4) := (blk_cell BK392.out 4).trans rfl
                 have hcz67_5 : wr.cell? ⟨gb392, 5, none⟩ = some (.slice A0_5 l0_5.length c0_5) := (blk_cell BK392.out 5).trans rfl
                 have hcz67_6 : wr.cell? ⟨gb392, 6, none⟩ = some (.slice A0_6 l0_6.length c0_6) := (blk_cell BK392.out 6).trans rfl
                 have hcz67_7 : wr.cell? ⟨gb392, 7, none⟩ = some (.bool a0_7) := (blk_cell BK392.out 7).trans rfl
                 have hcz67_8 : wr.cell? ⟨gb392, 8, none⟩ = some (.bool a0_8) := (blk_cell BK392.out 8).trans rfl
                 have hcz67_9 : wr.cell? ⟨gb392, 9, none⟩ = some (.string a0_9) := (blk_cell BK392.out 9).trans rfl
                 have hfz67_0 := blk_frozen BK392.out 0
                 have hfz67_1 := blk_frozen BK392.out 1
                 have hfz67_2 := blk_frozen BK392.out 2
                 have hfz67_3 := blk_frozen BK392.out 3
                 have hfz67_4 := blk_frozen BK392.out 4
                 have hfz67_5 := blk_frozen BK392.out 5
                 have hfz67_6 := blk_frozen BK392.out 6
                 have hfz67_7 := blk_frozen BK392.out 7
                 have hfz67_8 := blk_frozen BK392.out 8
                 have hfz67_9 := blk_frozen BK392.out 9
                 have p396 : 0 ≤ (x91_4 : Int) := of_decide_eq_true (by (with_reducible assumption))
                 have q396 : x91_4 < (l0_6.length : Int) := of_decide_eq_true (by (with_reducible assumption))
                 obtain ⟨ad396, e396, hx396_0, hx396_1, hx396_2⟩ := at_T58 HR0_6.out x91_4 p396 q396
                 cases e396
                 replace hx396_0 := (HB.out.cell (World.block_lt_of_cell? w _ hx396_0)).trans hx396_0
                 replace hx396_1 := (HB.out.cell (World.block_lt_of_cell? w _ hx396_1)).trans hx396_1
                 replace hx396_2 := (HB.out.cell (World.block_lt_of_cell? w _ hx396_2)).trans hx396_2
                 replace p396 := eq_true p396
                 replace q396 := eq_true q396
                 have hcz68_0 : wr.cell? ⟨gb393, 0, none⟩ = some (.string a1_0) := (blk_cell BK393.out 0).trans rfl
                 have hcz68_1 : wr.cell? ⟨gb393, 1, none⟩ = some (.string a1_1) := (blk_cell BK393.out 1).trans rfl
                 have hcz68_2 : wr.cell? ⟨gb393, 2, none⟩ = some (.string a1_2) := (blk_cell BK393.out 2).trans rfl
                 have hcz68_3 : wr.cell? ⟨gb393, 3, none⟩ = some (.string a1_3) := (blk_cell BK393.out 3).trans rfl
                 have hcz68_4 : wr.cell? ⟨gb393, 4, none⟩ = some (.bool a1_4) := (blk_cell BK393.out 4).trans rfl
                 have hcz68_5 : wr.cell? ⟨gb393, 5, none⟩ = some (.slice A1_5 l1_5.length c1_5) := (blk_cell BK393.out 5).trans rfl
                 have hcz68_6 : wr.cell? ⟨gb393, 6, none⟩ = some (.slice A1_6 l1_6.length c1_6) := (blk_cell BK393.out 6).trans rfl
                 have hcz68_7 : wr.cell? ⟨gb393, 7, none⟩ = some (.bool a1_7) := (blk_cell BK393.out 7).trans rfl
                 have hcz68_8 : wr.cell? ⟨gb393, 8, none⟩ = some (.bool a1_8) := (blk_cell BK393.out 8).trans rfl
                 have hcz68_9 : wr.cell? ⟨gb393, 9, none⟩ = some (.string a1_9) := (blk_cell BK393.out 9).trans rfl
                 have hfz68_0 := blk_frozen BK393.out 0
                 have hfz68_1 := blk_frozen BK393.out 1
                 have hfz68_2 := blk_frozen BK393.out 2
                 have hfz68_3 := blk_frozen BK393.out 3
                 have hfz68_4 := blk_frozen BK393.out 4
                 have hfz68_5 := blk_frozen BK393.out 5
                 have hfz68_6 := blk_frozen BK393.out 6
                 have hfz68_7 := blk_frozen BK393.out 7
                 have hfz68_8 := blk_frozen BK393.out 8
                 have hfz68_9 := blk_frozen BK393.out 9
                 have p397 : 0 ≤ (x91_4 : Int) := of_decide_eq_true (by (with_reducible assumption))
                 have q397 : x91_4 < (l1_6.length : Int) := of_decide_eq_true (by (with_reducible assumption))
                 obtain ⟨ad397, e397, hx397_0, hx397_1, hx397_2⟩ := at_T58 HR1_6.out x91_4 p397 q397
                 cases e397
                 replace hx397_0 := (HB.out.cell (World.block_lt_of_cell? w _ hx397_0)).trans hx397_0
                 replace hx397_1 := (HB.out.cell (World.block_lt_of_cell? w _ hx397_1)).trans hx397_1
                 replace hx397_2 := (HB.out.cell (World.block_lt_of_cell? w _ hx397_2)).trans hx397_2
                 replace p397 := eq_true p397
                 replace q397 := eq_true q397
                 go_wp2
                 repeat (go_quiet (fail); try go_wp2)
                 go_roundg k4
                 case measure => have := HJ2.out; have := HJ33.out; have := HK3.out; have := HK4.out; omega
                 case rel => exact ⟨(wrap64 (x91_4 + 1)), (by rfl), H', ⟨by have := HJ2.out; have := HJ33.out; have := HK3.out; have := HK4.out; omega⟩, ⟨by (with_reducible (refine blk_drewN ?_ _)); exact BK392.out⟩, ⟨by (with_reducible (refine blk_drewN ?_ _)); exact BK393.out⟩, ⟨by (with_reducible apply pw_below_drewN; with_reducible exact HB.out)⟩⟩
               ·rw [if_neg c61] at H
                exact absurd H (by simp)
              ·rw [if_neg c60] at H
               exact absurd H (by simp)
             ·rw [if_neg c59] at H
              exact absurd H (by simp)
            ·rw [if_neg c58] at H
             have c58b0 : decide (x91_4 < (l0_6.length : Int)) = false := decide_eq_false c58
             clear c58
             obtain rfl := Option.some.inj H
             go_wp2
             repeat (go_quiet (fail); try go_wp2)
             go_ret
             exact ⟨by rfl, by (with_reducible exact HB.out)⟩
end Go.Proofs.YtapaijpglfmfgaaDoor.Q
end
