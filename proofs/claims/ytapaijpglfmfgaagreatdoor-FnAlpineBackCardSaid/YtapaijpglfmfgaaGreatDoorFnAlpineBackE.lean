/- Proved here, for the row of the law FnAlpineBack: contracts of the Go functions that it reaches, each as its theorem 'calls' says, and the words and plain laws that they need (Qx17, Qx18, Qx19, Qx1, Qx2, Qx3, Qx20, Qx21, BA, BB, BC, BD, BE). -/
import Derived.Test.YtapaijpglfmfgaaGreatDoorFnAlpineBackD
section -- Qx17
namespace Go.Proofs.YtapaijpglfmfgaaGreatDoor.Q
open Go.RowKit Go.Proofs.YtapaijpglfmfgaaGreatDoorH Go.Proofs.YtapaijpglfmfgaaGreatDoorG Go.Proofs.YtapaijpglfmfgaaGreatDoorW.PrintWords Go.Proofs.YtapaijpglfmfgaaGreatDoorW.PrintLast Go.Proofs.YtapaijpglfmfgaaGreatDoorW.PrintMore Go.Proofs.YtapaijpglfmfgaaGreatDoorC
attribute [local go_sem] max2_int min2_int max_two min_two max_three min_three max_four min_four
set_option linter.unusedVariables false
set_option linter.unusedSimpArgs false
mutual
def laws_intText.j0 : Nat → Bool → Bool → ByteArray → Option (ByteArray × Bool)
 | 0, _, _, _ => none
 | k + 1, x14, x339000, x339001 => if x14 = true then (some ((⟨#[]⟩ : ByteArray), false)) else (laws_intText.l0 k 0 0 x339000 x339001)
def laws_intText.l0 : Nat → Int → Int → Bool → ByteArray → Option (ByteArray × Bool)
 | 0, _, _, _, _ => none
 | k + 1, x4, x5, x339000, x339001 => if x5 < (x339001.size : Int) then (if 0 ≤ x5 then (laws_intText.l0 k (Go.bits .or .u64 (IntKind.u64.wrap (x4 * 256)) (IntKind.u64.wrap (bt x339001 x5))) (wrap64 (x5 + 1)) x339000 x339001) else (none)) else (laws_intText.l1 k x4 (⟨#[]⟩ : ByteArray))
def laws_intText.l1 : Nat → Int → ByteArray → Option (ByteArray × Bool)
 | 0, _, _ => none
 | k + 1, x4, x6 => (some (([(IntKind.u64.wrap (48 + (Int.tmod x4 10))) % 256] : List Int) : List Int)).bind fun y339 => (if (strOfNums y339).size + x6.size ≤ 9223372036854775807 then (if (IntKind.u64.wrap (Int.tdiv x4 10)) = 0 then (some ((strOfNums y339) ++ x6, true)) else (laws_intText.l1 k (IntKind.u64.wrap (Int.tdiv x4 10)) ((strOfNums y339) ++ x6))) else (none))
end
def laws_intText.f (k : Nat) (a0_0 : Bool) (a0_1 : ByteArray) : Option (ByteArray × Bool) := if a0_0 = true then (laws_intText.j0 k true a0_0 a0_1) else (laws_intText.j0 k (decide ((a0_1.size : Int) > 8)) a0_0 a0_1)
set_option maxHeartbeats 8000000 in
set_option maxRecDepth 100000 in
theorem laws_intText.calls (k : Nat) (a0_0 : Bool) (a0_1 : ByteArray) (r1 : ByteArray) (r2 : Bool) (w : World) (h : laws_intText.f k a0_0 a0_1 = some (r1, r2)) :
  Calls Tryz.prog 42 #[.agg #[.bool a0_0, .string a0_1]] w fun e w' => e = .returned (.tuple #[.string r1, .bool r2]) ∧ Below w.heap.size w w' := by
 have hu31 := Tryz.underlying31
 have HB := Aside0.mk (Below.refl w.heap.size w)
 have H : (if a0_0 = true then (laws_intText.j0 k true a0_0 a0_1) else (laws_intText.j0 k (decide ((a0_1.size : Int) > 8)) a0_0 a0_1)) = some (r1, r2) := h
 clear h
 have HC2 := Aside0.mk H
 clear H
 go_enter Tryz.func42, Tryz.ntmps42
 go_upto_region 1 with (((with_reducible refine gate_dst (N := 1) rfl ?_); (try (refine gate_guard (by rfl) ?_; dsimp only)); refine box_event ?hg (N := 1) ?hd (cs := #[.bool a0_0, .string a0_1]) (t := 31) ?hr ?_; (case hd => rfl); (case hg => rfl); (case hr => first | (go_simp; done) | (go_simp; rfl)); intro gb338 hg w3 hbox hb; have BK338 := Aside0.mk hbox; have GW338 := Aside0.mk ((by rw [hg]; exact (below_size (by (with_reducible exact HB.out))) : w.heap.size ≤ gb338)); have GE338 := Aside0.mk ((by rw [hg]; exact (below_size (by (with_reducible exact HB.out))) : w.heap.size ≤ gb338)); replace HB := Aside0.mk (below_step (by (with_reducible exact HB.out)) hb); clear hb hbox hg))
 (try simp only [Act.put, List.setIfInBounds_toArray, List.set_cons_zero, List.set_cons_succ])
 go_cut [14] (fun v14 wc => ∃ (kq : Nat) (x14_1 : Bool), v14 = .bool x14_1 ∧ Aside0 (laws_intText.j0 kq x14_1 a0_0 a0_1 = some (r1, r2)) ∧ Aside0 (kq ≤ k) ∧ Aside0 (wc.heap[gb338]? = some (.cells #[.bool a0_0, .string a0_1] 31 (0, 0))) ∧ Aside0 (Below w.heap.size w wc))
 case first =>
  have H := HC2.out
  clear HC2
  by_cases c4 : a0_0 = true
  ·subst c4
   have H1 : (laws_intText.j0 k true true a0_1) = some (r1, r2) := by rw [if_pos rfl] at H; exact H
   clear H
   have H := H1
   clear H1
   have H' := Aside0.mk H
   clear H
   obtain ⟨hcz5_0, hcz5_1, _⟩ := cl2 BK338.out
   go_wp2
   go_meet
   case rel => exact ⟨_, (true), (by rfl), H', ⟨by omega⟩, ⟨by exact BK338.out⟩, ⟨by (with_reducible exact HB.out)⟩⟩
  ·replace c4 := Bool.eq_false_iff.mpr c4
   subst c4
   have H1 : (laws_intText.j0 k (decide ((a0_1.size : Int) > 8)) false a0_1) = some (r1, r2) := by rw [if_neg (show ¬ (false = true) by decide)] at H; exact H
   clear H
   have H := H1
   clear H1
   have H' := Aside0.mk H
   clear H
   obtain ⟨hcz6_0, hcz6_1, _⟩ := cl2 BK338.out
   go_wp2
   go_meet
   case rel => exact ⟨_, (decide ((a0_1.size : Int) > 8)), (by rfl), H', ⟨by omega⟩, ⟨by exact BK338.out⟩, ⟨by (with_reducible exact HB.out)⟩⟩
 case rest =>
  clear HC2
  obtain ⟨kq, x14_1, rfl, HA, HJ1, BK338, HB⟩ := hcut
  cases kq with
  | zero => exact absurd HA.out (by simp [laws_intText.j0])
  | succ kj1 =>
   have H := HA.out
   clear HA
   simp only [laws_intText.j0] at H
   by_cases c7 : x14_1 = true
   ·subst c7
    have H1 : (some ((⟨#[]⟩ : ByteArray), false)) = some (r1, r2) := by rw [if_pos rfl] at H; exact H
    clear H
    have H := H1
    clear H1
    simp only [Option.some.injEq, Prod.mk.injEq] at H
    obtain ⟨rfl, rfl⟩ := H
    go_wp2
    go_ret2
    exact ⟨by rfl, by (with_reducible exact HB.out)⟩
   ·replace c7 := Bool.eq_false_iff.mpr c7
    subst c7
    have H1 : (laws_intText.l0 kj1 0 0 a0_0 a0_1) = some (r1, r2) := by rw [if_neg (show ¬ (false = true) by decide)] at H; exact H
    clear H
    have H := H1
    clear H1
    have H' := Aside0.mk H
    clear H
    go_wp2
    (try simp only [Act.put, List.setIfInBounds_toArray, List.set_cons_zero, List.set_cons_succ])
    go_loopg [4, 5] kj1 (fun kq v4 v5 w' => ∃ (x4_2 : Int) (x5_2 : Int), v4 = .int .u64 x4_2 ∧ v5 = .int .i64 x5_2 ∧ Aside0 (laws_intText.l0 kq x4_2 x5_2 a0_0 a0_1 = some (r1, r2)) ∧ Aside0 (kq ≤ kj1) ∧ Aside0 (w'.heap[gb338]? = some (.cells #[.bool a0_0, .string a0_1] 31 (0, 0))) ∧ Aside0 (Below w.heap.size w w'))
    case atStart => exact ⟨(0), (0), (by rfl), (by rfl), H', ⟨Nat.le_refl _⟩, ⟨by exact BK338.out⟩, ⟨by (with_reducible exact HB.out)⟩⟩
    case round =>
     clear H'
     obtain ⟨x4_2, x5_2, rfl, rfl, HA, HK2, BK338, HB⟩ := hrel
     cases gk with
     | zero => exact absurd HA.out (by simp [laws_intText.l0])
     | succ k2 =>
      have H := HA.out
      clear HA
      simp only [laws_intText.l0] at H
      by_cases c8 : x5_2 < (a0_1.size : Int)
      ·rw [if_pos c8] at H
       have c8b0 : decide (x5_2 < (a0_1.size : Int)) = true := decide_eq_true c8
       clear c8
       by_cases c9 : 0 ≤ x5_2
       ·rw [if_pos c9] at H
        have c9b0 : decide (0 ≤ x5_2) = true := decide_eq_true c9
        clear c9
        have H' := Aside0.mk H
        clear H
        obtain ⟨hcz11_0, hcz11_1, _⟩ := cl2 BK338.out
        have p10 : 0 ≤ (x5_2 : Int) := of_decide_eq_true (by (with_reducible assumption))
        have q10 : x5_2 < (a0_1.size : Int) := of_decide_eq_true (by (with_reducible assumption))
        have hx10 := bt_at a0_1 x5_2
        replace p10 := eq_true p10
        replace q10 := eq_true q10
        go_wp2
        go_roundg k2
        case measure => have := HJ1.out; have := HK2.out; omega
        case rel => exact ⟨(Go.bits .or .u64 (IntKind.u64.wrap (x4_2 * 256)) (IntKind.u64.wrap (bt a0_1 x5_2))), (wrap64 (x5_2 + 1)), (by rfl), (by rfl), H', ⟨by have := HJ1.out; have := HK2.out; omega⟩, ⟨by exact BK338.out⟩, ⟨by (with_reducible exact HB.out)⟩⟩
       ·rw [if_neg c9] at H
        exact absurd H (by simp)
      ·rw [if_neg c8] at H
       have c8b0 : decide (x5_2 < (a0_1.size : Int)) = false := decide_eq_false c8
       clear c8
       have H' := Aside0.mk H
       clear H
       obtain ⟨hcz12_0, hcz12_1, _⟩ := cl2 BK338.out
       go_wp2
       (try simp only [Act.put, List.setIfInBounds_toArray, List.set_cons_zero, List.set_cons_succ])
       go_loopg [4, 6] k2 (fun kq v4 v6 w' => ∃ (x4_3 : Int) (x6_3 : ByteArray), v4 = .int .u64 x4_3 ∧ v6 = .string x6_3 ∧ Aside0 (laws_intText.l1 kq x4_3 x6_3 = some (r1, r2)) ∧ Aside0 (kq ≤ k2) ∧ Aside0 (w'.heap[gb338]? = some (.cells #[.bool a0_0, .string a0_1] 31 (0, 0))) ∧ Aside0 (Below w.heap.size w w'))
       case atStart => exact ⟨(x4_2), ((⟨#[]⟩ : ByteArray)), (by rfl), (by rfl), H', ⟨Nat.le_refl _⟩, ⟨by exact BK338.out⟩, ⟨by (with_reducible exact HB.out)⟩⟩
       case round =>
        clear H'
        clear c8b0 hcz12_0 hcz12_1
        obtain ⟨x4_3, x6_3, rfl, rfl, HA, HK3, BK338, HB⟩ := hrel
        cases gk with
        | zero => exact absurd HA.out (by simp [laws_intText.l1])
        | succ k3 =>
         have H := HA.out
         clear HA
         simp only [laws_intText.l1] at H
         obtain ⟨y339, hy339⟩ : ∃ y_ : List Int, y_ = (([(IntKind.u64.wrap (48 + (Int.tmod x4_3 10))) % 256] : List Int)) := ⟨_, rfl⟩
         replace H : (if (strOfNums y339).size + x6_3.size ≤ 9223372036854775807 then (if (IntKind.u64.wrap (Int.tdiv x4_3 10)) = 0 then (some ((strOfNums y339) ++ x6_3, true)) else (laws_intText.l1 k3 (IntKind.u64.wrap (Int.tdiv x4_3 10)) ((strOfNums y339) ++ x6_3))) else (none)) = some (r1, r2) := by (have H2_ := (Option.bind_some _ _).symm.trans H; rw [hy339]; with_reducible exact H2_)
         have Ny339 := Aside0.mk hy339
         clear hy339
         by_cases c13 : (strOfNums y339).size + x6_3.size ≤ 9223372036854775807
         ·rw [if_pos c13] at H
          have c13b0 := eq_true c13
          have c13b1 : decide ((strOfNums y339).size + x6_3.size ≤ 9223372036854775807) = true := decide_eq_true c13
          try have c13b2 : (9223372036854775807 < (strOfNums y339).size + x6_3.size) = False := eq_false (Nat.not_lt.2 c13)
          by_cases c14 : (IntKind.u64.wrap (Int.tdiv x4_3 10)) = 0
          ·rw [if_pos c14] at H
           have c14b0 : ((IntKind.u64.wrap (Int.tdiv x4_3 10)) == 0) = true := beq_iff_eq.mpr c14
           have c14b1 : ((IntKind.u64.wrap (Int.tdiv x4_3 10)) != 0) = false := bne_eq_false_iff_eq.mpr c14
           clear c14
           simp only [Option.some.injEq, Prod.mk.injEq] at H
           obtain ⟨rfl, rfl⟩ := H
           go_wp2_with (((with_reducible refine gate_dst (N := 34) rfl ?_); (try (refine gate_guard (by rfl) ?_; dsimp only)); refine Kd.R_lit (Kd.int .u8) _ 5 ?hg (N := 34) ?hd (xs := ([(IntKind.u64.wrap (48 + (Int.tmod x4_3 10))) % 256] : List Int)) (inner := [.int .u8 ((IntKind.u64.wrap (48 + (Int.tmod x4_3 10))) % 256)]) (ok := fun _ => True) (okp := fun _ => True) ?hr ?hp (fun _ hk => hk) trivial (Below.refl _ _) (Nat.le_refl _) (by simp) ?_; (case hd => rfl); (case hg => rfl); (case hr => first | (go_simp; done) | (go_simp; rfl)); (case hp => exact (Reps.one (show Kd.M (Kd.int .u8) _ _ _ ((IntKind.u64.wrap (48 + (Int.tmod x4_3 10))) % 256) [.int .u8 ((IntKind.u64.wrap (48 + (Int.tmod x4_3 10))) % 256)] from rfl) (Reps.none _ _))); intro v340 w15 ho16 hb hg_ hnew_; clear hg_ hnew_; (first | rw [← Ny339.out] at ho16 | (simp only [Int.reduceToNat] at ho16; rw [← Ny339.out] at ho16)); have HO341 := Aside0.mk (Kd.R_lower ho16 (below_size (by (with_reducible exact HB.out)))); replace BK338 := Aside0.mk (blk_below (g := gb338) (o := .cells #[.bool a0_0, .string a0_1] 31 (0, 0)) (by exact BK338.out) hb); replace HB := Aside0.mk (below_step (by (with_reducible exact HB.out)) hb); clear hb ho16; have hcv17 := own_string (P := Tryz.prog) Tryz.underlying23 Tryz.underlying5 Tryz.underlying9 (Kd.own_of_R HO341.out)))
           go_ret2
           exact ⟨by rfl, by (with_reducible exact HB.out)⟩
          ·rw [if_neg c14] at H
           have c14b0 : ((IntKind.u64.wrap (Int.tdiv x4_3 10)) == 0) = false := beq_eq_false_iff_ne.mpr c14
           have c14b1 : ((IntKind.u64.wrap (Int.tdiv x4_3 10)) != 0) = true := bne_iff_ne.mpr c14
           have H' := Aside0.mk H
           clear H
           go_wp2_with (((with_reducible refine gate_dst (N := 34) rfl ?_); (try (refine gate_guard (by rfl) ?_; dsimp only)); refine Kd.R_lit (Kd.int .u8) _ 5 ?hg (N := 34) ?hd (xs := ([(IntKind.u64.wrap (48 + (Int.tmod x4_3 10))) % 256] : List Int)) (inner := [.int .u8 ((IntKind.u64.wrap (48 + (Int.tmod x4_3 10))) % 256)]) (ok := fun _ => True) (okp := fun _ => True) ?hr ?hp (fun _ hk => hk) trivial (Below.refl _ _) (Nat.le_refl _) (by simp) ?_; (case hd => rfl); (case hg => rfl); (case hr => first | (go_simp; done) | (go_simp; rfl)); (case hp => exact (Reps.one (show Kd.M (Kd.int .u8) _ _ _ ((IntKind.u64.wrap (48 + (Int.tmod x4_3 10))) % 256) [.int .u8 ((IntKind.u64.wrap (48 + (Int.tmod x4_3 10))) % 256)] from rfl) (Reps.none _ _))); intro v340 w18 ho19 hb hg_ hnew_; clear hg_ hnew_; (first | rw [← Ny339.out] at ho19 | (simp only [Int.reduceToNat] at ho19; rw [← Ny339.out] at ho19)); have HO341 := Aside0.mk (Kd.R_lower ho19 (below_size (by (with_reducible exact HB.out)))); replace BK338 := Aside0.mk (blk_below (g := gb338) (o := .cells #[.bool a0_0, .string a0_1] 31 (0, 0)) (by exact BK338.out) hb); replace HB := Aside0.mk (below_step (by (with_reducible exact HB.out)) hb); clear hb ho19; have hcv20 := own_string (P := Tryz.prog) Tryz.underlying23 Tryz.underlying5 Tryz.underlying9 (Kd.own_of_R HO341.out)))
           go_roundg k3
           case measure => have := HJ1.out; have := HK2.out; have := HK3.out; omega
           case rel => exact ⟨(IntKind.u64.wrap (Int.tdiv x4_3 10)), ((strOfNums y339) ++ x6_3), (by rfl), (by rfl), H', ⟨by have := HJ1.out; have := HK2.out; have := HK3.out; omega⟩, ⟨by exact BK338.out⟩, ⟨by (with_reducible exact HB.out)⟩⟩
         ·rw [if_neg c13] at H
          exact absurd H (by simp)
end Go.Proofs.YtapaijpglfmfgaaGreatDoor.Q
end
section -- Qx18
namespace Go.Proofs.YtapaijpglfmfgaaGreatDoor.Q
open Go.RowKit Go.Proofs.YtapaijpglfmfgaaGreatDoorH Go.Proofs.YtapaijpglfmfgaaGreatDoorG Go.Proofs.YtapaijpglfmfgaaGreatDoorW.PrintWords Go.Proofs.YtapaijpglfmfgaaGreatDoorW.PrintLast Go.Proofs.YtapaijpglfmfgaaGreatDoorW.PrintMore Go.Proofs.YtapaijpglfmfgaaGreatDoorC
attribute [local go_sem] max2_int min2_int max_two min_two max_three min_three max_four min_four
set_option linter.unusedVariables false
set_option linter.unusedSimpArgs false
mutual
def laws_alpineText.l0 : Nat → ByteArray → List (S52) → Int → Int → ByteArray → ByteArray → ByteArray → ByteArray → Bool → List (S52) → List (S56) → Bool → Bool → ByteArray → Option (ByteArray × Bool)
 | 0, _, _, _, _, _, _, _, _, _, _, _, _, _, _ => none
 | k + 1, x4, x18, x19, x20, x343000, x343001, x343002, x343003, x343004, x343005, x343006, x343007, x343008, x343009 => if x20 < x19 then (if 0 ≤ x20 then (if x20 < (x18.length : Int) then (if x20 > 0 then (if x4.size + 1 ≤ 9223372036854775807 then (if (x4 ++ (⟨#[46]⟩ : ByteArray)).size + ((rd_T52 x18 x20).f0).size ≤ 9223372036854775807 then (laws_alpineText.l0 k ((x4 ++ (⟨#[46]⟩ : ByteArray)) ++ ((rd_T52 x18 x20).f0)) x18 x19 (wrap64 (x20 + 1)) x343000 x343001 x343002 x343003 x343004 x343005 x343006 x343007 x343008 x343009) else (none)) else (none)) else (if x4.size + ((rd_T52 x18 x20).f0).size ≤ 9223372036854775807 then (laws_alpineText.l0 k (x4 ++ ((rd_T52 x18 x20).f0)) x18 x19 (wrap64 (x20 + 1)) x343000 x343001 x343002 x343003 x343004 x343005 x343006 x343007 x343008 x343009) else (none))) else (none)) else (none)) else (if x4.size + x343002.size ≤ 9223372036854775807 then (laws_alpineText.l1 k (x4 ++ x343002) true x343006 (x343006.length : Int) 0 x343000 x343001 x343002 x343003 x343004 x343005 x343006 x343007 x343008 x343009) else (none))
def laws_alpineText.l1 : Nat → ByteArray → Bool → List (S56) → Int → Int → ByteArray → ByteArray → ByteArray → ByteArray → Bool → List (S52) → List (S56) → Bool → Bool → ByteArray → Option (ByteArray × Bool)
 | 0, _, _, _, _, _, _, _, _, _, _, _, _, _, _, _ => none
 | k + 1, x4, x7, x39, x40, x41, x343000, x343001, x343002, x343003, x343004, x343005, x343006, x343007, x343008, x343009 => if x41 < x40 then (if 0 ≤ x41 then (if x41 < (x39.length : Int) then ((laws_weights.f).bind fun t349 => (laws_alpineText.l2 k x4 x7 (-1) x39 x40 x41 t349 (t349.length : Int) 0 x343000 x343001 x343002 x343003 x343004 x343005 x343006 x343007 x343008 x343009 ((rd_T56 x39 x41).f0) ((rd_T56 x39 x41).f1.f0) ((rd_T56 x39 x41).f1.f1))) else (none)) else (none)) else (if x4.size + x343003.size ≤ 9223372036854775807 then ((laws_intText.f k x343008 x343009).bind fun bt345 => (if bt345.1.toList = ([48] : List UInt8) then (if x7 = true then (some (x4 ++ x343003, decide ((x343005.length : Int) > 0))) else (some (x4 ++ x343003, false))) else (if 2 + bt345.1.size ≤ 9223372036854775807 then (if (x4 ++ x343003).size + ((⟨#[45, 114]⟩ : ByteArray) ++ bt345.1).size ≤ 9223372036854775807 then (if bt345.2 = true then (some ((x4 ++ x343003) ++ ((⟨#[45, 114]⟩ : ByteArray) ++ bt345.1), decide ((x343005.length : Int) > 0))) else (some ((x4 ++ x343003) ++ ((⟨#[45, 114]⟩ : ByteArray) ++ bt345.1), false))) else (none)) else (none)))) else (none))
def laws_alpineText.l2 : Nat → ByteArray → Bool → Int → List (S56) → Int → Int → List Int → Int → Int → ByteArray → ByteArray → ByteArray → ByteArray → Bool → List (S52) → List (S56) → Bool → Bool → ByteArray → Int → Bool → ByteArray → Option (ByteArray × Bool)
 | 0, _, _, _, _, _, _, _, _, _, _, _, _, _, _, _, _, _, _, _, _, _, _ => none
 | k + 1, x4, x7, x10, x39, x40, x41, x45, x46, x47, x343000, x343001, x343002, x343003, x343004, x343005, x343006, x343007, x343008, x343009, x349000, x349001, x349002 => if x47 < x46 then (if 0 ≤ x47 then (if x47 < (x45.length : Int) then (if (rd x45 x47) = x349000 then (laws_alpineText.l2 k x4 x7 x47 x39 x40 x41 x45 x46 (wrap64 (x47 + 1)) x343000 x343001 x343002 x343003 x343004 x343005 x343006 x343007 x343008 x343009 x349000 x349001 x349002) else (laws_alpineText.l2 k x4 x7 x10 x39 x40 x41 x45 x46 (wrap64 (x47 + 1)) x343000 x343001 x343002 x343003 x343004 x343005 x343006 x343007 x343008 x343009 x349000 x349001 x349002)) else (none)) else (none)) else ((laws_intText.f k x349001 x349002).bind fun bt353 => (if x10 < 0 then (laws_alpineText.j3 k x4 x7 x10 bt353.1 x39 x40 x41 true x343000 x343001 x343002 x343003 x343004 x343005 x343006 x343007 x343008 x343009) else (laws_alpineText.j3 k x4 x7 x10 bt353.1 x39 x40 x41 (!bt353.2) x343000 x343001 x343002 x343003 x343004 x343005 x343006 x343007 x343008 x343009)))
def laws_alpineText.j3 : Nat → ByteArray → Bool → Int → ByteArray → List (S56) → Int → Int → Bool → ByteArray → ByteArray → ByteArray → ByteArray → Bool → List (S52) → List (S56) → Bool → Bool → ByteArray → Option (ByteArray × Bool)
 | 0, _, _, _, _, _, _, _, _, _, _, _, _, _, _, _, _, _, _ => none
 | k + 1, x4, x7, x10, x13, x39, x40, x41, x69, x343000, x343001, x343002, x343003, x343004, x343005, x343006, x343007, x343008, x343009 => if x69 = true then (some ((⟨#[]⟩ : ByteArray), false)) else ((laws_suffixes.f).bind fun t355 => (if 0 ≤ x10 then (if x10 < (t355.length : Int) then (if 1 + (rdOf ByteArray.empty t355 x10).size ≤ 9223372036854775807 then (if x4.size + ((⟨#[95]⟩ : ByteArray) ++ (rdOf ByteArray.empty t355 x10)).size ≤ 9223372036854775807 then (if x13.toList = ([48] : List UInt8) then (laws_alpineText.l1 k (x4 ++ ((⟨#[95]⟩ : ByteArray) ++ (rdOf ByteArray.empty t355 x10))) x7 x39 x40 (wrap64 (x41 + 1)) x343000 x343001 x343002 x343003 x343004 x343005 x343006 x343007 x343008 x343009) else (if (x4 ++ ((⟨#[95]⟩ : ByteArray) ++ (rdOf ByteArray.empty t355 x10))).size + x13.size ≤ 9223372036854775807 then (laws_alpineText.l1 k ((x4 ++ ((⟨#[95]⟩ : ByteArray) ++ (rdOf ByteArray.empty t355 x10))) ++ x13) x7 x39 x40 (wrap64 (x41 + 1)) x343000 x343001 x343002 x343003 x343004 x343005 x343006 x343007 x343008 x343009) else (none))) else (none)) else (none)) else (none)) else (none)))
end
def laws_alpineText.f (k : Nat) (a0_0 : ByteArray) (a0_1 : ByteArray) (a0_2 : ByteArray) (a0_3 : ByteArray) (a0_4 : Bool) (l0_5 : List (S52)) (l0_6 : List (S56)) (a0_7 : Bool) (a0_8 : Bool) (a0_9 : ByteArray) : Option (ByteArray × Bool) := laws_alpineText.l0 k (⟨#[]⟩ : ByteArray) l0_5 (l0_5.length : Int) 0 a0_0 a0_1 a0_2 a0_3 a0_4 l0_5 l0_6 a0_7 a0_8 a0_9
set_option maxHeartbeats 8000000 in
set_option maxRecDepth 100000 in
theorem laws_alpineText.calls (k : Nat) (a0_0 : ByteArray) (a0_1 : ByteArray) (a0_2 : ByteArray) (a0_3 : ByteArray) (a0_4 : Bool) (A0_5 : Option Addr) (c0_5 : Nat) (l0_5 : List (S52)) (A0_6 : Option Addr) (c0_6 : Nat) (l0_6 : List (S56)) (a0_7 : Bool) (a0_8 : Bool) (a0_9 : ByteArray) (r1 : ByteArray) (r2 : Bool) (w : World) (hr0_5 : Kd.C k52 w A0_5 l0_5.length l0_5) (hc0_5 : l0_5.length ≤ c0_5) (hr0_6 : Kd.C k56 w A0_6 l0_6.length l0_6) (hc0_6 : l0_6.length ≤ c0_6) (h : laws_alpineText.f k a0_0 a0_1 a0_2 a0_3 a0_4 l0_5 l0_6 a0_7 a0_8 a0_9 = some (r1, r2)) :
  Calls Tryz.prog 16 #[.agg #[.string a0_0, .string a0_1, .string a0_2, .string a0_3, .bool a0_4, .slice A0_5 l0_5.length c0_5, .slice A0_6 l0_6.length c0_6, .bool a0_7, .bool a0_8, .string a0_9]] w fun e w' => e = .returned (.tuple #[.string r1, .bool r2]) ∧ Below w.heap.size w w' := by
 have hu33 := Tryz.underlying33
 have hu52 := Tryz.underlying52
 have hu56 := Tryz.underlying56
 have hu31 := Tryz.underlying31
 have HR0_5 := Aside0.mk hr0_5
 have HC0_5 := Aside0.mk hc0_5
 clear hr0_5 hc0_5
 have HR0_6 := Aside0.mk hr0_6
 have HC0_6 := Aside0.mk hc0_6
 clear hr0_6 hc0_6
 have HB := Aside0.mk (Below.refl w.heap.size w)
 have H : (laws_alpineText.l0 k (⟨#[]⟩ : ByteArray) l0_5 (l0_5.length : Int) 0 a0_0 a0_1 a0_2 a0_3 a0_4 l0_5 l0_6 a0_7 a0_8 a0_9) = some (r1, r2) := h
 clear h
 have H' := Aside0.mk H
 clear H
 go_enter Tryz.func16, Tryz.ntmps16
 go_wp2_with (((with_reducible refine gate_dst (N := 1) rfl ?_); (try (refine gate_guard (by rfl) ?_; dsimp only)); refine box_event ?hg (N := 1) ?hd (cs := #[.string a0_0, .string a0_1, .string a0_2, .string a0_3, .bool a0_4, .slice A0_5 l0_5.length c0_5, .slice A0_6 l0_6.length c0_6, .bool a0_7, .bool a0_8, .string a0_9]) (t := 33) ?hr ?_; (case hd => rfl); (case hg => rfl); (case hr => first | (go_simp; done) | (go_simp; rfl)); intro gb342 hg w2 hbox hb; have BK342 := Aside0.mk hbox; have GW342 := Aside0.mk ((by rw [hg]; exact (below_size (by (with_reducible exact HB.out))) : w.heap.size ≤ gb342)); have GE342 := Aside0.mk ((by rw [hg]; exact (below_size (by (with_reducible exact HB.out))) : w.heap.size ≤ gb342)); replace HB := Aside0.mk (below_step (by (with_reducible exact HB.out)) hb); clear hb hbox hg; obtain ⟨hcz3_0, hcz3_1, hcz3_2, hcz3_3, hcz3_4, hcz3_5, hcz3_6, hcz3_7, hcz3_8, hcz3_9, hfz3_0, hfz3_1, hfz3_2, hfz3_3, hfz3_4, hfz3_5, hfz3_6, hfz3_7, hfz3_8, hfz3_9⟩ := cl10 BK342.out))
 repeat (go_quiet (fail); try go_wp2_with (fail))
 (try simp only [Act.put, List.setIfInBounds_toArray, List.set_cons_zero, List.set_cons_succ])
 go_loopg [4, 20] k (fun kq v4 v20 w' => ∃ (x4_1 : ByteArray) (x20_1 : Int), v4 = .string x4_1 ∧ v20 = .int .i64 x20_1 ∧ Aside0 (laws_alpineText.l0 kq x4_1 l0_5 (l0_5.length : Int) x20_1 a0_0 a0_1 a0_2 a0_3 a0_4 l0_5 l0_6 a0_7 a0_8 a0_9 = some (r1, r2)) ∧ Aside0 (kq ≤ k) ∧ Aside0 (w'.heap[gb342]? = some (.cells #[.string a0_0, .string a0_1, .string a0_2, .string a0_3, .bool a0_4, (.slice A0_5 l0_5.length c0_5), (.slice A0_6 l0_6.length c0_6), .bool a0_7, .bool a0_8, .string a0_9] 33 (0, 0))) ∧ Aside0 (Below w.heap.size w w'))
 case atStart => exact ⟨((⟨#[]⟩ : ByteArray)), (0), (by rfl), (by rfl), H', ⟨Nat.le_refl _⟩, ⟨by exact BK342.out⟩, ⟨by (with_reducible exact HB.out)⟩⟩
 case round =>
  clear H'
  clear hcz3_0 hcz3_1 hcz3_2 hcz3_3 hcz3_4 hcz3_5 hcz3_6 hcz3_7 hcz3_8 hcz3_9 hfz3_0 hfz3_1 hfz3_2 hfz3_3 hfz3_4 hfz3_5 hfz3_6 hfz3_7 hfz3_8 hfz3_9
  obtain ⟨x4_1, x20_1, rfl, rfl, HA, HK1, BK342, HB⟩ := hrel
  cases gk with
  | zero => exact absurd HA.out (by simp [laws_alpineText.l0])
  | succ k1 =>
   have H := HA.out
   clear HA
   simp only [laws_alpineText.l0] at H
   by_cases c4 : x20_1 < (l0_5.length : Int)
   ·rw [if_pos c4] at H
    have c4b0 : decide (x20_1 < (l0_5.length : Int)) = true := decide_eq_true c4
    clear c4
    by_cases c5 : 0 ≤ x20_1
    ·rw [if_pos c5] at H
     have c5b0 : decide (0 ≤ x20_1) = true := decide_eq_true c5
     clear c5
     by_cases c6 : x20_1 < (l0_5.length : Int)
     ·rw [if_pos c6] at H
      have c6b0 : decide (x20_1 < (l0_5.length : Int)) = true := decide_eq_true c6
      clear c6
      by_cases c7 : x20_1 > 0
      ·rw [if_pos c7] at H
       have c7b0 : decide (0 < x20_1) = true := decide_eq_true c7
       clear c7
       by_cases c8 : x4_1.size + 1 ≤ 9223372036854775807
       ·rw [if_pos c8] at H
        have c8b0 := eq_true c8
        have c8b1 : decide (x4_1.size + 1 ≤ 9223372036854775807) = true := decide_eq_true c8
        try have c8b2 : (9223372036854775807 < x4_1.size + 1) = False := eq_false (Nat.not_lt.2 c8)
        by_cases c9 : (x4_1 ++ (⟨#[46]⟩ : ByteArray)).size + ((rd_T52 l0_5 x20_1).f0).size ≤ 9223372036854775807
        ·rw [if_pos c9] at H
         have c9b0 := eq_true c9
         have c9b1 : decide ((x4_1 ++ (⟨#[46]⟩ : ByteArray)).size + ((rd_T52 l0_5 x20_1).f0).size ≤ 9223372036854775807) = true := decide_eq_true c9
         try have c9b2 : (9223372036854775807 < (x4_1 ++ (⟨#[46]⟩ : ByteArray)).size + ((rd_T52 l0_5 x20_1).f0).size) = False := eq_false (Nat.not_lt.2 c9)
         try have c9b3 : (9223372036854775807 < x4_1.size + 1 + ((rd_T52 l0_5 x20_1).f0).size) = False := eq_false (by have h_ := c9; simp only [ByteArray.size_append] at h_; have e0_ : (⟨#[46]⟩ : ByteArray).size = 1 := rfl; omega)
         try have c9b4 : (x4_1.size + 1 + ((rd_T52 l0_5 x20_1).f0).size ≤ 9223372036854775807) = True := eq_true (by have h_ := c9; simp only [ByteArray.size_append] at h_; have e0_ : (⟨#[46]⟩ : ByteArray).size = 1 := rfl; omega)
         have H' := Aside0.mk H
         clear H
         have p343 : 0 ≤ (x20_1 : Int) := of_decide_eq_true (by (with_reducible assumption))
         have q343 : x20_1 < (l0_5.length : Int) := of_decide_eq_true (by (with_reducible assumption))
         obtain ⟨ad343, e343, hx343_0, hx343_1, hx343_2, hx343_3⟩ := at_T52 HR0_5.out x20_1 p343 q343
         cases e343
         replace hx343_0 := (HB.out.cell (World.block_lt_of_cell? w _ hx343_0)).trans hx343_0
         replace hx343_1 := (HB.out.cell (World.block_lt_of_cell? w _ hx343_1)).trans hx343_1
         replace hx343_2 := (HB.out.cell (World.block_lt_of_cell? w _ hx343_2)).trans hx343_2
         replace hx343_3 := (HB.out.cell (World.block_lt_of_cell? w _ hx343_3)).trans hx343_3
         replace p343 := eq_true p343
         replace q343 := eq_true q343
         go_wp2_with (((with_reducible refine gate_dst (N := 6) rfl ?_); (try (refine gate_guard (by rfl) ?_; dsimp only)); refine box_event ?hg (N := 6) ?hd (cs := #[.string ⟨#[]⟩, .bool false, .string ⟨#[]⟩, .int .i64 0]) (t := 52) ?hr ?_; (case hd => rfl); (case hg => rfl); (case hr => first | (go_simp; done) | (go_simp; rfl)); intro gb344 hg w10 hbox hb; have n0_ := Aside0.mk (blk_below (g := gb342) (o := .cells #[.string a0_0, .string a0_1, .string a0_2, .string a0_3, .bool a0_4, .slice (some ad343) l0_5.length c0_5, .slice A0_6 l0_6.length c0_6, .bool a0_7, .bool a0_8, .string a0_9] 33 (0, 0)) (by exact BK342.out) hb); have n1_ := Aside0.mk (below_step (by (with_reducible exact HB.out)) hb); have n2_ := Aside0.mk hbox; have n3_ := Aside0.mk ((by rw [hg]; exact (below_size (by (with_reducible exact HB.out))) : w.heap.size ≤ gb344)); have n4_ := Aside0.mk ((by rw [hg]; exact (below_size (by (with_reducible exact HB.out))) : w.heap.size ≤ gb344)); have n5_ := Aside0.mk ((by rw [hg]; exact Nat.ne_of_lt (blk_lt (g := gb342) (o := .cells #[.string a0_0, .string a0_1, .string a0_2, .string a0_3, .bool a0_4, .slice (some ad343) l0_5.length c0_5, .slice A0_6 l0_6.length c0_6, .bool a0_7, .bool a0_8, .string a0_9] 33 (0, 0)) (by exact BK342.out)) : gb342 ≠ gb344)); have n6_ := Aside0.mk ((by rw [hg]; exact Nat.ne_of_gt (blk_lt (g := gb342) (o := .cells #[.string a0_0, .string a0_1, .string a0_2, .string a0_3, .bool a0_4, .slice (some ad343) l0_5.length c0_5, .slice A0_6 l0_6.length c0_6, .bool a0_7, .bool a0_8, .string a0_9] 33 (0, 0)) (by exact BK342.out)) : gb344 ≠ gb342)); clear BK342; clear HB; have BK342 := n0_; have HB := n1_; have BK344 := n2_; have GW344 := n3_; have GE344 := n4_; have NB342_344 := n5_; have NB344_342 := n6_; clear n0_ n1_ n2_ n3_ n4_ n5_ n6_; clear hb hbox hg; have hnb11 := NB344_342.out; have hnc11 := NB342_344.out; obtain ⟨hcz12_0, hcz12_1, hcz12_2, hcz12_3, _⟩ := cl4 BK344.out))
         repeat (go_quiet (fail); try go_wp2_with (fail))
         go_roundg k1
         case measure => have := HK1.out; omega
         case rel => exact ⟨((x4_1 ++ (⟨#[46]⟩ : ByteArray)) ++ ((rd_T52 l0_5 x20_1).f0)), (wrap64 (x20_1 + 1)), (by rfl), (by rfl), H', ⟨by have := HK1.out; omega⟩, ⟨by refine blk_far ?_ NB342_344.out _; refine blk_far ?_ NB342_344.out _; refine blk_far ?_ NB342_344.out _; refine blk_far ?_ NB342_344.out _; exact BK342.out⟩, ⟨by repeat (first | (with_reducible first | exact HB.out | apply below_alloc | apply pw_below_drewN | apply below_drew1 | refine below_set ?_ GE342.out | refine below_set ?_ GE344.out) | exact HB.out)⟩⟩
        ·rw [if_neg c9] at H
         exact absurd H (by simp)
       ·rw [if_neg c8] at H
        exact absurd H (by simp)
      ·rw [if_neg c7] at H
       have c7b0 : decide (0 < x20_1) = false := decide_eq_false c7
       clear c7
       by_cases c13 : x4_1.size + ((rd_T52 l0_5 x20_1).f0).size ≤ 9223372036854775807
       ·rw [if_pos c13] at H
        have c13b0 := eq_true c13
        have c13b1 : decide (x4_1.size + ((rd_T52 l0_5 x20_1).f0).size ≤ 9223372036854775807) = true := decide_eq_true c13
        try have c13b2 : (9223372036854775807 < x4_1.size + ((rd_T52 l0_5 x20_1).f0).size) = False := eq_false (Nat.not_lt.2 c13)
        have H' := Aside0.mk H
        clear H
        have p343 : 0 ≤ (x20_1 : Int) := of_decide_eq_true (by (with_reducible assumption))
        have q343 : x20_1 < (l0_5.length : Int) := of_decide_eq_true (by (with_reducible assumption))
        obtain ⟨ad343, e343, hx343_0, hx343_1, hx343_2, hx343_3⟩ := at_T52 HR0_5.out x20_1 p343 q343
        cases e343
        replace hx343_0 := (HB.out.cell (World.block_lt_of_cell? w _ hx343_0)).trans hx343_0
        replace hx343_1 := (HB.out.cell (World.block_lt_of_cell? w _ hx343_1)).trans hx343_1
        replace hx343_2 := (HB.out.cell (World.block_lt_of_cell? w _ hx343_2)).trans hx343_2
        replace hx343_3 := (HB.out.cell (World.block_lt_of_cell? w _ hx343_3)).trans hx343_3
        replace p343 := eq_true p343
        replace q343 := eq_true q343
        go_wp2_with (((with_reducible refine gate_dst (N := 6) rfl ?_); (try (refine gate_guard (by rfl) ?_; dsimp only)); refine box_event ?hg (N := 6) ?hd (cs := #[.string ⟨#[]⟩, .bool false, .string ⟨#[]⟩, .int .i64 0]) (t := 52) ?hr ?_; (case hd => rfl); (case hg => rfl); (case hr => first | (go_simp; done) | (go_simp; rfl)); intro gb344 hg w14 hbox hb; have n0_ := Aside0.mk (blk_below (g := gb342) (o := .cells #[.string a0_0, .string a0_1, .string a0_2, .string a0_3, .bool a0_4, .slice (some ad343) l0_5.length c0_5, .slice A0_6 l0_6.length c0_6, .bool a0_7, .bool a0_8, .string a0_9] 33 (0, 0)) (by exact BK342.out) hb); have n1_ := Aside0.mk (below_step (by (with_reducible exact HB.out)) hb); have n2_ := Aside0.mk hbox; have n3_ := Aside0.mk ((by rw [hg]; exact (below_size (by (with_reducible exact HB.out))) : w.heap.size ≤ gb344)); have n4_ := Aside0.mk ((by rw [hg]; exact (below_size (by (with_reducible exact HB.out))) : w.heap.size ≤ gb344)); have n5_ := Aside0.mk ((by rw [hg]; exact Nat.ne_of_lt (blk_lt (g := gb342) (o := .cells #[.string a0_0, .string a0_1, .string a0_2, .string a0_3, .bool a0_4, .slice (some ad343) l0_5.length c0_5, .slice A0_6 l0_6.length c0_6, .bool a0_7, .bool a0_8, .string a0_9] 33 (0, 0)) (by exact BK342.out)) : gb342 ≠ gb344)); have n6_ := Aside0.mk ((by rw [hg]; exact Nat.ne_of_gt (blk_lt (g := gb342) (o := .cells #[.string a0_0, .string a0_1, .string a0_2, .string a0_3, .bool a0_4, .slice (some ad343) l0_5.length c0_5, .slice A0_6 l0_6.length c0_6, .bool a0_7, .bool a0_8, .string a0_9] 33 (0, 0)) (by exact BK342.out)) : gb344 ≠ gb342)); clear BK342; clear HB; have BK342 := n0_; have HB := n1_; have BK344 := n2_; have GW344 := n3_; have GE344 := n4_; have NB342_344 := n5_; have NB344_342 := n6_; clear n0_ n1_ n2_ n3_ n4_ n5_ n6_; clear hb hbox hg; have hnb15 := NB344_342.out; have hnc15 := NB342_344.out; obtain ⟨hcz16_0, hcz16_1, hcz16_2, hcz16_3, _⟩ := cl4 BK344.out))
        repeat (go_quiet (fail); try go_wp2_with (fail))
        go_roundg k1
        case measure => have := HK1.out; omega
        case rel => exact ⟨(x4_1 ++ ((rd_T52 l0_5 x20_1).f0)), (wrap64 (x20_1 + 1)), (by rfl), (by rfl), H', ⟨by have := HK1.out; omega⟩, ⟨by refine blk_far ?_ NB342_344.out _; refine blk_far ?_ NB342_344.out _; refine blk_far ?_ NB342_344.out _; refine blk_far ?_ NB342_344.out _; exact BK342.out⟩, ⟨by repeat (first | (with_reducible first | exact HB.out | apply below_alloc | apply pw_below_drewN | apply below_drew1 | refine below_set ?_ GE342.out | refine below_set ?_ GE344.out) | exact HB.out)⟩⟩
       ·rw [if_neg c13] at H
        exact absurd H (by simp)
     ·rw [if_neg c6] at H
      exact absurd H (by simp)
    ·rw [if_neg c5] at H
     exact absurd H (by simp)
   ·rw [if_neg c4] at H
    have c4b0 : decide (x20_1 < (l0_5.length : Int)) = false := decide_eq_false c4
    clear c4
    by_cases c17 : x4_1.size + a0_2.size ≤ 9223372036854775807
    ·rw [if_pos c17] at H
     have c17b0 := eq_true c17
     have c17b1 : decide (x4_1.size + a0_2.size ≤ 9223372036854775807) = true := decide_eq_true c17
     try have c17b2 : (9223372036854775807 < x4_1.size + a0_2.size) = False := eq_false (Nat.not_lt.2 c17)
     have H' := Aside0.mk H
     clear H
     obtain ⟨hcz18_0, hcz18_1, hcz18_2, hcz18_3, hcz18_4, hcz18_5, hcz18_6, hcz18_7, hcz18_8, hcz18_9, hfz18_0, hfz18_1, hfz18_2, hfz18_3, hfz18_4, hfz18_5, hfz18_6, hfz18_7, hfz18_8, hfz18_9⟩ := cl10 BK342.out
     go_wp2
     repeat (go_quiet (fail); try go_wp2)
     (try simp only [Act.put, List.setIfInBounds_toArray, List.set_cons_zero, List.set_cons_succ])
     go_loopg [4, 41] k1 (fun kq v4 v41 w' => ∃ (x4_2 : ByteArray) (x41_2 : Int), v4 = .string x4_2 ∧ v41 = .int .i64 x41_2 ∧ Aside0 (laws_alpineText.l1 kq x4_2 true l0_6 (l0_6.length : Int) x41_2 a0_0 a0_1 a0_2 a0_3 a0_4 l0_5 l0_6 a0_7 a0_8 a0_9 = some (r1, r2)) ∧ Aside0 (kq ≤ k1) ∧ Aside0 (w'.heap[gb342]? = some (.cells #[.string a0_0, .string a0_1, .string a0_2, .string a0_3, .bool a0_4, (.slice A0_5 l0_5.length c0_5), (.slice A0_6 l0_6.length c0_6), .bool a0_7, .bool a0_8, .string a0_9] 33 (0, 0))) ∧ Aside0 (Below w.heap.size w w'))
     case atStart => exact ⟨(x4_1 ++ a0_2), (0), (by rfl), (by rfl), H', ⟨Nat.le_refl _⟩, ⟨by exact BK342.out⟩, ⟨by (with_reducible exact HB.out)⟩⟩
     case round =>
      clear H'
      clear c4b0 c17 c17b0 c17b1 c17b2 hcz18_0 hcz18_1 hcz18_2 hcz18_3 hcz18_4 hcz18_5 hcz18_6 hcz18_7 hcz18_8 hcz18_9 hfz18_0 hfz18_1 hfz18_2 hfz18_3 hfz18_4 hfz18_5 hfz18_6 hfz18_7 hfz18_8 hfz18_9
      obtain ⟨x4_2, x41_2, rfl, rfl, HA, HK2, BK342, HB⟩ := hrel
      cases gk with
      | zero => exact absurd HA.out (by simp [laws_alpineText.l1])
      | succ k2 =>
       have H := HA.out
       clear HA
       simp only [laws_alpineText.l1] at H
       by_cases c19 : x41_2 < (l0_6.length : Int)
       ·rw [if_pos c19] at H
        have c19b0 : decide (x41_2 < (l0_6.length : Int)) = true := decide_eq_true c19
        clear c19
        by_cases c20 : 0 ≤ x41_2
        ·rw [if_pos c20] at H
         have c20b0 : decide (0 ≤ x41_2) = true := decide_eq_true c20
         clear c20
         by_cases c21 : x41_2 < (l0_6.length : Int)
         ·rw [if_pos c21] at H
          have c21b0 : decide (x41_2 < (l0_6.length : Int)) = true := decide_eq_true c21
          clear c21
          replace H := Option.bind_eq_some_iff.mp H
          obtain ⟨t349, A220, H⟩ := H
          replace H : (laws_alpineText.l2 k2 x4_2 true (-1) l0_6 (l0_6.length : Int) x41_2 t349 (t349.length : Int) 0 a0_0 a0_1 a0_2 a0_3 a0_4 l0_5 l0_6 a0_7 a0_8 a0_9 ((rd_T56 l0_6 x41_2).f0) ((rd_T56 l0_6 x41_2).f1.f0) ((rd_T56 l0_6 x41_2).f1.f1)) = some (r1, r2) := H
          have A22 := Aside0.mk A220
          clear A220
          have H' := Aside0.mk H
          clear H
          have p347 : 0 ≤ (x41_2 : Int) := of_decide_eq_true (by (with_reducible assumption))
          have q347 : x41_2 < (l0_6.length : Int) := of_decide_eq_true (by (with_reducible assumption))
          obtain ⟨ad347, e347, hx347_0, hx347_1, hx347_2⟩ := at_T56 HR0_6.out x41_2 p347 q347
          cases e347
          replace hx347_0 := (HB.out.cell (World.block_lt_of_cell? w _ hx347_0)).trans hx347_0
          replace hx347_1 := (HB.out.cell (World.block_lt_of_cell? w _ hx347_1)).trans hx347_1
          replace hx347_2 := (HB.out.cell (World.block_lt_of_cell? w _ hx347_2)).trans hx347_2
          replace p347 := eq_true p347
          replace q347 := eq_true q347
          go_wp2_with (first | ((with_reducible refine gate_dst (N := 9) rfl ?_); (try (refine gate_guard (by rfl) ?_; dsimp only)); refine box_event ?hg (N := 9) ?hd (cs := #[.int .i64 0, .bool false, .string ⟨#[]⟩]) (t := 56) ?hr ?_; (case hd => rfl); (case hg => rfl); (case hr => first | (go_simp; done) | (go_simp; rfl)); intro gb348 hg w23 hbox hb; have n0_ := Aside0.mk (blk_below (g := gb342) (o := .cells #[.string a0_0, .string a0_1, .string a0_2, .string a0_3, .bool a0_4, .slice A0_5 l0_5.length c0_5, .slice (some ad347) l0_6.length c0_6, .bool a0_7, .bool a0_8, .string a0_9] 33 (0, 0)) (by exact BK342.out) hb); have n1_ := Aside0.mk (below_step (by (with_reducible exact HB.out)) hb); have n2_ := Aside0.mk hbox; have n3_ := Aside0.mk ((by rw [hg]; exact (below_size (by (with_reducible exact HB.out))) : w.heap.size ≤ gb348)); have n4_ := Aside0.mk ((by rw [hg]; exact (below_size (by (with_reducible exact HB.out))) : w.heap.size ≤ gb348)); have n5_ := Aside0.mk ((by rw [hg]; exact Nat.ne_of_lt (blk_lt (g := gb342) (o := .cells #[.string a0_0, .string a0_1, .string a0_2, .string a0_3, .bool a0_4, .slice A0_5 l0_5.length c0_5, .slice (some ad347) l0_6.length c0_6, .bool a0_7, .bool a0_8, .string a0_9] 33 (0, 0)) (by exact BK342.out)) : gb342 ≠ gb348)); have n6_ := Aside0.mk ((by rw [hg]; exact Nat.ne_of_gt (blk_lt (g := gb342) (o := .cells #[.string a0_0, .string a0_1, .string a0_2, .string a0_3, .bool a0_4, .slice A0_5 l0_5.length c0_5, .slice (some ad347) l0_6.length c0_6, .bool a0_7, .bool a0_8, .string a0_9] 33 (0, 0)) (by exact BK342.out)) : gb348 ≠ gb342)); clear BK342; clear HB; have BK342 := n0_; have HB := n1_; have BK348 := n2_; have GW348 := n3_; have GE348 := n4_; have NB342_348 := n5_; have NB348_342 := n6_; clear n0_ n1_ n2_ n3_ n4_ n5_ n6_; clear hb hbox hg; have hnb24 := NB348_342.out; have hnc24 := NB342_348.out; obtain ⟨hcz25_0, hcz25_1, hcz25_2, hfz25_0, hfz25_1, hfz25_2⟩ := cl3 BK348.out) | (go_at_call 22; (with_reducible refine (laws_weights.calls  t349 _ A22.out).mono ?_); rintro e w26 ⟨v350, rfl, ho0, hb⟩; have HO351 := Aside0.mk (Kd.R_lower ho0 (below_size (by (with_reducible refine below_set ?_ GE348.out; with_reducible refine below_set ?_ GE348.out; with_reducible refine below_set ?_ GE348.out; with_reducible exact HB.out)))); replace BK342 := Aside0.mk (blk_below (g := gb342) (o := .cells #[.string a0_0, .string a0_1, .string a0_2, .string a0_3, .bool a0_4, .slice A0_5 l0_5.length c0_5, .slice (some ad347) l0_6.length c0_6, .bool a0_7, .bool a0_8, .string a0_9] 33 (0, 0)) (by refine blk_far ?_ NB342_348.out _; refine blk_far ?_ NB342_348.out _; refine blk_far ?_ NB342_348.out _; exact BK342.out) hb); replace BK348 := Aside0.mk (blk_below (g := gb348) (o := .cells #[.int .i64 ((rd_T56 l0_6 x41_2).f0), .bool ((rd_T56 l0_6 x41_2).f1.f0), .string ((rd_T56 l0_6 x41_2).f1.f1)] 56 (0, 0)) (by refine blk_put (cs := #[.int .i64 ((rd_T56 l0_6 x41_2).f0), .bool ((rd_T56 l0_6 x41_2).f1.f0), .string ⟨#[]⟩]) ?_ 2 _ rfl; refine blk_put (cs := #[.int .i64 ((rd_T56 l0_6 x41_2).f0), .bool false, .string ⟨#[]⟩]) ?_ 1 _ rfl; refine blk_put (cs := #[.int .i64 0, .bool false, .string ⟨#[]⟩]) ?_ 0 _ rfl; exact BK348.out) hb); replace HB := Aside0.mk (below_step (by (with_reducible refine below_set ?_ GE348.out; with_reducible refine below_set ?_ GE348.out; with_reducible refine below_set ?_ GE348.out; with_reducible exact HB.out)) hb); (try clear hb); (try clear hb2); (try clear hk); (try clear hi); (try clear ho0); obtain ⟨Ao27, co27, eo27⟩ := Kd.R_slice HO351.out; subst eo27))
          repeat (go_quiet (fail); try go_wp2_with (fail))
          (try simp only [Act.put, List.setIfInBounds_toArray, List.set_cons_zero, List.set_cons_succ])
          go_loopg [10, 47] k2 (fun kq v10 v47 w' => ∃ (x10_3 : Int) (x47_3 : Int), v10 = .int .i64 x10_3 ∧ v47 = .int .i64 x47_3 ∧ Aside0 (laws_alpineText.l2 kq x4_2 true x10_3 l0_6 (l0_6.length : Int) x41_2 t349 (t349.length : Int) x47_3 a0_0 a0_1 a0_2 a0_3 a0_4 l0_5 l0_6 a0_7 a0_8 a0_9 ((rd_T56 l0_6 x41_2).f0) ((rd_T56 l0_6 x41_2).f1.f0) ((rd_T56 l0_6 x41_2).f1.f1) = some (r1, r2)) ∧ Aside0 (kq ≤ k2) ∧ Aside0 (Kd.R (Kd.int .i64) 3 w' w.heap.size (fun _ => True) (.slice Ao27 t349.length co27) t349) ∧ Aside0 (w'.heap[gb342]? = some (.cells #[.string a0_0, .string a0_1, .string a0_2, .string a0_3, .bool a0_4, (.slice A0_5 l0_5.length c0_5), (.slice (some ad347) l0_6.length c0_6), .bool a0_7, .bool a0_8, .string a0_9] 33 (0, 0))) ∧ Aside0 (w'.heap[gb348]? = some (.cells #[.int .i64 ((rd_T56 l0_6 x41_2).f0), .bool ((rd_T56 l0_6 x41_2).f1.f0), .string ((rd_T56 l0_6 x41_2).f1.f1)] 56 (0, 0))) ∧ Aside0 (Below w.heap.size w w'))
          case atStart => exact ⟨((-1)), (0), (by rfl), (by rfl), H', ⟨Nat.le_refl _⟩, ⟨by (with_reducible repeat (first | apply Kd.R_alloc | apply Kd.R_drewN | apply Kd.R_drew)); exact HO351.out⟩, ⟨by exact BK342.out⟩, ⟨by exact BK348.out⟩, ⟨by (with_reducible exact HB.out)⟩⟩
          case round =>
           clear H'
           clear c19b0 c20b0 c21b0 hcz25_0 hcz25_1 hcz25_2 hfz25_0 hfz25_1 hfz25_2 hx347_0 hx347_1 hx347_2 p347 q347
           obtain ⟨x10_3, x47_3, rfl, rfl, HA, HK3, HO_45, BK342, BK348, HB⟩ := hrel
           cases gk with
           | zero => exact absurd HA.out (by simp [laws_alpineText.l2])
           | succ k3 =>
            have H := HA.out
            clear HA
            simp only [laws_alpineText.l2] at H
            by_cases c28 : x47_3 < (t349.length : Int)
            ·rw [if_pos c28] at H
             have c28b0 : decide (x47_3 < (t349.length : Int)) = true := decide_eq_true c28
             clear c28
             by_cases c29 : 0 ≤ x47_3
             ·rw [if_pos c29] at H
              have c29b0 : decide (0 ≤ x47_3) = true := decide_eq_true c29
              clear c29
              by_cases c30 : x47_3 < (t349.length : Int)
              ·rw [if_pos c30] at H
               have c30b0 : decide (x47_3 < (t349.length : Int)) = true := decide_eq_true c30
               clear c30
               by_cases c31 : (rd t349 x47_3) = ((rd_T56 l0_6 x41_2).f0)
               ·rw [if_pos c31] at H
                have c31b0 : ((rd t349 x47_3) == ((rd_T56 l0_6 x41_2).f0)) = true := beq_iff_eq.mpr c31
                have c31b1 : ((rd t349 x47_3) != ((rd_T56 l0_6 x41_2).f0)) = false := bne_eq_false_iff_eq.mpr c31
                clear c31
                have H' := Aside0.mk H
                clear H
                have p352 : 0 ≤ (x47_3 : Int) := of_decide_eq_true (by (with_reducible assumption))
                have q352 : x47_3 < (t349.length : Int) := of_decide_eq_true (by (with_reducible assumption))
                obtain ⟨ad352, e352, hx352_0⟩ := Kd.at_int (Kd.R_reads' HO_45.out).2.2 x47_3 p352 q352
                cases e352
                replace p352 := eq_true p352
                replace q352 := eq_true q352
                have hnb32 := NB348_342.out
                have hnc32 := NB342_348.out
                obtain ⟨hcz33_0, hcz33_1, hcz33_2, hfz33_0, hfz33_1, hfz33_2⟩ := cl3 BK348.out
                go_wp2
                repeat (go_quiet (fail); try go_wp2)
                go_roundg k3
                case measure => have := HK1.out; have := HK2.out; have := HK3.out; omega
                case rel => exact ⟨(x47_3), (wrap64 (x47_3 + 1)), (by rfl), (by rfl), H', ⟨by have := HK1.out; have := HK2.out; have := HK3.out; omega⟩, ⟨by (with_reducible repeat (first | apply Kd.R_alloc | apply Kd.R_drewN | apply Kd.R_drew)); exact HO_45.out⟩, ⟨by exact BK342.out⟩, ⟨by exact BK348.out⟩, ⟨by (with_reducible exact HB.out)⟩⟩
               ·rw [if_neg c31] at H
                have c31b0 : ((rd t349 x47_3) == ((rd_T56 l0_6 x41_2).f0)) = false := beq_eq_false_iff_ne.mpr c31
                have c31b1 : ((rd t349 x47_3) != ((rd_T56 l0_6 x41_2).f0)) = true := bne_iff_ne.mpr c31
                have H' := Aside0.mk H
                clear H
                have p352 : 0 ≤ (x47_3 : Int) := of_decide_eq_true (by (with_reducible assumption))
                have q352 : x47_3 < (t349.length : Int) := of_decide_eq_true (by (with_reducible assumption))
                obtain ⟨ad352, e352, hx352_0⟩ := Kd.at_int (Kd.R_reads' HO_45.out).2.2 x47_3 p352 q352
                cases e352
                replace p352 := eq_true p352
                replace q352 := eq_true q352
                have hnb34 := NB348_342.out
                have hnc34 := NB342_348.out
                obtain ⟨hcz35_0, hcz35_1, hcz35_2, hfz35_0, hfz35_1, hfz35_2⟩ := cl3 BK348.out
                go_wp2
                repeat (go_quiet (fail); try go_wp2)
                go_roundg k3
                case measure => have := HK1.out; have := HK2.out; have := HK3.out; omega
                case rel => exact ⟨(x10_3), (wrap64 (x47_3 + 1)), (by rfl), (by rfl), H', ⟨by have := HK1.out; have := HK2.out; have := HK3.out; omega⟩, ⟨by (with_reducible repeat (first | apply Kd.R_alloc | apply Kd.R_drewN | apply Kd.R_drew)); exact HO_45.out⟩, ⟨by exact BK342.out⟩, ⟨by exact BK348.out⟩, ⟨by (with_reducible exact HB.out)⟩⟩
              ·rw [if_neg c30] at H
               exact absurd H (by simp)
             ·rw [if_neg c29] at H
              exact absurd H (by simp)
            ·rw [if_neg c28] at H
             have c28b0 : decide (x47_3 < (t349.length : Int)) = false := decide_eq_false c28
             clear c28
             replace H := Option.bind_eq_some_iff.mp H
             obtain ⟨⟨t353, t354⟩, A360, H⟩ := H
             replace H : (if x10_3 < 0 then (laws_alpineText.j3 k3 x4_2 true x10_3 t353 l0_6 (l0_6.length : Int) x41_2 true a0_0 a0_1 a0_2 a0_3 a0_4 l0_5 l0_6 a0_7 a0_8 a0_9) else (laws_alpineText.j3 k3 x4_2 true x10_3 t353 l0_6 (l0_6.length : Int) x41_2 (!t354) a0_0 a0_1 a0_2 a0_3 a0_4 l0_5 l0_6 a0_7 a0_8 a0_9)) = some (r1, r2) := H
             have A36 := Aside0.mk A360
             clear A360
             have HC37 := Aside0.mk H
             clear H
             have hnb38 := NB348_342.out
             have hnc38 := NB342_348.out
             obtain ⟨hcz39_0, hcz39_1, hcz39_2, hfz39_0, hfz39_1, hfz39_2⟩ := cl3 BK348.out
             go_upto_region 22 with ((go_at_call 42; (with_reducible refine (laws_intText.calls k3 ((rd_T56 l0_6 x41_2).f1.f0) ((rd_T56 l0_6 x41_2).f1.f1) t353 t354 _ A36.out).mono ?_); rintro e w40 ⟨rfl, hb⟩; replace HO_45 := Aside0.mk (Kd.R_below (by (with_reducible repeat (first | apply Kd.R_alloc | apply Kd.R_drewN | apply Kd.R_drew)); exact HO_45.out) hb); replace BK342 := Aside0.mk (blk_below (g := gb342) (o := .cells #[.string a0_0, .string a0_1, .string a0_2, .string a0_3, .bool a0_4, .slice A0_5 l0_5.length c0_5, .slice (some ad347) l0_6.length c0_6, .bool a0_7, .bool a0_8, .string a0_9] 33 (0, 0)) (by exact BK342.out) hb); replace BK348 := Aside0.mk (blk_below (g := gb348) (o := .cells #[.int .i64 ((rd_T56 l0_6 x41_2).f0), .bool ((rd_T56 l0_6 x41_2).f1.f0), .string ((rd_T56 l0_6 x41_2).f1.f1)] 56 (0, 0)) (by exact BK348.out) hb); replace HB := Aside0.mk (below_step (by (with_reducible exact HB.out)) hb); (try clear hb); (try clear hb2); (try clear hk); (try clear hi)))
             repeat (go_quiet (fail); go_upto_region 22 with (fail))
             (try simp only [Act.put, List.setIfInBounds_toArray, List.set_cons_zero, List.set_cons_succ])
             go_cut [69] (fun v69 wc => ∃ (kq : Nat) (x69_36 : Bool), v69 = .bool x69_36 ∧ Aside0 (laws_alpineText.j3 kq x4_2 true x10_3 t353 l0_6 (l0_6.length : Int) x41_2 x69_36 a0_0 a0_1 a0_2 a0_3 a0_4 l0_5 l0_6 a0_7 a0_8 a0_9 = some (r1, r2)) ∧ Aside0 (kq ≤ k3) ∧ Aside0 (wc.heap[gb342]? = some (.cells #[.string a0_0, .string a0_1, .string a0_2, .string a0_3, .bool a0_4, (.slice A0_5 l0_5.length c0_5), (.slice (some ad347) l0_6.length c0_6), .bool a0_7, .bool a0_8, .string a0_9] 33 (0, 0))) ∧ Aside0 (wc.heap[gb348]? = some (.cells #[.int .i64 ((rd_T56 l0_6 x41_2).f0), .bool ((rd_T56 l0_6 x41_2).f1.f0), .string ((rd_T56 l0_6 x41_2).f1.f1)] 56 (0, 0))) ∧ Aside0 (Below w.heap.size w wc))
             case first =>
              have H := HC37.out
              clear HC37
              by_cases c41 : x10_3 < 0
              ·rw [if_pos c41] at H
               have c41b0 : decide (x10_3 < 0) = true := decide_eq_true c41
               clear c41
               (first | rw [c41b0] | (simp only [i64_w, i32_w]; rw [c41b0]) | skip)
               have H' := Aside0.mk H
               clear H
               go_wp2
               repeat (go_quiet (fail); try go_wp2)
               go_meet
               case rel => exact ⟨_, (true), (by rfl), H', ⟨by have := HK1.out; have := HK2.out; have := HK3.out; first | omega | exact Nat.le_refl _⟩, ⟨by exact BK342.out⟩, ⟨by exact BK348.out⟩, ⟨by (with_reducible exact HB.out)⟩⟩
              ·rw [if_neg c41] at H
               have c41b0 : decide (x10_3 < 0) = false := decide_eq_false c41
               clear c41
               (first | rw [c41b0] | (simp only [i64_w, i32_w]; rw [c41b0]) | skip)
               have H' := Aside0.mk H
               clear H
               go_wp2
               repeat (go_quiet (fail); try go_wp2)
               go_meet
               case rel => exact ⟨_, (!t354), (by rfl), H', ⟨by have := HK1.out; have := HK2.out; have := HK3.out; first | omega | exact Nat.le_refl _⟩, ⟨by exact BK342.out⟩, ⟨by exact BK348.out⟩, ⟨by (with_reducible exact HB.out)⟩⟩
             case rest =>
              clear HC37
              clear c28b0 hcz39_0 hcz39_1 hcz39_2 hfz39_0 hfz39_1 hfz39_2
              obtain ⟨kq, x69_36, rfl, HA, HJ36, BK342, BK348, HB⟩ := hcut
              cases kq with
              | zero => exact absurd HA.out (by simp [laws_alpineText.j3])
              | succ kj36 =>
               have H := HA.out
               clear HA
               simp only [laws_alpineText.j3] at H
               by_cases c42 : x69_36 = true
               ·subst c42
                have H1 : (some ((⟨#[]⟩ : ByteArray), false)) = some (r1, r2) := by rw [if_pos rfl] at H; exact H
                clear H
                have H := H1
                clear H1
                simp only [Option.some.injEq, Prod.mk.injEq] at H
                obtain ⟨rfl, rfl⟩ := H
                go_wp2
                repeat (go_quiet (fail); try go_wp2)
                go_ret2
                exact ⟨by rfl, by (with_reducible exact HB.out)⟩
               ·replace c42 := Bool.eq_false_iff.mpr c42
                subst c42
                have H1 : ((laws_suffixes.f).bind fun t355 => (if 0 ≤ x10_3 then (if x10_3 < (t355.length : Int) then (if 1 + (rdOf ByteArray.empty t355 x10_3).size ≤ 9223372036854775807 then (if x4_2.size + ((⟨#[95]⟩ : ByteArray) ++ (rdOf ByteArray.empty t355 x10_3)).size ≤ 9223372036854775807 then (if t353.toList = ([48] : List UInt8) then (laws_alpineText.l1 kj36 (x4_2 ++ ((⟨#[95]⟩ : ByteArray) ++ (rdOf ByteArray.empty t355 x10_3))) true l0_6 (l0_6.length : Int) (wrap64 (x41_2 + 1)) a0_0 a0_1 a0_2 a0_3 a0_4 l0_5 l0_6 a0_7 a0_8 a0_9) else (if (x4_2 ++ ((⟨#[95]⟩ : ByteArray) ++ (rdOf ByteArray.empty t355 x10_3))).size + t353.size ≤ 9223372036854775807 then (laws_alpineText.l1 kj36 ((x4_2 ++ ((⟨#[95]⟩ : ByteArray) ++ (rdOf ByteArray.empty t355 x10_3))) ++ t353) true l0_6 (l0_6.length : Int) (wrap64 (x41_2 + 1)) a0_0 a0_1 a0_2 a0_3 a0_4 l0_5 l0_6 a0_7 a0_8 a0_9) else (none))) else (none)) else (none)) else (none)) else (none))) = some (r1, r2) := by rw [if_neg (show ¬ (false = true) by decide)] at H; exact H
                clear H
                have H := H1
                clear H1
                replace H := Option.bind_eq_some_iff.mp H
                obtain ⟨t355, A430, H⟩ := H
                replace H : (if 0 ≤ x10_3 then (if x10_3 < (t355.length : Int) then (if 1 + (rdOf ByteArray.empty t355 x10_3).size ≤ 9223372036854775807 then (if x4_2.size + ((⟨#[95]⟩ : ByteArray) ++ (rdOf ByteArray.empty t355 x10_3)).size ≤ 9223372036854775807 then (if t353.toList = ([48] : List UInt8) then (laws_alpineText.l1 kj36 (x4_2 ++ ((⟨#[95]⟩ : ByteArray) ++ (rdOf ByteArray.empty t355 x10_3))) true l0_6 (l0_6.length : Int) (wrap64 (x41_2 + 1)) a0_0 a0_1 a0_2 a0_3 a0_4 l0_5 l0_6 a0_7 a0_8 a0_9) else (if (x4_2 ++ ((⟨#[95]⟩ : ByteArray) ++ (rdOf ByteArray.empty t355 x10_3))).size + t353.size ≤ 9223372036854775807 then (laws_alpineText.l1 kj36 ((x4_2 ++ ((⟨#[95]⟩ : ByteArray) ++ (rdOf ByteArray.empty t355 x10_3))) ++ t353) true l0_6 (l0_6.length : Int) (wrap64 (x41_2 + 1)) a0_0 a0_1 a0_2 a0_3 a0_4 l0_5 l0_6 a0_7 a0_8 a0_9) else (none))) else (none)) else (none)) else (none)) else (none)) = some (r1, r2) := H
                have A43 := Aside0.mk A430
                clear A430
                by_cases c44 : 0 ≤ x10_3
                ·rw [if_pos c44] at H
                 have c44b0 : decide (0 ≤ x10_3) = true := decide_eq_true c44
                 clear c44
                 by_cases c45 : x10_3 < (t355.length : Int)
                 ·rw [if_pos c45] at H
                  have c45b0 : decide (x10_3 < (t355.length : Int)) = true := decide_eq_true c45
                  clear c45
                  by_cases c46 : 1 + (rdOf ByteArray.empty t355 x10_3).size ≤ 9223372036854775807
                  ·rw [if_pos c46] at H
                   have c46b0 := eq_true c46
                   have c46b1 : decide (1 + (rdOf ByteArray.empty t355 x10_3).size ≤ 9223372036854775807) = true := decide_eq_true c46
                   try have c46b2 : (9223372036854775807 < 1 + (rdOf ByteArray.empty t355 x10_3).size) = False := eq_false (Nat.not_lt.2 c46)
                   by_cases c47 : x4_2.size + ((⟨#[95]⟩ : ByteArray) ++ (rdOf ByteArray.empty t355 x10_3)).size ≤ 9223372036854775807
                   ·rw [if_pos c47] at H
                    have c47b0 := eq_true c47
                    have c47b1 : decide (x4_2.size + ((⟨#[95]⟩ : ByteArray) ++ (rdOf ByteArray.empty t355 x10_3)).size ≤ 9223372036854775807) = true := decide_eq_true c47
                    try have c47b2 : (9223372036854775807 < x4_2.size + ((⟨#[95]⟩ : ByteArray) ++ (rdOf ByteArray.empty t355 x10_3)).size) = False := eq_false (Nat.not_lt.2 c47)
                    try have c47b3 : (9223372036854775807 < x4_2.size + (1 + (rdOf ByteArray.empty t355 x10_3).size)) = False := eq_false (by have h_ := c47; simp only [ByteArray.size_append] at h_; have e0_ : (⟨#[95]⟩ : ByteArray).size = 1 := rfl; omega)
                    try have c47b4 : (x4_2.size + (1 + (rdOf ByteArray.empty t355 x10_3).size) ≤ 9223372036854775807) = True := eq_true (by have h_ := c47; simp only [ByteArray.size_append] at h_; have e0_ : (⟨#[95]⟩ : ByteArray).size = 1 := rfl; omega)
                    by_cases c48 : t353.toList = ([48] : List UInt8)
                    ·rw [if_pos c48] at H
                     have c48b0 : (t353.toList == ([48] : List UInt8)) = true := beq_iff_eq.mpr c48
                     have c48b1 : (t353.toList != ([48] : List UInt8)) = false := bne_eq_false_iff_eq.mpr c48
                     clear c48
                     have H' := Aside0.mk H
                     clear H
                     go_wp2_with ((go_at_call 23; (with_reducible refine (laws_suffixes.calls  t355 _ A43.out).mono ?_); rintro e w49 ⟨v356, rfl, ho0, hb⟩; have HO357 := Aside0.mk (Kd.R_lower ho0 (below_size (by (with_reducible exact HB.out)))); replace BK342 := Aside0.mk (blk_below (g := gb342) (o := .cells #[.string a0_0, .string a0_1, .string a0_2, .string a0_3, .bool a0_4, .slice A0_5 l0_5.length c0_5, .slice (some ad347) l0_6.length c0_6, .bool a0_7, .bool a0_8, .string a0_9] 33 (0, 0)) (by exact BK342.out) hb); replace BK348 := Aside0.mk (blk_below (g := gb348) (o := .cells #[.int .i64 ((rd_T56 l0_6 x41_2).f0), .bool ((rd_T56 l0_6 x41_2).f1.f0), .string ((rd_T56 l0_6 x41_2).f1.f1)] 56 (0, 0)) (by exact BK348.out) hb); replace HB := Aside0.mk (below_step (by (with_reducible exact HB.out)) hb); (try clear hb); (try clear hb2); (try clear hk); (try clear hi); (try clear ho0); obtain ⟨Ao50, co50, eo50⟩ := Kd.R_slice HO357.out; subst eo50; have p358 : 0 ≤ (x10_3 : Int) := of_decide_eq_true (by (with_reducible assumption)); have q358 : x10_3 < (t355.length : Int) := of_decide_eq_true (by (with_reducible assumption)); obtain ⟨ad358, e358, hx358_0⟩ := Kd.at_string (Kd.R_reads' HO357.out).2.2 x10_3 p358 q358; cases e358; replace p358 := eq_true p358; replace q358 := eq_true q358))
                     repeat (go_quiet (fail); try go_wp2_with (fail))
                     go_roundg kj36
                     case measure => have := HK1.out; have := HK2.out; have := HK3.out; have := HJ36.out; omega
                     case rel => exact ⟨(x4_2 ++ ((⟨#[95]⟩ : ByteArray) ++ (rdOf ByteArray.empty t355 x10_3))), (wrap64 (x41_2 + 1)), (by rfl), (by rfl), H', ⟨by have := HK1.out; have := HK2.out; have := HK3.out; have := HJ36.out; omega⟩, ⟨by exact BK342.out⟩, ⟨by (with_reducible exact HB.out)⟩⟩
                    ·rw [if_neg c48] at H
                     have c48b0 : (t353.toList == ([48] : List UInt8)) = false := beq_eq_false_iff_ne.mpr c48
                     have c48b1 : (t353.toList != ([48] : List UInt8)) = true := bne_iff_ne.mpr c48
                     by_cases c51 : (x4_2 ++ ((⟨#[95]⟩ : ByteArray) ++ (rdOf ByteArray.empty t355 x10_3))).size + t353.size ≤ 9223372036854775807
                     ·rw [if_pos c51] at H
                      have c51b0 := eq_true c51
                      have c51b1 : decide ((x4_2 ++ ((⟨#[95]⟩ : ByteArray) ++ (rdOf ByteArray.empty t355 x10_3))).size + t353.size ≤ 9223372036854775807) = true := decide_eq_true c51
                      try have c51b2 : (9223372036854775807 < (x4_2 ++ ((⟨#[95]⟩ : ByteArray) ++ (rdOf ByteArray.empty t355 x10_3))).size + t353.size) = False := eq_false (Nat.not_lt.2 c51)
                      try have c51b3 : (9223372036854775807 < x4_2.size + (1 + (rdOf ByteArray.empty t355 x10_3).size) + t353.size) = False := eq_false (by have h_ := c51; simp only [ByteArray.size_append] at h_; have e0_ : (⟨#[95]⟩ : ByteArray).size = 1 := rfl; omega)
                      try have c51b4 : (x4_2.size + (1 + (rdOf ByteArray.empty t355 x10_3).size) + t353.size ≤ 9223372036854775807) = True := eq_true (by have h_ := c51; simp only [ByteArray.size_append] at h_; have e0_ : (⟨#[95]⟩ : ByteArray).size = 1 := rfl; omega)
                      have H' := Aside0.mk H
                      clear H
                      go_wp2_with ((go_at_call 23; (with_reducible refine (laws_suffixes.calls  t355 _ A43.out).mono ?_); rintro e w52 ⟨v356, rfl, ho0, hb⟩; have HO357 := Aside0.mk (Kd.R_lower ho0 (below_size (by (with_reducible exact HB.out)))); replace BK342 := Aside0.mk (blk_below (g := gb342) (o := .cells #[.string a0_0, .string a0_1, .string a0_2, .string a0_3, .bool a0_4, .slice A0_5 l0_5.length c0_5, .slice (some ad347) l0_6.length c0_6, .bool a0_7, .bool a0_8, .string a0_9] 33 (0, 0)) (by exact BK342.out) hb); replace BK348 := Aside0.mk (blk_below (g := gb348) (o := .cells #[.int .i64 ((rd_T56 l0_6 x41_2).f0), .bool ((rd_T56 l0_6 x41_2).f1.f0), .string ((rd_T56 l0_6 x41_2).f1.f1)] 56 (0, 0)) (by exact BK348.out) hb); replace HB := Aside0.mk (below_step (by (with_reducible exact HB.out)) hb); (try clear hb); (try clear hb2); (try clear hk); (try clear hi); (try clear ho0); obtain ⟨Ao53, co53, eo53⟩ := Kd.R_slice HO357.out; subst eo53; have p358 : 0 ≤ (x10_3 : Int) := of_decide_eq_true (by (with_reducible assumption)); have q358 : x10_3 < (t355.length : Int) := of_decide_eq_true (by (with_reducible assumption)); obtain ⟨ad358, e358, hx358_0⟩ := Kd.at_string (Kd.R_reads' HO357.out).2.2 x10_3 p358 q358; cases e358; replace p358 := eq_true p358; replace q358 := eq_true q358))
                      repeat (go_quiet (fail); try go_wp2_with (fail))
                      go_roundg kj36
                      case measure => have := HK1.out; have := HK2.out; have := HK3.out; have := HJ36.out; omega
                      case rel => exact ⟨((x4_2 ++ ((⟨#[95]⟩ : ByteArray) ++ (rdOf ByteArray.empty t355 x10_3))) ++ t353), (wrap64 (x41_2 + 1)), (by rfl), (by rfl), H', ⟨by have := HK1.out; have := HK2.out; have := HK3.out; have := HJ36.out; omega⟩, ⟨by exact BK342.out⟩, ⟨by (with_reducible exact HB.out)⟩⟩
                     ·rw [if_neg c51] at H
                      exact absurd H (by simp)
                   ·rw [if_neg c47] at H
                    exact absurd H (by simp)
                  ·rw [if_neg c46] at H
                   exact absurd H (by simp)
                 ·rw [if_neg c45] at H
                  exact absurd H (by simp)
                ·rw [if_neg c44] at H
                 exact absurd H (by simp)
         ·rw [if_neg c21] at H
          exact absurd H (by simp)
        ·rw [if_neg c20] at H
         exact absurd H (by simp)
       ·rw [if_neg c19] at H
        have c19b0 : decide (x41_2 < (l0_6.length : Int)) = false := decide_eq_false c19
        clear c19
        by_cases c54 : x4_2.size + a0_3.size ≤ 9223372036854775807
        ·rw [if_pos c54] at H
         have c54b0 := eq_true c54
         have c54b1 : decide (x4_2.size + a0_3.size ≤ 9223372036854775807) = true := decide_eq_true c54
         try have c54b2 : (9223372036854775807 < x4_2.size + a0_3.size) = False := eq_false (Nat.not_lt.2 c54)
         replace H := Option.bind_eq_some_iff.mp H
         obtain ⟨⟨t345, t346⟩, A550, H⟩ := H
         replace H : (if t345.toList = ([48] : List UInt8) then (if true = true then (some (x4_2 ++ a0_3, decide ((l0_5.length : Int) > 0))) else (some (x4_2 ++ a0_3, false))) else (if 2 + t345.size ≤ 9223372036854775807 then (if (x4_2 ++ a0_3).size + ((⟨#[45, 114]⟩ : ByteArray) ++ t345).size ≤ 9223372036854775807 then (if t346 = true then (some ((x4_2 ++ a0_3) ++ ((⟨#[45, 114]⟩ : ByteArray) ++ t345), decide ((l0_5.length : Int) > 0))) else (some ((x4_2 ++ a0_3) ++ ((⟨#[45, 114]⟩ : ByteArray) ++ t345), false))) else (none)) else (none))) = some (r1, r2) := H
         have A55 := Aside0.mk A550
         clear A550
         by_cases c56 : t345.toList = ([48] : List UInt8)
         ·rw [if_pos c56] at H
          have c56b0 : (t345.toList == ([48] : List UInt8)) = true := beq_iff_eq.mpr c56
          have c56b1 : (t345.toList != ([48] : List UInt8)) = false := bne_eq_false_iff_eq.mpr c56
          clear c56
          by_cases c57 : true = true
          ·clear c57
           have H1 : (some (x4_2 ++ a0_3, decide ((l0_5.length : Int) > 0))) = some (r1, r2) := by rw [if_pos rfl] at H; exact H
           clear H
           have H := H1
           clear H1
           simp only [Option.some.injEq, Prod.mk.injEq] at H
           obtain ⟨rfl, rfl⟩ := H
           obtain ⟨hcz58_0, hcz58_1, hcz58_2, hcz58_3, hcz58_4, hcz58_5, hcz58_6, hcz58_7, hcz58_8, hcz58_9, hfz58_0, hfz58_1, hfz58_2, hfz58_3, hfz58_4, hfz58_5, hfz58_6, hfz58_7, hfz58_8, hfz58_9⟩ := cl10 BK342.out
           go_wp2_with ((go_at_call 42; (with_reducible refine (laws_intText.calls k2 a0_8 a0_9 t345 t346 _ A55.out).mono ?_); rintro e w59 ⟨rfl, hb⟩; replace BK342 := Aside0.mk (blk_below (g := gb342) (o := .cells #[.string a0_0, .string a0_1, .string a0_2, .string a0_3, .bool a0_4, .slice A0_5 l0_5.length c0_5, .slice A0_6 l0_6.length c0_6, .bool a0_7, .bool a0_8, .string a0_9] 33 (0, 0)) (by exact BK342.out) hb); replace HB := Aside0.mk (below_step (by (with_reducible exact HB.out)) hb); (try clear hb); (try clear hb2); (try clear hk); (try clear hi); obtain ⟨hcz60_0, hcz60_1, hcz60_2, hcz60_3, hcz60_4, hcz60_5, hcz60_6, hcz60_7, hcz60_8, hcz60_9, hfz60_0, hfz60_1, hfz60_2, hfz60_3, hfz60_4, hfz60_5, hfz60_6, hfz60_7, hfz60_8, hfz60_9⟩ := cl10 BK342.out))
           repeat (go_quiet (fail); try go_wp2_with (fail))
           go_ret2
           exact ⟨by (simp [errW_none, errW_some] <;> rfl), by (with_reducible apply pw_below_drewN; with_reducible exact HB.out)⟩
          ·exact absurd rfl c57
         ·rw [if_neg c56] at H
          have c56b0 : (t345.toList == ([48] : List UInt8)) = false := beq_eq_false_iff_ne.mpr c56
          have c56b1 : (t345.toList != ([48] : List UInt8)) = true := bne_iff_ne.mpr c56
          by_cases c63 : 2 + t345.size ≤ 9223372036854775807
          ·rw [if_pos c63] at H
           have c63b0 := eq_true c63
           have c63b1 : decide (2 + t345.size ≤ 9223372036854775807) = true := decide_eq_true c63
           try have c63b2 : (9223372036854775807 < 2 + t345.size) = False := eq_false (Nat.not_lt.2 c63)
           by_cases c64 : (x4_2 ++ a0_3).size + ((⟨#[45, 114]⟩ : ByteArray) ++ t345).size ≤ 9223372036854775807
           ·rw [if_pos c64] at H
            have c64b0 := eq_true c64
            have c64b1 : decide ((x4_2 ++ a0_3).size + ((⟨#[45, 114]⟩ : ByteArray) ++ t345).size ≤ 9223372036854775807) = true := decide_eq_true c64
            try have c64b2 : (9223372036854775807 < (x4_2 ++ a0_3).size + ((⟨#[45, 114]⟩ : ByteArray) ++ t345).size) = False := eq_false (Nat.not_lt.2 c64)
            try have c64b3 : (9223372036854775807 < x4_2.size + a0_3.size + (2 + t345.size)) = False := eq_false (by have h_ := c64; simp only [ByteArray.size_append] at h_; have e0_ : (⟨#[45, 114]⟩ : ByteArray).size = 2 := rfl; omega)
            try have c64b4 : (x4_2.size + a0_3.size + (2 + t345.size) ≤ 9223372036854775807) = True := eq_true (by have h_ := c64; simp only [ByteArray.size_append] at h_; have e0_ : (⟨#[45, 114]⟩ : ByteArray).size = 2 := rfl; omega)
            by_cases c65 : t346 = true
            ·subst c65
             have H1 : (some ((x4_2 ++ a0_3) ++ ((⟨#[45, 114]⟩ : ByteArray) ++ t345), decide ((l0_5.length : Int) > 0))) = some (r1, r2) := by rw [if_pos rfl] at H; exact H
             clear H
             have H := H1
             clear H1
             simp only [Option.some.injEq, Prod.mk.injEq] at H
             obtain ⟨rfl, rfl⟩ := H
             obtain ⟨hcz66_0, hcz66_1, hcz66_2, hcz66_3, hcz66_4, hcz66_5, hcz66_6, hcz66_7, hcz66_8, hcz66_9, hfz66_0, hfz66_1, hfz66_2, hfz66_3, hfz66_4, hfz66_5, hfz66_6, hfz66_7, hfz66_8, hfz66_9⟩ := cl10 BK342.out
             go_wp2_with ((go_at_call 42; (with_reducible refine (laws_intText.calls k2 a0_8 a0_9 t345 true _ A55.out).mono ?_); rintro e w67 ⟨rfl, hb⟩; replace BK342 := Aside0.mk (blk_below (g := gb342) (o := .cells #[.string a0_0, .string a0_1, .string a0_2, .string a0_3, .bool a0_4, .slice A0_5 l0_5.length c0_5, .slice A0_6 l0_6.length c0_6, .bool a0_7, .bool a0_8, .string a0_9] 33 (0, 0)) (by exact BK342.out) hb); replace HB := Aside0.mk (below_step (by (with_reducible exact HB.out)) hb); (try clear hb); (try clear hb2); (try clear hk); (try clear hi); obtain ⟨hcz68_0, hcz68_1, hcz68_2, hcz68_3, hcz68_4, hcz68_5, hcz68_6, hcz68_7, hcz68_8, hcz68_9, hfz68_0, hfz68_1, hfz68_2, hfz68_3, hfz68_4, hfz68_5, hfz68_6, hfz68_7, hfz68_8, hfz68_9⟩ := cl10 BK342.out))
             repeat (go_quiet (fail); try go_wp2_with (fail))
             go_ret2
             exact ⟨by (simp [errW_none, errW_some] <;> rfl), by (with_reducible apply pw_below_drewN; with_reducible exact HB.out)⟩
            ·replace c65 := Bool.eq_false_iff.mpr c65
             subst c65
             have H1 : (some ((x4_2 ++ a0_3) ++ ((⟨#[45, 114]⟩ : ByteArray) ++ t345), false)) = some (r1, r2) := by rw [if_neg (show ¬ (false = true) by decide)] at H; exact H
             clear H
             have H := H1
             clear H1
             simp only [Option.some.injEq, Prod.mk.injEq] at H
             obtain ⟨rfl, rfl⟩ := H
             obtain ⟨hcz69_0, hcz69_1, hcz69_2, hcz69_3, hcz69_4, hcz69_5, hcz69_6, hcz69_7, hcz69_8, hcz69_9, hfz69_0, hfz69_1, hfz69_2, hfz69_3, hfz69_4, hfz69_5, hfz69_6, hfz69_7, hfz69_8, hfz69_9⟩ := cl10 BK342.out
             go_wp2_with ((go_at_call 42; (with_reducible refine (laws_intText.calls k2 a0_8 a0_9 t345 false _ A55.out).mono ?_); rintro e w70 ⟨rfl, hb⟩; replace BK342 := Aside0.mk (blk_below (g := gb342) (o := .cells #[.string a0_0, .string a0_1, .string a0_2, .string a0_3, .bool a0_4, .slice A0_5 l0_5.length c0_5, .slice A0_6 l0_6.length c0_6, .bool a0_7, .bool a0_8, .string a0_9] 33 (0, 0)) (by exact BK342.out) hb); replace HB := Aside0.mk (below_step (by (with_reducible exact HB.out)) hb); (try clear hb); (try clear hb2); (try clear hk); (try clear hi)))
             repeat (go_quiet (fail); try go_wp2_with (fail))
             go_ret2
             exact ⟨by rfl, by (with_reducible apply pw_below_drewN; with_reducible exact HB.out)⟩
           ·rw [if_neg c64] at H
            exact absurd H (by simp)
          ·rw [if_neg c63] at H
           exact absurd H (by simp)
        ·rw [if_neg c54] at H
         exact absurd H (by simp)
    ·rw [if_neg c17] at H
     exact absurd H (by simp)
end Go.Proofs.YtapaijpglfmfgaaGreatDoor.Q
end
section -- Qx19
namespace Go.Proofs.YtapaijpglfmfgaaGreatDoor.Q
open Go.RowKit Go.Proofs.YtapaijpglfmfgaaGreatDoorH Go.Proofs.YtapaijpglfmfgaaGreatDoorG Go.Proofs.YtapaijpglfmfgaaGreatDoorW.PrintWords Go.Proofs.YtapaijpglfmfgaaGreatDoorW.PrintLast Go.Proofs.YtapaijpglfmfgaaGreatDoorW.PrintMore Go.Proofs.YtapaijpglfmfgaaGreatDoorC
attribute [local go_sem] max2_int min2_int max_two min_two max_three min_three max_four min_four
set_option linter.unusedVariables false
set_option linter.unusedSimpArgs false
def spec_AlpineTexts.j0 : Nat → ByteArray → ByteArray → Bool → Option (Bool)
 | 0, _, _, _ => none
 | k + 1, x0, x1, x16 => if x16 = true then (some false) else ((spec_AlpineParse.f k x0).bind fun bt361 => ((spec_AlpineParse.f k x1).bind fun bt377 => ((spec_AlpineKnown.f k bt361.1 bt361.2.1 bt361.2.2.1 bt361.2.2.2.1 bt361.2.2.2.2.1 bt361.2.2.2.2.2.1 bt361.2.2.2.2.2.2.1 bt361.2.2.2.2.2.2.2.1 bt361.2.2.2.2.2.2.2.2.1 bt361.2.2.2.2.2.2.2.2.2.1 bt377.1 bt377.2.1 bt377.2.2.1 bt377.2.2.2.1 bt377.2.2.2.2.1 bt377.2.2.2.2.2.1 bt377.2.2.2.2.2.2.1 bt377.2.2.2.2.2.2.2.1 bt377.2.2.2.2.2.2.2.2.1 bt377.2.2.2.2.2.2.2.2.2.1).bind fun t393 => (some t393))))
def spec_AlpineTexts.f (k : Nat) (a0 : ByteArray) (a1 : ByteArray) : Option (Bool) := (spec_AlpineTextKnown.f k a0).bind fun t359 => (if t359 = true then ((spec_AlpineTextKnown.f k a1).bind fun t360 => (spec_AlpineTexts.j0 k a0 a1 (!t360))) else (spec_AlpineTexts.j0 k a0 a1 true))
set_option maxHeartbeats 8000000 in
set_option maxRecDepth 100000 in
theorem spec_AlpineTexts.calls (k : Nat) (a0 : ByteArray) (a1 : ByteArray) (r : Bool) (w : World) (h : spec_AlpineTexts.f k a0 a1 = some r) :
  Calls Tryz.prog 17 #[.string a0, .string a1] w fun e w' => e = .returned (.bool r) ∧ Below w.heap.size w w' := by
 have hu33 := Tryz.underlying33
 have HB := Aside0.mk (Below.refl w.heap.size w)
 have H : ((spec_AlpineTextKnown.f k a0).bind fun t359 => (if t359 = true then ((spec_AlpineTextKnown.f k a1).bind fun t360 => (spec_AlpineTexts.j0 k a0 a1 (!t360))) else (spec_AlpineTexts.j0 k a0 a1 true))) = some r := h
 clear h
 have HC3 := Aside0.mk H
 clear H
 go_enter Tryz.func17, Tryz.ntmps17
 go_upto_region 1 with (fail)
 go_cut [16] (fun v16 wc => ∃ (kq : Nat) (x16_2 : Bool), v16 = .bool x16_2 ∧ Aside0 (spec_AlpineTexts.j0 kq a0 a1 x16_2 = some r) ∧ Aside0 (kq ≤ k) ∧ Aside0 (Below w.heap.size w wc))
 case first =>
  have H := HC3.out
  clear HC3
  replace H := Option.bind_eq_some_iff.mp H
  obtain ⟨t359, A40, H⟩ := H
  replace H : (if t359 = true then ((spec_AlpineTextKnown.f k a1).bind fun t360 => (spec_AlpineTexts.j0 k a0 a1 (!t360))) else (spec_AlpineTexts.j0 k a0 a1 true)) = some r := H
  have A4 := Aside0.mk A40
  clear A40
  by_cases c5 : t359 = true
  ·subst c5
   have H1 : ((spec_AlpineTextKnown.f k a1).bind fun t360 => (spec_AlpineTexts.j0 k a0 a1 (!t360))) = some r := by rw [if_pos rfl] at H; exact H
   clear H
   have H := H1
   clear H1
   replace H := Option.bind_eq_some_iff.mp H
   obtain ⟨t360, A60, H⟩ := H
   replace H : (spec_AlpineTexts.j0 k a0 a1 (!t360)) = some r := H
   have A6 := Aside0.mk A60
   clear A60
   have H' := Aside0.mk H
   clear H
   go_wp2_with (first | ((with_reducible refine gate_callee (f := 8) rfl ?_); refine goesL_ (some 10) rfl rfl Tryz.func8 (by kernel_rfl) rfl #[.string a0] rfl (by (try simp only [List.map_toArray, List.map_cons, List.map_nil]); first | done | rfl | (simp only [List.length_drop, List.length_take]; rfl)) ?_; (with_reducible refine (spec_AlpineTextKnown.calls k a0 true _ A4.out).mono ?_); rintro e w7 ⟨rfl, hb⟩; refine ⟨_, rfl, ?_⟩; replace HB := Aside0.mk (below_step (by (with_reducible exact HB.out)) hb); (try clear hb); (try clear hb2); (try clear hk); (try clear hi)) | (go_at_call 8; (with_reducible refine (spec_AlpineTextKnown.calls k a1 t360 _ A6.out).mono ?_); rintro e w8 ⟨rfl, hb⟩; replace HB := Aside0.mk (below_step (by (with_reducible exact HB.out)) hb); (try clear hb); (try clear hb2); (try clear hk); (try clear hi)))
   go_meet
   case rel => exact ⟨_, (!t360), (by rfl), H', ⟨by omega⟩, ⟨by (with_reducible exact HB.out)⟩⟩
  ·replace c5 := Bool.eq_false_iff.mpr c5
   subst c5
   have H1 : (spec_AlpineTexts.j0 k a0 a1 true) = some r := by rw [if_neg (show ¬ (false = true) by decide)] at H; exact H
   clear H
   have H := H1
   clear H1
   have H' := Aside0.mk H
   clear H
   go_wp2_with (((with_reducible refine gate_callee (f := 8) rfl ?_); refine goesL_ (some 10) rfl rfl Tryz.func8 (by kernel_rfl) rfl #[.string a0] rfl (by (try simp only [List.map_toArray, List.map_cons, List.map_nil]); first | done | rfl | (simp only [List.length_drop, List.length_take]; rfl)) ?_; (with_reducible refine (spec_AlpineTextKnown.calls k a0 false _ A4.out).mono ?_); rintro e w9 ⟨rfl, hb⟩; refine ⟨_, rfl, ?_⟩; replace HB := Aside0.mk (below_step (by (with_reducible exact HB.out)) hb); (try clear hb); (try clear hb2); (try clear hk); (try clear hi)))
   go_meet
   case rel => exact ⟨_, (true), (by rfl), H', ⟨by omega⟩, ⟨by (with_reducible exact HB.out)⟩⟩
 case rest =>
  clear HC3
  obtain ⟨kq, x16_2, rfl, HA, HJ2, HB⟩ := hcut
  cases kq with
  | zero => exact absurd HA.out (by simp [spec_AlpineTexts.j0])
  | succ kj2 =>
   have H := HA.out
   clear HA
   simp only [spec_AlpineTexts.j0] at H
   by_cases c10 : x16_2 = true
   ·subst c10
    have H1 : (some false) = some r := by rw [if_pos rfl] at H; exact H
    clear H
    have H := H1
    clear H1
    obtain rfl := Option.some.inj H
    go_wp2
    go_ret
    exact ⟨by rfl, by (with_reducible exact HB.out)⟩
   ·replace c10 := Bool.eq_false_iff.mpr c10
    subst c10
    have H1 : ((spec_AlpineParse.f kj2 a0).bind fun bt361 => ((spec_AlpineParse.f kj2 a1).bind fun bt377 => ((spec_AlpineKnown.f kj2 bt361.1 bt361.2.1 bt361.2.2.1 bt361.2.2.2.1 bt361.2.2.2.2.1 bt361.2.2.2.2.2.1 bt361.2.2.2.2.2.2.1 bt361.2.2.2.2.2.2.2.1 bt361.2.2.2.2.2.2.2.2.1 bt361.2.2.2.2.2.2.2.2.2.1 bt377.1 bt377.2.1 bt377.2.2.1 bt377.2.2.2.1 bt377.2.2.2.2.1 bt377.2.2.2.2.2.1 bt377.2.2.2.2.2.2.1 bt377.2.2.2.2.2.2.2.1 bt377.2.2.2.2.2.2.2.2.1 bt377.2.2.2.2.2.2.2.2.2.1).bind fun t393 => (some t393)))) = some r := by rw [if_neg (show ¬ (false = true) by decide)] at H; exact H
    clear H
    have H := H1
    clear H1
    replace H := Option.bind_eq_some_iff.mp H
    obtain ⟨⟨t361, t362, t363, t364, t365, t366, t369, t372, t373, t374, t375⟩, A110, H⟩ := H
    replace H : ((spec_AlpineParse.f kj2 a1).bind fun bt377 => ((spec_AlpineKnown.f kj2 t361 t362 t363 t364 t365 t366 t369 t372 t373 t374 bt377.1 bt377.2.1 bt377.2.2.1 bt377.2.2.2.1 bt377.2.2.2.2.1 bt377.2.2.2.2.2.1 bt377.2.2.2.2.2.2.1 bt377.2.2.2.2.2.2.2.1 bt377.2.2.2.2.2.2.2.2.1 bt377.2.2.2.2.2.2.2.2.2.1).bind fun t393 => (some t393))) = some r := H
    have A11 := Aside0.mk A110
    clear A110
    replace H := Option.bind_eq_some_iff.mp H
    obtain ⟨⟨t377, t378, t379, t380, t381, t382, t385, t388, t389, t390, t391⟩, A120, H⟩ := H
    replace H : ((spec_AlpineKnown.f kj2 t361 t362 t363 t364 t365 t366 t369 t372 t373 t374 t377 t378 t379 t380 t381 t382 t385 t388 t389 t390).bind fun t393 => (some t393)) = some r := H
    have A12 := Aside0.mk A120
    clear A120
    replace H := Option.bind_eq_some_iff.mp H
    obtain ⟨t393, A130, H⟩ := H
    replace H : (some t393) = some r := H
    have A13 := Aside0.mk A130
    clear A130
    obtain rfl := Option.some.inj H
    go_wp2_with (first | ((with_reducible refine gate_callee (f := 15) rfl ?_); refine goesL_ (some 19) rfl rfl Tryz.func15 (by kernel_rfl) rfl #[.string a0] rfl (by (try simp only [List.map_toArray, List.map_cons, List.map_nil]); first | done | rfl | (simp only [List.length_drop, List.length_take]; rfl)) ?_; (with_reducible refine (spec_AlpineParse.calls kj2 a0 t361 t362 t363 t364 t365 t366 t369 t372 t373 t374 t375 _ A11.out).mono ?_); rintro e w14 ⟨v367, v370, rfl, ho0, ho1, hb⟩; refine ⟨_, rfl, ?_⟩; have HO368 := Aside0.mk (Kd.R_lower ho0 (below_size (by (with_reducible exact HB.out)))); have HO371 := Aside0.mk (Kd.R_lower ho1 (below_size (by (with_reducible exact HB.out)))); replace HB := Aside0.mk (below_step (by (with_reducible exact HB.out)) hb); (try clear hb); (try clear hb2); (try clear hk); (try clear hi); (try clear ho0); (try clear ho1)) | ((with_reducible refine gate_dst (N := 5) rfl ?_); refine box_event ?hg (N := 5) ?hd (cs := #[.string ⟨#[]⟩, .string ⟨#[]⟩, .string ⟨#[]⟩, .string ⟨#[]⟩, .bool false, .slice none 0 0, .slice none 0 0, .bool false, .bool false, .string ⟨#[]⟩]) (t := 33) ?hr ?_; (case hd => rfl); (case hg => rfl); (case hr => first | (go_simp; done) | (go_simp; rfl)); intro gb376 hg w15 hbox hb; replace HO368 := Aside0.mk (Kd.R_below (by (with_reducible repeat (first | apply Kd.R_alloc | apply Kd.R_drewN | apply Kd.R_drew)); exact HO368.out) hb); replace HO371 := Aside0.mk (Kd.R_below (by (with_reducible repeat (first | apply Kd.R_alloc | apply Kd.R_drewN | apply Kd.R_drew)); exact HO371.out) hb); have BK376 := Aside0.mk hbox; have GW376 := Aside0.mk ((by rw [hg]; exact (below_size (by (with_reducible exact HB.out))) : w.heap.size ≤ gb376)); have GE376 := Aside0.mk ((by rw [hg]; exact (below_size (by (with_reducible exact HB.out))) : w.heap.size ≤ gb376)); replace HB := Aside0.mk (below_step (by (with_reducible exact HB.out)) hb); clear hb hbox hg; obtain ⟨hcz16_0, hcz16_1, hcz16_2, hcz16_3, hcz16_4, hcz16_5, hcz16_6, hcz16_7, hcz16_8, hcz16_9, hfz16_0, hfz16_1, hfz16_2, hfz16_3, hfz16_4, hfz16_5, hfz16_6, hfz16_7, hfz16_8, hfz16_9⟩ := cl10 BK376.out; obtain ⟨Ao17, co17, eo17⟩ := Kd.R_slice HO368.out; subst eo17; obtain ⟨Ao18, co18, eo18⟩ := Kd.R_slice HO371.out; subst eo18) | ((with_reducible refine gate_callee (f := 15) rfl ?_); refine goesL_ (some 24) rfl rfl Tryz.func15 (by kernel_rfl) rfl #[.string a1] rfl (by (try simp only [List.map_toArray, List.map_cons, List.map_nil]); first | done | rfl | (simp only [List.length_drop, List.length_take]; rfl)) ?_; (with_reducible refine (spec_AlpineParse.calls kj2 a1 t377 t378 t379 t380 t381 t382 t385 t388 t389 t390 t391 _ A12.out).mono ?_); rintro e w19 ⟨v383, v386, rfl, ho0, ho1, hb⟩; refine ⟨_, rfl, ?_⟩; have n0_ := Aside0.mk (Kd.R_elder' (by (with_reducible repeat (first | apply Kd.R_alloc | apply Kd.R_drewN | apply Kd.R_drew)); exact (Kd.R_mono (farC (farC (farC (farC (farC (farC (farC (farC (farC (farC (Kd.R_types HO368.out BK376.out (by decide)))))))))))) (fun _ h_ => h_.1))) (Kd.R_base ho0) hb); have n1_ := Aside0.mk (Kd.R_elder' (by (with_reducible repeat (first | apply Kd.R_alloc | apply Kd.R_drewN | apply Kd.R_drew)); exact (Kd.R_mono (farC (farC (farC (farC (farC (farC (farC (farC (farC (farC (Kd.R_types HO371.out BK376.out (by decide)))))))))))) (fun _ h_ => h_.1))) (Kd.R_base ho1) hb); have n2_ := Aside0.mk (Kd.R_lower (Kd.R_new' ho0 (Kd.R_lt (by (with_reducible repeat (first | apply Kd.R_alloc | apply Kd.R_drewN | apply Kd.R_drew)); exact (Kd.R_mono (farC (farC (farC (farC (farC (farC (farC (farC (farC (farC (Kd.R_types HO368.out BK376.out (by decide)))))))))))) (fun _ h_ => h_.1))))) (below_size (by repeat (first | (with_reducible first | exact HB.out | apply below_alloc | apply pw_below_drewN | apply below_drew1 | refine below_set ?_ GE376.out) | exact HB.out)))); have n3_ := Aside0.mk (Kd.R_lower (Kd.R_new' ho1 (Kd.R_lt (by (with_reducible repeat (first | apply Kd.R_alloc | apply Kd.R_drewN | apply Kd.R_drew)); exact (Kd.R_mono (farC (farC (farC (farC (farC (farC (farC (farC (farC (farC (Kd.R_types HO371.out BK376.out (by decide)))))))))))) (fun _ h_ => h_.1))))) (below_size (by repeat (first | (with_reducible first | exact HB.out | apply below_alloc | apply pw_below_drewN | apply below_drew1 | refine below_set ?_ GE376.out) | exact HB.out)))); have n4_ := Aside0.mk (blk_below (g := gb376) (o := .cells #[.string t361, .string t362, .string t363, .string t364, .bool t365, .slice Ao17 t366.length co17, .slice Ao18 t369.length co18, .bool t372, .bool t373, .string t374] 33 (0, 0)) (by refine blk_put (cs := #[.string t361, .string t362, .string t363, .string t364, .bool t365, .slice Ao17 t366.length co17, .slice Ao18 t369.length co18, .bool t372, .bool t373, .string ⟨#[]⟩]) ?_ 9 _ rfl; refine blk_put (cs := #[.string t361, .string t362, .string t363, .string t364, .bool t365, .slice Ao17 t366.length co17, .slice Ao18 t369.length co18, .bool t372, .bool false, .string ⟨#[]⟩]) ?_ 8 _ rfl; refine blk_put (cs := #[.string t361, .string t362, .string t363, .string t364, .bool t365, .slice Ao17 t366.length co17, .slice Ao18 t369.length co18, .bool false, .bool false, .string ⟨#[]⟩]) ?_ 7 _ rfl; refine blk_put (cs := #[.string t361, .string t362, .string t363, .string t364, .bool t365, .slice Ao17 t366.length co17, .slice none 0 0, .bool false, .bool false, .string ⟨#[]⟩]) ?_ 6 _ rfl; refine blk_put (cs := #[.string t361, .string t362, .string t363, .string t364, .bool t365, .slice none 0 0, .slice none 0 0, .bool false, .bool false, .string ⟨#[]⟩]) ?_ 5 _ rfl; refine blk_put (cs := #[.string t361, .string t362, .string t363, .string t364, .bool false, .slice none 0 0, .slice none 0 0, .bool false, .bool false, .string ⟨#[]⟩]) ?_ 4 _ rfl; refine blk_put (cs := #[.string t361, .string t362, .string t363, .string ⟨#[]⟩, .bool false, .slice none 0 0, .slice none 0 0, .bool false, .bool false, .string ⟨#[]⟩]) ?_ 3 _ rfl; refine blk_put (cs := #[.string t361, .string t362, .string ⟨#[]⟩, .string ⟨#[]⟩, .bool false, .slice none 0 0, .slice none 0 0, .bool false, .bool false, .string ⟨#[]⟩]) ?_ 2 _ rfl; refine blk_put (cs := #[.string t361, .string ⟨#[]⟩, .string ⟨#[]⟩, .string ⟨#[]⟩, .bool false, .slice none 0 0, .slice none 0 0, .bool false, .bool false, .string ⟨#[]⟩]) ?_ 1 _ rfl; refine blk_put (cs := #[.string ⟨#[]⟩, .string ⟨#[]⟩, .string ⟨#[]⟩, .string ⟨#[]⟩, .bool false, .slice none 0 0, .slice none 0 0, .bool false, .bool false, .string ⟨#[]⟩]) ?_ 0 _ rfl; exact BK376.out) hb); have n5_ := Aside0.mk (below_step (by repeat (first | (with_reducible first | exact HB.out | apply below_alloc | apply pw_below_drewN | apply below_drew1 | refine below_set ?_ GE376.out) | exact HB.out)) hb); clear HO368; clear HO371; clear BK376; clear HB; have HO368 := n0_; have HO371 := n1_; have HO384 := n2_; have HO387 := n3_; have BK376 := n4_; have HB := n5_; clear n0_ n1_ n2_ n3_ n4_ n5_; (try clear hb); (try clear hb2); (try clear hk); (try clear hi); (try clear ho0); (try clear ho1)) | ((with_reducible refine gate_dst (N := 7) rfl ?_); refine box_event ?hg (N := 7) ?hd (cs := #[.string ⟨#[]⟩, .string ⟨#[]⟩, .string ⟨#[]⟩, .string ⟨#[]⟩, .bool false, .slice none 0 0, .slice none 0 0, .bool false, .bool false, .string ⟨#[]⟩]) (t := 33) ?hr ?_; (case hd => rfl); (case hg => rfl); (case hr => first | (go_simp; done) | (go_simp; rfl)); intro gb392 hg w20 hbox hb; have n0_ := Aside0.mk (Kd.R_below (by (with_reducible repeat (first | apply Kd.R_alloc | apply Kd.R_drewN | apply Kd.R_drew)); exact HO368.out) hb); have n1_ := Aside0.mk (Kd.R_below (by (with_reducible repeat (first | apply Kd.R_alloc | apply Kd.R_drewN | apply Kd.R_drew)); exact HO371.out) hb); have n2_ := Aside0.mk (Kd.R_below (by (with_reducible repeat (first | apply Kd.R_alloc | apply Kd.R_drewN | apply Kd.R_drew)); exact HO384.out) hb); have n3_ := Aside0.mk (Kd.R_below (by (with_reducible repeat (first | apply Kd.R_alloc | apply Kd.R_drewN | apply Kd.R_drew)); exact HO387.out) hb); have n4_ := Aside0.mk (blk_below (g := gb376) (o := .cells #[.string t361, .string t362, .string t363, .string t364, .bool t365, .slice Ao17 t366.length co17, .slice Ao18 t369.length co18, .bool t372, .bool t373, .string t374] 33 (0, 0)) (by exact BK376.out) hb); have n5_ := Aside0.mk (below_step (by (with_reducible exact HB.out)) hb); have n6_ := Aside0.mk hbox; have n7_ := Aside0.mk ((by rw [hg]; exact (below_size (by (with_reducible exact HB.out))) : w.heap.size ≤ gb392)); have n8_ := Aside0.mk ((by rw [hg]; exact (below_size (by (with_reducible exact HB.out))) : w.heap.size ≤ gb392)); have n9_ := Aside0.mk ((by rw [hg]; exact Nat.ne_of_lt (blk_lt (g := gb376) (o := .cells #[.string t361, .string t362, .string t363, .string t364, .bool t365, .slice Ao17 t366.length co17, .slice Ao18 t369.length co18, .bool t372, .bool t373, .string t374] 33 (0, 0)) (by exact BK376.out)) : gb376 ≠ gb392)); have n10_ := Aside0.mk ((by rw [hg]; exact Nat.ne_of_gt (blk_lt (g := gb376) (o := .cells #[.string t361, .string t362, .string t363, .string t364, .bool t365, .slice Ao17 t366.length co17, .slice Ao18 t369.length co18, .bool t372, .bool t373, .string t374] 33 (0, 0)) (by exact BK376.out)) : gb392 ≠ gb376)); clear HO368; clear HO371; clear HO384; clear HO387; clear BK376; clear HB; have HO368 := n0_; have HO371 := n1_; have HO384 := n2_; have HO387 := n3_; have BK376 := n4_; have HB := n5_; have BK392 := n6_; have GW392 := n7_; have GE392 := n8_; have NB376_392 := n9_; have NB392_376 := n10_; clear n0_ n1_ n2_ n3_ n4_ n5_ n6_ n7_ n8_ n9_ n10_; clear hb hbox hg; have hnb21 := NB392_376.out; have hnc21 := NB376_392.out; obtain ⟨hcz22_0, hcz22_1, hcz22_2, hcz22_3, hcz22_4, hcz22_5, hcz22_6, hcz22_7, hcz22_8, hcz22_9, hfz22_0, hfz22_1, hfz22_2, hfz22_3, hfz22_4, hfz22_5, hfz22_6, hfz22_7, hfz22_8, hfz22_9⟩ := cl10 BK392.out; obtain ⟨Ao23, co23, eo23⟩ := Kd.R_slice HO384.out; subst eo23; obtain ⟨Ao24, co24, eo24⟩ := Kd.R_slice HO387.out; subst eo24; obtain ⟨hcz25_0, hcz25_1, hcz25_2, hcz25_3, hcz25_4, hcz25_5, hcz25_6, hcz25_7, hcz25_8, hcz25_9, hfz25_0, hfz25_1, hfz25_2, hfz25_3, hfz25_4, hfz25_5, hfz25_6, hfz25_7, hfz25_8, hfz25_9⟩ := cl10 BK376.out) | ((with_reducible refine gate_callee (f := 9) rfl ?_); refine goesL_ (some 29) rfl rfl Tryz.func9 (by kernel_rfl) rfl #[.agg #[.string t361, .string t362, .string t363, .string t364, .bool t365, .slice Ao17 t366.length co17, .slice Ao18 t369.length co18, .bool t372, .bool t373, .string t374], .agg #[.string t377, .string t378, .string t379, .string t380, .bool t381, .slice Ao23 t382.length co23, .slice Ao24 t385.length co24, .bool t388, .bool t389, .string t390]] rfl (by (try simp only [List.map_toArray, List.map_cons, List.map_nil]); first | done | rfl | (simp only [List.length_drop, List.length_take]; rfl)) ?_; (with_reducible refine (spec_AlpineKnown.calls kj2 t361 t362 t363 t364 t365 _ _ t366 _ _ t369 t372 t373 t374 t377 t378 t379 t380 t381 _ _ t382 _ _ t385 t388 t389 t390 t393 _ ?side1 ?side2 ?side3 ?side4 ?side5 ?side6 ?side7 ?side8 A13.out).mono ?_); (case side1 => refine (Kd.R_reads' (e := 52) (base := w.heap.size) (ok := fun k_ => (True ∧ some k_ ≠ (.slice Ao23 t382.length co23 : Value).ownBlock)) (n := t366.length) (c := co17) ?_).2.2; exact (by (with_reducible repeat (first | apply Kd.R_alloc | apply Kd.R_drewN | apply Kd.R_drew)); exact (Kd.R_mono (farC (farC (farC (farC (farC (farC (farC (farC (farC (farC (Kd.R_types HO368.out BK392.out (by decide)))))))))))) (fun _ h_ => h_.1)))); (case side2 => exact (Kd.R_reads' HO368.out).2.1); (case side3 => refine (Kd.R_reads' (e := 56) (base := w.heap.size) (ok := fun k_ => (True ∧ some k_ ≠ (.slice Ao24 t385.length co24 : Value).ownBlock)) (n := t369.length) (c := co18) ?_).2.2; exact (by (with_reducible repeat (first | apply Kd.R_alloc | apply Kd.R_drewN | apply Kd.R_drew)); exact (Kd.R_mono (farC (farC (farC (farC (farC (farC (farC (farC (farC (farC (Kd.R_types HO371.out BK392.out (by decide)))))))))))) (fun _ h_ => h_.1)))); (case side4 => exact (Kd.R_reads' HO371.out).2.1); (case side5 => refine (Kd.R_reads' (e := 52) (base := w.heap.size) (ok := fun k_ => (True ∧ some k_ ≠ (.slice Ao17 t366.length co17 : Value).ownBlock)) (n := t382.length) (c := co23) ?_).2.2; exact (by (with_reducible repeat (first | apply Kd.R_alloc | apply Kd.R_drewN | apply Kd.R_drew)); exact (Kd.R_mono (farC (farC (farC (farC (farC (farC (farC (farC (farC (farC (Kd.R_types HO384.out BK392.out (by decide)))))))))))) (fun _ h_ => h_.1)))); (case side6 => exact (Kd.R_reads' HO384.out).2.1); (case side7 => refine (Kd.R_reads' (e := 56) (base := w.heap.size) (ok := fun k_ => (True ∧ some k_ ≠ (.slice Ao18 t369.length co18 : Value).ownBlock)) (n := t385.length) (c := co24) ?_).2.2; exact (by (with_reducible repeat (first | apply Kd.R_alloc | apply Kd.R_drewN | apply Kd.R_drew)); exact (Kd.R_mono (farC (farC (farC (farC (farC (farC (farC (farC (farC (farC (Kd.R_types HO387.out BK392.out (by decide)))))))))))) (fun _ h_ => h_.1)))); (case side8 => exact (Kd.R_reads' HO387.out).2.1); rintro e w26 ⟨rfl, hb⟩; refine ⟨_, rfl, ?_⟩; replace HO368 := Aside0.mk (Kd.R_below (by (with_reducible repeat (first | apply Kd.R_alloc | apply Kd.R_drewN | apply Kd.R_drew)); exact (Kd.R_mono (farC (farC (farC (farC (farC (farC (farC (farC (farC (farC (Kd.R_types HO368.out BK392.out (by decide)))))))))))) (fun _ h_ => h_.1))) hb); replace HO371 := Aside0.mk (Kd.R_below (by (with_reducible repeat (first | apply Kd.R_alloc | apply Kd.R_drewN | apply Kd.R_drew)); exact (Kd.R_mono (farC (farC (farC (farC (farC (farC (farC (farC (farC (farC (Kd.R_types HO371.out BK392.out (by decide)))))))))))) (fun _ h_ => h_.1))) hb); replace HO384 := Aside0.mk (Kd.R_below (by (with_reducible repeat (first | apply Kd.R_alloc | apply Kd.R_drewN | apply Kd.R_drew)); exact (Kd.R_mono (farC (farC (farC (farC (farC (farC (farC (farC (farC (farC (Kd.R_types HO384.out BK392.out (by decide)))))))))))) (fun _ h_ => h_.1))) hb); replace HO387 := Aside0.mk (Kd.R_below (by (with_reducible repeat (first | apply Kd.R_alloc | apply Kd.R_drewN | apply Kd.R_drew)); exact (Kd.R_mono (farC (farC (farC (farC (farC (farC (farC (farC (farC (farC (Kd.R_types HO387.out BK392.out (by decide)))))))))))) (fun _ h_ => h_.1))) hb); replace BK376 := Aside0.mk (blk_below (g := gb376) (o := .cells #[.string t361, .string t362, .string t363, .string t364, .bool t365, .slice Ao17 t366.length co17, .slice Ao18 t369.length co18, .bool t372, .bool t373, .string t374] 33 (0, 0)) (by refine blk_far ?_ NB376_392.out _; refine blk_far ?_ NB376_392.out _; refine blk_far ?_ NB376_392.out _; refine blk_far ?_ NB376_392.out _; refine blk_far ?_ NB376_392.out _; refine blk_far ?_ NB376_392.out _; refine blk_far ?_ NB376_392.out _; refine blk_far ?_ NB376_392.out _; refine blk_far ?_ NB376_392.out _; refine blk_far ?_ NB376_392.out _; exact BK376.out) hb); replace BK392 := Aside0.mk (blk_below (g := gb392) (o := .cells #[.string t377, .string t378, .string t379, .string t380, .bool t381, .slice Ao23 t382.length co23, .slice Ao24 t385.length co24, .bool t388, .bool t389, .string t390] 33 (0, 0)) (by refine blk_put (cs := #[.string t377, .string t378, .string t379, .string t380, .bool t381, .slice Ao23 t382.length co23, .slice Ao24 t385.length co24, .bool t388, .bool t389, .string ⟨#[]⟩]) ?_ 9 _ rfl; refine blk_put (cs := #[.string t377, .string t378, .string t379, .string t380, .bool t381, .slice Ao23 t382.length co23, .slice Ao24 t385.length co24, .bool t388, .bool false, .string ⟨#[]⟩]) ?_ 8 _ rfl; refine blk_put (cs := #[.string t377, .string t378, .string t379, .string t380, .bool t381, .slice Ao23 t382.length co23, .slice Ao24 t385.length co24, .bool false, .bool false, .string ⟨#[]⟩]) ?_ 7 _ rfl; refine blk_put (cs := #[.string t377, .string t378, .string t379, .string t380, .bool t381, .slice Ao23 t382.length co23, .slice none 0 0, .bool false, .bool false, .string ⟨#[]⟩]) ?_ 6 _ rfl; refine blk_put (cs := #[.string t377, .string t378, .string t379, .string t380, .bool t381, .slice none 0 0, .slice none 0 0, .bool false, .bool false, .string ⟨#[]⟩]) ?_ 5 _ rfl; refine blk_put (cs := #[.string t377, .string t378, .string t379, .string t380, .bool false, .slice none 0 0, .slice none 0 0, .bool false, .bool false, .string ⟨#[]⟩]) ?_ 4 _ rfl; refine blk_put (cs := #[.string t377, .string t378, .string t379, .string ⟨#[]⟩, .bool false, .slice none 0 0, .slice none 0 0, .bool false, .bool false, .string ⟨#[]⟩]) ?_ 3 _ rfl; refine blk_put (cs := #[.string t377, .string t378, .string ⟨#[]⟩, .string ⟨#[]⟩, .bool false, .slice none 0 0, .slice none 0 0, .bool false, .bool false, .string ⟨#[]⟩]) ?_ 2 _ rfl; refine blk_put (cs := #[.string t377, .string ⟨#[]⟩, .string ⟨#[]⟩, .string ⟨#[]⟩, .bool false, .slice none 0 0, .slice none 0 0, .bool false, .bool false, .string ⟨#[]⟩]) ?_ 1 _ rfl; refine blk_put (cs := #[.string ⟨#[]⟩, .string ⟨#[]⟩, .string ⟨#[]⟩, .string ⟨#[]⟩, .bool false, .slice none 0 0, .slice none 0 0, .bool false, .bool false, .string ⟨#[]⟩]) ?_ 0 _ rfl; exact BK392.out) hb); replace HB := Aside0.mk (below_step (by repeat (first | (with_reducible first | exact HB.out | apply below_alloc | apply pw_below_drewN | apply below_drew1 | refine below_set ?_ GE376.out | refine below_set ?_ GE392.out) | exact HB.out)) hb); (try clear hb); (try clear hb2); (try clear hk); (try clear hi)))
    go_ret
    exact ⟨by rfl, by (with_reducible exact HB.out)⟩
end Go.Proofs.YtapaijpglfmfgaaGreatDoor.Q
end
section -- Qx1
namespace Go.Proofs.YtapaijpglfmfgaaGreatDoor.Q
open Go.RowKit Go.Proofs.YtapaijpglfmfgaaGreatDoorH Go.Proofs.YtapaijpglfmfgaaGreatDoorG Go.Proofs.YtapaijpglfmfgaaGreatDoorW.PrintWords Go.Proofs.YtapaijpglfmfgaaGreatDoorW.PrintLast Go.Proofs.YtapaijpglfmfgaaGreatDoorW.PrintMore
attribute [local go_sem] max2_int min2_int max_two min_two max_three min_three max_four min_four
set_option linter.unusedVariables false
set_option linter.unusedSimpArgs false
theorem eqA31 (d : Nat) (w : World) (x0 y0 : Bool) (x1 y1 : ByteArray) :
  (Op.equalIn (d + 2) 31 (.agg #[.bool x0, .string x1]) (.agg #[.bool y0, .string y1])).run Tryz.prog w = .ok (x0 == y0 && (x1.toList == y1.toList)) w := by
 refine eqA_of Tryz.underlying31 (by kernel_rfl) ?_
 refine eqf_cons (by rfl) (by go_simp; rfl) (by go_simp; rfl) (by go_simp) ?_
 exact eqf_last (by rfl) (by go_simp; rfl) (by go_simp; rfl) (by go_simp)
end Go.Proofs.YtapaijpglfmfgaaGreatDoor.Q
end
section -- Qx2
namespace Go.Proofs.YtapaijpglfmfgaaGreatDoor.Q
open Go.RowKit Go.Proofs.YtapaijpglfmfgaaGreatDoorH Go.Proofs.YtapaijpglfmfgaaGreatDoorG Go.Proofs.YtapaijpglfmfgaaGreatDoorW.PrintWords Go.Proofs.YtapaijpglfmfgaaGreatDoorW.PrintLast Go.Proofs.YtapaijpglfmfgaaGreatDoorW.PrintMore
attribute [local go_sem] max2_int min2_int max_two min_two max_three min_three max_four min_four
set_option linter.unusedVariables false
set_option linter.unusedSimpArgs false
theorem eqA52 (d : Nat) (w : World) (x0 y0 : ByteArray) (x1 y1 : Bool) (x2 y2 : ByteArray) (x3 y3 : Int) :
  (Op.equalIn (d + 3) 52 (.agg #[.string x0, .bool x1, .string x2, .int .i64 x3]) (.agg #[.string y0, .bool y1, .string y2, .int .i64 y3])).run Tryz.prog w = .ok (x0.toList == y0.toList && ((x1 == y1 && (x2.toList == y2.toList)) && (x3 == y3))) w := by
 refine eqA_of Tryz.underlying52 (by kernel_rfl) ?_
 refine eqf_cons (by rfl) (by go_simp; rfl) (by go_simp; rfl) (by go_simp) ?_
 refine eqf_cons (by rfl) (by go_simp) (by go_simp) (eqA31 (d + 0) w _ _ _ _) ?_
 exact eqf_last (by rfl) (by go_simp; rfl) (by go_simp; rfl) (by go_simp)
end Go.Proofs.YtapaijpglfmfgaaGreatDoor.Q
end
section -- Qx3
namespace Go.Proofs.YtapaijpglfmfgaaGreatDoor.Q
open Go.RowKit Go.Proofs.YtapaijpglfmfgaaGreatDoorH Go.Proofs.YtapaijpglfmfgaaGreatDoorG Go.Proofs.YtapaijpglfmfgaaGreatDoorW.PrintWords Go.Proofs.YtapaijpglfmfgaaGreatDoorW.PrintLast Go.Proofs.YtapaijpglfmfgaaGreatDoorW.PrintMore
attribute [local go_sem] max2_int min2_int max_two min_two max_three min_three max_four min_four
set_option linter.unusedVariables false
set_option linter.unusedSimpArgs false
theorem eqA56 (d : Nat) (w : World) (x0 y0 : Int) (x1 y1 : Bool) (x2 y2 : ByteArray) :
  (Op.equalIn (d + 3) 56 (.agg #[.int .i64 x0, .bool x1, .string x2]) (.agg #[.int .i64 y0, .bool y1, .string y2])).run Tryz.prog w = .ok (x0 == y0 && ((x1 == y1 && (x2.toList == y2.toList)))) w := by
 refine eqA_of Tryz.underlying56 (by kernel_rfl) ?_
 refine eqf_cons (by rfl) (by go_simp; rfl) (by go_simp; rfl) (by go_simp) ?_
 exact eqf_last (by rfl) (by go_simp) (by go_simp) (eqA31 (d + 0) w _ _ _ _)
end Go.Proofs.YtapaijpglfmfgaaGreatDoor.Q
end
section -- Qx20
namespace Go.Proofs.YtapaijpglfmfgaaGreatDoor.Q
open Go.RowKit Go.Proofs.YtapaijpglfmfgaaGreatDoorH Go.Proofs.YtapaijpglfmfgaaGreatDoorG Go.Proofs.YtapaijpglfmfgaaGreatDoorW.PrintWords Go.Proofs.YtapaijpglfmfgaaGreatDoorW.PrintLast Go.Proofs.YtapaijpglfmfgaaGreatDoorW.PrintMore Go.Proofs.YtapaijpglfmfgaaGreatDoorC
attribute [local go_sem] max2_int min2_int max_two min_two max_three min_three max_four min_four
set_option linter.unusedVariables false
set_option linter.unusedSimpArgs false
attribute [local go_sem high] eqA31 eqA52 eqA56
mutual
def laws_alpine.j0 : Nat → Bool → ByteArray → ByteArray → ByteArray → ByteArray → Bool → List (S52) → List (S56) → Bool → Bool → ByteArray → ByteArray → ByteArray → ByteArray → ByteArray → Bool → List (S52) → List (S56) → Bool → Bool → ByteArray → Option (Bool)
 | 0, _, _, _, _, _, _, _, _, _, _, _, _, _, _, _, _, _, _, _, _, _ => none
 | k + 1, x53, x395000, x395001, x395002, x395003, x395004, x395005, x395006, x395007, x395008, x395009, x396000, x396001, x396002, x396003, x396004, x396005, x396006, x396007, x396008, x396009 => if x53 = true then (some false) else (if (x395005.length : Int) = (x396005.length : Int) then (laws_alpine.j1 k ((x395006.length : Int) != (x396006.length : Int)) x395000 x395001 x395002 x395003 x395004 x395005 x395006 x395007 x395008 x395009 x396000 x396001 x396002 x396003 x396004 x396005 x396006 x396007 x396008 x396009) else (laws_alpine.j1 k true x395000 x395001 x395002 x395003 x395004 x395005 x395006 x395007 x395008 x395009 x396000 x396001 x396002 x396003 x396004 x396005 x396006 x396007 x396008 x396009))
def laws_alpine.j1 : Nat → Bool → ByteArray → ByteArray → ByteArray → ByteArray → Bool → List (S52) → List (S56) → Bool → Bool → ByteArray → ByteArray → ByteArray → ByteArray → ByteArray → Bool → List (S52) → List (S56) → Bool → Bool → ByteArray → Option (Bool)
 | 0, _, _, _, _, _, _, _, _, _, _, _, _, _, _, _, _, _, _, _, _, _ => none
 | k + 1, x69, x395000, x395001, x395002, x395003, x395004, x395005, x395006, x395007, x395008, x395009, x396000, x396001, x396002, x396003, x396004, x396005, x396006, x396007, x396008, x396009 => if x69 = true then (some false) else (laws_alpine.l0 k (x395005.length : Int) 0 x395000 x395001 x395002 x395003 x395004 x395005 x395006 x395007 x395008 x395009 x396000 x396001 x396002 x396003 x396004 x396005 x396006 x396007 x396008 x396009)
def laws_alpine.l0 : Nat → Int → Int → ByteArray → ByteArray → ByteArray → ByteArray → Bool → List (S52) → List (S56) → Bool → Bool → ByteArray → ByteArray → ByteArray → ByteArray → ByteArray → Bool → List (S52) → List (S56) → Bool → Bool → ByteArray → Option (Bool)
 | 0, _, _, _, _, _, _, _, _, _, _, _, _, _, _, _, _, _, _, _, _, _, _ => none
 | k + 1, x72, x73, x395000, x395001, x395002, x395003, x395004, x395005, x395006, x395007, x395008, x395009, x396000, x396001, x396002, x396003, x396004, x396005, x396006, x396007, x396008, x396009 => if x73 < x72 then (if 0 ≤ x73 then (if x73 < (x395005.length : Int) then (if x73 < (x396005.length : Int) then (if (!((((rd_T52 x395005 x73).f0).toList) == (((rd_T52 x396005 x73).f0).toList)) || ((!(((rd_T52 x395005 x73).f1.f0) == ((rd_T52 x396005 x73).f1.f0)) || (!((((rd_T52 x395005 x73).f1.f1).toList) == (((rd_T52 x396005 x73).f1.f1).toList)))) || (!(((rd_T52 x395005 x73).f2) == ((rd_T52 x396005 x73).f2))))) = true then (some false) else (laws_alpine.l0 k x72 (wrap64 (x73 + 1)) x395000 x395001 x395002 x395003 x395004 x395005 x395006 x395007 x395008 x395009 x396000 x396001 x396002 x396003 x396004 x396005 x396006 x396007 x396008 x396009)) else (none)) else (none)) else (none)) else (laws_alpine.l1 k (x395006.length : Int) 0 x395000 x395001 x395002 x395003 x395004 x395005 x395006 x395007 x395008 x395009 x396000 x396001 x396002 x396003 x396004 x396005 x396006 x396007 x396008 x396009)
def laws_alpine.l1 : Nat → Int → Int → ByteArray → ByteArray → ByteArray → ByteArray → Bool → List (S52) → List (S56) → Bool → Bool → ByteArray → ByteArray → ByteArray → ByteArray → ByteArray → Bool → List (S52) → List (S56) → Bool → Bool → ByteArray → Option (Bool)
 | 0, _, _, _, _, _, _, _, _, _, _, _, _, _, _, _, _, _, _, _, _, _, _ => none
 | k + 1, x90, x91, x395000, x395001, x395002, x395003, x395004, x395005, x395006, x395007, x395008, x395009, x396000, x396001, x396002, x396003, x396004, x396005, x396006, x396007, x396008, x396009 => if x91 < x90 then (if 0 ≤ x91 then (if x91 < (x395006.length : Int) then (if x91 < (x396006.length : Int) then (if (!(((rd_T56 x395006 x91).f0) == ((rd_T56 x396006 x91).f0)) || ((!(((rd_T56 x395006 x91).f1.f0) == ((rd_T56 x396006 x91).f1.f0)) || (!((((rd_T56 x395006 x91).f1.f1).toList) == (((rd_T56 x396006 x91).f1.f1).toList)))))) = true then (some false) else (laws_alpine.l1 k x90 (wrap64 (x91 + 1)) x395000 x395001 x395002 x395003 x395004 x395005 x395006 x395007 x395008 x395009 x396000 x396001 x396002 x396003 x396004 x396005 x396006 x396007 x396008 x396009)) else (none)) else (none)) else (none)) else (some true)
end
def laws_alpine.f (k : Nat) (a0_0 : ByteArray) (a0_1 : ByteArray) (a0_2 : ByteArray) (a0_3 : ByteArray) (a0_4 : Bool) (l0_5 : List (S52)) (l0_6 : List (S56)) (a0_7 : Bool) (a0_8 : Bool) (a0_9 : ByteArray) (a1_0 : ByteArray) (a1_1 : ByteArray) (a1_2 : ByteArray) (a1_3 : ByteArray) (a1_4 : Bool) (l1_5 : List (S52)) (l1_6 : List (S56)) (a1_7 : Bool) (a1_8 : Bool) (a1_9 : ByteArray) : Option (Bool) := if a0_0.toList = a1_0.toList then (if a0_1.toList = a1_1.toList then (if a0_2.toList = a1_2.toList then (if a0_3.toList = a1_3.toList then (if (a0_4 != a1_4) = true then (laws_alpine.j0 k true a0_0 a0_1 a0_2 a0_3 a0_4 l0_5 l0_6 a0_7 a0_8 a0_9 a1_0 a1_1 a1_2 a1_3 a1_4 l1_5 l1_6 a1_7 a1_8 a1_9) else (if (a0_7 != a1_7) = true then (laws_alpine.j0 k true a0_0 a0_1 a0_2 a0_3 a0_4 l0_5 l0_6 a0_7 a0_8 a0_9 a1_0 a1_1 a1_2 a1_3 a1_4 l1_5 l1_6 a1_7 a1_8 a1_9) else (laws_alpine.j0 k (!(a0_8 == a1_8) || (!(a0_9.toList == a1_9.toList))) a0_0 a0_1 a0_2 a0_3 a0_4 l0_5 l0_6 a0_7 a0_8 a0_9 a1_0 a1_1 a1_2 a1_3 a1_4 l1_5 l1_6 a1_7 a1_8 a1_9))) else (laws_alpine.j0 k true a0_0 a0_1 a0_2 a0_3 a0_4 l0_5 l0_6 a0_7 a0_8 a0_9 a1_0 a1_1 a1_2 a1_3 a1_4 l1_5 l1_6 a1_7 a1_8 a1_9)) else (laws_alpine.j0 k true a0_0 a0_1 a0_2 a0_3 a0_4 l0_5 l0_6 a0_7 a0_8 a0_9 a1_0 a1_1 a1_2 a1_3 a1_4 l1_5 l1_6 a1_7 a1_8 a1_9)) else (laws_alpine.j0 k true a0_0 a0_1 a0_2 a0_3 a0_4 l0_5 l0_6 a0_7 a0_8 a0_9 a1_0 a1_1 a1_2 a1_3 a1_4 l1_5 l1_6 a1_7 a1_8 a1_9)) else (laws_alpine.j0 k true a0_0 a0_1 a0_2 a0_3 a0_4 l0_5 l0_6 a0_7 a0_8 a0_9 a1_0 a1_1 a1_2 a1_3 a1_4 l1_5 l1_6 a1_7 a1_8 a1_9)
set_option maxHeartbeats 8000000 in
set_option maxRecDepth 100000 in
theorem laws_alpine.calls (k : Nat) (a0_0 : ByteArray) (a0_1 : ByteArray) (a0_2 : ByteArray) (a0_3 : ByteArray) (a0_4 : Bool) (A0_5 : Option Addr) (c0_5 : Nat) (l0_5 : List (S52)) (A0_6 : Option Addr) (c0_6 : Nat) (l0_6 : List (S56)) (a0_7 : Bool) (a0_8 : Bool) (a0_9 : ByteArray) (a1_0 : ByteArray) (a1_1 : ByteArray) (a1_2 : ByteArray) (a1_3 : ByteArray) (a1_4 : Bool) (A1_5 : Option Addr) (c1_5 : Nat) (l1_5 : List (S52)) (A1_6 : Option Addr) (c1_6 : Nat) (l1_6 : List (S56)) (a1_7 : Bool) (a1_8 : Bool) (a1_9 : ByteArray) (r : Bool) (w : World) (hr0_5 : Kd.C k52 w A0_5 l0_5.length l0_5) (hc0_5 : l0_5.length ≤ c0_5) (hr0_6 : Kd.C k56 w A0_6 l0_6.length l0_6) (hc0_6 : l0_6.length ≤ c0_6) (hr1_5 : Kd.C k52 w A1_5 l1_5.length l1_5) (hc1_5 : l1_5.length ≤ c1_5) (hr1_6 : Kd.C k56 w A1_6 l1_6.length l1_6) (hc1_6 : l1_6.length ≤ c1_6) (h : laws_alpine.f k a0_0 a0_1 a0_2 a0_3 a0_4 l0_5 l0_6 a0_7 a0_8 a0_9 a1_0 a1_1 a1_2 a1_3 a1_4 l1_5 l1_6 a1_7 a1_8 a1_9 = some r) (hr : r = true) :
  Calls Tryz.prog 18 #[.agg #[.string a0_0, .string a0_1, .string a0_2, .string a0_3, .bool a0_4, .slice A0_5 l0_5.length c0_5, .slice A0_6 l0_6.length c0_6, .bool a0_7, .bool a0_8, .string a0_9], .agg #[.string a1_0, .string a1_1, .string a1_2, .string a1_3, .bool a1_4, .slice A1_5 l1_5.length c1_5, .slice A1_6 l1_6.length c1_6, .bool a1_7, .bool a1_8, .string a1_9]] w fun e w' => e = .returned (.bool r) ∧ Below w.heap.size w w' := by
 have HT := Aside0.mk hr
 clear hr
 have hu33 := Tryz.underlying33
 have hu31 := Tryz.underlying31
 have hu52 := Tryz.underlying52
 have hu56 := Tryz.underlying56
 have HR0_5 := Aside0.mk hr0_5
 have HC0_5 := Aside0.mk hc0_5
 clear hr0_5 hc0_5
 have HR0_6 := Aside0.mk hr0_6
 have HC0_6 := Aside0.mk hc0_6
 clear hr0_6 hc0_6
 have HR1_5 := Aside0.mk hr1_5
 have HC1_5 := Aside0.mk hc1_5
 clear hr1_5 hc1_5
 have HR1_6 := Aside0.mk hr1_6
 have HC1_6 := Aside0.mk hc1_6
 clear hr1_6 hc1_6
 have HB := Aside0.mk (Below.refl w.heap.size w)
 have H : (if a0_0.toList = a1_0.toList then (if a0_1.toList = a1_1.toList then (if a0_2.toList = a1_2.toList then (if a0_3.toList = a1_3.toList then (if (a0_4 != a1_4) = true then (laws_alpine.j0 k true a0_0 a0_1 a0_2 a0_3 a0_4 l0_5 l0_6 a0_7 a0_8 a0_9 a1_0 a1_1 a1_2 a1_3 a1_4 l1_5 l1_6 a1_7 a1_8 a1_9) else (if (a0_7 != a1_7) = true then (laws_alpine.j0 k true a0_0 a0_1 a0_2 a0_3 a0_4 l0_5 l0_6 a0_7 a0_8 a0_9 a1_0 a1_1 a1_2 a1_3 a1_4 l1_5 l1_6 a1_7 a1_8 a1_9) else (laws_alpine.j0 k (!(a0_8 == a1_8) || (!(a0_9.toList == a1_9.toList))) a0_0 a0_1 a0_2 a0_3 a0_4 l0_5 l0_6 a0_7 a0_8 a0_9 a1_0 a1_1 a1_2 a1_3 a1_4 l1_5 l1_6 a1_7 a1_8 a1_9))) else (laws_alpine.j0 k true a0_0 a0_1 a0_2 a0_3 a0_4 l0_5 l0_6 a0_7 a0_8 a0_9 a1_0 a1_1 a1_2 a1_3 a1_4 l1_5 l1_6 a1_7 a1_8 a1_9)) else (laws_alpine.j0 k true a0_0 a0_1 a0_2 a0_3 a0_4 l0_5 l0_6 a0_7 a0_8 a0_9 a1_0 a1_1 a1_2 a1_3 a1_4 l1_5 l1_6 a1_7 a1_8 a1_9)) else (laws_alpine.j0 k true a0_0 a0_1 a0_2 a0_3 a0_4 l0_5 l0_6 a0_7 a0_8 a0_9 a1_0 a1_1 a1_2 a1_3 a1_4 l1_5 l1_6 a1_7 a1_8 a1_9)) else (laws_alpine.j0 k true a0_0 a0_1 a0_2 a0_3 a0_4 l0_5 l0_6 a0_7 a0_8 a0_9 a1_0 a1_1 a1_2 a1_3 a1_4 l1_5 l1_6 a1_7 a1_8 a1_9)) = some r := h
 clear h
 have HC3 := Aside0.mk H
 clear H
 go_enter Tryz.func18, Tryz.ntmps18
 go_upto_region 1 with (first | ((with_reducible refine gate_dst (N := 2) rfl ?_); (try (refine gate_guard (by rfl) ?_; dsimp only)); refine box_event ?hg (N := 2) ?hd (cs := #[.string a0_0, .string a0_1, .string a0_2, .string a0_3, .bool a0_4, .slice A0_5 l0_5.length c0_5, .slice A0_6 l0_6.length c0_6, .bool a0_7, .bool a0_8, .string a0_9]) (t := 33) ?hr ?_; (case hd => rfl); (case hg => rfl); (case hr => first | (go_simp; done) | (go_simp; rfl)); intro gb394 hg w4 hbox hb; have BK394 := Aside0.mk hbox; have GW394 := Aside0.mk ((by rw [hg]; exact (below_size (by (with_reducible exact HB.out))) : w.heap.size ≤ gb394)); have GE394 := Aside0.mk ((by rw [hg]; exact (below_size (by (with_reducible exact HB.out))) : w.heap.size ≤ gb394)); replace HB := Aside0.mk (below_step (by (with_reducible exact HB.out)) hb); clear hb hbox hg) | ((with_reducible refine gate_dst (N := 3) rfl ?_); (try (refine gate_guard (by rfl) ?_; dsimp only)); refine box_event ?hg (N := 3) ?hd (cs := #[.string a1_0, .string a1_1, .string a1_2, .string a1_3, .bool a1_4, .slice A1_5 l1_5.length c1_5, .slice A1_6 l1_6.length c1_6, .bool a1_7, .bool a1_8, .string a1_9]) (t := 33) ?hr ?_; (case hd => rfl); (case hg => rfl); (case hr => first | (go_simp; done) | (go_simp; rfl)); intro gb395 hg w5 hbox hb; have n0_ := Aside0.mk (blk_below (g := gb394) (o := .cells #[.string a0_0, .string a0_1, .string a0_2, .string a0_3, .bool a0_4, .slice A0_5 l0_5.length c0_5, .slice A0_6 l0_6.length c0_6, .bool a0_7, .bool a0_8, .string a0_9] 33 (0, 0)) (by exact BK394.out) hb); have n1_ := Aside0.mk (below_step (by (with_reducible exact HB.out)) hb); have n2_ := Aside0.mk hbox; have n3_ := Aside0.mk ((by rw [hg]; exact (below_size (by (with_reducible exact HB.out))) : w.heap.size ≤ gb395)); have n4_ := Aside0.mk ((by rw [hg]; exact (below_size (by (with_reducible exact HB.out))) : w.heap.size ≤ gb395)); have n5_ := Aside0.mk ((by rw [hg]; exact Nat.ne_of_lt (blk_lt (g := gb394) (o := .cells #[.string a0_0, .string a0_1, .string a0_2, .string a0_3, .bool a0_4, .slice A0_5 l0_5.length c0_5, .slice A0_6 l0_6.length c0_6, .bool a0_7, .bool a0_8, .string a0_9] 33 (0, 0)) (by exact BK394.out)) : gb394 ≠ gb395)); have n6_ := Aside0.mk ((by rw [hg]; exact Nat.ne_of_gt (blk_lt (g := gb394) (o := .cells #[.string a0_0, .string a0_1, .string a0_2, .string a0_3, .bool a0_4, .slice A0_5 l0_5.length c0_5, .slice A0_6 l0_6.length c0_6, .bool a0_7, .bool a0_8, .string a0_9] 33 (0, 0)) (by exact BK394.out)) : gb395 ≠ gb394)); clear BK394; clear HB; have BK394 := n0_; have HB := n1_; have BK395 := n2_; have GW395 := n3_; have GE395 := n4_; have NB394_395 := n5_; have NB395_394 := n6_; clear n0_ n1_ n2_ n3_ n4_ n5_ n6_; clear hb hbox hg))
 repeat (go_quiet (fail); go_upto_region 1 with (fail))
 (try simp only [Act.put, List.setIfInBounds_toArray, List.set_cons_zero, List.set_cons_succ])
 go_cut [53] (fun v53 wc => ∃ (kq : Nat) (x53_2 : Bool), v53 = .bool x53_2 ∧ Aside0 (laws_alpine.j0 kq x53_2 a0_0 a0_1 a0_2 a0_3 a0_4 l0_5 l0_6 a0_7 a0_8 a0_9 a1_0 a1_1 a1_2 a1_3 a1_4 l1_5 l1_6 a1_7 a1_8 a1_9 = some r) ∧ Aside0 (kq ≤ k) ∧ Aside0 (wc.heap[gb394]? = some (.cells #[.string a0_0, .string a0_1, .string a0_2, .string a0_3, .bool a0_4, (.slice A0_5 l0_5.length c0_5), (.slice A0_6 l0_6.length c0_6), .bool a0_7, .bool a0_8, .string a0_9] 33 (0, 0))) ∧ Aside0 (wc.heap[gb395]? = some (.cells #[.string a1_0, .string a1_1, .string a1_2, .string a1_3, .bool a1_4, (.slice A1_5 l1_5.length c1_5), (.slice A1_6 l1_6.length c1_6), .bool a1_7, .bool a1_8, .string a1_9] 33 (0, 0))) ∧ Aside0 (Below w.heap.size w wc))
 case first =>
  have H := HC3.out
  clear HC3
  by_cases c6 : a0_0.toList = a1_0.toList
  ·rw [if_pos c6] at H
   have c6b0 : (a0_0.toList == a1_0.toList) = true := beq_iff_eq.mpr c6
   have c6b1 : (a0_0.toList != a1_0.toList) = false := bne_eq_false_iff_eq.mpr c6
   clear c6
   (first | rw [c6b0] | (simp only [i64_w, i32_w]; rw [c6b0]) | skip)
   by_cases c7 : a0_1.toList = a1_1.toList
   ·rw [if_pos c7] at H
    have c7b0 : (a0_1.toList == a1_1.toList) = true := beq_iff_eq.mpr c7
    have c7b1 : (a0_1.toList != a1_1.toList) = false := bne_eq_false_iff_eq.mpr c7
    clear c7
    by_cases c8 : a0_2.toList = a1_2.toList
    ·rw [if_pos c8] at H
     have c8b0 : (a0_2.toList == a1_2.toList) = true := beq_iff_eq.mpr c8
     have c8b1 : (a0_2.toList != a1_2.toList) = false := bne_eq_false_iff_eq.mpr c8
     clear c8
     by_cases c9 : a0_3.toList = a1_3.toList
     ·rw [if_pos c9] at H
      have c9b0 : (a0_3.toList == a1_3.toList) = true := beq_iff_eq.mpr c9
      have c9b1 : (a0_3.toList != a1_3.toList) = false := bne_eq_false_iff_eq.mpr c9
      clear c9
      by_cases c10 : (a0_4 != a1_4) = true
      ·rw [if_pos c10] at H
       have c10b0 : (a0_4 != a1_4) = true := c10
       (try (have c10b1 : decide (a0_4 = a1_4) = false := by simpa using c10))
       (try (have c10b2 : (a0_4 == a1_4) = false := by simpa using c10))
       (try (have c10b3 : ¬ (a0_4 = a1_4) := by simpa using c10))
       clear c10
       have H' := Aside0.mk H
       clear H
       have hnb11 := NB394_395.out
       have hnc11 := NB395_394.out
       obtain ⟨hcz12_0, hcz12_1, hcz12_2, hcz12_3, hcz12_4, hcz12_5, hcz12_6, hcz12_7, hcz12_8, hcz12_9, _⟩ := cl10 BK394.out
       obtain ⟨hcz13_0, hcz13_1, hcz13_2, hcz13_3, hcz13_4, hcz13_5, hcz13_6, hcz13_7, hcz13_8, hcz13_9, _⟩ := cl10 BK395.out
       go_wp2
       repeat (go_quiet (fail); try go_wp2)
       go_meet
       case rel => exact ⟨_, (true), (by rfl), H', ⟨by omega⟩, ⟨by exact BK394.out⟩, ⟨by exact BK395.out⟩, ⟨by (with_reducible exact HB.out)⟩⟩
      ·rw [if_neg c10] at H
       have c10b0 : (a0_4 != a1_4) = false := by simpa using c10
       (try (have c10b1 : decide (a0_4 = a1_4) = true := by simpa using c10))
       (try (have c10b2 : (a0_4 == a1_4) = true := by simpa using c10))
       clear c10
       by_cases c14 : (a0_7 != a1_7) = true
       ·rw [if_pos c14] at H
        have c14b0 : (a0_7 != a1_7) = true := c14
        (try (have c14b1 : decide (a0_7 = a1_7) = false := by simpa using c14))
        (try (have c14b2 : (a0_7 == a1_7) = false := by simpa using c14))
        (try (have c14b3 : ¬ (a0_7 = a1_7) := by simpa using c14))
        clear c14
        have H' := Aside0.mk H
        clear H
        have hnb15 := NB394_395.out
        have hnc15 := NB395_394.out
        obtain ⟨hcz16_0, hcz16_1, hcz16_2, hcz16_3, hcz16_4, hcz16_5, hcz16_6, hcz16_7, hcz16_8, hcz16_9, _⟩ := cl10 BK394.out
        obtain ⟨hcz17_0, hcz17_1, hcz17_2, hcz17_3, hcz17_4, hcz17_5, hcz17_6, hcz17_7, hcz17_8, hcz17_9, _⟩ := cl10 BK395.out
        go_wp2
        repeat (go_quiet (fail); try go_wp2)
        go_meet
        case rel => exact ⟨_, (true), (by rfl), H', ⟨by omega⟩, ⟨by exact BK394.out⟩, ⟨by exact BK395.out⟩, ⟨by (with_reducible exact HB.out)⟩⟩
       ·rw [if_neg c14] at H
        have c14b0 : (a0_7 != a1_7) = false := by simpa using c14
        (try (have c14b1 : decide (a0_7 = a1_7) = true := by simpa using c14))
        (try (have c14b2 : (a0_7 == a1_7) = true := by simpa using c14))
        clear c14
        have H' := Aside0.mk H
        clear H
        have hnb18 := NB394_395.out
        have hnc18 := NB395_394.out
        obtain ⟨hcz19_0, hcz19_1, hcz19_2, hcz19_3, hcz19_4, hcz19_5, hcz19_6, hcz19_7, hcz19_8, hcz19_9, _⟩ := cl10 BK394.out
        obtain ⟨hcz20_0, hcz20_1, hcz20_2, hcz20_3, hcz20_4, hcz20_5, hcz20_6, hcz20_7, hcz20_8, hcz20_9, _⟩ := cl10 BK395.out
        go_wp2
        repeat (go_quiet (fail); try go_wp2)
        go_meet
        case rel => exact ⟨_, ((!(a0_8 == a1_8) || (!(a0_9.toList == a1_9.toList)))), (by rfl), H', ⟨by omega⟩, ⟨by exact BK394.out⟩, ⟨by exact BK395.out⟩, ⟨by (with_reducible exact HB.out)⟩⟩
     ·rw [if_neg c9] at H
      have c9b0 : (a0_3.toList == a1_3.toList) = false := beq_eq_false_iff_ne.mpr c9
      have c9b1 : (a0_3.toList != a1_3.toList) = true := bne_iff_ne.mpr c9
      have H' := Aside0.mk H
      clear H
      have hnb21 := NB394_395.out
      have hnc21 := NB395_394.out
      obtain ⟨hcz22_0, hcz22_1, hcz22_2, hcz22_3, hcz22_4, hcz22_5, hcz22_6, hcz22_7, hcz22_8, hcz22_9, _⟩ := cl10 BK394.out
      obtain ⟨hcz23_0, hcz23_1, hcz23_2, hcz23_3, hcz23_4, hcz23_5, hcz23_6, hcz23_7, hcz23_8, hcz23_9, _⟩ := cl10 BK395.out
      go_wp2
      repeat (go_quiet (fail); try go_wp2)
      go_meet
      case rel => exact ⟨_, (true), (by rfl), H', ⟨by omega⟩, ⟨by exact BK394.out⟩, ⟨by exact BK395.out⟩, ⟨by (with_reducible exact HB.out)⟩⟩
    ·rw [if_neg c8] at H
     have c8b0 : (a0_2.toList == a1_2.toList) = false := beq_eq_false_iff_ne.mpr c8
     have c8b1 : (a0_2.toList != a1_2.toList) = true := bne_iff_ne.mpr c8
     have H' := Aside0.mk H
     clear H
     have hnb24 := NB394_395.out
     have hnc24 := NB395_394.out
     obtain ⟨hcz25_0, hcz25_1, hcz25_2, hcz25_3, hcz25_4, hcz25_5, hcz25_6, hcz25_7, hcz25_8, hcz25_9, _⟩ := cl10 BK394.out
     obtain ⟨hcz26_0, hcz26_1, hcz26_2, hcz26_3, hcz26_4, hcz26_5, hcz26_6, hcz26_7, hcz26_8, hcz26_9, _⟩ := cl10 BK395.out
     go_wp2
     repeat (go_quiet (fail); try go_wp2)
     go_meet
     case rel => exact ⟨_, (true), (by rfl), H', ⟨by omega⟩, ⟨by exact BK394.out⟩, ⟨by exact BK395.out⟩, ⟨by (with_reducible exact HB.out)⟩⟩
   ·rw [if_neg c7] at H
    have c7b0 : (a0_1.toList == a1_1.toList) = false := beq_eq_false_iff_ne.mpr c7
    have c7b1 : (a0_1.toList != a1_1.toList) = true := bne_iff_ne.mpr c7
    have H' := Aside0.mk H
    clear H
    have hnb27 := NB394_395.out
    have hnc27 := NB395_394.out
    obtain ⟨hcz28_0, hcz28_1, hcz28_2, hcz28_3, hcz28_4, hcz28_5, hcz28_6, hcz28_7, hcz28_8, hcz28_9, _⟩ := cl10 BK394.out
    obtain ⟨hcz29_0, hcz29_1, hcz29_2, hcz29_3, hcz29_4, hcz29_5, hcz29_6, hcz29_7, hcz29_8, hcz29_9, _⟩ := cl10 BK395.out
    go_wp2
    repeat (go_quiet (fail); try go_wp2)
    go_meet
    case rel => exact ⟨_, (true), (by rfl), H', ⟨by omega⟩, ⟨by exact BK394.out⟩, ⟨by exact BK395.out⟩, ⟨by (with_reducible exact HB.out)⟩⟩
  ·rw [if_neg c6] at H
   have c6b0 : (a0_0.toList == a1_0.toList) = false := beq_eq_false_iff_ne.mpr c6
   have c6b1 : (a0_0.toList != a1_0.toList) = true := bne_iff_ne.mpr c6
   (first | rw [c6b0] | (simp only [i64_w, i32_w]; rw [c6b0]) | skip)
   have H' := Aside0.mk H
   clear H
   have hnb30 := NB394_395.out
   have hnc30 := NB395_394.out
   obtain ⟨hcz31_0, hcz31_1, hcz31_2, hcz31_3, hcz31_4, hcz31_5, hcz31_6, hcz31_7, hcz31_8, hcz31_9, _⟩ := cl10 BK394.out
   obtain ⟨hcz32_0, hcz32_1, hcz32_2, hcz32_3, hcz32_4, hcz32_5, hcz32_6, hcz32_7, hcz32_8, hcz32_9, _⟩ := cl10 BK395.out
   go_wp2
   repeat (go_quiet (fail); try go_wp2)
   go_meet
   case rel => exact ⟨_, (true), (by rfl), H', ⟨by omega⟩, ⟨by exact BK394.out⟩, ⟨by exact BK395.out⟩, ⟨by (with_reducible exact HB.out)⟩⟩
 case rest =>
  clear HC3
  obtain ⟨kq, x53_2, rfl, HA, HJ2, BK394, BK395, HB⟩ := hcut
  cases kq with
  | zero => exact absurd HA.out (by simp [laws_alpine.j0])
  | succ kj2 =>
   have H := HA.out
   clear HA
   simp only [laws_alpine.j0] at H
   by_cases c33 : x53_2 = true
   ·subst c33
    have H1 : (some false) = some r := by rw [if_pos rfl] at H; exact H
    clear H
    have H := H1
    clear H1
    obtain rfl := Option.some.inj H
    exact absurd HT.out Bool.false_ne_true
   ·replace c33 := Bool.eq_false_iff.mpr c33
    subst c33
    have H1 : (if (l0_5.length : Int) = (l1_5.length : Int) then (laws_alpine.j1 kj2 ((l0_6.length : Int) != (l1_6.length : Int)) a0_0 a0_1 a0_2 a0_3 a0_4 l0_5 l0_6 a0_7 a0_8 a0_9 a1_0 a1_1 a1_2 a1_3 a1_4 l1_5 l1_6 a1_7 a1_8 a1_9) else (laws_alpine.j1 kj2 true a0_0 a0_1 a0_2 a0_3 a0_4 l0_5 l0_6 a0_7 a0_8 a0_9 a1_0 a1_1 a1_2 a1_3 a1_4 l1_5 l1_6 a1_7 a1_8 a1_9)) = some r := by rw [if_neg (show ¬ (false = true) by decide)] at H; exact H
    clear H
    have H := H1
    clear H1
    have HC34 := Aside0.mk H
    clear H
    go_upto_region 3 with (fail)
    repeat (go_quiet (fail); go_upto_region 3 with (fail))
    go_cut [69] (fun v69 wc => ∃ (kq : Nat) (x69_33 : Bool), v69 = .bool x69_33 ∧ Aside0 (laws_alpine.j1 kq x69_33 a0_0 a0_1 a0_2 a0_3 a0_4 l0_5 l0_6 a0_7 a0_8 a0_9 a1_0 a1_1 a1_2 a1_3 a1_4 l1_5 l1_6 a1_7 a1_8 a1_9 = some r) ∧ Aside0 (kq ≤ kj2) ∧ Aside0 (wc.heap[gb394]? = some (.cells #[.string a0_0, .string a0_1, .string a0_2, .string a0_3, .bool a0_4, (.slice A0_5 l0_5.length c0_5), (.slice A0_6 l0_6.length c0_6), .bool a0_7, .bool a0_8, .string a0_9] 33 (0, 0))) ∧ Aside0 (wc.heap[gb395]? = some (.cells #[.string a1_0, .string a1_1, .string a1_2, .string a1_3, .bool a1_4, (.slice A1_5 l1_5.length c1_5), (.slice A1_6 l1_6.length c1_6), .bool a1_7, .bool a1_8, .string a1_9] 33 (0, 0))) ∧ Aside0 (Below w.heap.size w wc))
    case first =>
     have H := HC34.out
     clear HC34
     by_cases c35 : (l0_5.length : Int) = (l1_5.length : Int)
     ·rw [if_pos c35] at H
      have c35b0 : ((l0_5.length : Int) == (l1_5.length : Int)) = true := beq_iff_eq.mpr c35
      have c35b1 : ((l0_5.length : Int) != (l1_5.length : Int)) = false := bne_eq_false_iff_eq.mpr c35
      have c35b2 : (l0_5.length == l1_5.length) = true := by (simp at c35 ⊢; omega)
      clear c35
      (first | rw [c35b0] | (simp only [i64_w, i32_w]; rw [c35b0]) | skip)
      have H' := Aside0.mk H
      clear H
      have hnb36 := NB394_395.out
      have hnc36 := NB395_394.out
      obtain ⟨hcz37_0, hcz37_1, hcz37_2, hcz37_3, hcz37_4, hcz37_5, hcz37_6, hcz37_7, hcz37_8, hcz37_9, _⟩ := cl10 BK394.out
      obtain ⟨hcz38_0, hcz38_1, hcz38_2, hcz38_3, hcz38_4, hcz38_5, hcz38_6, hcz38_7, hcz38_8, hcz38_9, _⟩ := cl10 BK395.out
      go_wp2
      repeat (go_quiet (fail); try go_wp2)
      go_meet
      case rel => exact ⟨_, (((l0_6.length : Int) != (l1_6.length : Int))), (by rfl), H', ⟨by have := HJ2.out; first | omega | exact Nat.le_refl _⟩, ⟨by exact BK394.out⟩, ⟨by exact BK395.out⟩, ⟨by (with_reducible exact HB.out)⟩⟩
     ·rw [if_neg c35] at H
      have c35b0 : ((l0_5.length : Int) == (l1_5.length : Int)) = false := beq_eq_false_iff_ne.mpr c35
      have c35b1 : ((l0_5.length : Int) != (l1_5.length : Int)) = true := bne_iff_ne.mpr c35
      have c35b2 : (l0_5.length == l1_5.length) = false := by (simp at c35 ⊢; omega)
      (first | rw [c35b0] | (simp only [i64_w, i32_w]; rw [c35b0]) | skip)
      have H' := Aside0.mk H
      clear H
      have hnb39 := NB394_395.out
      have hnc39 := NB395_394.out
      obtain ⟨hcz40_0, hcz40_1, hcz40_2, hcz40_3, hcz40_4, hcz40_5, hcz40_6, hcz40_7, hcz40_8, hcz40_9, _⟩ := cl10 BK394.out
      obtain ⟨hcz41_0, hcz41_1, hcz41_2, hcz41_3, hcz41_4, hcz41_5, hcz41_6, hcz41_7, hcz41_8, hcz41_9, _⟩ := cl10 BK395.out
      go_wp2
      repeat (go_quiet (fail); try go_wp2)
      go_meet
      case rel => exact ⟨_, (true), (by rfl), H', ⟨by have := HJ2.out; first | omega | exact Nat.le_refl _⟩, ⟨by exact BK394.out⟩, ⟨by exact BK395.out⟩, ⟨by (with_reducible exact HB.out)⟩⟩
    case rest =>
     clear HC34
     obtain ⟨kq, x69_33, rfl, HA, HJ33, BK394, BK395, HB⟩ := hcut
     cases kq with
     | zero => exact absurd HA.out (by simp [laws_alpine.j1])
     | succ kj33 =>
      have H := HA.out
      clear HA
      simp only [laws_alpine.j1] at H
      by_cases c42 : x69_33 = true
      ·subst c42
       have H1 : (some false) = some r := by rw [if_pos rfl] at H; exact H
       clear H
       have H := H1
       clear H1
       obtain rfl := Option.some.inj H
       exact absurd HT.out Bool.false_ne_true
      ·replace c42 := Bool.eq_false_iff.mpr c42
       subst c42
       have H1 : (laws_alpine.l0 kj33 (l0_5.length : Int) 0 a0_0 a0_1 a0_2 a0_3 a0_4 l0_5 l0_6 a0_7 a0_8 a0_9 a1_0 a1_1 a1_2 a1_3 a1_4 l1_5 l1_6 a1_7 a1_8 a1_9) = some r := by rw [if_neg (show ¬ (false = true) by decide)] at H; exact H
       clear H
       have H := H1
       clear H1
       have H' := Aside0.mk H
       clear H
       have hnb43 := NB394_395.out
       have hnc43 := NB395_394.out
       obtain ⟨hcz44_0, hcz44_1, hcz44_2, hcz44_3, hcz44_4, hcz44_5, hcz44_6, hcz44_7, hcz44_8, hcz44_9, _⟩ := cl10 BK394.out
       go_wp2
       repeat (go_quiet (fail); try go_wp2)
       (try simp only [Act.put, List.setIfInBounds_toArray, List.set_cons_zero, List.set_cons_succ])
       go_loopg [73] kj33 (fun kq v73 w' => ∃ (x73_3 : Int), v73 = .int .i64 x73_3 ∧ Aside0 (laws_alpine.l0 kq (l0_5.length : Int) x73_3 a0_0 a0_1 a0_2 a0_3 a0_4 l0_5 l0_6 a0_7 a0_8 a0_9 a1_0 a1_1 a1_2 a1_3 a1_4 l1_5 l1_6 a1_7 a1_8 a1_9 = some r) ∧ Aside0 (kq ≤ kj33) ∧ Aside0 (w'.heap[gb394]? = some (.cells #[.string a0_0, .string a0_1, .string a0_2, .string a0_3, .bool a0_4, (.slice A0_5 l0_5.length c0_5), (.slice A0_6 l0_6.length c0_6), .bool a0_7, .bool a0_8, .string a0_9] 33 (0, 0))) ∧ Aside0 (w'.heap[gb395]? = some (.cells #[.string a1_0, .string a1_1, .string a1_2, .string a1_3, .bool a1_4, (.slice A1_5 l1_5.length c1_5), (.slice A1_6 l1_6.length c1_6), .bool a1_7, .bool a1_8, .string a1_9] 33 (0, 0))) ∧ Aside0 (Below w.heap.size w w'))
       case atStart => exact ⟨(0), (by rfl), H', ⟨Nat.le_refl _⟩, ⟨by exact BK394.out⟩, ⟨by exact BK395.out⟩, ⟨by (with_reducible exact HB.out)⟩⟩
       case round =>
        clear H'
        clear hcz44_0 hcz44_1 hcz44_2 hcz44_3 hcz44_4 hcz44_5 hcz44_6 hcz44_7 hcz44_8 hcz44_9
        obtain ⟨x73_3, rfl, HA, HK3, BK394, BK395, HB⟩ := hrel
        cases gk with
        | zero => exact absurd HA.out (by simp [laws_alpine.l0])
        | succ k3 =>
         have H := HA.out
         clear HA
         simp only [laws_alpine.l0] at H
         by_cases c45 : x73_3 < (l0_5.length : Int)
         ·rw [if_pos c45] at H
          have c45b0 : decide (x73_3 < (l0_5.length : Int)) = true := decide_eq_true c45
          clear c45
          by_cases c46 : 0 ≤ x73_3
          ·rw [if_pos c46] at H
           have c46b0 : decide (0 ≤ x73_3) = true := decide_eq_true c46
           clear c46
           by_cases c47 : x73_3 < (l0_5.length : Int)
           ·rw [if_pos c47] at H
            have c47b0 : decide (x73_3 < (l0_5.length : Int)) = true := decide_eq_true c47
            clear c47
            by_cases c48 : x73_3 < (l1_5.length : Int)
            ·rw [if_pos c48] at H
             have c48b0 : decide (x73_3 < (l1_5.length : Int)) = true := decide_eq_true c48
             clear c48
             by_cases c49 : (!((((rd_T52 l0_5 x73_3).f0).toList) == (((rd_T52 l1_5 x73_3).f0).toList)) || ((!(((rd_T52 l0_5 x73_3).f1.f0) == ((rd_T52 l1_5 x73_3).f1.f0)) || (!((((rd_T52 l0_5 x73_3).f1.f1).toList) == (((rd_T52 l1_5 x73_3).f1.f1).toList)))) || (!(((rd_T52 l0_5 x73_3).f2) == ((rd_T52 l1_5 x73_3).f2))))) = true
             ·rw [if_pos c49] at H
              have c49b0 : (!((((rd_T52 l0_5 x73_3).f0).toList) == (((rd_T52 l1_5 x73_3).f0).toList)) || ((!(((rd_T52 l0_5 x73_3).f1.f0) == ((rd_T52 l1_5 x73_3).f1.f0)) || (!((((rd_T52 l0_5 x73_3).f1.f1).toList) == (((rd_T52 l1_5 x73_3).f1.f1).toList)))) || (!(((rd_T52 l0_5 x73_3).f2) == ((rd_T52 l1_5 x73_3).f2))))) = true := c49
              clear c49
              obtain rfl := Option.some.inj H
              have hnb50 := NB394_395.out
              have hnc50 := NB395_394.out
              obtain ⟨hcz51_0, hcz51_1, hcz51_2, hcz51_3, hcz51_4, hcz51_5, hcz51_6, hcz51_7, hcz51_8, hcz51_9, _⟩ := cl10 BK394.out
              have p396 : 0 ≤ (x73_3 : Int) := of_decide_eq_true (by (with_reducible assumption))
              have q396 : x73_3 < (l0_5.length : Int) := of_decide_eq_true (by (with_reducible assumption))
              obtain ⟨ad396, e396, hx396_0, hx396_1, hx396_2, hx396_3⟩ := at_T52 HR0_5.out x73_3 p396 q396
              cases e396
              replace hx396_0 := (HB.out.cell (World.block_lt_of_cell? w _ hx396_0)).trans hx396_0
              replace hx396_1 := (HB.out.cell (World.block_lt_of_cell? w _ hx396_1)).trans hx396_1
              replace hx396_2 := (HB.out.cell (World.block_lt_of_cell? w _ hx396_2)).trans hx396_2
              replace hx396_3 := (HB.out.cell (World.block_lt_of_cell? w _ hx396_3)).trans hx396_3
              replace p396 := eq_true p396
              replace q396 := eq_true q396
              obtain ⟨hcz52_0, hcz52_1, hcz52_2, hcz52_3, hcz52_4, hcz52_5, hcz52_6, hcz52_7, hcz52_8, hcz52_9, _⟩ := cl10 BK395.out
              have p397 : 0 ≤ (x73_3 : Int) := of_decide_eq_true (by (with_reducible assumption))
              have q397 : x73_3 < (l1_5.length : Int) := of_decide_eq_true (by (with_reducible assumption))
              obtain ⟨ad397, e397, hx397_0, hx397_1, hx397_2, hx397_3⟩ := at_T52 HR1_5.out x73_3 p397 q397
              cases e397
              replace hx397_0 := (HB.out.cell (World.block_lt_of_cell? w _ hx397_0)).trans hx397_0
              replace hx397_1 := (HB.out.cell (World.block_lt_of_cell? w _ hx397_1)).trans hx397_1
              replace hx397_2 := (HB.out.cell (World.block_lt_of_cell? w _ hx397_2)).trans hx397_2
              replace hx397_3 := (HB.out.cell (World.block_lt_of_cell? w _ hx397_3)).trans hx397_3
              replace p397 := eq_true p397
              replace q397 := eq_true q397
              go_wp2
              repeat (go_quiet (fail); try go_wp2)
              go_ret
              exact ⟨by rfl, by (with_reducible apply pw_below_drewN; with_reducible exact HB.out)⟩
             ·rw [if_neg c49] at H
              have c49b0 : (!((((rd_T52 l0_5 x73_3).f0).toList) == (((rd_T52 l1_5 x73_3).f0).toList)) || ((!(((rd_T52 l0_5 x73_3).f1.f0) == ((rd_T52 l1_5 x73_3).f1.f0)) || (!((((rd_T52 l0_5 x73_3).f1.f1).toList) == (((rd_T52 l1_5 x73_3).f1.f1).toList)))) || (!(((rd_T52 l0_5 x73_3).f2) == ((rd_T52 l1_5 x73_3).f2))))) = false := by simpa using c49
              clear c49
              have H' := Aside0.mk H
              clear H
              have hnb53 := NB394_395.out
              have hnc53 := NB395_394.out
              obtain ⟨hcz54_0, hcz54_1, hcz54_2, hcz54_3, hcz54_4, hcz54_5, hcz54_6, hcz54_7, hcz54_8, hcz54_9, _⟩ := cl10 BK394.out
              have p396 : 0 ≤ (x73_3 : Int) := of_decide_eq_true (by (with_reducible assumption))
              have q396 : x73_3 < (l0_5.length : Int) := of_decide_eq_true (by (with_reducible assumption))
              obtain ⟨ad396, e396, hx396_0, hx396_1, hx396_2, hx396_3⟩ := at_T52 HR0_5.out x73_3 p396 q396
              cases e396
              replace hx396_0 := (HB.out.cell (World.block_lt_of_cell? w _ hx396_0)).trans hx396_0
              replace hx396_1 := (HB.out.cell (World.block_lt_of_cell? w _ hx396_1)).trans hx396_1
              replace hx396_2 := (HB.out.cell (World.block_lt_of_cell? w _ hx396_2)).trans hx396_2
              replace hx396_3 := (HB.out.cell (World.block_lt_of_cell? w _ hx396_3)).trans hx396_3
              replace p396 := eq_true p396
              replace q396 := eq_true q396
              obtain ⟨hcz55_0, hcz55_1, hcz55_2, hcz55_3, hcz55_4, hcz55_5, hcz55_6, hcz55_7, hcz55_8, hcz55_9, _⟩ := cl10 BK395.out
              have p397 : 0 ≤ (x73_3 : Int) := of_decide_eq_true (by (with_reducible assumption))
              have q397 : x73_3 < (l1_5.length : Int) := of_decide_eq_true (by (with_reducible assumption))
              obtain ⟨ad397, e397, hx397_0, hx397_1, hx397_2, hx397_3⟩ := at_T52 HR1_5.out x73_3 p397 q397
              cases e397
              replace hx397_0 := (HB.out.cell (World.block_lt_of_cell? w _ hx397_0)).trans hx397_0
              replace hx397_1 := (HB.out.cell (World.block_lt_of_cell? w _ hx397_1)).trans hx397_1
              replace hx397_2 := (HB.out.cell (World.block_lt_of_cell? w _ hx397_2)).trans hx397_2
              replace hx397_3 := (HB.out.cell (World.block_lt_of_cell? w _ hx397_3)).trans hx397_3
              replace p397 := eq_true p397
              replace q397 := eq_true q397
              go_wp2
              repeat (go_quiet (fail); try go_wp2)
              go_roundg k3
              case measure => have := HJ2.out; have := HJ33.out; have := HK3.out; omega
              case rel => exact ⟨(wrap64 (x73_3 + 1)), (by rfl), H', ⟨by have := HJ2.out; have := HJ33.out; have := HK3.out; omega⟩, ⟨by (with_reducible (refine blk_drewN ?_ _)); exact BK394.out⟩, ⟨by (with_reducible (refine blk_drewN ?_ _)); exact BK395.out⟩, ⟨by (with_reducible apply pw_below_drewN; with_reducible exact HB.out)⟩⟩
            ·rw [if_neg c48] at H
             exact absurd H (by simp)
           ·rw [if_neg c47] at H
            exact absurd H (by simp)
          ·rw [if_neg c46] at H
           exact absurd H (by simp)
         ·rw [if_neg c45] at H
          have c45b0 : decide (x73_3 < (l0_5.length : Int)) = false := decide_eq_false c45
          clear c45
          have H' := Aside0.mk H
          clear H
          have hnb56 := NB394_395.out
          have hnc56 := NB395_394.out
          obtain ⟨hcz57_0, hcz57_1, hcz57_2, hcz57_3, hcz57_4, hcz57_5, hcz57_6, hcz57_7, hcz57_8, hcz57_9, _⟩ := cl10 BK394.out
          go_wp2
          repeat (go_quiet (fail); try go_wp2)
          (try simp only [Act.put, List.setIfInBounds_toArray, List.set_cons_zero, List.set_cons_succ])
          go_loopg [91] k3 (fun kq v91 w' => ∃ (x91_4 : Int), v91 = .int .i64 x91_4 ∧ Aside0 (laws_alpine.l1 kq (l0_6.length : Int) x91_4 a0_0 a0_1 a0_2 a0_3 a0_4 l0_5 l0_6 a0_7 a0_8 a0_9 a1_0 a1_1 a1_2 a1_3 a1_4 l1_5 l1_6 a1_7 a1_8 a1_9 = some r) ∧ Aside0 (kq ≤ k3) ∧ Aside0 (w'.heap[gb394]? = some (.cells #[.string a0_0, .string a0_1, .string a0_2, .string a0_3, .bool a0_4, (.slice A0_5 l0_5.length c0_5), (.slice A0_6 l0_6.length c0_6), .bool a0_7, .bool a0_8, .string a0_9] 33 (0, 0))) ∧ Aside0 (w'.heap[gb395]? = some (.cells #[.string a1_0, .string a1_1, .string a1_2, .string a1_3, .bool a1_4, (.slice A1_5 l1_5.length c1_5), (.slice A1_6 l1_6.length c1_6), .bool a1_7, .bool a1_8, .string a1_9] 33 (0, 0))) ∧ Aside0 (Below w.heap.size w w'))
          case atStart => exact ⟨(0), (by rfl), H', ⟨Nat.le_refl _⟩, ⟨by exact BK394.out⟩, ⟨by exact BK395.out⟩, ⟨by (with_reducible exact HB.out)⟩⟩
          case round =>
           clear H'
           clear c45b0 hcz57_0 hcz57_1 hcz57_2 hcz57_3 hcz57_4 hcz57_5 hcz57_6 hcz57_7 hcz57_8 hcz57_9
           obtain ⟨x91_4, rfl, HA, HK4, BK394, BK395, HB⟩ := hrel
           cases gk with
           | zero => exact absurd HA.out (by simp [laws_alpine.l1])
           | succ k4 =>
            have H := HA.out
            clear HA
            simp only [laws_alpine.l1] at H
            by_cases c58 : x91_4 < (l0_6.length : Int)
            ·rw [if_pos c58] at H
             have c58b0 : decide (x91_4 < (l0_6.length : Int)) = true := decide_eq_true c58
             clear c58
             by_cases c59 : 0 ≤ x91_4
             ·rw [if_pos c59] at H
              have c59b0 : decide (0 ≤ x91_4) = true := decide_eq_true c59
              clear c59
              by_cases c60 : x91_4 < (l0_6.length : Int)
              ·rw [if_pos c60] at H
               have c60b0 : decide (x91_4 < (l0_6.length : Int)) = true := decide_eq_true c60
               clear c60
               by_cases c61 : x91_4 < (l1_6.length : Int)
               ·rw [if_pos c61] at H
                have c61b0 : decide (x91_4 < (l1_6.length : Int)) = true := decide_eq_true c61
                clear c61
                by_cases c62 : (!(((rd_T56 l0_6 x91_4).f0) == ((rd_T56 l1_6 x91_4).f0)) || ((!(((rd_T56 l0_6 x91_4).f1.f0) == ((rd_T56 l1_6 x91_4).f1.f0)) || (!((((rd_T56 l0_6 x91_4).f1.f1).toList) == (((rd_T56 l1_6 x91_4).f1.f1).toList)))))) = true
                ·rw [if_pos c62] at H
                 have c62b0 : (!(((rd_T56 l0_6 x91_4).f0) == ((rd_T56 l1_6 x91_4).f0)) || ((!(((rd_T56 l0_6 x91_4).f1.f0) == ((rd_T56 l1_6 x91_4).f1.f0)) || (!((((rd_T56 l0_6 x91_4).f1.f1).toList) == (((rd_T56 l1_6 x91_4).f1.f1).toList)))))) = true := c62
                 clear c62
                 obtain rfl := Option.some.inj H
                 have hnb63 := NB394_395.out
                 have hnc63 := NB395_394.out
                 obtain ⟨hcz64_0, hcz64_1, hcz64_2, hcz64_3, hcz64_4, hcz64_5, hcz64_6, hcz64_7, hcz64_8, hcz64_9, _⟩ := cl10 BK394.out
                 have p398 : 0 ≤ (x91_4 : Int) := of_decide_eq_true (by (with_reducible assumption))
                 have q398 : x91_4 < (l0_6.length : Int) := of_decide_eq_true (by (with_reducible assumption))
                 obtain ⟨ad398, e398, hx398_0, hx398_1, hx398_2⟩ := at_T56 HR0_6.out x91_4 p398 q398
                 cases e398
                 replace hx398_0 := (HB.out.cell (World.block_lt_of_cell? w _ hx398_0)).trans hx398_0
                 replace hx398_1 := (HB.out.cell (World.block_lt_of_cell? w _ hx398_1)).trans hx398_1
                 replace hx398_2 := (HB.out.cell (World.block_lt_of_cell? w _ hx398_2)).trans hx398_2
                 replace p398 := eq_true p398
                 replace q398 := eq_true q398
                 obtain ⟨hcz65_0, hcz65_1, hcz65_2, hcz65_3, hcz65_4, hcz65_5, hcz65_6, hcz65_7, hcz65_8, hcz65_9, _⟩ := cl10 BK395.out
                 have p399 : 0 ≤ (x91_4 : Int) := of_decide_eq_true (by (with_reducible assumption))
                 have q399 : x91_4 < (l1_6.length : Int) := of_decide_eq_true (by (with_reducible assumption))
                 obtain ⟨ad399, e399, hx399_0, hx399_1, hx399_2⟩ := at_T56 HR1_6.out x91_4 p399 q399
                 cases e399
                 replace hx399_0 := (HB.out.cell (World.block_lt_of_cell? w _ hx399_0)).trans hx399_0
                 replace hx399_1 := (HB.out.cell (World.block_lt_of_cell? w _ hx399_1)).trans hx399_1
                 replace hx399_2 := (HB.out.cell (World.block_lt_of_cell? w _ hx399_2)).trans hx399_2
                 replace p399 := eq_true p399
                 replace q399 := eq_true q399
                 go_wp2
                 repeat (go_quiet (fail); try go_wp2)
                 go_ret
                 exact ⟨by rfl, by (with_reducible apply pw_below_drewN; with_reducible exact HB.out)⟩
                ·rw [if_neg c62] at H
                 have c62b0 : (!(((rd_T56 l0_6 x91_4).f0) == ((rd_T56 l1_6 x91_4).f0)) || ((!(((rd_T56 l0_6 x91_4).f1.f0) == ((rd_T56 l1_6 x91_4).f1.f0)) || (!((((rd_T56 l0_6 x91_4).f1.f1).toList) == (((rd_T56 l1_6 x91_4).f1.f1).toList)))))) = false := by simpa using c62
                 clear c62
                 have H' := Aside0.mk H
                 clear H
                 have hnb66 := NB394_395.out
                 have hnc66 := NB395_394.out
                 obtain ⟨hcz67_0, hcz67_1, hcz67_2, hcz67_3, hcz67_4, hcz67_5, hcz67_6, hcz67_7, hcz67_8, hcz67_9, _⟩ := cl10 BK394.out
                 have p398 : 0 ≤ (x91_4 : Int) := of_decide_eq_true (by (with_reducible assumption))
                 have q398 : x91_4 < (l0_6.length : Int) := of_decide_eq_true (by (with_reducible assumption))
                 obtain ⟨ad398, e398, hx398_0, hx398_1, hx398_2⟩ := at_T56 HR0_6.out x91_4 p398 q398
                 cases e398
                 replace hx398_0 := (HB.out.cell (World.block_lt_of_cell? w _ hx398_0)).trans hx398_0
                 replace hx398_1 := (HB.out.cell (World.block_lt_of_cell? w _ hx398_1)).trans hx398_1
                 replace hx398_2 := (HB.out.cell (World.block_lt_of_cell? w _ hx398_2)).trans hx398_2
                 replace p398 := eq_true p398
                 replace q398 := eq_true q398
                 obtain ⟨hcz68_0, hcz68_1, hcz68_2, hcz68_3, hcz68_4, hcz68_5, hcz68_6, hcz68_7, hcz68_8, hcz68_9, _⟩ := cl10 BK395.out
                 have p399 : 0 ≤ (x91_4 : Int) := of_decide_eq_true (by (with_reducible assumption))
                 have q399 : x91_4 < (l1_6.length : Int) := of_decide_eq_true (by (with_reducible assumption))
                 obtain ⟨ad399, e399, hx399_0, hx399_1, hx399_2⟩ := at_T56 HR1_6.out x91_4 p399 q399
                 cases e399
                 replace hx399_0 := (HB.out.cell (World.block_lt_of_cell? w _ hx399_0)).trans hx399_0
                 replace hx399_1 := (HB.out.cell (World.block_lt_of_cell? w _ hx399_1)).trans hx399_1
                 replace hx399_2 := (HB.out.cell (World.block_lt_of_cell? w _ hx399_2)).trans hx399_2
                 replace p399 := eq_true p399
                 replace q399 := eq_true q399
                 go_wp2
                 repeat (go_quiet (fail); try go_wp2)
                 go_roundg k4
                 case measure => have := HJ2.out; have := HJ33.out; have := HK3.out; have := HK4.out; omega
                 case rel => exact ⟨(wrap64 (x91_4 + 1)), (by rfl), H', ⟨by have := HJ2.out; have := HJ33.out; have := HK3.out; have := HK4.out; omega⟩, ⟨by (with_reducible (refine blk_drewN ?_ _)); exact BK394.out⟩, ⟨by (with_reducible (refine blk_drewN ?_ _)); exact BK395.out⟩, ⟨by (with_reducible apply pw_below_drewN; with_reducible exact HB.out)⟩⟩
               ·rw [if_neg c61] at H
                exact absurd H (by simp)
              ·rw [if_neg c60] at H
               exact absurd H (by simp)
             ·rw [if_neg c59] at H
              exact absurd H (by simp)
            ·rw [if_neg c58] at H
             have c58b0 : decide (x91_4 < (l0_6.length : Int)) = false := decide_eq_false c58
             clear c58
             obtain rfl := Option.some.inj H
             go_wp2
             repeat (go_quiet (fail); try go_wp2)
             go_ret
             exact ⟨by rfl, by (with_reducible exact HB.out)⟩
end Go.Proofs.YtapaijpglfmfgaaGreatDoor.Q
end
section -- Qx21
namespace Go.Proofs.YtapaijpglfmfgaaGreatDoor.Q
open Go.RowKit Go.Proofs.YtapaijpglfmfgaaGreatDoorH Go.Proofs.YtapaijpglfmfgaaGreatDoorG Go.Proofs.YtapaijpglfmfgaaGreatDoorW.PrintWords Go.Proofs.YtapaijpglfmfgaaGreatDoorW.PrintLast Go.Proofs.YtapaijpglfmfgaaGreatDoorW.PrintMore Go.Proofs.YtapaijpglfmfgaaGreatDoorC
attribute [local go_sem] max2_int min2_int max_two min_two max_three min_three max_four min_four
set_option linter.unusedVariables false
set_option linter.unusedSimpArgs false
mutual
def laws_FnAlpineBack.j0 : Nat → ByteArray → Bool → Option (Bool)
 | 0, _, _ => none
 | k + 1, x0, x24 => if x24 = true then (some true) else ((impl_AlpineParse.f x0).bind fun bt405 => ((spec_AlpineParse.f k x0).bind fun bt421 => (if (bt405.2.2.2.2.2.2.2.2.2.2 != bt421.2.2.2.2.2.2.2.2.2.2) = true then (laws_FnAlpineBack.j1 k x0 bt405.2.2.2.2.2.2.2.2.2.2 bt421.2.2.2.2.2.2.2.2.2.2 true bt405.1 bt405.2.1 bt405.2.2.1 bt405.2.2.2.1 bt405.2.2.2.2.1 bt405.2.2.2.2.2.1 bt405.2.2.2.2.2.2.1 bt405.2.2.2.2.2.2.2.1 bt405.2.2.2.2.2.2.2.2.1 bt405.2.2.2.2.2.2.2.2.2.1) else (if bt405.2.2.2.2.2.2.2.2.2.2 = true then (laws_FnAlpineBack.j1 k x0 bt405.2.2.2.2.2.2.2.2.2.2 bt421.2.2.2.2.2.2.2.2.2.2 bt421.2.2.2.2.1 bt405.1 bt405.2.1 bt405.2.2.1 bt405.2.2.2.1 bt405.2.2.2.2.1 bt405.2.2.2.2.2.1 bt405.2.2.2.2.2.2.1 bt405.2.2.2.2.2.2.2.1 bt405.2.2.2.2.2.2.2.2.1 bt405.2.2.2.2.2.2.2.2.2.1) else (laws_FnAlpineBack.j1 k x0 bt405.2.2.2.2.2.2.2.2.2.2 bt421.2.2.2.2.2.2.2.2.2.2 true bt405.1 bt405.2.1 bt405.2.2.1 bt405.2.2.2.1 bt405.2.2.2.2.1 bt405.2.2.2.2.2.1 bt405.2.2.2.2.2.2.1 bt405.2.2.2.2.2.2.2.1 bt405.2.2.2.2.2.2.2.2.1 bt405.2.2.2.2.2.2.2.2.2.1)))))
def laws_FnAlpineBack.j1 : Nat → ByteArray → Bool → Bool → Bool → ByteArray → ByteArray → ByteArray → ByteArray → Bool → List (S52) → List (S56) → Bool → Bool → ByteArray → Option (Bool)
 | 0, _, _, _, _, _, _, _, _, _, _, _, _, _, _ => none
 | k + 1, x0, x4, x6, x45, x421000, x421001, x421002, x421003, x421004, x421005, x421006, x421007, x421008, x421009 => if x45 = true then (some (x4 == x6)) else ((laws_alpineText.f k x421000 x421001 x421002 x421003 x421004 x421005 x421006 x421007 x421008 x421009).bind fun bt437 => (if bt437.2 = true then (if x421001.toList = ([] : List UInt8) then ((spec_AlpineTextKnown.f k bt437.1).bind fun t439 => (if t439 = true then ((spec_AlpineTexts.f k x0 bt437.1).bind fun t440 => (laws_FnAlpineBack.j2 k x0 bt437.1 (!t440) x421000 x421001 x421002 x421003 x421004 x421005 x421006 x421007 x421008 x421009)) else (laws_FnAlpineBack.j2 k x0 bt437.1 true x421000 x421001 x421002 x421003 x421004 x421005 x421006 x421007 x421008 x421009))) else (laws_FnAlpineBack.j2 k x0 bt437.1 true x421000 x421001 x421002 x421003 x421004 x421005 x421006 x421007 x421008 x421009)) else (laws_FnAlpineBack.j2 k x0 bt437.1 true x421000 x421001 x421002 x421003 x421004 x421005 x421006 x421007 x421008 x421009)))
def laws_FnAlpineBack.j2 : Nat → ByteArray → ByteArray → Bool → ByteArray → ByteArray → ByteArray → ByteArray → Bool → List (S52) → List (S56) → Bool → Bool → ByteArray → Option (Bool)
 | 0, _, _, _, _, _, _, _, _, _, _, _, _, _ => none
 | k + 1, x0, x7, x71, x421000, x421001, x421002, x421003, x421004, x421005, x421006, x421007, x421008, x421009 => if x71 = true then (some true) else ((impl_AlpineParse.f x7).bind fun bt441 => ((impl_AlpineCompareText.f x0 x7).bind fun bt457 => (if bt441.2.2.2.2.2.2.2.2.2.2 = true then ((laws_alpine.f k x421000 x421001 x421002 x421003 x421004 x421005 x421006 x421007 x421008 x421009 x421000 bt441.2.1 bt441.2.2.1 bt441.2.2.2.1 bt441.2.2.2.2.1 bt441.2.2.2.2.2.1 bt441.2.2.2.2.2.2.1 bt441.2.2.2.2.2.2.2.1 bt441.2.2.2.2.2.2.2.2.1 bt441.2.2.2.2.2.2.2.2.2.1).bind fun t459 => (if t459 = true then (if bt457.2 = true then (some (bt457.1 == 0)) else (some false)) else (some false))) else (some false))))
end
def laws_FnAlpineBack.f (k : Nat) (a0 : ByteArray) : Option (Bool) := if (a0.size : Int) > 2147483647 then (some true) else ((laws_short.f k (([a0] : List ByteArray))).bind fun t403 => (if t403 = true then ((spec_AlpineTextKnown.f k a0).bind fun t404 => (laws_FnAlpineBack.j0 k a0 (!t404))) else (laws_FnAlpineBack.j0 k a0 true)))
set_option maxHeartbeats 8000000 in
set_option maxRecDepth 100000 in
theorem laws_FnAlpineBack.calls (k : Nat) (a0 : ByteArray) (r : Bool) (w : World) (h : laws_FnAlpineBack.f k a0 = some r) (hG : GL w) (hr : r = true) :
  Calls Tryz.prog 4 #[.string a0] w fun e w' => e = .returned (.bool r) ∧ Below w.heap.size w w' := by
 have HT := Aside0.mk hr
 clear hr
 have HG := Aside0.mk hG
 clear hG
 have hu33 := Tryz.underlying33
 have HB := Aside0.mk (Below.refl w.heap.size w)
 have H : (if (a0.size : Int) > 2147483647 then (some true) else ((laws_short.f k (([a0] : List ByteArray))).bind fun t403 => (if t403 = true then ((spec_AlpineTextKnown.f k a0).bind fun t404 => (laws_FnAlpineBack.j0 k a0 (!t404))) else (laws_FnAlpineBack.j0 k a0 true)))) = some r := h
 clear h
 by_cases c2 : (a0.size : Int) > 2147483647
 ·rw [if_pos c2] at H
  have c2b0 : decide (2147483647 < (a0.size : Int)) = true := decide_eq_true c2
  have c2b1 : decide (2147483647 < a0.size) = true := decide_eq_true (by omega)
  clear c2
  obtain rfl := Option.some.inj H
  go_enter Tryz.func4, Tryz.ntmps4
  go_wp2
  go_ret
  exact ⟨by rfl, by (with_reducible exact HB.out)⟩
 ·rw [if_neg c2] at H
  have c2b0 : decide (2147483647 < (a0.size : Int)) = false := decide_eq_false c2
  have c2b1 : decide (2147483647 < a0.size) = false := decide_eq_false (by omega)
  clear c2
  have HC3 := Aside0.mk H
  clear H
  go_enter Tryz.func4, Tryz.ntmps4
  go_upto_region 3 with (fail)
  go_cut [24] (fun v24 wc => ∃ (kq : Nat) (x24_2 : Bool), v24 = .bool x24_2 ∧ Aside0 (laws_FnAlpineBack.j0 kq a0 x24_2 = some r) ∧ Aside0 (kq ≤ k) ∧ Aside0 (Below w.heap.size w wc))
  case first =>
   have H := HC3.out
   clear HC3
   obtain ⟨y400, hy400⟩ : ∃ y_ : List ByteArray, y_ = (([a0] : List ByteArray)) := ⟨_, rfl⟩
   replace H : ((laws_short.f k y400).bind fun t403 => (if t403 = true then ((spec_AlpineTextKnown.f k a0).bind fun t404 => (laws_FnAlpineBack.j0 k a0 (!t404))) else (laws_FnAlpineBack.j0 k a0 true))) = some r := by (rw [hy400]; with_reducible exact H)
   have Ny400 := Aside0.mk hy400
   clear hy400
   replace H := Option.bind_eq_some_iff.mp H
   obtain ⟨t403, A40, H⟩ := H
   replace H : (if t403 = true then ((spec_AlpineTextKnown.f k a0).bind fun t404 => (laws_FnAlpineBack.j0 k a0 (!t404))) else (laws_FnAlpineBack.j0 k a0 true)) = some r := H
   have A4 := Aside0.mk A40
   clear A40
   by_cases c5 : t403 = true
   ·subst c5
    have H1 : ((spec_AlpineTextKnown.f k a0).bind fun t404 => (laws_FnAlpineBack.j0 k a0 (!t404))) = some r := by rw [if_pos rfl] at H; exact H
    clear H
    have H := H1
    clear H1
    replace H := Option.bind_eq_some_iff.mp H
    obtain ⟨t404, A60, H⟩ := H
    replace H : (laws_FnAlpineBack.j0 k a0 (!t404)) = some r := H
    have A6 := Aside0.mk A60
    clear A60
    have H' := Aside0.mk H
    clear H
    go_wp2_with (first | ((with_reducible refine gate_dst (N := 17) rfl ?_); refine Kd.R_lit Kd.string _ 9 ?hg (N := 17) ?hd (xs := ([a0] : List ByteArray)) (inner := [.string a0]) (ok := fun _ => True) (okp := fun _ => True) ?hr ?hp (fun _ hk => hk) trivial (Below.refl _ _) (Nat.le_refl _) (by simp) ?_; (case hd => rfl); (case hg => rfl); (case hr => first | (go_simp; done) | (go_simp; rfl)); (case hp => exact (Reps.one (show Kd.M Kd.string _ _ _ a0 [.string a0] from rfl) (Reps.none _ _))); intro v401 w7 ho8 hb hg_ hnew_; clear hg_ hnew_; (first | rw [← Ny400.out] at ho8 | (simp only [Int.reduceToNat] at ho8; rw [← Ny400.out] at ho8)); have HO402 := Aside0.mk (Kd.R_lower ho8 (below_size (by (with_reducible exact HB.out)))); replace HB := Aside0.mk (below_step (by (with_reducible exact HB.out)) hb); clear hb ho8; obtain ⟨Ao9, co9, eo9⟩ := Kd.R_slice HO402.out; subst eo9) | ((with_reducible refine gate_callee (f := 13) rfl ?_); refine goesL_ (some 18) rfl rfl Tryz.func13 (by kernel_rfl) rfl #[.slice Ao9 y400.length co9] rfl (by (try simp only [List.map_toArray, List.map_cons, List.map_nil]); first | done | rfl | (simp only [List.length_drop, List.length_take]; rfl)) ?_; (with_reducible refine (laws_short.calls k _ _ y400 true _ ?side1 ?side2 A4.out).mono ?_); (case side1 => repeat (first | exact (Kd.R_reads' HO402.out).2.2 | (with_reducible refine Kd.C_alloc ?_ _) | (with_reducible refine Kd.C_drewN ?_ _) | (with_reducible refine Kd.C_drew ?_))); (case side2 => exact (Kd.R_reads' HO402.out).2.1); rintro e w' ⟨rfl, ⟨nd, rfl⟩⟩; refine ⟨_, rfl, ?_⟩) | (go_at_call 8; (with_reducible refine (spec_AlpineTextKnown.calls k a0 t404 _ A6.out).mono ?_); rintro e w10 ⟨rfl, hb⟩; replace HO402 := Aside0.mk (Kd.R_below (by (with_reducible repeat (first | apply Kd.R_alloc | apply Kd.R_drewN | apply Kd.R_drew)); exact HO402.out) hb); replace HB := Aside0.mk (below_step (by (with_reducible apply pw_below_drewN; with_reducible exact HB.out)) hb); (try clear hb); (try clear hb2); (try clear hk); (try clear hi)))
    go_meet
    case rel => exact ⟨_, (!t404), (by rfl), H', ⟨by omega⟩, ⟨by (with_reducible exact HB.out)⟩⟩
   ·replace c5 := Bool.eq_false_iff.mpr c5
    subst c5
    have H1 : (laws_FnAlpineBack.j0 k a0 true) = some r := by rw [if_neg (show ¬ (false = true) by decide)] at H; exact H
    clear H
    have H := H1
    clear H1
    have H' := Aside0.mk H
    clear H
    go_wp2_with (first | ((with_reducible refine gate_dst (N := 17) rfl ?_); refine Kd.R_lit Kd.string _ 9 ?hg (N := 17) ?hd (xs := ([a0] : List ByteArray)) (inner := [.string a0]) (ok := fun _ => True) (okp := fun _ => True) ?hr ?hp (fun _ hk => hk) trivial (Below.refl _ _) (Nat.le_refl _) (by simp) ?_; (case hd => rfl); (case hg => rfl); (case hr => first | (go_simp; done) | (go_simp; rfl)); (case hp => exact (Reps.one (show Kd.M Kd.string _ _ _ a0 [.string a0] from rfl) (Reps.none _ _))); intro v401 w11 ho12 hb hg_ hnew_; clear hg_ hnew_; (first | rw [← Ny400.out] at ho12 | (simp only [Int.reduceToNat] at ho12; rw [← Ny400.out] at ho12)); have HO402 := Aside0.mk (Kd.R_lower ho12 (below_size (by (with_reducible exact HB.out)))); replace HB := Aside0.mk (below_step (by (with_reducible exact HB.out)) hb); clear hb ho12; obtain ⟨Ao13, co13, eo13⟩ := Kd.R_slice HO402.out; subst eo13) | ((with_reducible refine gate_callee (f := 13) rfl ?_); refine goesL_ (some 18) rfl rfl Tryz.func13 (by kernel_rfl) rfl #[.slice Ao13 y400.length co13] rfl (by (try simp only [List.map_toArray, List.map_cons, List.map_nil]); first | done | rfl | (simp only [List.length_drop, List.length_take]; rfl)) ?_; (with_reducible refine (laws_short.calls k _ _ y400 false _ ?side1 ?side2 A4.out).mono ?_); (case side1 => repeat (first | exact (Kd.R_reads' HO402.out).2.2 | (with_reducible refine Kd.C_alloc ?_ _) | (with_reducible refine Kd.C_drewN ?_ _) | (with_reducible refine Kd.C_drew ?_))); (case side2 => exact (Kd.R_reads' HO402.out).2.1); rintro e w' ⟨rfl, ⟨nd, rfl⟩⟩; refine ⟨_, rfl, ?_⟩))
    go_meet
    case rel => exact ⟨_, (true), (by rfl), H', ⟨by omega⟩, ⟨by (with_reducible apply pw_below_drewN; with_reducible exact HB.out)⟩⟩
  case rest =>
   clear HC3
   clear c2b0 c2b1
   obtain ⟨kq, x24_2, rfl, HA, HJ2, HB⟩ := hcut
   cases kq with
   | zero => exact absurd HA.out (by simp [laws_FnAlpineBack.j0])
   | succ kj2 =>
    have H := HA.out
    clear HA
    simp only [laws_FnAlpineBack.j0] at H
    by_cases c14 : x24_2 = true
    ·subst c14
     have H1 : (some true) = some r := by rw [if_pos rfl] at H; exact H
     clear H
     have H := H1
     clear H1
     obtain rfl := Option.some.inj H
     go_wp2
     go_ret
     exact ⟨by rfl, by (with_reducible exact HB.out)⟩
    ·replace c14 := Bool.eq_false_iff.mpr c14
     subst c14
     have H1 : ((impl_AlpineParse.f a0).bind fun bt405 => ((spec_AlpineParse.f kj2 a0).bind fun bt421 => (if (bt405.2.2.2.2.2.2.2.2.2.2 != bt421.2.2.2.2.2.2.2.2.2.2) = true then (laws_FnAlpineBack.j1 kj2 a0 bt405.2.2.2.2.2.2.2.2.2.2 bt421.2.2.2.2.2.2.2.2.2.2 true bt405.1 bt405.2.1 bt405.2.2.1 bt405.2.2.2.1 bt405.2.2.2.2.1 bt405.2.2.2.2.2.1 bt405.2.2.2.2.2.2.1 bt405.2.2.2.2.2.2.2.1 bt405.2.2.2.2.2.2.2.2.1 bt405.2.2.2.2.2.2.2.2.2.1) else (if bt405.2.2.2.2.2.2.2.2.2.2 = true then (laws_FnAlpineBack.j1 kj2 a0 bt405.2.2.2.2.2.2.2.2.2.2 bt421.2.2.2.2.2.2.2.2.2.2 bt421.2.2.2.2.1 bt405.1 bt405.2.1 bt405.2.2.1 bt405.2.2.2.1 bt405.2.2.2.2.1 bt405.2.2.2.2.2.1 bt405.2.2.2.2.2.2.1 bt405.2.2.2.2.2.2.2.1 bt405.2.2.2.2.2.2.2.2.1 bt405.2.2.2.2.2.2.2.2.2.1) else (laws_FnAlpineBack.j1 kj2 a0 bt405.2.2.2.2.2.2.2.2.2.2 bt421.2.2.2.2.2.2.2.2.2.2 true bt405.1 bt405.2.1 bt405.2.2.1 bt405.2.2.2.1 bt405.2.2.2.2.1 bt405.2.2.2.2.2.1 bt405.2.2.2.2.2.2.1 bt405.2.2.2.2.2.2.2.1 bt405.2.2.2.2.2.2.2.2.1 bt405.2.2.2.2.2.2.2.2.2.1))))) = some r := by rw [if_neg (show ¬ (false = true) by decide)] at H; exact H
     clear H
     have H := H1
     clear H1
     replace H := Option.bind_eq_some_iff.mp H
     obtain ⟨⟨t405, t406, t407, t408, t409, t410, t413, t416, t417, t418, t419⟩, A150, H⟩ := H
     replace H : ((spec_AlpineParse.f kj2 a0).bind fun bt421 => (if (t419 != bt421.2.2.2.2.2.2.2.2.2.2) = true then (laws_FnAlpineBack.j1 kj2 a0 t419 bt421.2.2.2.2.2.2.2.2.2.2 true t405 t406 t407 t408 t409 t410 t413 t416 t417 t418) else (if t419 = true then (laws_FnAlpineBack.j1 kj2 a0 t419 bt421.2.2.2.2.2.2.2.2.2.2 bt421.2.2.2.2.1 t405 t406 t407 t408 t409 t410 t413 t416 t417 t418) else (laws_FnAlpineBack.j1 kj2 a0 t419 bt421.2.2.2.2.2.2.2.2.2.2 true t405 t406 t407 t408 t409 t410 t413 t416 t417 t418)))) = some r := H
     have A15 := Aside0.mk A150
     clear A150
     replace H := Option.bind_eq_some_iff.mp H
     obtain ⟨⟨t421, t422, t423, t424, t425, t426, t429, t432, t433, t434, t435⟩, A160, H⟩ := H
     replace H : (if (t419 != t435) = true then (laws_FnAlpineBack.j1 kj2 a0 t419 t435 true t405 t406 t407 t408 t409 t410 t413 t416 t417 t418) else (if t419 = true then (laws_FnAlpineBack.j1 kj2 a0 t419 t435 t425 t405 t406 t407 t408 t409 t410 t413 t416 t417 t418) else (laws_FnAlpineBack.j1 kj2 a0 t419 t435 true t405 t406 t407 t408 t409 t410 t413 t416 t417 t418))) = some r := H
     have A16 := Aside0.mk A160
     clear A160
     have HC17 := Aside0.mk H
     clear H
     go_upto_region 7 with (first | ((with_reducible refine gate_callee (f := 14) rfl ?_); refine goesL_ (some 27) rfl rfl Tryz.func14 (by kernel_rfl) rfl #[.string a0] rfl (by (try simp only [List.map_toArray, List.map_cons, List.map_nil]); first | done | rfl | (simp only [List.length_drop, List.length_take]; rfl)) ?_; (with_reducible refine (impl_AlpineParse.calls a0 t405 t406 t407 t408 t409 t410 t413 t416 t417 t418 t419 _ A15.out (by exact GL.at HG.out (by repeat (first | (with_reducible first | exact HB.out | apply below_alloc | apply pw_below_drewN | apply below_drew1 | refine below_set ?_ GE420.out) | exact HB.out)))).mono ?_); rintro e w18 ⟨v411, v414, rfl, ho0, ho1, hb⟩; refine ⟨_, rfl, ?_⟩; have HO412 := Aside0.mk (Kd.R_lower ho0 (below_size (by (with_reducible exact HB.out)))); have HO415 := Aside0.mk (Kd.R_lower ho1 (below_size (by (with_reducible exact HB.out)))); replace HB := Aside0.mk (below_step (by (with_reducible exact HB.out)) hb); (try clear hb); (try clear hb2); (try clear hk); (try clear hi); (try clear ho0); (try clear ho1)) | ((with_reducible refine gate_dst (N := 3) rfl ?_); refine box_event ?hg (N := 3) ?hd (cs := #[.string ⟨#[]⟩, .string ⟨#[]⟩, .string ⟨#[]⟩, .string ⟨#[]⟩, .bool false, .slice none 0 0, .slice none 0 0, .bool false, .bool false, .string ⟨#[]⟩]) (t := 33) ?hr ?_; (case hd => rfl); (case hg => rfl); (case hr => first | (go_simp; done) | (go_simp; rfl)); intro gb420 hg w19 hbox hb; replace HO412 := Aside0.mk (Kd.R_below (by (with_reducible repeat (first | apply Kd.R_alloc | apply Kd.R_drewN | apply Kd.R_drew)); exact HO412.out) hb); replace HO415 := Aside0.mk (Kd.R_below (by (with_reducible repeat (first | apply Kd.R_alloc | apply Kd.R_drewN | apply Kd.R_drew)); exact HO415.out) hb); have BK420 := Aside0.mk hbox; have GW420 := Aside0.mk ((by rw [hg]; exact (below_size (by (with_reducible exact HB.out))) : w.heap.size ≤ gb420)); have GE420 := Aside0.mk ((by rw [hg]; exact (below_size (by (with_reducible exact HB.out))) : w.heap.size ≤ gb420)); replace HB := Aside0.mk (below_step (by (with_reducible exact HB.out)) hb); clear hb hbox hg; obtain ⟨hcz20_0, hcz20_1, hcz20_2, hcz20_3, hcz20_4, hcz20_5, hcz20_6, hcz20_7, hcz20_8, hcz20_9, hfz20_0, hfz20_1, hfz20_2, hfz20_3, hfz20_4, hfz20_5, hfz20_6, hfz20_7, hfz20_8, hfz20_9⟩ := cl10 BK420.out; obtain ⟨Ao21, co21, eo21⟩ := Kd.R_slice HO412.out; subst eo21; obtain ⟨Ao22, co22, eo22⟩ := Kd.R_slice HO415.out; subst eo22) | ((with_reducible refine gate_callee (f := 15) rfl ?_); refine goesL_ (some 32) rfl rfl Tryz.func15 (by kernel_rfl) rfl #[.string a0] rfl (by (try simp only [List.map_toArray, List.map_cons, List.map_nil]); first | done | rfl | (simp only [List.length_drop, List.length_take]; rfl)) ?_; (with_reducible refine (spec_AlpineParse.calls kj2 a0 t421 t422 t423 t424 t425 t426 t429 t432 t433 t434 t435 _ A16.out).mono ?_); rintro e w23 ⟨v427, v430, rfl, ho0, ho1, hb⟩; refine ⟨_, rfl, ?_⟩; have n0_ := Aside0.mk (Kd.R_elder' (by (with_reducible repeat (first | apply Kd.R_alloc | apply Kd.R_drewN | apply Kd.R_drew)); exact (Kd.R_mono (farC (farC (farC (farC (farC (farC (farC (farC (farC (farC (Kd.R_types HO412.out BK420.out (by decide)))))))))))) (fun _ h_ => h_.1))) (Kd.R_base ho0) hb); have n1_ := Aside0.mk (Kd.R_elder' (by (with_reducible repeat (first | apply Kd.R_alloc | apply Kd.R_drewN | apply Kd.R_drew)); exact (Kd.R_mono (farC (farC (farC (farC (farC (farC (farC (farC (farC (farC (Kd.R_types HO415.out BK420.out (by decide)))))))))))) (fun _ h_ => h_.1))) (Kd.R_base ho1) hb); have n2_ := Aside0.mk (Kd.R_lower (Kd.R_new' ho0 (Kd.R_lt (by (with_reducible repeat (first | apply Kd.R_alloc | apply Kd.R_drewN | apply Kd.R_drew)); exact (Kd.R_mono (farC (farC (farC (farC (farC (farC (farC (farC (farC (farC (Kd.R_types HO412.out BK420.out (by decide)))))))))))) (fun _ h_ => h_.1))))) (below_size (by repeat (first | (with_reducible first | exact HB.out | apply below_alloc | apply pw_below_drewN | apply below_drew1 | refine below_set ?_ GE420.out) | exact HB.out)))); have n3_ := Aside0.mk (Kd.R_lower (Kd.R_new' ho1 (Kd.R_lt (by (with_reducible repeat (first | apply Kd.R_alloc | apply Kd.R_drewN | apply Kd.R_drew)); exact (Kd.R_mono (farC (farC (farC (farC (farC (farC (farC (farC (farC (farC (Kd.R_types HO415.out BK420.out (by decide)))))))))))) (fun _ h_ => h_.1))))) (below_size (by repeat (first | (with_reducible first | exact HB.out | apply below_alloc | apply pw_below_drewN | apply below_drew1 | refine below_set ?_ GE420.out) | exact HB.out)))); have n4_ := Aside0.mk (blk_below (g := gb420) (o := .cells #[.string t405, .string t406, .string t407, .string t408, .bool t409, .slice Ao21 t410.length co21, .slice Ao22 t413.length co22, .bool t416, .bool t417, .string t418] 33 (0, 0)) (by refine blk_put (cs := #[.string t405, .string t406, .string t407, .string t408, .bool t409, .slice Ao21 t410.length co21, .slice Ao22 t413.length co22, .bool t416, .bool t417, .string ⟨#[]⟩]) ?_ 9 _ rfl; refine blk_put (cs := #[.string t405, .string t406, .string t407, .string t408, .bool t409, .slice Ao21 t410.length co21, .slice Ao22 t413.length co22, .bool t416, .bool false, .string ⟨#[]⟩]) ?_ 8 _ rfl; refine blk_put (cs := #[.string t405, .string t406, .string t407, .string t408, .bool t409, .slice Ao21 t410.length co21, .slice Ao22 t413.length co22, .bool false, .bool false, .string ⟨#[]⟩]) ?_ 7 _ rfl; refine blk_put (cs := #[.string t405, .string t406, .string t407, .string t408, .bool t409, .slice Ao21 t410.length co21, .slice none 0 0, .bool false, .bool false, .string ⟨#[]⟩]) ?_ 6 _ rfl; refine blk_put (cs := #[.string t405, .string t406, .string t407, .string t408, .bool t409, .slice none 0 0, .slice none 0 0, .bool false, .bool false, .string ⟨#[]⟩]) ?_ 5 _ rfl; refine blk_put (cs := #[.string t405, .string t406, .string t407, .string t408, .bool false, .slice none 0 0, .slice none 0 0, .bool false, .bool false, .string ⟨#[]⟩]) ?_ 4 _ rfl; refine blk_put (cs := #[.string t405, .string t406, .string t407, .string ⟨#[]⟩, .bool false, .slice none 0 0, .slice none 0 0, .bool false, .bool false, .string ⟨#[]⟩]) ?_ 3 _ rfl; refine blk_put (cs := #[.string t405, .string t406, .string ⟨#[]⟩, .string ⟨#[]⟩, .bool false, .slice none 0 0, .slice none 0 0, .bool false, .bool false, .string ⟨#[]⟩]) ?_ 2 _ rfl; refine blk_put (cs := #[.string t405, .string ⟨#[]⟩, .string ⟨#[]⟩, .string ⟨#[]⟩, .bool false, .slice none 0 0, .slice none 0 0, .bool false, .bool false, .string ⟨#[]⟩]) ?_ 1 _ rfl; refine blk_put (cs := #[.string ⟨#[]⟩, .string ⟨#[]⟩, .string ⟨#[]⟩, .string ⟨#[]⟩, .bool false, .slice none 0 0, .slice none 0 0, .bool false, .bool false, .string ⟨#[]⟩]) ?_ 0 _ rfl; exact BK420.out) hb); have n5_ := Aside0.mk (below_step (by repeat (first | (with_reducible first | exact HB.out | apply below_alloc | apply pw_below_drewN | apply below_drew1 | refine below_set ?_ GE420.out) | exact HB.out)) hb); clear HO412; clear HO415; clear BK420; clear HB; have HO412 := n0_; have HO415 := n1_; have HO428 := n2_; have HO431 := n3_; have BK420 := n4_; have HB := n5_; clear n0_ n1_ n2_ n3_ n4_ n5_; (try clear hb); (try clear hb2); (try clear hk); (try clear hi); (try clear ho0); (try clear ho1)) | ((with_reducible refine gate_dst (N := 5) rfl ?_); refine box_event ?hg (N := 5) ?hd (cs := #[.string ⟨#[]⟩, .string ⟨#[]⟩, .string ⟨#[]⟩, .string ⟨#[]⟩, .bool false, .slice none 0 0, .slice none 0 0, .bool false, .bool false, .string ⟨#[]⟩]) (t := 33) ?hr ?_; (case hd => rfl); (case hg => rfl); (case hr => first | (go_simp; done) | (go_simp; rfl)); intro gb436 hg w24 hbox hb; have n0_ := Aside0.mk (Kd.R_below (by (with_reducible repeat (first | apply Kd.R_alloc | apply Kd.R_drewN | apply Kd.R_drew)); exact HO412.out) hb); have n1_ := Aside0.mk (Kd.R_below (by (with_reducible repeat (first | apply Kd.R_alloc | apply Kd.R_drewN | apply Kd.R_drew)); exact HO415.out) hb); have n2_ := Aside0.mk (Kd.R_below (by (with_reducible repeat (first | apply Kd.R_alloc | apply Kd.R_drewN | apply Kd.R_drew)); exact HO428.out) hb); have n3_ := Aside0.mk (Kd.R_below (by (with_reducible repeat (first | apply Kd.R_alloc | apply Kd.R_drewN | apply Kd.R_drew)); exact HO431.out) hb); have n4_ := Aside0.mk (blk_below (g := gb420) (o := .cells #[.string t405, .string t406, .string t407, .string t408, .bool t409, .slice Ao21 t410.length co21, .slice Ao22 t413.length co22, .bool t416, .bool t417, .string t418] 33 (0, 0)) (by exact BK420.out) hb); have n5_ := Aside0.mk (below_step (by (with_reducible exact HB.out)) hb); have n6_ := Aside0.mk hbox; have n7_ := Aside0.mk ((by rw [hg]; exact (below_size (by (with_reducible exact HB.out))) : w.heap.size ≤ gb436)); have n8_ := Aside0.mk ((by rw [hg]; exact (below_size (by (with_reducible exact HB.out))) : w.heap.size ≤ gb436)); have n9_ := Aside0.mk ((by rw [hg]; exact Nat.ne_of_lt (blk_lt (g := gb420) (o := .cells #[.string t405, .string t406, .string t407, .string t408, .bool t409, .slice Ao21 t410.length co21, .slice Ao22 t413.length co22, .bool t416, .bool t417, .string t418] 33 (0, 0)) (by exact BK420.out)) : gb420 ≠ gb436)); have n10_ := Aside0.mk ((by rw [hg]; exact Nat.ne_of_gt (blk_lt (g := gb420) (o := .cells #[.string t405, .string t406, .string t407, .string t408, .bool t409, .slice Ao21 t410.length co21, .slice Ao22 t413.length co22, .bool t416, .bool t417, .string t418] 33 (0, 0)) (by exact BK420.out)) : gb436 ≠ gb420)); clear HO412; clear HO415; clear HO428; clear HO431; clear BK420; clear HB; have HO412 := n0_; have HO415 := n1_; have HO428 := n2_; have HO431 := n3_; have BK420 := n4_; have HB := n5_; have BK436 := n6_; have GW436 := n7_; have GE436 := n8_; have NB420_436 := n9_; have NB436_420 := n10_; clear n0_ n1_ n2_ n3_ n4_ n5_ n6_ n7_ n8_ n9_ n10_; clear hb hbox hg; have hnb25 := NB436_420.out; have hnc25 := NB420_436.out; obtain ⟨hcz26_0, hcz26_1, hcz26_2, hcz26_3, hcz26_4, hcz26_5, hcz26_6, hcz26_7, hcz26_8, hcz26_9, hfz26_0, hfz26_1, hfz26_2, hfz26_3, hfz26_4, hfz26_5, hfz26_6, hfz26_7, hfz26_8, hfz26_9⟩ := cl10 BK436.out; obtain ⟨Ao27, co27, eo27⟩ := Kd.R_slice HO428.out; subst eo27; obtain ⟨Ao28, co28, eo28⟩ := Kd.R_slice HO431.out; subst eo28))
     (try simp only [Act.put, List.setIfInBounds_toArray, List.set_cons_zero, List.set_cons_succ])
     go_cut [45] (fun v45 wc => ∃ (kq : Nat) (x45_16 : Bool), v45 = .bool x45_16 ∧ Aside0 (laws_FnAlpineBack.j1 kq a0 t419 t435 x45_16 t405 t406 t407 t408 t409 t410 t413 t416 t417 t418 = some r) ∧ Aside0 (kq ≤ kj2) ∧ Aside0 (Kd.R k52 52 wc w.heap.size (fun k_ => some k_ ≠ ((.slice Ao27 t426.length co27) : Value).ownBlock) (.slice Ao21 t410.length co21) t410) ∧ Aside0 (Kd.R k56 56 wc w.heap.size (fun k_ => some k_ ≠ ((.slice Ao28 t429.length co28) : Value).ownBlock) (.slice Ao22 t413.length co22) t413) ∧ Aside0 (Kd.R k52 52 wc w.heap.size (fun k_ => some k_ ≠ ((.slice Ao21 t410.length co21) : Value).ownBlock) (.slice Ao27 t426.length co27) t426) ∧ Aside0 (Kd.R k56 56 wc w.heap.size (fun k_ => some k_ ≠ ((.slice Ao22 t413.length co22) : Value).ownBlock) (.slice Ao28 t429.length co28) t429) ∧ Aside0 (wc.heap[gb420]? = some (.cells #[.string t405, .string t406, .string t407, .string t408, .bool t409, (.slice Ao21 t410.length co21), (.slice Ao22 t413.length co22), .bool t416, .bool t417, .string t418] 33 (0, 0))) ∧ Aside0 (wc.heap[gb436]? = some (.cells #[.string t421, .string t422, .string t423, .string t424, .bool t425, (.slice Ao27 t426.length co27), (.slice Ao28 t429.length co28), .bool t432, .bool t433, .string t434] 33 (0, 0))) ∧ Aside0 (Below w.heap.size w wc))
     case first =>
      have H := HC17.out
      clear HC17
      by_cases c29 : (t419 != t435) = true
      ·rw [if_pos c29] at H
       have c29b0 : (t419 != t435) = true := c29
       (try (have c29b1 : decide (t419 = t435) = false := by simpa using c29))
       (try (have c29b2 : (t419 == t435) = false := by simpa using c29))
       (try (have c29b3 : ¬ (t419 = t435) := by simpa using c29))
       clear c29
       (first | rw [c29b0] | (simp only [i64_w, i32_w]; rw [c29b0]) | skip)
       have H' := Aside0.mk H
       clear H
       go_wp2
       go_meet
       case rel => exact ⟨_, (true), (by rfl), H', ⟨by have := HJ2.out; first | omega | exact Nat.le_refl _⟩, ⟨by (with_reducible repeat (first | apply Kd.R_alloc | apply Kd.R_drewN | apply Kd.R_drew)); exact Kd.R_mono (farC (farC (farC (farC (farC (farC (farC (farC (farC (farC (Kd.R_types HO412.out BK436.out (by decide)))))))))))) (fun _ hk => hk.1.2)⟩, ⟨by (with_reducible repeat (first | apply Kd.R_alloc | apply Kd.R_drewN | apply Kd.R_drew)); exact Kd.R_mono (farC (farC (farC (farC (farC (farC (farC (farC (farC (farC (Kd.R_types HO415.out BK436.out (by decide)))))))))))) (fun _ hk => hk.1.2)⟩, ⟨by (with_reducible repeat (first | apply Kd.R_alloc | apply Kd.R_drewN | apply Kd.R_drew)); exact Kd.R_mono (farC (farC (farC (farC (farC (farC (farC (farC (farC (farC (Kd.R_types HO428.out BK436.out (by decide)))))))))))) (fun _ hk => hk.1.2)⟩, ⟨by (with_reducible repeat (first | apply Kd.R_alloc | apply Kd.R_drewN | apply Kd.R_drew)); exact Kd.R_mono (farC (farC (farC (farC (farC (farC (farC (farC (farC (farC (Kd.R_types HO431.out BK436.out (by decide)))))))))))) (fun _ hk => hk.1.2)⟩, ⟨by refine blk_far ?_ NB420_436.out _; refine blk_far ?_ NB420_436.out _; refine blk_far ?_ NB420_436.out _; refine blk_far ?_ NB420_436.out _; refine blk_far ?_ NB420_436.out _; refine blk_far ?_ NB420_436.out _; refine blk_far ?_ NB420_436.out _; refine blk_far ?_ NB420_436.out _; refine blk_far ?_ NB420_436.out _; refine blk_far ?_ NB420_436.out _; exact BK420.out⟩, ⟨by refine blk_put (cs := #[.string t421, .string t422, .string t423, .string t424, .bool t425, .slice Ao27 t426.length co27, .slice Ao28 t429.length co28, .bool t432, .bool t433, .string ⟨#[]⟩]) ?_ 9 _ rfl; refine blk_put (cs := #[.string t421, .string t422, .string t423, .string t424, .bool t425, .slice Ao27 t426.length co27, .slice Ao28 t429.length co28, .bool t432, .bool false, .string ⟨#[]⟩]) ?_ 8 _ rfl; refine blk_put (cs := #[.string t421, .string t422, .string t423, .string t424, .bool t425, .slice Ao27 t426.length co27, .slice Ao28 t429.length co28, .bool false, .bool false, .string ⟨#[]⟩]) ?_ 7 _ rfl; refine blk_put (cs := #[.string t421, .string t422, .string t423, .string t424, .bool t425, .slice Ao27 t426.length co27, .slice none 0 0, .bool false, .bool false, .string ⟨#[]⟩]) ?_ 6 _ rfl; refine blk_put (cs := #[.string t421, .string t422, .string t423, .string t424, .bool t425, .slice none 0 0, .slice none 0 0, .bool false, .bool false, .string ⟨#[]⟩]) ?_ 5 _ rfl; refine blk_put (cs := #[.string t421, .string t422, .string t423, .string t424, .bool false, .slice none 0 0, .slice none 0 0, .bool false, .bool false, .string ⟨#[]⟩]) ?_ 4 _ rfl; refine blk_put (cs := #[.string t421, .string t422, .string t423, .string ⟨#[]⟩, .bool false, .slice none 0 0, .slice none 0 0, .bool false, .bool false, .string ⟨#[]⟩]) ?_ 3 _ rfl; refine blk_put (cs := #[.string t421, .string t422, .string ⟨#[]⟩, .string ⟨#[]⟩, .bool false, .slice none 0 0, .slice none 0 0, .bool false, .bool false, .string ⟨#[]⟩]) ?_ 2 _ rfl; refine blk_put (cs := #[.string t421, .string ⟨#[]⟩, .string ⟨#[]⟩, .string ⟨#[]⟩, .bool false, .slice none 0 0, .slice none 0 0, .bool false, .bool false, .string ⟨#[]⟩]) ?_ 1 _ rfl; refine blk_put (cs := #[.string ⟨#[]⟩, .string ⟨#[]⟩, .string ⟨#[]⟩, .string ⟨#[]⟩, .bool false, .slice none 0 0, .slice none 0 0, .bool false, .bool false, .string ⟨#[]⟩]) ?_ 0 _ rfl; exact BK436.out⟩, ⟨by repeat (first | (with_reducible first | exact HB.out | apply below_alloc | apply pw_below_drewN | apply below_drew1 | refine below_set ?_ GE420.out | refine below_set ?_ GE436.out) | exact HB.out)⟩⟩
      ·rw [if_neg c29] at H
       have c29b0 : (t419 != t435) = false := by simpa using c29
       (try (have c29b1 : decide (t419 = t435) = true := by simpa using c29))
       (try (have c29b2 : (t419 == t435) = true := by simpa using c29))
       clear c29
       (first | rw [c29b0] | (simp only [i64_w, i32_w]; rw [c29b0]) | skip)
       by_cases c30 : t419 = true
       ·subst c30
        have H1 : (laws_FnAlpineBack.j1 kj2 a0 true t435 t425 t405 t406 t407 t408 t409 t410 t413 t416 t417 t418) = some r := by rw [if_pos rfl] at H; exact H
        clear H
        have H := H1
        clear H1
        have H' := Aside0.mk H
        clear H
        have hnb31 := NB436_420.out
        have hnc31 := NB420_436.out
        obtain ⟨hcz32_0, hcz32_1, hcz32_2, hcz32_3, hcz32_4, hcz32_5, hcz32_6, hcz32_7, hcz32_8, hcz32_9, hfz32_0, hfz32_1, hfz32_2, hfz32_3, hfz32_4, hfz32_5, hfz32_6, hfz32_7, hfz32_8, hfz32_9⟩ := cl10 BK436.out
        go_wp2
        go_meet
        case rel => exact ⟨_, (t425), (by rfl), H', ⟨by have := HJ2.out; first | omega | exact Nat.le_refl _⟩, ⟨by (with_reducible repeat (first | apply Kd.R_alloc | apply Kd.R_drewN | apply Kd.R_drew)); exact Kd.R_mono (farC (farC (farC (farC (farC (farC (farC (farC (farC (farC (Kd.R_types HO412.out BK436.out (by decide)))))))))))) (fun _ hk => hk.1.2)⟩, ⟨by (with_reducible repeat (first | apply Kd.R_alloc | apply Kd.R_drewN | apply Kd.R_drew)); exact Kd.R_mono (farC (farC (farC (farC (farC (farC (farC (farC (farC (farC (Kd.R_types HO415.out BK436.out (by decide)))))))))))) (fun _ hk => hk.1.2)⟩, ⟨by (with_reducible repeat (first | apply Kd.R_alloc | apply Kd.R_drewN | apply Kd.R_drew)); exact Kd.R_mono (farC (farC (farC (farC (farC (farC (farC (farC (farC (farC (Kd.R_types HO428.out BK436.out (by decide)))))))))))) (fun _ hk => hk.1.2)⟩, ⟨by (with_reducible repeat (first | apply Kd.R_alloc | apply Kd.R_drewN | apply Kd.R_drew)); exact Kd.R_mono (farC (farC (farC (farC (farC (farC (farC (farC (farC (farC (Kd.R_types HO431.out BK436.out (by decide)))))))))))) (fun _ hk => hk.1.2)⟩, ⟨by refine blk_far ?_ NB420_436.out _; refine blk_far ?_ NB420_436.out _; refine blk_far ?_ NB420_436.out _; refine blk_far ?_ NB420_436.out _; refine blk_far ?_ NB420_436.out _; refine blk_far ?_ NB420_436.out _; refine blk_far ?_ NB420_436.out _; refine blk_far ?_ NB420_436.out _; refine blk_far ?_ NB420_436.out _; refine blk_far ?_ NB420_436.out _; exact BK420.out⟩, ⟨by refine blk_put (cs := #[.string t421, .string t422, .string t423, .string t424, .bool t425, .slice Ao27 t426.length co27, .slice Ao28 t429.length co28, .bool t432, .bool t433, .string ⟨#[]⟩]) ?_ 9 _ rfl; refine blk_put (cs := #[.string t421, .string t422, .string t423, .string t424, .bool t425, .slice Ao27 t426.length co27, .slice Ao28 t429.length co28, .bool t432, .bool false, .string ⟨#[]⟩]) ?_ 8 _ rfl; refine blk_put (cs := #[.string t421, .string t422, .string t423, .string t424, .bool t425, .slice Ao27 t426.length co27, .slice Ao28 t429.length co28, .bool false, .bool false, .string ⟨#[]⟩]) ?_ 7 _ rfl; refine blk_put (cs := #[.string t421, .string t422, .string t423, .string t424, .bool t425, .slice Ao27 t426.length co27, .slice none 0 0, .bool false, .bool false, .string ⟨#[]⟩]) ?_ 6 _ rfl; refine blk_put (cs := #[.string t421, .string t422, .string t423, .string t424, .bool t425, .slice none 0 0, .slice none 0 0, .bool false, .bool false, .string ⟨#[]⟩]) ?_ 5 _ rfl; refine blk_put (cs := #[.string t421, .string t422, .string t423, .string t424, .bool false, .slice none 0 0, .slice none 0 0, .bool false, .bool false, .string ⟨#[]⟩]) ?_ 4 _ rfl; refine blk_put (cs := #[.string t421, .string t422, .string t423, .string ⟨#[]⟩, .bool false, .slice none 0 0, .slice none 0 0, .bool false, .bool false, .string ⟨#[]⟩]) ?_ 3 _ rfl; refine blk_put (cs := #[.string t421, .string t422, .string ⟨#[]⟩, .string ⟨#[]⟩, .bool false, .slice none 0 0, .slice none 0 0, .bool false, .bool false, .string ⟨#[]⟩]) ?_ 2 _ rfl; refine blk_put (cs := #[.string t421, .string ⟨#[]⟩, .string ⟨#[]⟩, .string ⟨#[]⟩, .bool false, .slice none 0 0, .slice none 0 0, .bool false, .bool false, .string ⟨#[]⟩]) ?_ 1 _ rfl; refine blk_put (cs := #[.string ⟨#[]⟩, .string ⟨#[]⟩, .string ⟨#[]⟩, .string ⟨#[]⟩, .bool false, .slice none 0 0, .slice none 0 0, .bool false, .bool false, .string ⟨#[]⟩]) ?_ 0 _ rfl; exact BK436.out⟩, ⟨by repeat (first | (with_reducible first | exact HB.out | apply below_alloc | apply pw_below_drewN | apply below_drew1 | refine below_set ?_ GE420.out | refine below_set ?_ GE436.out) | exact HB.out)⟩⟩
       ·replace c30 := Bool.eq_false_iff.mpr c30
        subst c30
        have H1 : (laws_FnAlpineBack.j1 kj2 a0 false t435 true t405 t406 t407 t408 t409 t410 t413 t416 t417 t418) = some r := by rw [if_neg (show ¬ (false = true) by decide)] at H; exact H
        clear H
        have H := H1
        clear H1
        have H' := Aside0.mk H
        clear H
        go_wp2
        go_meet
        case rel => exact ⟨_, (true), (by rfl), H', ⟨by have := HJ2.out; first | omega | exact Nat.le_refl _⟩, ⟨by (with_reducible repeat (first | apply Kd.R_alloc | apply Kd.R_drewN | apply Kd.R_drew)); exact Kd.R_mono (farC (farC (farC (farC (farC (farC (farC (farC (farC (farC (Kd.R_types HO412.out BK436.out (by decide)))))))))))) (fun _ hk => hk.1.2)⟩, ⟨by (with_reducible repeat (first | apply Kd.R_alloc | apply Kd.R_drewN | apply Kd.R_drew)); exact Kd.R_mono (farC (farC (farC (farC (farC (farC (farC (farC (farC (farC (Kd.R_types HO415.out BK436.out (by decide)))))))))))) (fun _ hk => hk.1.2)⟩, ⟨by (with_reducible repeat (first | apply Kd.R_alloc | apply Kd.R_drewN | apply Kd.R_drew)); exact Kd.R_mono (farC (farC (farC (farC (farC (farC (farC (farC (farC (farC (Kd.R_types HO428.out BK436.out (by decide)))))))))))) (fun _ hk => hk.1.2)⟩, ⟨by (with_reducible repeat (first | apply Kd.R_alloc | apply Kd.R_drewN | apply Kd.R_drew)); exact Kd.R_mono (farC (farC (farC (farC (farC (farC (farC (farC (farC (farC (Kd.R_types HO431.out BK436.out (by decide)))))))))))) (fun _ hk => hk.1.2)⟩, ⟨by refine blk_far ?_ NB420_436.out _; refine blk_far ?_ NB420_436.out _; refine blk_far ?_ NB420_436.out _; refine blk_far ?_ NB420_436.out _; refine blk_far ?_ NB420_436.out _; refine blk_far ?_ NB420_436.out _; refine blk_far ?_ NB420_436.out _; refine blk_far ?_ NB420_436.out _; refine blk_far ?_ NB420_436.out _; refine blk_far ?_ NB420_436.out _; exact BK420.out⟩, ⟨by refine blk_put (cs := #[.string t421, .string t422, .string t423, .string t424, .bool t425, .slice Ao27 t426.length co27, .slice Ao28 t429.length co28, .bool t432, .bool t433, .string ⟨#[]⟩]) ?_ 9 _ rfl; refine blk_put (cs := #[.string t421, .string t422, .string t423, .string t424, .bool t425, .slice Ao27 t426.length co27, .slice Ao28 t429.length co28, .bool t432, .bool false, .string ⟨#[]⟩]) ?_ 8 _ rfl; refine blk_put (cs := #[.string t421, .string t422, .string t423, .string t424, .bool t425, .slice Ao27 t426.length co27, .slice Ao28 t429.length co28, .bool false, .bool false, .string ⟨#[]⟩]) ?_ 7 _ rfl; refine blk_put (cs := #[.string t421, .string t422, .string t423, .string t424, .bool t425, .slice Ao27 t426.length co27, .slice none 0 0, .bool false, .bool false, .string ⟨#[]⟩]) ?_ 6 _ rfl; refine blk_put (cs := #[.string t421, .string t422, .string t423, .string t424, .bool t425, .slice none 0 0, .slice none 0 0, .bool false, .bool false, .string ⟨#[]⟩]) ?_ 5 _ rfl; refine blk_put (cs := #[.string t421, .string t422, .string t423, .string t424, .bool false, .slice none 0 0, .slice none 0 0, .bool false, .bool false, .string ⟨#[]⟩]) ?_ 4 _ rfl; refine blk_put (cs := #[.string t421, .string t422, .string t423, .string ⟨#[]⟩, .bool false, .slice none 0 0, .slice none 0 0, .bool false, .bool false, .string ⟨#[]⟩]) ?_ 3 _ rfl; refine blk_put (cs := #[.string t421, .string t422, .string ⟨#[]⟩, .string ⟨#[]⟩, .bool false, .slice none 0 0, .slice none 0 0, .bool false, .bool false, .string ⟨#[]⟩]) ?_ 2 _ rfl; refine blk_put (cs := #[.string t421, .string ⟨#[]⟩, .string ⟨#[]⟩, .string ⟨#[]⟩, .bool false, .slice none 0 0, .slice none 0 0, .bool false, .bool false, .string ⟨#[]⟩]) ?_ 1 _ rfl; refine blk_put (cs := #[.string ⟨#[]⟩, .string ⟨#[]⟩, .string ⟨#[]⟩, .string ⟨#[]⟩, .bool false, .slice none 0 0, .slice none 0 0, .bool false, .bool false, .string ⟨#[]⟩]) ?_ 0 _ rfl; exact BK436.out⟩, ⟨by repeat (first | (with_reducible first | exact HB.out | apply below_alloc | apply pw_below_drewN | apply below_drew1 | refine below_set ?_ GE420.out | refine below_set ?_ GE436.out) | exact HB.out)⟩⟩
     case rest =>
      clear HC17
      clear hcz20_0 hcz20_1 hcz20_2 hcz20_3 hcz20_4 hcz20_5 hcz20_6 hcz20_7 hcz20_8 hcz20_9 hcz26_0 hcz26_1 hcz26_2 hcz26_3 hcz26_4 hcz26_5 hcz26_6 hcz26_7 hcz26_8 hcz26_9 hfz20_0 hfz20_1 hfz20_2 hfz20_3 hfz20_4 hfz20_5 hfz20_6 hfz20_7 hfz20_8 hfz20_9 hfz26_0 hfz26_1 hfz26_2 hfz26_3 hfz26_4 hfz26_5 hfz26_6 hfz26_7 hfz26_8 hfz26_9
      obtain ⟨kq, x45_16, rfl, HA, HJ16, HO_421005, HO_421006, HO_437005, HO_437006, BK420, BK436, HB⟩ := hcut
      cases kq with
      | zero => exact absurd HA.out (by simp [laws_FnAlpineBack.j1])
      | succ kj16 =>
       have H := HA.out
       clear HA
       simp only [laws_FnAlpineBack.j1] at H
       by_cases c33 : x45_16 = true
       ·subst c33
        have H1 : (some (t419 == t435)) = some r := by rw [if_pos rfl] at H; exact H
        clear H
        have H := H1
        clear H1
        obtain rfl := Option.some.inj H
        go_wp2
        go_ret
        exact ⟨by rfl, by (with_reducible exact HB.out)⟩
       ·replace c33 := Bool.eq_false_iff.mpr c33
        subst c33
        have H1 : ((laws_alpineText.f kj16 t405 t406 t407 t408 t409 t410 t413 t416 t417 t418).bind fun bt437 => (if bt437.2 = true then (if t406.toList = ([] : List UInt8) then ((spec_AlpineTextKnown.f kj16 bt437.1).bind fun t439 => (if t439 = true then ((spec_AlpineTexts.f kj16 a0 bt437.1).bind fun t440 => (laws_FnAlpineBack.j2 kj16 a0 bt437.1 (!t440) t405 t406 t407 t408 t409 t410 t413 t416 t417 t418)) else (laws_FnAlpineBack.j2 kj16 a0 bt437.1 true t405 t406 t407 t408 t409 t410 t413 t416 t417 t418))) else (laws_FnAlpineBack.j2 kj16 a0 bt437.1 true t405 t406 t407 t408 t409 t410 t413 t416 t417 t418)) else (laws_FnAlpineBack.j2 kj16 a0 bt437.1 true t405 t406 t407 t408 t409 t410 t413 t416 t417 t418))) = some r := by rw [if_neg (show ¬ (false = true) by decide)] at H; exact H
        clear H
        have H := H1
        clear H1
        replace H := Option.bind_eq_some_iff.mp H
        obtain ⟨⟨t437, t438⟩, A340, H⟩ := H
        replace H : (if t438 = true then (if t406.toList = ([] : List UInt8) then ((spec_AlpineTextKnown.f kj16 t437).bind fun t439 => (if t439 = true then ((spec_AlpineTexts.f kj16 a0 t437).bind fun t440 => (laws_FnAlpineBack.j2 kj16 a0 t437 (!t440) t405 t406 t407 t408 t409 t410 t413 t416 t417 t418)) else (laws_FnAlpineBack.j2 kj16 a0 t437 true t405 t406 t407 t408 t409 t410 t413 t416 t417 t418))) else (laws_FnAlpineBack.j2 kj16 a0 t437 true t405 t406 t407 t408 t409 t410 t413 t416 t417 t418)) else (laws_FnAlpineBack.j2 kj16 a0 t437 true t405 t406 t407 t408 t409 t410 t413 t416 t417 t418)) = some r := H
        have A34 := Aside0.mk A340
        clear A340
        have HC35 := Aside0.mk H
        clear H
        have hnb36 := NB420_436.out
        have hnc36 := NB436_420.out
        obtain ⟨hcz37_0, hcz37_1, hcz37_2, hcz37_3, hcz37_4, hcz37_5, hcz37_6, hcz37_7, hcz37_8, hcz37_9, hfz37_0, hfz37_1, hfz37_2, hfz37_3, hfz37_4, hfz37_5, hfz37_6, hfz37_7, hfz37_8, hfz37_9⟩ := cl10 BK420.out
        go_upto_region 10 with (((with_reducible refine gate_callee (f := 16) rfl ?_); refine goesL_ (some 51) rfl rfl Tryz.func16 (by kernel_rfl) rfl #[.agg #[.string t405, .string t406, .string t407, .string t408, .bool t409, .slice Ao21 t410.length co21, .slice Ao22 t413.length co22, .bool t416, .bool t417, .string t418]] rfl (by (try simp only [List.map_toArray, List.map_cons, List.map_nil]); first | done | rfl | (simp only [List.length_drop, List.length_take]; rfl)) ?_; (with_reducible refine (laws_alpineText.calls kj16 t405 t406 t407 t408 t409 _ _ t410 _ _ t413 t416 t417 t418 t437 t438 _ ?side1 ?side2 ?side3 ?side4 A34.out).mono ?_); (case side1 => repeat (first | exact (Kd.R_reads' HO_421005.out).2.2 | (with_reducible refine Kd.C_alloc ?_ _) | (with_reducible refine Kd.C_drewN ?_ _) | (with_reducible refine Kd.C_drew ?_))); (case side2 => exact (Kd.R_reads' HO_421005.out).2.1); (case side3 => repeat (first | exact (Kd.R_reads' HO_421006.out).2.2 | (with_reducible refine Kd.C_alloc ?_ _) | (with_reducible refine Kd.C_drewN ?_ _) | (with_reducible refine Kd.C_drew ?_))); (case side4 => exact (Kd.R_reads' HO_421006.out).2.1); rintro e w38 ⟨rfl, hb⟩; refine ⟨_, rfl, ?_⟩; replace HO_421005 := Aside0.mk (Kd.R_below (by (with_reducible repeat (first | apply Kd.R_alloc | apply Kd.R_drewN | apply Kd.R_drew)); exact HO_421005.out) hb); replace HO_421006 := Aside0.mk (Kd.R_below (by (with_reducible repeat (first | apply Kd.R_alloc | apply Kd.R_drewN | apply Kd.R_drew)); exact HO_421006.out) hb); replace HO_437005 := Aside0.mk (Kd.R_below (by (with_reducible repeat (first | apply Kd.R_alloc | apply Kd.R_drewN | apply Kd.R_drew)); exact HO_437005.out) hb); replace HO_437006 := Aside0.mk (Kd.R_below (by (with_reducible repeat (first | apply Kd.R_alloc | apply Kd.R_drewN | apply Kd.R_drew)); exact HO_437006.out) hb); replace BK420 := Aside0.mk (blk_below (g := gb420) (o := .cells #[.string t405, .string t406, .string t407, .string t408, .bool t409, .slice Ao21 t410.length co21, .slice Ao22 t413.length co22, .bool t416, .bool t417, .string t418] 33 (0, 0)) (by exact BK420.out) hb); replace BK436 := Aside0.mk (blk_below (g := gb436) (o := .cells #[.string t421, .string t422, .string t423, .string t424, .bool t425, .slice Ao27 t426.length co27, .slice Ao28 t429.length co28, .bool t432, .bool t433, .string t434] 33 (0, 0)) (by exact BK436.out) hb); replace HB := Aside0.mk (below_step (by (with_reducible exact HB.out)) hb); (try clear hb); (try clear hb2); (try clear hk); (try clear hi)))
        (try simp only [Act.put, List.setIfInBounds_toArray, List.set_cons_zero, List.set_cons_succ])
        go_cut [71] (fun v71 wc => ∃ (kq : Nat) (x71_34 : Bool), v71 = .bool x71_34 ∧ Aside0 (laws_FnAlpineBack.j2 kq a0 t437 x71_34 t405 t406 t407 t408 t409 t410 t413 t416 t417 t418 = some r) ∧ Aside0 (kq ≤ kj16) ∧ Aside0 (Kd.R k52 52 wc w.heap.size (fun k_ => some k_ ≠ ((.slice Ao27 t426.length co27) : Value).ownBlock) (.slice Ao21 t410.length co21) t410) ∧ Aside0 (Kd.R k56 56 wc w.heap.size (fun k_ => some k_ ≠ ((.slice Ao28 t429.length co28) : Value).ownBlock) (.slice Ao22 t413.length co22) t413) ∧ Aside0 (Kd.R k52 52 wc w.heap.size (fun k_ => some k_ ≠ ((.slice Ao21 t410.length co21) : Value).ownBlock) (.slice Ao27 t426.length co27) t426) ∧ Aside0 (Kd.R k56 56 wc w.heap.size (fun k_ => some k_ ≠ ((.slice Ao22 t413.length co22) : Value).ownBlock) (.slice Ao28 t429.length co28) t429) ∧ Aside0 (wc.heap[gb420]? = some (.cells #[.string t405, .string t406, .string t407, .string t408, .bool t409, (.slice Ao21 t410.length co21), (.slice Ao22 t413.length co22), .bool t416, .bool t417, .string t418] 33 (0, 0))) ∧ Aside0 (wc.heap[gb436]? = some (.cells #[.string t421, .string t422, .string t423, .string t424, .bool t425, (.slice Ao27 t426.length co27), (.slice Ao28 t429.length co28), .bool t432, .bool t433, .string t434] 33 (0, 0))) ∧ Aside0 (Below w.heap.size w wc))
        case first =>
         have H := HC35.out
         clear HC35
         by_cases c39 : t438 = true
         ·subst c39
          have H1 : (if t406.toList = ([] : List UInt8) then ((spec_AlpineTextKnown.f kj16 t437).bind fun t439 => (if t439 = true then ((spec_AlpineTexts.f kj16 a0 t437).bind fun t440 => (laws_FnAlpineBack.j2 kj16 a0 t437 (!t440) t405 t406 t407 t408 t409 t410 t413 t416 t417 t418)) else (laws_FnAlpineBack.j2 kj16 a0 t437 true t405 t406 t407 t408 t409 t410 t413 t416 t417 t418))) else (laws_FnAlpineBack.j2 kj16 a0 t437 true t405 t406 t407 t408 t409 t410 t413 t416 t417 t418)) = some r := by rw [if_pos rfl] at H; exact H
          clear H
          have H := H1
          clear H1
          by_cases c40 : t406.toList = ([] : List UInt8)
          ·rw [if_pos c40] at H
           have c40b0 : (t406.toList == ([] : List UInt8)) = true := beq_iff_eq.mpr c40
           have c40b1 : (t406.toList != ([] : List UInt8)) = false := bne_eq_false_iff_eq.mpr c40
           try have c40b9 : t406.toList.isEmpty = true := by simpa using c40b0
           clear c40
           (first | rw [c40b0] | (simp only [i64_w, i32_w]; rw [c40b0]) | rw [c40b9] | skip)
           replace H := Option.bind_eq_some_iff.mp H
           obtain ⟨t439, A410, H⟩ := H
           replace H : (if t439 = true then ((spec_AlpineTexts.f kj16 a0 t437).bind fun t440 => (laws_FnAlpineBack.j2 kj16 a0 t437 (!t440) t405 t406 t407 t408 t409 t410 t413 t416 t417 t418)) else (laws_FnAlpineBack.j2 kj16 a0 t437 true t405 t406 t407 t408 t409 t410 t413 t416 t417 t418)) = some r := H
           have A41 := Aside0.mk A410
           clear A410
           by_cases c42 : t439 = true
           ·subst c42
            have H1 : ((spec_AlpineTexts.f kj16 a0 t437).bind fun t440 => (laws_FnAlpineBack.j2 kj16 a0 t437 (!t440) t405 t406 t407 t408 t409 t410 t413 t416 t417 t418)) = some r := by rw [if_pos rfl] at H; exact H
            clear H
            have H := H1
            clear H1
            replace H := Option.bind_eq_some_iff.mp H
            obtain ⟨t440, A430, H⟩ := H
            replace H : (laws_FnAlpineBack.j2 kj16 a0 t437 (!t440) t405 t406 t407 t408 t409 t410 t413 t416 t417 t418) = some r := H
            have A43 := Aside0.mk A430
            clear A430
            have H' := Aside0.mk H
            clear H
            have hnb44 := NB420_436.out
            have hnc44 := NB436_420.out
            obtain ⟨hcz45_0, hcz45_1, hcz45_2, hcz45_3, hcz45_4, hcz45_5, hcz45_6, hcz45_7, hcz45_8, hcz45_9, hfz45_0, hfz45_1, hfz45_2, hfz45_3, hfz45_4, hfz45_5, hfz45_6, hfz45_7, hfz45_8, hfz45_9⟩ := cl10 BK420.out
            go_wp2_with (first | (go_at_call 8; (with_reducible refine (spec_AlpineTextKnown.calls kj16 t437 true _ A41.out).mono ?_); rintro e w46 ⟨rfl, hb⟩; replace HO_421005 := Aside0.mk (Kd.R_below (by (with_reducible repeat (first | apply Kd.R_alloc | apply Kd.R_drewN | apply Kd.R_drew)); exact HO_421005.out) hb); replace HO_421006 := Aside0.mk (Kd.R_below (by (with_reducible repeat (first | apply Kd.R_alloc | apply Kd.R_drewN | apply Kd.R_drew)); exact HO_421006.out) hb); replace HO_437005 := Aside0.mk (Kd.R_below (by (with_reducible repeat (first | apply Kd.R_alloc | apply Kd.R_drewN | apply Kd.R_drew)); exact HO_437005.out) hb); replace HO_437006 := Aside0.mk (Kd.R_below (by (with_reducible repeat (first | apply Kd.R_alloc | apply Kd.R_drewN | apply Kd.R_drew)); exact HO_437006.out) hb); replace BK420 := Aside0.mk (blk_below (g := gb420) (o := .cells #[.string t405, .string t406, .string t407, .string t408, .bool t409, .slice Ao21 t410.length co21, .slice Ao22 t413.length co22, .bool t416, .bool t417, .string t418] 33 (0, 0)) (by exact BK420.out) hb); replace BK436 := Aside0.mk (blk_below (g := gb436) (o := .cells #[.string t421, .string t422, .string t423, .string t424, .bool t425, .slice Ao27 t426.length co27, .slice Ao28 t429.length co28, .bool t432, .bool t433, .string t434] 33 (0, 0)) (by exact BK436.out) hb); replace HB := Aside0.mk (below_step (by (with_reducible exact HB.out)) hb); (try clear hb); (try clear hb2); (try clear hk); (try clear hi)) | (go_at_call 17; (with_reducible refine (spec_AlpineTexts.calls kj16 a0 t437 t440 _ A43.out).mono ?_); rintro e w47 ⟨rfl, hb⟩; replace HO_421005 := Aside0.mk (Kd.R_below (by (with_reducible repeat (first | apply Kd.R_alloc | apply Kd.R_drewN | apply Kd.R_drew)); exact HO_421005.out) hb); replace HO_421006 := Aside0.mk (Kd.R_below (by (with_reducible repeat (first | apply Kd.R_alloc | apply Kd.R_drewN | apply Kd.R_drew)); exact HO_421006.out) hb); replace HO_437005 := Aside0.mk (Kd.R_below (by (with_reducible repeat (first | apply Kd.R_alloc | apply Kd.R_drewN | apply Kd.R_drew)); exact HO_437005.out) hb); replace HO_437006 := Aside0.mk (Kd.R_below (by (with_reducible repeat (first | apply Kd.R_alloc | apply Kd.R_drewN | apply Kd.R_drew)); exact HO_437006.out) hb); replace BK420 := Aside0.mk (blk_below (g := gb420) (o := .cells #[.string t405, .string t406, .string t407, .string t408, .bool t409, .slice Ao21 t410.length co21, .slice Ao22 t413.length co22, .bool t416, .bool t417, .string t418] 33 (0, 0)) (by exact BK420.out) hb); replace BK436 := Aside0.mk (blk_below (g := gb436) (o := .cells #[.string t421, .string t422, .string t423, .string t424, .bool t425, .slice Ao27 t426.length co27, .slice Ao28 t429.length co28, .bool t432, .bool t433, .string t434] 33 (0, 0)) (by exact BK436.out) hb); replace HB := Aside0.mk (below_step (by (with_reducible exact HB.out)) hb); (try clear hb); (try clear hb2); (try clear hk); (try clear hi)))
            go_meet
            case rel => exact ⟨_, (!t440), (by rfl), H', ⟨by have := HJ2.out; have := HJ16.out; first | omega | exact Nat.le_refl _⟩, ⟨by (with_reducible repeat (first | apply Kd.R_alloc | apply Kd.R_drewN | apply Kd.R_drew)); exact HO_421005.out⟩, ⟨by (with_reducible repeat (first | apply Kd.R_alloc | apply Kd.R_drewN | apply Kd.R_drew)); exact HO_421006.out⟩, ⟨by (with_reducible repeat (first | apply Kd.R_alloc | apply Kd.R_drewN | apply Kd.R_drew)); exact HO_437005.out⟩, ⟨by (with_reducible repeat (first | apply Kd.R_alloc | apply Kd.R_drewN | apply Kd.R_drew)); exact HO_437006.out⟩, ⟨by exact BK420.out⟩, ⟨by exact BK436.out⟩, ⟨by (with_reducible exact HB.out)⟩⟩
           ·replace c42 := Bool.eq_false_iff.mpr c42
            subst c42
            have H1 : (laws_FnAlpineBack.j2 kj16 a0 t437 true t405 t406 t407 t408 t409 t410 t413 t416 t417 t418) = some r := by rw [if_neg (show ¬ (false = true) by decide)] at H; exact H
            clear H
            have H := H1
            clear H1
            have H' := Aside0.mk H
            clear H
            have hnb48 := NB420_436.out
            have hnc48 := NB436_420.out
            obtain ⟨hcz49_0, hcz49_1, hcz49_2, hcz49_3, hcz49_4, hcz49_5, hcz49_6, hcz49_7, hcz49_8, hcz49_9, hfz49_0, hfz49_1, hfz49_2, hfz49_3, hfz49_4, hfz49_5, hfz49_6, hfz49_7, hfz49_8, hfz49_9⟩ := cl10 BK420.out
            go_wp2_with ((go_at_call 8; (with_reducible refine (spec_AlpineTextKnown.calls kj16 t437 false _ A41.out).mono ?_); rintro e w50 ⟨rfl, hb⟩; replace HO_421005 := Aside0.mk (Kd.R_below (by (with_reducible repeat (first | apply Kd.R_alloc | apply Kd.R_drewN | apply Kd.R_drew)); exact HO_421005.out) hb); replace HO_421006 := Aside0.mk (Kd.R_below (by (with_reducible repeat (first | apply Kd.R_alloc | apply Kd.R_drewN | apply Kd.R_drew)); exact HO_421006.out) hb); replace HO_437005 := Aside0.mk (Kd.R_below (by (with_reducible repeat (first | apply Kd.R_alloc | apply Kd.R_drewN | apply Kd.R_drew)); exact HO_437005.out) hb); replace HO_437006 := Aside0.mk (Kd.R_below (by (with_reducible repeat (first | apply Kd.R_alloc | apply Kd.R_drewN | apply Kd.R_drew)); exact HO_437006.out) hb); replace BK420 := Aside0.mk (blk_below (g := gb420) (o := .cells #[.string t405, .string t406, .string t407, .string t408, .bool t409, .slice Ao21 t410.length co21, .slice Ao22 t413.length co22, .bool t416, .bool t417, .string t418] 33 (0, 0)) (by exact BK420.out) hb); replace BK436 := Aside0.mk (blk_below (g := gb436) (o := .cells #[.string t421, .string t422, .string t423, .string t424, .bool t425, .slice Ao27 t426.length co27, .slice Ao28 t429.length co28, .bool t432, .bool t433, .string t434] 33 (0, 0)) (by exact BK436.out) hb); replace HB := Aside0.mk (below_step (by (with_reducible exact HB.out)) hb); (try clear hb); (try clear hb2); (try clear hk); (try clear hi)))
            go_meet
            case rel => exact ⟨_, (true), (by rfl), H', ⟨by have := HJ2.out; have := HJ16.out; first | omega | exact Nat.le_refl _⟩, ⟨by (with_reducible repeat (first | apply Kd.R_alloc | apply Kd.R_drewN | apply Kd.R_drew)); exact HO_421005.out⟩, ⟨by (with_reducible repeat (first | apply Kd.R_alloc | apply Kd.R_drewN | apply Kd.R_drew)); exact HO_421006.out⟩, ⟨by (with_reducible repeat (first | apply Kd.R_alloc | apply Kd.R_drewN | apply Kd.R_drew)); exact HO_437005.out⟩, ⟨by (with_reducible repeat (first | apply Kd.R_alloc | apply Kd.R_drewN | apply Kd.R_drew)); exact HO_437006.out⟩, ⟨by exact BK420.out⟩, ⟨by exact BK436.out⟩, ⟨by (with_reducible exact HB.out)⟩⟩
          ·rw [if_neg c40] at H
           have c40b0 : (t406.toList == ([] : List UInt8)) = false := beq_eq_false_iff_ne.mpr c40
           have c40b1 : (t406.toList != ([] : List UInt8)) = true := bne_iff_ne.mpr c40
           try have c40b9 : t406.toList.isEmpty = false := by simpa using c40b0
           (first | rw [c40b0] | (simp only [i64_w, i32_w]; rw [c40b0]) | rw [c40b9] | skip)
           have H' := Aside0.mk H
           clear H
           have hnb51 := NB420_436.out
           have hnc51 := NB436_420.out
           obtain ⟨hcz52_0, hcz52_1, hcz52_2, hcz52_3, hcz52_4, hcz52_5, hcz52_6, hcz52_7, hcz52_8, hcz52_9, hfz52_0, hfz52_1, hfz52_2, hfz52_3, hfz52_4, hfz52_5, hfz52_6, hfz52_7, hfz52_8, hfz52_9⟩ := cl10 BK420.out
           go_wp2
           go_meet
           case rel => exact ⟨_, (true), (by rfl), H', ⟨by have := HJ2.out; have := HJ16.out; first | omega | exact Nat.le_refl _⟩, ⟨by (with_reducible repeat (first | apply Kd.R_alloc | apply Kd.R_drewN | apply Kd.R_drew)); exact HO_421005.out⟩, ⟨by (with_reducible repeat (first | apply Kd.R_alloc | apply Kd.R_drewN | apply Kd.R_drew)); exact HO_421006.out⟩, ⟨by (with_reducible repeat (first | apply Kd.R_alloc | apply Kd.R_drewN | apply Kd.R_drew)); exact HO_437005.out⟩, ⟨by (with_reducible repeat (first | apply Kd.R_alloc | apply Kd.R_drewN | apply Kd.R_drew)); exact HO_437006.out⟩, ⟨by exact BK420.out⟩, ⟨by exact BK436.out⟩, ⟨by (with_reducible exact HB.out)⟩⟩
         ·replace c39 := Bool.eq_false_iff.mpr c39
          subst c39
          have H1 : (laws_FnAlpineBack.j2 kj16 a0 t437 true t405 t406 t407 t408 t409 t410 t413 t416 t417 t418) = some r := by rw [if_neg (show ¬ (false = true) by decide)] at H; exact H
          clear H
          have H := H1
          clear H1
          have H' := Aside0.mk H
          clear H
          go_wp2
          go_meet
          case rel => exact ⟨_, (true), (by rfl), H', ⟨by have := HJ2.out; have := HJ16.out; first | omega | exact Nat.le_refl _⟩, ⟨by (with_reducible repeat (first | apply Kd.R_alloc | apply Kd.R_drewN | apply Kd.R_drew)); exact HO_421005.out⟩, ⟨by (with_reducible repeat (first | apply Kd.R_alloc | apply Kd.R_drewN | apply Kd.R_drew)); exact HO_421006.out⟩, ⟨by (with_reducible repeat (first | apply Kd.R_alloc | apply Kd.R_drewN | apply Kd.R_drew)); exact HO_437005.out⟩, ⟨by (with_reducible repeat (first | apply Kd.R_alloc | apply Kd.R_drewN | apply Kd.R_drew)); exact HO_437006.out⟩, ⟨by exact BK420.out⟩, ⟨by exact BK436.out⟩, ⟨by (with_reducible exact HB.out)⟩⟩
        case rest =>
         clear HC35
         clear hcz37_0 hcz37_1 hcz37_2 hcz37_3 hcz37_4 hcz37_5 hcz37_6 hcz37_7 hcz37_8 hcz37_9 hfz37_0 hfz37_1 hfz37_2 hfz37_3 hfz37_4 hfz37_5 hfz37_6 hfz37_7 hfz37_8 hfz37_9
         obtain ⟨kq, x71_34, rfl, HA, HJ34, HO_421005, HO_421006, HO_437005, HO_437006, BK420, BK436, HB⟩ := hcut
         cases kq with
         | zero => exact absurd HA.out (by simp [laws_FnAlpineBack.j2])
         | succ kj34 =>
          have H := HA.out
          clear HA
          simp only [laws_FnAlpineBack.j2] at H
          by_cases c53 : x71_34 = true
          ·subst c53
           have H1 : (some true) = some r := by rw [if_pos rfl] at H; exact H
           clear H
           have H := H1
           clear H1
           obtain rfl := Option.some.inj H
           go_wp2
           go_ret
           exact ⟨by rfl, by (with_reducible exact HB.out)⟩
          ·replace c53 := Bool.eq_false_iff.mpr c53
           subst c53
           have H1 : ((impl_AlpineParse.f t437).bind fun bt441 => ((impl_AlpineCompareText.f a0 t437).bind fun bt457 => (if bt441.2.2.2.2.2.2.2.2.2.2 = true then ((laws_alpine.f kj34 t405 t406 t407 t408 t409 t410 t413 t416 t417 t418 t405 bt441.2.1 bt441.2.2.1 bt441.2.2.2.1 bt441.2.2.2.2.1 bt441.2.2.2.2.2.1 bt441.2.2.2.2.2.2.1 bt441.2.2.2.2.2.2.2.1 bt441.2.2.2.2.2.2.2.2.1 bt441.2.2.2.2.2.2.2.2.2.1).bind fun t459 => (if t459 = true then (if bt457.2 = true then (some (bt457.1 == 0)) else (some false)) else (some false))) else (some false)))) = some r := by rw [if_neg (show ¬ (false = true) by decide)] at H; exact H
           clear H
           have H := H1
           clear H1
           replace H := Option.bind_eq_some_iff.mp H
           obtain ⟨⟨t441, t442, t443, t444, t445, t446, t449, t452, t453, t454, t455⟩, A540, H⟩ := H
           replace H : ((impl_AlpineCompareText.f a0 t437).bind fun bt457 => (if t455 = true then ((laws_alpine.f kj34 t405 t406 t407 t408 t409 t410 t413 t416 t417 t418 t405 t442 t443 t444 t445 t446 t449 t452 t453 t454).bind fun t459 => (if t459 = true then (if bt457.2 = true then (some (bt457.1 == 0)) else (some false)) else (some false))) else (some false))) = some r := H
           have A54 := Aside0.mk A540
           clear A540
           replace H := Option.bind_eq_some_iff.mp H
           obtain ⟨⟨t457, t458⟩, A550, H⟩ := H
           replace H : (if t455 = true then ((laws_alpine.f kj34 t405 t406 t407 t408 t409 t410 t413 t416 t417 t418 t405 t442 t443 t444 t445 t446 t449 t452 t453 t454).bind fun t459 => (if t459 = true then (if t458 = true then (some (t457 == 0)) else (some false)) else (some false))) else (some false)) = some r := H
           have A55 := Aside0.mk A550
           clear A550
           by_cases c56 : t455 = true
           ·subst c56
            have H1 : ((laws_alpine.f kj34 t405 t406 t407 t408 t409 t410 t413 t416 t417 t418 t405 t442 t443 t444 t445 t446 t449 t452 t453 t454).bind fun t459 => (if t459 = true then (if t458 = true then (some (t457 == 0)) else (some false)) else (some false))) = some r := by rw [if_pos rfl] at H; exact H
            clear H
            have H := H1
            clear H1
            replace H := Option.bind_eq_some_iff.mp H
            obtain ⟨t459, A570, H⟩ := H
            replace H : (if t459 = true then (if t458 = true then (some (t457 == 0)) else (some false)) else (some false)) = some r := H
            have A57 := Aside0.mk A570
            clear A570
            by_cases c58 : t459 = true
            ·subst c58
             have H1 : (if t458 = true then (some (t457 == 0)) else (some false)) = some r := by rw [if_pos rfl] at H; exact H
             clear H
             have H := H1
             clear H1
             by_cases c59 : t458 = true
             ·subst c59
              have H1 : (some (t457 == 0)) = some r := by rw [if_pos rfl] at H; exact H
              clear H
              have H := H1
              clear H1
              obtain rfl := Option.some.inj H
              go_wp2_with (first | ((with_reducible refine gate_callee (f := 14) rfl ?_); refine goesL_ (some 74) rfl rfl Tryz.func14 (by kernel_rfl) rfl #[.string t437] rfl (by (try simp only [List.map_toArray, List.map_cons, List.map_nil]); first | done | rfl | (simp only [List.length_drop, List.length_take]; rfl)) ?_; (with_reducible refine (impl_AlpineParse.calls t437 t441 t442 t443 t444 t445 t446 t449 t452 t453 t454 true _ A54.out (by exact GL.at HG.out (by repeat (first | (with_reducible first | exact HB.out | apply below_alloc | apply pw_below_drewN | apply below_drew1 | refine below_set ?_ GE420.out | refine below_set ?_ GE436.out | refine below_set ?_ GE456.out) | exact HB.out)))).mono ?_); rintro e w60 ⟨v447, v450, rfl, ho0, ho1, hb⟩; refine ⟨_, rfl, ?_⟩; have n0_ := Aside0.mk (Kd.R_elder' (by (with_reducible repeat (first | apply Kd.R_alloc | apply Kd.R_drewN | apply Kd.R_drew)); exact HO_421005.out) (Kd.R_base ho0) hb); have n1_ := Aside0.mk (Kd.R_elder' (by (with_reducible repeat (first | apply Kd.R_alloc | apply Kd.R_drewN | apply Kd.R_drew)); exact HO_421006.out) (Kd.R_base ho1) hb); have n2_ := Aside0.mk (Kd.R_elder' (by (with_reducible repeat (first | apply Kd.R_alloc | apply Kd.R_drewN | apply Kd.R_drew)); exact HO_437005.out) (Kd.R_base ho0) hb); have n3_ := Aside0.mk (Kd.R_elder' (by (with_reducible repeat (first | apply Kd.R_alloc | apply Kd.R_drewN | apply Kd.R_drew)); exact HO_437006.out) (Kd.R_base ho1) hb); have n4_ := Aside0.mk (Kd.R_lower (Kd.R_new' (Kd.R_new' ho0 (Kd.R_lt (by (with_reducible repeat (first | apply Kd.R_alloc | apply Kd.R_drewN | apply Kd.R_drew)); exact HO_421005.out))) (Kd.R_lt (by (with_reducible repeat (first | apply Kd.R_alloc | apply Kd.R_drewN | apply Kd.R_drew)); exact HO_437005.out))) (below_size (by (with_reducible exact HB.out)))); have n5_ := Aside0.mk (Kd.R_lower (Kd.R_new' (Kd.R_new' ho1 (Kd.R_lt (by (with_reducible repeat (first | apply Kd.R_alloc | apply Kd.R_drewN | apply Kd.R_drew)); exact HO_421006.out))) (Kd.R_lt (by (with_reducible repeat (first | apply Kd.R_alloc | apply Kd.R_drewN | apply Kd.R_drew)); exact HO_437006.out))) (below_size (by (with_reducible exact HB.out)))); have n6_ := Aside0.mk (blk_below (g := gb420) (o := .cells #[.string t405, .string t406, .string t407, .string t408, .bool t409, .slice Ao21 t410.length co21, .slice Ao22 t413.length co22, .bool t416, .bool t417, .string t418] 33 (0, 0)) (by exact BK420.out) hb); have n7_ := Aside0.mk (blk_below (g := gb436) (o := .cells #[.string t421, .string t422, .string t423, .string t424, .bool t425, .slice Ao27 t426.length co27, .slice Ao28 t429.length co28, .bool t432, .bool t433, .string t434] 33 (0, 0)) (by exact BK436.out) hb); have n8_ := Aside0.mk (below_step (by (with_reducible exact HB.out)) hb); clear HO_421005; clear HO_421006; clear HO_437005; clear HO_437006; clear BK420; clear BK436; clear HB; have HO_421005 := n0_; have HO_421006 := n1_; have HO_437005 := n2_; have HO_437006 := n3_; have HO448 := n4_; have HO451 := n5_; have BK420 := n6_; have BK436 := n7_; have HB := n8_; clear n0_ n1_ n2_ n3_ n4_ n5_ n6_ n7_ n8_; (try clear hb); (try clear hb2); (try clear hk); (try clear hi); (try clear ho0); (try clear ho1)) | ((with_reducible refine gate_dst (N := 9) rfl ?_); refine box_event ?hg (N := 9) ?hd (cs := #[.string ⟨#[]⟩, .string ⟨#[]⟩, .string ⟨#[]⟩, .string ⟨#[]⟩, .bool false, .slice none 0 0, .slice none 0 0, .bool false, .bool false, .string ⟨#[]⟩]) (t := 33) ?hr ?_; (case hd => rfl); (case hg => rfl); (case hr => first | (go_simp; done) | (go_simp; rfl)); intro gb456 hg w61 hbox hb; have n0_ := Aside0.mk (Kd.R_below (by (with_reducible repeat (first | apply Kd.R_alloc | apply Kd.R_drewN | apply Kd.R_drew)); exact HO_421005.out) hb); have n1_ := Aside0.mk (Kd.R_below (by (with_reducible repeat (first | apply Kd.R_alloc | apply Kd.R_drewN | apply Kd.R_drew)); exact HO_421006.out) hb); have n2_ := Aside0.mk (Kd.R_below (by (with_reducible repeat (first | apply Kd.R_alloc | apply Kd.R_drewN | apply Kd.R_drew)); exact HO_437005.out) hb); have n3_ := Aside0.mk (Kd.R_below (by (with_reducible repeat (first | apply Kd.R_alloc | apply Kd.R_drewN | apply Kd.R_drew)); exact HO_437006.out) hb); have n4_ := Aside0.mk (Kd.R_below (by (with_reducible repeat (first | apply Kd.R_alloc | apply Kd.R_drewN | apply Kd.R_drew)); exact HO448.out) hb); have n5_ := Aside0.mk (Kd.R_below (by (with_reducible repeat (first | apply Kd.R_alloc | apply Kd.R_drewN | apply Kd.R_drew)); exact HO451.out) hb); have n6_ := Aside0.mk (blk_below (g := gb420) (o := .cells #[.string t405, .string t406, .string t407, .string t408, .bool t409, .slice Ao21 t410.length co21, .slice Ao22 t413.length co22, .bool t416, .bool t417, .string t418] 33 (0, 0)) (by exact BK420.out) hb); have n7_ := Aside0.mk (blk_below (g := gb436) (o := .cells #[.string t421, .string t422, .string t423, .string t424, .bool t425, .slice Ao27 t426.length co27, .slice Ao28 t429.length co28, .bool t432, .bool t433, .string t434] 33 (0, 0)) (by exact BK436.out) hb); have n8_ := Aside0.mk (below_step (by (with_reducible exact HB.out)) hb); have n9_ := Aside0.mk hbox; have n10_ := Aside0.mk ((by rw [hg]; exact (below_size (by (with_reducible exact HB.out))) : w.heap.size ≤ gb456)); have n11_ := Aside0.mk ((by rw [hg]; exact (below_size (by (with_reducible exact HB.out))) : w.heap.size ≤ gb456)); have n12_ := Aside0.mk ((by rw [hg]; exact Nat.ne_of_lt (blk_lt (g := gb420) (o := .cells #[.string t405, .string t406, .string t407, .string t408, .bool t409, .slice Ao21 t410.length co21, .slice Ao22 t413.length co22, .bool t416, .bool t417, .string t418] 33 (0, 0)) (by exact BK420.out)) : gb420 ≠ gb456)); have n13_ := Aside0.mk ((by rw [hg]; exact Nat.ne_of_gt (blk_lt (g := gb420) (o := .cells #[.string t405, .string t406, .string t407, .string t408, .bool t409, .slice Ao21 t410.length co21, .slice Ao22 t413.length co22, .bool t416, .bool t417, .string t418] 33 (0, 0)) (by exact BK420.out)) : gb456 ≠ gb420)); have n14_ := Aside0.mk ((by rw [hg]; exact Nat.ne_of_lt (blk_lt (g := gb436) (o := .cells #[.string t421, .string t422, .string t423, .string t424, .bool t425, .slice Ao27 t426.length co27, .slice Ao28 t429.length co28, .bool t432, .bool t433, .string t434] 33 (0, 0)) (by exact BK436.out)) : gb436 ≠ gb456)); have n15_ := Aside0.mk ((by rw [hg]; exact Nat.ne_of_gt (blk_lt (g := gb436) (o := .cells #[.string t421, .string t422, .string t423, .string t424, .bool t425, .slice Ao27 t426.length co27, .slice Ao28 t429.length co28, .bool t432, .bool t433, .string t434] 33 (0, 0)) (by exact BK436.out)) : gb456 ≠ gb436)); clear HO_421005; clear HO_421006; clear HO_437005; clear HO_437006; clear HO448; clear HO451; clear BK420; clear BK436; clear HB; have HO_421005 := n0_; have HO_421006 := n1_; have HO_437005 := n2_; have HO_437006 := n3_; have HO448 := n4_; have HO451 := n5_; have BK420 := n6_; have BK436 := n7_; have HB := n8_; have BK456 := n9_; have GW456 := n10_; have GE456 := n11_; have NB420_456 := n12_; have NB456_420 := n13_; have NB436_456 := n14_; have NB456_436 := n15_; clear n0_ n1_ n2_ n3_ n4_ n5_ n6_ n7_ n8_ n9_ n10_ n11_ n12_ n13_ n14_ n15_; clear hb hbox hg; have hnb62 := NB456_420.out; have hnc62 := NB420_456.out; have hnb63 := NB456_436.out; have hnc63 := NB436_456.out; obtain ⟨hcz64_0, hcz64_1, hcz64_2, hcz64_3, hcz64_4, hcz64_5, hcz64_6, hcz64_7, hcz64_8, hcz64_9, hfz64_0, hfz64_1, hfz64_2, hfz64_3, hfz64_4, hfz64_5, hfz64_6, hfz64_7, hfz64_8, hfz64_9⟩ := cl10 BK456.out; obtain ⟨Ao65, co65, eo65⟩ := Kd.R_slice HO448.out; subst eo65; obtain ⟨Ao66, co66, eo66⟩ := Kd.R_slice HO451.out; subst eo66; have hnb67 := NB420_436.out; have hnc67 := NB436_420.out; obtain ⟨hcz68_0, hcz68_1, hcz68_2, hcz68_3, hcz68_4, hcz68_5, hcz68_6, hcz68_7, hcz68_8, hcz68_9, hfz68_0, hfz68_1, hfz68_2, hfz68_3, hfz68_4, hfz68_5, hfz68_6, hfz68_7, hfz68_8, hfz68_9⟩ := cl10 BK420.out) | ((with_reducible refine gate_callee (f := 10) rfl ?_); refine goesL_ (some 83) rfl rfl Tryz.func10 (by kernel_rfl) rfl #[.string a0, .string t437] rfl (by (try simp only [List.map_toArray, List.map_cons, List.map_nil]); first | done | rfl | (simp only [List.length_drop, List.length_take]; rfl)) ?_; (with_reducible refine (impl_AlpineCompareText.calls a0 t437 t457 true _ A55.out (by exact GL.at HG.out (by repeat (first | (with_reducible first | exact HB.out | apply below_alloc | apply pw_below_drewN | apply below_drew1 | refine below_set ?_ GE420.out | refine below_set ?_ GE436.out | refine below_set ?_ GE456.out) | exact HB.out)))).mono ?_); rintro e w69 ⟨rfl, hb⟩; refine ⟨_, rfl, ?_⟩; replace HO_421005 := Aside0.mk (Kd.R_below (by (with_reducible repeat (first | apply Kd.R_alloc | apply Kd.R_drewN | apply Kd.R_drew)); exact (Kd.R_mono (farC (farC (farC (farC (farC (farC (farC (farC (farC (farC (farC (Kd.R_types HO_421005.out BK456.out (by decide))))))))))))) (fun _ h_ => h_.1))) hb); replace HO_421006 := Aside0.mk (Kd.R_below (by (with_reducible repeat (first | apply Kd.R_alloc | apply Kd.R_drewN | apply Kd.R_drew)); exact (Kd.R_mono (farC (farC (farC (farC (farC (farC (farC (farC (farC (farC (farC (Kd.R_types HO_421006.out BK456.out (by decide))))))))))))) (fun _ h_ => h_.1))) hb); replace HO_437005 := Aside0.mk (Kd.R_below (by (with_reducible repeat (first | apply Kd.R_alloc | apply Kd.R_drewN | apply Kd.R_drew)); exact (Kd.R_mono (farC (farC (farC (farC (farC (farC (farC (farC (farC (farC (farC (Kd.R_types HO_437005.out BK456.out (by decide))))))))))))) (fun _ h_ => h_.1))) hb); replace HO_437006 := Aside0.mk (Kd.R_below (by (with_reducible repeat (first | apply Kd.R_alloc | apply Kd.R_drewN | apply Kd.R_drew)); exact (Kd.R_mono (farC (farC (farC (farC (farC (farC (farC (farC (farC (farC (farC (Kd.R_types HO_437006.out BK456.out (by decide))))))))))))) (fun _ h_ => h_.1))) hb); replace HO448 := Aside0.mk (Kd.R_below (by (with_reducible repeat (first | apply Kd.R_alloc | apply Kd.R_drewN | apply Kd.R_drew)); exact (Kd.R_mono (farC (farC (farC (farC (farC (farC (farC (farC (farC (farC (farC (Kd.R_types HO448.out BK456.out (by decide))))))))))))) (fun _ h_ => h_.1))) hb); replace HO451 := Aside0.mk (Kd.R_below (by (with_reducible repeat (first | apply Kd.R_alloc | apply Kd.R_drewN | apply Kd.R_drew)); exact (Kd.R_mono (farC (farC (farC (farC (farC (farC (farC (farC (farC (farC (farC (Kd.R_types HO451.out BK456.out (by decide))))))))))))) (fun _ h_ => h_.1))) hb); replace BK420 := Aside0.mk (blk_below (g := gb420) (o := .cells #[.string t405, .string t406, .string t407, .string t408, .bool t409, .slice Ao21 t410.length co21, .slice Ao22 t413.length co22, .bool t416, .bool t417, .string t418] 33 (0, 0)) (by refine blk_far ?_ NB420_456.out _; refine blk_far ?_ NB420_456.out _; refine blk_far ?_ NB420_456.out _; refine blk_far ?_ NB420_456.out _; refine blk_far ?_ NB420_456.out _; refine blk_far ?_ NB420_456.out _; refine blk_far ?_ NB420_456.out _; refine blk_far ?_ NB420_456.out _; refine blk_far ?_ NB420_456.out _; refine blk_far ?_ NB420_456.out _; refine blk_far ?_ NB420_456.out _; exact BK420.out) hb); replace BK436 := Aside0.mk (blk_below (g := gb436) (o := .cells #[.string t421, .string t422, .string t423, .string t424, .bool t425, .slice Ao27 t426.length co27, .slice Ao28 t429.length co28, .bool t432, .bool t433, .string t434] 33 (0, 0)) (by refine blk_far ?_ NB436_456.out _; refine blk_far ?_ NB436_456.out _; refine blk_far ?_ NB436_456.out _; refine blk_far ?_ NB436_456.out _; refine blk_far ?_ NB436_456.out _; refine blk_far ?_ NB436_456.out _; refine blk_far ?_ NB436_456.out _; refine blk_far ?_ NB436_456.out _; refine blk_far ?_ NB436_456.out _; refine blk_far ?_ NB436_456.out _; refine blk_far ?_ NB436_456.out _; exact BK436.out) hb); replace BK456 := Aside0.mk (blk_below (g := gb456) (o := .cells #[.string t405, .string t442, .string t443, .string t444, .bool t445, .slice Ao65 t446.length co65, .slice Ao66 t449.length co66, .bool t452, .bool t453, .string t454] 33 (0, 0)) (by refine blk_put (cs := #[.string t441, .string t442, .string t443, .string t444, .bool t445, .slice Ao65 t446.length co65, .slice Ao66 t449.length co66, .bool t452, .bool t453, .string t454]) ?_ 0 _ rfl; refine blk_put (cs := #[.string t441, .string t442, .string t443, .string t444, .bool t445, .slice Ao65 t446.length co65, .slice Ao66 t449.length co66, .bool t452, .bool t453, .string ⟨#[]⟩]) ?_ 9 _ rfl; refine blk_put (cs := #[.string t441, .string t442, .string t443, .string t444, .bool t445, .slice Ao65 t446.length co65, .slice Ao66 t449.length co66, .bool t452, .bool false, .string ⟨#[]⟩]) ?_ 8 _ rfl; refine blk_put (cs := #[.string t441, .string t442, .string t443, .string t444, .bool t445, .slice Ao65 t446.length co65, .slice Ao66 t449.length co66, .bool false, .bool false, .string ⟨#[]⟩]) ?_ 7 _ rfl; refine blk_put (cs := #[.string t441, .string t442, .string t443, .string t444, .bool t445, .slice Ao65 t446.length co65, .slice none 0 0, .bool false, .bool false, .string ⟨#[]⟩]) ?_ 6 _ rfl; refine blk_put (cs := #[.string t441, .string t442, .string t443, .string t444, .bool t445, .slice none 0 0, .slice none 0 0, .bool false, .bool false, .string ⟨#[]⟩]) ?_ 5 _ rfl; refine blk_put (cs := #[.string t441, .string t442, .string t443, .string t444, .bool false, .slice none 0 0, .slice none 0 0, .bool false, .bool false, .string ⟨#[]⟩]) ?_ 4 _ rfl; refine blk_put (cs := #[.string t441, .string t442, .string t443, .string ⟨#[]⟩, .bool false, .slice none 0 0, .slice none 0 0, .bool false, .bool false, .string ⟨#[]⟩]) ?_ 3 _ rfl; refine blk_put (cs := #[.string t441, .string t442, .string ⟨#[]⟩, .string ⟨#[]⟩, .bool false, .slice none 0 0, .slice none 0 0, .bool false, .bool false, .string ⟨#[]⟩]) ?_ 2 _ rfl; refine blk_put (cs := #[.string t441, .string ⟨#[]⟩, .string ⟨#[]⟩, .string ⟨#[]⟩, .bool false, .slice none 0 0, .slice none 0 0, .bool false, .bool false, .string ⟨#[]⟩]) ?_ 1 _ rfl; refine blk_put (cs := #[.string ⟨#[]⟩, .string ⟨#[]⟩, .string ⟨#[]⟩, .string ⟨#[]⟩, .bool false, .slice none 0 0, .slice none 0 0, .bool false, .bool false, .string ⟨#[]⟩]) ?_ 0 _ rfl; exact BK456.out) hb); replace HB := Aside0.mk (below_step (by repeat (first | (with_reducible first | exact HB.out | apply below_alloc | apply pw_below_drewN | apply below_drew1 | refine below_set ?_ GE420.out | refine below_set ?_ GE436.out | refine below_set ?_ GE456.out) | exact HB.out)) hb); (try clear hb); (try clear hb2); (try clear hk); (try clear hi); obtain ⟨hcz70_0, hcz70_1, hcz70_2, hcz70_3, hcz70_4, hcz70_5, hcz70_6, hcz70_7, hcz70_8, hcz70_9, hfz70_0, hfz70_1, hfz70_2, hfz70_3, hfz70_4, hfz70_5, hfz70_6, hfz70_7, hfz70_8, hfz70_9⟩ := cl10 BK420.out; obtain ⟨hcz71_0, hcz71_1, hcz71_2, hcz71_3, hcz71_4, hcz71_5, hcz71_6, hcz71_7, hcz71_8, hcz71_9, hfz71_0, hfz71_1, hfz71_2, hfz71_3, hfz71_4, hfz71_5, hfz71_6, hfz71_7, hfz71_8, hfz71_9⟩ := cl10 BK456.out) | (go_at_call 18; (with_reducible refine (laws_alpine.calls kj34 t405 t406 t407 t408 t409 _ _ t410 _ _ t413 t416 t417 t418 t405 t442 t443 t444 t445 _ _ t446 _ _ t449 t452 t453 t454 true _ ?side1 ?side2 ?side3 ?side4 ?side5 ?side6 ?side7 ?side8 A57.out (by rfl)).mono ?_); (case side1 => repeat (first | exact (Kd.R_reads' HO_421005.out).2.2 | (with_reducible refine Kd.C_alloc ?_ _) | (with_reducible refine Kd.C_drewN ?_ _) | (with_reducible refine Kd.C_drew ?_))); (case side2 => exact (Kd.R_reads' HO_421005.out).2.1); (case side3 => repeat (first | exact (Kd.R_reads' HO_421006.out).2.2 | (with_reducible refine Kd.C_alloc ?_ _) | (with_reducible refine Kd.C_drewN ?_ _) | (with_reducible refine Kd.C_drew ?_))); (case side4 => exact (Kd.R_reads' HO_421006.out).2.1); (case side5 => repeat (first | exact (Kd.R_reads' HO448.out).2.2 | (with_reducible refine Kd.C_alloc ?_ _) | (with_reducible refine Kd.C_drewN ?_ _) | (with_reducible refine Kd.C_drew ?_))); (case side6 => exact (Kd.R_reads' HO448.out).2.1); (case side7 => repeat (first | exact (Kd.R_reads' HO451.out).2.2 | (with_reducible refine Kd.C_alloc ?_ _) | (with_reducible refine Kd.C_drewN ?_ _) | (with_reducible refine Kd.C_drew ?_))); (case side8 => exact (Kd.R_reads' HO451.out).2.1); rintro e w72 ⟨rfl, hb⟩; replace HO_421005 := Aside0.mk (Kd.R_below (by (with_reducible repeat (first | apply Kd.R_alloc | apply Kd.R_drewN | apply Kd.R_drew)); exact HO_421005.out) hb); replace HO_421006 := Aside0.mk (Kd.R_below (by (with_reducible repeat (first | apply Kd.R_alloc | apply Kd.R_drewN | apply Kd.R_drew)); exact HO_421006.out) hb); replace HO_437005 := Aside0.mk (Kd.R_below (by (with_reducible repeat (first | apply Kd.R_alloc | apply Kd.R_drewN | apply Kd.R_drew)); exact HO_437005.out) hb); replace HO_437006 := Aside0.mk (Kd.R_below (by (with_reducible repeat (first | apply Kd.R_alloc | apply Kd.R_drewN | apply Kd.R_drew)); exact HO_437006.out) hb); replace HO448 := Aside0.mk (Kd.R_below (by (with_reducible repeat (first | apply Kd.R_alloc | apply Kd.R_drewN | apply Kd.R_drew)); exact HO448.out) hb); replace HO451 := Aside0.mk (Kd.R_below (by (with_reducible repeat (first | apply Kd.R_alloc | apply Kd.R_drewN | apply Kd.R_drew)); exact HO451.out) hb); replace BK420 := Aside0.mk (blk_below (g := gb420) (o := .cells #[.string t405, .string t406, .string t407, .string t408, .bool t409, .slice Ao21 t410.length co21, .slice Ao22 t413.length co22, .bool t416, .bool t417, .string t418] 33 (0, 0)) (by exact BK420.out) hb); replace BK436 := Aside0.mk (blk_below (g := gb436) (o := .cells #[.string t421, .string t422, .string t423, .string t424, .bool t425, .slice Ao27 t426.length co27, .slice Ao28 t429.length co28, .bool t432, .bool t433, .string t434] 33 (0, 0)) (by exact BK436.out) hb); replace BK456 := Aside0.mk (blk_below (g := gb456) (o := .cells #[.string t405, .string t442, .string t443, .string t444, .bool t445, .slice Ao65 t446.length co65, .slice Ao66 t449.length co66, .bool t452, .bool t453, .string t454] 33 (0, 0)) (by exact BK456.out) hb); replace HB := Aside0.mk (below_step (by (with_reducible exact HB.out)) hb); (try clear hb); (try clear hb2); (try clear hk); (try clear hi)))
              go_ret
              exact ⟨by rfl, by (with_reducible exact HB.out)⟩
             ·replace c59 := Bool.eq_false_iff.mpr c59
              subst c59
              have H1 : (some false) = some r := by rw [if_neg (show ¬ (false = true) by decide)] at H; exact H
              clear H
              have H := H1
              clear H1
              obtain rfl := Option.some.inj H
              exact absurd HT.out Bool.false_ne_true
            ·replace c58 := Bool.eq_false_iff.mpr c58
             subst c58
             have H1 : (some false) = some r := by rw [if_neg (show ¬ (false = true) by decide)] at H; exact H
             clear H
             have H := H1
             clear H1
             obtain rfl := Option.some.inj H
             exact absurd HT.out Bool.false_ne_true
           ·replace c56 := Bool.eq_false_iff.mpr c56
            subst c56
            have H1 : (some false) = some r := by rw [if_neg (show ¬ (false = true) by decide)] at H; exact H
            clear H
            have H := H1
            clear H1
            obtain rfl := Option.some.inj H
            exact absurd HT.out Bool.false_ne_true
def laws_FnAlpineBack.Pure : Prop := ∀ (a0 : ByteArray), a0.size ≤ 140737488351232 → ∃ k, laws_FnAlpineBack.f k a0 = some true
theorem laws_FnAlpineBack.walk (P : laws_FnAlpineBack.Pure) (a0 : ByteArray) (w : World) (w0 : a0.size ≤ 140737488351232) (hG : GL w) :
  Calls Tryz.prog 4 #[.string a0] w fun e w' => e = .returned (.bool true) ∧ Below w.heap.size w w' := by
 obtain ⟨k, h⟩ := P a0 w0
 refine (laws_FnAlpineBack.calls k a0 true w h hG rfl).mono ?_
 rintro e w' ⟨rfl, hd⟩
 exact ⟨rfl, hd⟩
end Go.Proofs.YtapaijpglfmfgaaGreatDoor.Q
end
section -- BA
namespace Go.Proofs.YtapaijpglfmfgaaGreatDoor.V
open Go.RowKit Go.Proofs.YtapaijpglfmfgaaGreatDoor.Q Go.Proofs.YtapaijpglfmfgaaGreatDoorG Go.Proofs.YtapaijpglfmfgaaGreatDoorP Go.Proofs.YtapaijpglfmfgaaGreatDoorH Go.Proofs.YtapaijpglfmfgaaGreatDoorB Go.Proofs.YtapaijpglfmfgaaGreatDoorM Go.Proofs.YtapaijpglfmfgaaGreatDoorW.PrintWords Go.Proofs.YtapaijpglfmfgaaGreatDoorW.PrintLast
set_option linter.unusedVariables false
set_option linter.unusedSimpArgs false
theorem rd_nat (l : List Int) (i : Nat) : rd l (i : Int) = l.getD i 0 := by simp [rd]
theorem intOf_l2 (m : List Int) (hm : m.length ≤ 1000000) : ∀ (n k : Nat), m.length - k = n → k ≤ m.length →
  Ev (fun q => spec_intOf.l2 q m (content m.length (m.take k)) (k : Int)) (false, strOfNums m.reverse) := by
 intro n
 induction n with
 | zero =>
  intro k hn hk
  obtain rfl : k = m.length := by omega
  refine Ev.succ ?_
  simp only [spec_intOf.l2]
  refine Ev.neg (fun _ => by first | omega | assumption | nofun) ?_
  refine Ev.eq (Ev.now _) ?_
  rw [List.take_length, content_done _ rfl]
 | succ n ih =>
  intro k hn hk
  have hlt : k < m.length := by omega
  have htl : (m.take k).length = k := by rw [List.length_take]; omega
  have hcl : (content m.length (m.take k)).length = m.length := content_len (by omega)
  refine Ev.succ ?_
  simp only [spec_intOf.l2, rd_nat]
  refine Ev.pos (fun _ => by first | omega | trivial | assumption) ?_
  refine Ev.pos (fun _ => by first | omega | trivial | assumption) ?_
  rw [w64 (i := (m.length : Int) - 1) (by omega) (by omega), w64 (i := (m.length : Int) - 1 - (k : Int)) (by omega) (by omega), w64 (i := (k : Int) + 1) (by omega) (by omega)]
  refine Ev.pos (fun _ => by omega) ?_
  refine Ev.pos (fun _ => by rw [hcl]; omega) ?_
  have e1 : ((m.length : Int) - 1 - (k : Int)).toNat = m.length - (m.take k).length - 1 := by rw [htl]; omega
  rw [e1, content_step _ (by rw [htl]; exact hlt)]
  have e2 : m.take k ++ [m.getD k 0] = m.take (k + 1) := by
   rw [List.take_add_one, List.getElem?_eq_getElem hlt, List.getD_eq_getElem?_getD, List.getElem?_eq_getElem hlt]
   rfl
  rw [e2]
  exact ih (k + 1) (by omega) (by omega)
theorem intOf_l1 (s : ByteArray) (i : Int) {r : Bool × ByteArray} : ∀ (rest done : List Int) (c : Nat), Byt rest → c ≤ 300 → done.length + rest.length ≤ 1000000 →
  Ev (fun q => spec_intOf.l1 q s (done ++ (mul10 rest c).1) i ((mul10 rest c).2 : Int) ((done.length + rest.length : Nat) : Int)) r → Ev (fun q => spec_intOf.l1 q s (done ++ rest) i (c : Int) (done.length : Int)) r
 | [], done, c, _, _, _, h => by simpa [mul10] using h
 | x :: rest, done, c, hb, hc, hl, h => by
  have hx := hb.cons.1
  simp only [List.length_cons] at hl
  refine Ev.succ ?_
  simp only [spec_intOf.l1, rd_nat]
  refine Ev.pos (fun _ => by rw [List.length_append, List.length_cons]; omega) ?_
  refine Ev.pos (fun _ => by omega) ?_
  have hg : (done ++ x :: rest).getD done.length 0 = x := by simp [List.getD_eq_getElem?_getD]
  rw [hg, w64 (i := x) (by omega) (by omega), w64 (i := 10 * x) (by omega) (by omega), w64 (i := (c : Int) + 10 * x) (by omega) (by omega), w64 (i := (done.length : Int) + 1) (by omega) (by omega), Int.toNat_natCast]
  have e0 : (c : Int) + 10 * x = ((c + 10 * x.toNat : Nat) : Int) := by omega
  have e1 : Int.tmod ((c : Int) + 10 * x) 256 % 256 = (((c + 10 * x.toNat) % 256 : Nat) : Int) := by
   rw [e0, Int.tmod_eq_emod_of_nonneg (by omega)]
   omega
  have e2 : wrap64 (Int.tdiv ((c : Int) + 10 * x) 256) = (((c + 10 * x.toNat) / 256 : Nat) : Int) := by
   rw [e0, Int.tdiv_eq_ediv_of_nonneg (by omega), w64 (by omega) (by omega)]
   omega
  rw [e1, e2]
  have e3 : (done ++ x :: rest).set done.length (((c + 10 * x.toNat) % 256 : Nat) : Int) = (done ++ [(((c + 10 * x.toNat) % 256 : Nat) : Int)]) ++ rest := by simp
  rw [e3]
  have ih := intOf_l1 s i (r := r) rest (done ++ [(((c + 10 * x.toNat) % 256 : Nat) : Int)]) ((c + 10 * x.toNat) / 256) hb.cons.2 (by omega) (by simp; omega)
  have e4 : ((done ++ [(((c + 10 * x.toNat) % 256 : Nat) : Int)]).length : Int) = (done.length : Int) + 1 := by simp
  rw [e4] at ih
  refine ih ?_
  simp only [mul10] at h
  have e5 : (((done ++ [(((c + 10 * x.toNat) % 256 : Nat) : Int)]).length + rest.length : Nat) : Int) = ((done.length + (x :: rest).length : Nat) : Int) := by simp; omega
  rw [e5, List.append_assoc]
  exact h
theorem pushD_len (m : List Int) (d : Nat) : (pushD m d).length ≤ m.length + 1 := by
 unfold pushD
 split
 ·simp [mul10_len]
 ·rw [mul10_len]; omega
theorem intOf_l0 (s : ByteArray) (hs : s.size ≤ 200000) (hd : ∀ c ∈ bytesOf s, isD c = true) : ∀ (n i : Nat) (m : List Int), s.size - i = n → i ≤ s.size → m.length ≤ i → Tight m (decL ((bytesOf s).take i)) →
  Ev (fun q => spec_intOf.l0 q s m (i : Int)) (false, magB (decL (bytesOf s))) := by
 intro n
 induction n with
 | zero =>
  intro i m hn hi hm ht
  obtain rfl : i = s.size := by omega
  rw [List.take_of_length_le (by rw [bytesOf_length]; exact Nat.le_refl _)] at ht
  refine Ev.succ ?_
  simp only [spec_intOf.l0]
  refine Ev.neg (fun _ => by first | omega | assumption | nofun) ?_
  refine Ev.pos (fun _ => by omega) ?_
  refine Ev.pos (fun _ => by omega) ?_
  have h := intOf_l2 m (by omega) _ 0 rfl (Nat.zero_le _)
  have e : content m.length (m.take 0) = List.replicate ((m.length : Int)).toNat 0 := by simp [content]
  rw [e] at h
  refine Ev.eq h ?_
  rw [ht.mag]
  rfl
 | succ n ih =>
  intro i m hn hi hm ht
  have hl : i < (bytesOf s).length := by rw [bytesOf_length]; omega
  have hc : isD ((bytesOf s).getD i 0) = true := hd _ (by rw [List.getD_eq_getElem?_getD, List.getElem?_eq_getElem hl]; exact List.getElem_mem hl)
  unfold isD at hc
  have hc2 := of_decide_eq_true hc
  obtain ⟨d, hdd⟩ : ∃ d, d = ((bytesOf s).getD i 0 - 48).toNat := ⟨_, rfl⟩
  refine Ev.succ ?_
  simp only [spec_intOf.l0, bt_nat]
  refine Ev.pos (fun _ => by first | omega | trivial | assumption) ?_
  refine Ev.pos (fun _ => by first | omega | trivial | assumption) ?_
  have e1 : ((bytesOf s).getD i 0 - 48) % 256 = (d : Int) := by omega
  rw [e1]
  have htk : decL ((bytesOf s).take (i + 1)) = 10 * decL ((bytesOf s).take i) + d := by
   rw [List.take_add_one, List.getElem?_eq_getElem hl, hdd, List.getD_eq_getElem?_getD, List.getElem?_eq_getElem hl]
   exact decL_snoc _ _
  have hp : Tight (pushD m d) (decL ((bytesOf s).take (i + 1))) := by rw [htk]; exact push_tight ht (by omega)
  have hcar := mul10_carry m d ht.byt (by omega)
  have hpl := pushD_len m d
  have next := ih (i + 1) (pushD m d) (by omega) (by omega) (by omega) hp
  have h := intOf_l1 s (i : Int) (r := (false, magB (decL (bytesOf s)))) m [] d ht.byt (by omega) (by simp; omega)
  simp only [List.nil_append, List.length_nil, Nat.zero_add] at h
  refine h ?_
  refine Ev.succ ?_
  simp only [spec_intOf.l1]
  refine Ev.neg (fun _ => by rw [mul10_len]; omega) ?_
  rw [w64 (i := (i : Int) + 1) (by omega) (by omega)]
  unfold pushD at next
  by_cases hq : (mul10 m d).2 > 0
  ·rw [if_pos hq] at next
   refine Ev.pos (fun _ => by omega) ?_
   refine Ev.pos (fun _ => by rw [mul10_len]; omega) ?_
   have e2 : ((mul10 m d).2 : Int) % 256 = ((mul10 m d).2 : Int) := by omega
   rw [e2]
   exact next
  ·rw [if_neg hq] at next
   refine Ev.neg (fun _ => by omega) ?_
   exact next
theorem intOf_ev (s : ByteArray) (hs : s.size ≤ 200000) (hd : ∀ c ∈ bytesOf s, isD c = true) : Ev (fun q => spec_intOf.f q s) (false, magB (decL (bytesOf s))) :=
 intOf_l0 s hs hd _ 0 [] rfl (Nat.zero_le _) (Nat.le_refl _) ⟨fun x hx => by simp at hx, rfl, fun h => absurd rfl h⟩
theorem isDigit_eq (c : Int) : E1.spec_isDigit.f c = some (isD c) := by
 unfold E1.spec_isDigit.f isD
 by_cases h : c ≥ 48
 ·rw [if_pos h]; simp; omega
 ·rw [if_neg h]; simp; omega
theorem isDigit2_eq (c : Int) : E2.spec_isDigit.f c = some (isD c) := by
 unfold E2.spec_isDigit.f isD
 by_cases h : c ≥ 48
 ·rw [if_pos h]; simp; omega
 ·rw [if_neg h]; simp; omega
theorem alpHex2_eq (c : Int) : E2.spec_alpHex.f c = some (isX c) := by
 unfold E2.spec_alpHex.f isX
 rw [isDigit2_eq]
 simp only [Option.bind_some]
 cases isD c
 ·rw [if_neg Bool.false_ne_true, Bool.false_or]
  by_cases h : c ≥ 97
  ·rw [if_pos h]; congr 1; rw [decide_eq_decide]; omega
  ·rw [if_neg h]; congr 1; symm; rw [decide_eq_false_iff_not]; omega
 ·rfl
theorem run1_from (s : ByteArray) (hs : s.size ≤ 2000000) : ∀ (n i : Nat), s.size - i = n → i ≤ s.size → Ev (fun k => E1.spec_alpRun.l0 k s (i : Int)) ((i + run isD ((bytesOf s).drop i) : Nat) : Int) := by
 intro n
 induction n with
 | zero =>
  intro i hn hi
  refine Ev.succ ?_
  simp only [E1.spec_alpRun.l0]
  refine Ev.neg (fun _ => by first | omega | assumption | nofun) ?_
  refine Ev.eq (Ev.now _) ?_
  rw [List.drop_of_length_le (by rw [bytesOf_length]; omega), run_nil]
  rfl
 | succ n ih =>
  intro i hn hi
  have hl : i < (bytesOf s).length := by rw [bytesOf_length]; omega
  refine Ev.succ ?_
  simp only [E1.spec_alpRun.l0, bt_nat, isDigit_eq, Option.bind_some]
  refine Ev.pos (fun _ => by first | omega | trivial | assumption) ?_
  refine Ev.pos (fun _ => by first | omega | trivial | assumption) ?_
  rw [drop_get _ _ hl]
  cases hd : isD ((bytesOf s).getD i 0)
  ·refine Ev.neg (fun _ => Bool.false_ne_true) ?_
   refine Ev.eq (Ev.now _) ?_
   rw [run_neg hd]
   rfl
  ·refine Ev.pos (fun _ => rfl) ?_
   rw [w64 (by omega) (by omega), run_pos hd]
   refine Ev.eq (ih (i + 1) (by omega) (by omega)) ?_
   have : i + 1 + run isD ((bytesOf s).drop (i + 1)) = i + (run isD ((bytesOf s).drop (i + 1)) + 1) := by omega
   rw [this]
theorem run1_ev (s : ByteArray) (hs : s.size ≤ 2000000) : Ev (fun k => E1.spec_alpRun.f k s) ((run isD (bytesOf s) : Nat) : Int) := by
 have h := run1_from s hs _ 0 rfl (Nat.zero_le _)
 simpa [E1.spec_alpRun.f] using h
theorem run2_from (s : ByteArray) (hs : s.size ≤ 2000000) : ∀ (n i : Nat), s.size - i = n → i ≤ s.size → Ev (fun k => E2.spec_alpRun.l0 k s (i : Int)) ((i + run isX ((bytesOf s).drop i) : Nat) : Int) := by
 intro n
 induction n with
 | zero =>
  intro i hn hi
  refine Ev.succ ?_
  simp only [E2.spec_alpRun.l0]
  refine Ev.neg (fun _ => by first | omega | assumption | nofun) ?_
  refine Ev.eq (Ev.now _) ?_
  rw [List.drop_of_length_le (by rw [bytesOf_length]; omega), run_nil]
  rfl
 | succ n ih =>
  intro i hn hi
  have hl : i < (bytesOf s).length := by rw [bytesOf_length]; omega
  refine Ev.succ ?_
  simp only [E2.spec_alpRun.l0, bt_nat, alpHex2_eq, Option.bind_some]
  refine Ev.pos (fun _ => by first | omega | trivial | assumption) ?_
  refine Ev.pos (fun _ => by first | omega | trivial | assumption) ?_
  rw [drop_get _ _ hl]
  cases hd : isX ((bytesOf s).getD i 0)
  ·refine Ev.neg (fun _ => Bool.false_ne_true) ?_
   refine Ev.eq (Ev.now _) ?_
   rw [run_neg hd]
   rfl
  ·refine Ev.pos (fun _ => rfl) ?_
   rw [w64 (by omega) (by omega), run_pos hd]
   refine Ev.eq (ih (i + 1) (by omega) (by omega)) ?_
   have : i + 1 + run isX ((bytesOf s).drop (i + 1)) = i + (run isX ((bytesOf s).drop (i + 1)) + 1) := by omega
   rw [this]
theorem run2_ev (s : ByteArray) (hs : s.size ≤ 2000000) : Ev (fun k => E2.spec_alpRun.f k s) ((run isX (bytesOf s) : Nat) : Int) := by
 have h := run2_from s hs _ 0 rfl (Nat.zero_le _)
 simpa [E2.spec_alpRun.f] using h
theorem alpHex_eq (c : Int) : spec_alpHex.f c = some (isX c) := by
 unfold spec_alpHex.f isX
 have h : spec_isDigit.f c = some (isD c) := by
  unfold spec_isDigit.f isD
  by_cases h : c ≥ 48
  ·rw [if_pos h]; simp; omega
  ·rw [if_neg h]; simp; omega
 rw [h]
 simp only [Option.bind_some]
 cases isD c
 ·rw [if_neg Bool.false_ne_true, Bool.false_or]
  by_cases h : c ≥ 97
  ·rw [if_pos h]; congr 1; rw [decide_eq_decide]; omega
  ·rw [if_neg h]; congr 1; symm; rw [decide_eq_false_iff_not]; omega
 ·rfl
def numsFrom (k : Nat) (c : List (List Int)) : List S52 := (c.zipIdx k).map fun p => ⟨strOfNums p.1, ⟨false, magB (decL p.1)⟩, (p.2 : Int)⟩
theorem numsFrom_cons (k : Nat) (d : List Int) (c : List (List Int)) : numsFrom k (d :: c) = ⟨strOfNums d, ⟨false, magB (decL d)⟩, (k : Int)⟩ :: numsFrom (k + 1) c := rfl
theorem str_take (s : ByteArray) (n : Nat) : s.extract 0 n = strOfNums ((bytesOf s).take n) := by rw [← B_take, str_B]
theorem str_drop (s : ByteArray) (n : Nat) : s.extract n s.size = strOfNums ((bytesOf s).drop n) := by rw [← B_drop, str_B]
theorem readNumbers_from : ∀ (n : Nat) (s : ByteArray) (acc : List S52), s.size ≤ n → n ≤ 100000 → acc.length + n ≤ 200000 →
  Ev (fun k => spec_alpReadNumbers.l0 k s acc) (acc ++ numsFrom acc.length (numsP n (bytesOf s)).1, strOfNums (numsP n (bytesOf s)).2) := by
 intro n
 induction n with
 | zero =>
  intro s acc hs hn ha
  have h0 : bytesOf s = [] := (size_nil s).1 (by omega)
  have hr := run1_ev s (by omega)
  rw [h0] at hr ⊢
  refine Ev.succ ?_
  simp only [spec_alpReadNumbers.l0]
  refine Ev.bind hr ?_
  refine Ev.pos (fun _ => rfl) ?_
  refine Ev.eq (Ev.now _) ?_
  have : s = strOfNums [] := by rw [← h0, str_B]
  rw [this]
  simp [numsP, numsFrom]
 | succ n ih =>
  intro s acc hs hn ha
  have hr := run1_ev s (by omega)
  have hrl := run_le isD (bytesOf s)
  rw [bytesOf_length] at hrl
  refine Ev.succ ?_
  simp only [spec_alpReadNumbers.l0]
  refine Ev.bind hr ?_
  simp only [numsP]
  by_cases h0 : run isD (bytesOf s) = 0
  ·rw [if_pos h0]
   refine Ev.pos (fun _ => by omega) ?_
   refine Ev.eq (Ev.now _) ?_
   rw [str_B]
   simp [numsFrom]
  ·rw [if_neg h0]
   refine Ev.neg (fun _ => by omega) ?_
   refine Ev.pos (fun _ => by omega) ?_
   refine Ev.pos (fun _ => by omega) ?_
   rw [Int.toNat_natCast]
   have hdig : ∀ c ∈ (bytesOf s).take (run isD (bytesOf s)), isD c = true := fun c hc => run_mem hc
   have hio := intOf_ev (s.extract 0 (run isD (bytesOf s))) (by rw [B_size, B_take, List.length_take, bytesOf_length]; omega) (by rw [B_take]; exact hdig)
   rw [B_take] at hio
   refine Ev.bind hio ?_
   refine Ev.pos (fun _ => by omega) ?_
   refine Ev.bind0 rfl ?_
   refine Ev.bind0 rfl ?_
   have hb : bytesOf (s.extract (run isD (bytesOf s)) s.size) = (bytesOf s).drop (run isD (bytesOf s)) := B_drop _ _
   obtain ⟨Y, hY⟩ : ∃ Y, Y = s.extract (run isD (bytesOf s)) s.size := ⟨_, rfl⟩
   rw [← hY] at hb ⊢
   have hYs : Y.size ≤ n := by rw [B_size, hb, List.length_drop, bytesOf_length]; omega
   have hYe : Y = strOfNums ((bytesOf s).drop (run isD (bytesOf s))) := by rw [← hb, str_B]
   rw [str_take]
   by_cases h1 : Y.toList = []
   ·have h1b : (bytesOf s).drop (run isD (bytesOf s)) = [] := hb.symm.trans ((toList_nil Y).1 h1)
    refine Ev.pos (fun _ => h1) ?_
    refine Ev.eq (Ev.now _) ?_
    rw [h1b]
    rw [if_neg (by decide)]
    rw [numsFrom_cons, hYe, h1b]
    rfl
   ·have hpos : 0 < Y.size := by
     rw [B_size]
     exact List.length_pos_iff.2 (fun e => h1 ((toList_nil Y).2 e))
    refine Ev.neg (fun _ => h1) ?_
    refine Ev.pos (fun _ => by omega) ?_
    rw [bt_zero, hb]
    by_cases h2 : ((bytesOf s).drop (run isD (bytesOf s))).getD 0 0 = 46
    ·rw [if_pos h2]
     refine Ev.pos (fun _ => h2) ?_
     refine Ev.pos (fun _ => by omega) ?_
     have hb1 : bytesOf (Y.extract 1 Y.size) = (bytesOf s).drop (run isD (bytesOf s) + 1) := by rw [B_drop, hb, List.drop_drop]
     have := ih (Y.extract 1 Y.size) (acc ++ [⟨strOfNums ((bytesOf s).take (run isD (bytesOf s))), ⟨false, magB (decL ((bytesOf s).take (run isD (bytesOf s))))⟩, (acc.length : Int)⟩]) (by rw [B_size, hb1, List.length_drop, bytesOf_length]; omega) (by omega) (by simp; omega)
     rw [hb1] at this
     refine Ev.eq this ?_
     rw [List.append_assoc, List.length_append]
     rfl
    ·rw [if_neg h2]
     refine Ev.neg (fun _ => h2) ?_
     refine Ev.eq (Ev.now _) ?_
     rw [hYe]
     rfl
theorem readNumbers_ev (s : ByteArray) (hs : s.size ≤ 100000) : Ev (fun k => spec_alpReadNumbers.f k s) (numsA (numsP (bytesOf s).length (bytesOf s)).1, strOfNums (rest1 (bytesOf s))) := by
 have h := readNumbers_from (bytesOf s).length s [] (by rw [bytesOf_length]; exact Nat.le_refl _) (by rw [bytesOf_length]; exact hs) (by rw [bytesOf_length]; simp; omega)
 rw [List.nil_append] at h
 exact h
end Go.Proofs.YtapaijpglfmfgaaGreatDoor.V
end
section -- BB
namespace Go.Proofs.YtapaijpglfmfgaaGreatDoor.V
open Go.RowKit Go.Proofs.YtapaijpglfmfgaaGreatDoor.Q Go.Proofs.YtapaijpglfmfgaaGreatDoorG Go.Proofs.YtapaijpglfmfgaaGreatDoorP Go.Proofs.YtapaijpglfmfgaaGreatDoorH Go.Proofs.YtapaijpglfmfgaaGreatDoorB Go.Proofs.YtapaijpglfmfgaaGreatDoorM Go.Proofs.YtapaijpglfmfgaaGreatDoorW.PrintWords Go.Proofs.YtapaijpglfmfgaaGreatDoorW.PrintLast
set_option linter.unusedVariables false
set_option linter.unusedSimpArgs false
theorem rdOf_at (ws : List ByteArray) (j : Nat) (h : j < ws.length) : rdOf ByteArray.empty ws (j : Int) = ws[j] := by
 simp only [rdOf, Int.toNat_natCast, List.getD_eq_getElem?_getD, List.getElem?_eq_getElem h, Option.getD_some]
theorem word_from (s : ByteArray) (hs : s.size ≤ 2000000) (ws : List ByteArray) (hw : ∀ w ∈ ws, w.size ≤ 100 ∧ 1 ≤ w.size) (hl : ws.length ≤ 100) : ∀ (m j : Nat), ws.length - j = m → j ≤ ws.length →
  Ev (fun k => spec_alpWord.l0 k s ws (j : Int)) (strOfNums ((if (bytesOf s).getD 0 0 = 95 then ((ws.drop j).map bytesOf).find? (fun w => pre w ((bytesOf s).drop 1)) else none).getD [])) := by
 intro m
 induction m with
 | zero =>
  intro j hm hj
  obtain rfl : j = ws.length := by omega
  refine Ev.succ ?_
  simp only [spec_alpWord.l0]
  refine Ev.neg (fun _ => by first | omega | assumption | nofun) ?_
  refine Ev.eq (Ev.now _) ?_
  rw [List.drop_length, List.map_nil, List.find?_nil]
  split <;> rfl
 | succ m ih =>
  intro j hm hj
  have hlt : j < ws.length := by omega
  have hd : ws.drop j = ws[j] :: ws.drop (j + 1) := List.drop_eq_getElem_cons hlt
  have next := ih (j + 1) (by omega) (by omega)
  obtain ⟨h100, h1⟩ := hw _ (List.getElem_mem hlt)
  rw [hd, List.map_cons, List.find?_cons]
  obtain ⟨W, hW⟩ : ∃ W, W = ws[j] := ⟨_, rfl⟩
  have hrd := rdOf_at ws j hlt
  rw [← hW] at h100 h1 hrd ⊢
  refine Ev.succ ?_
  simp only [spec_alpWord.l0]
  refine Ev.pos (fun _ => by first | omega | trivial | assumption) ?_
  refine Ev.pos (fun _ => by first | omega | trivial | assumption) ?_
  rw [hrd, w64 (i := (j : Int) + 1) (by omega) (by omega), w64 (i := (W.size : Int) + 1) (by omega) (by omega), bt_zero]
  have hnone : ¬ (s.size > W.size) → pre (bytesOf W) ((bytesOf s).drop 1) = false := fun h => by
   unfold pre
   rw [decide_eq_false_iff_not]
   intro e
   have := congrArg List.length e
   rw [List.length_take, List.length_drop, bytesOf_length, bytesOf_length] at this
   omega
  by_cases hsz : s.size > W.size
  ·refine Ev.pos (fun _ => by omega) ?_
   refine Ev.pos (fun _ => by omega) ?_
   by_cases h95 : (bytesOf s).getD 0 0 = 95
   ·rw [if_pos h95] at next ⊢
    refine Ev.pos (fun _ => h95) ?_
    refine Ev.pos (fun _ => by omega) ?_
    refine Ev.pos (fun _ => by omega) ?_
    have e1 : ((W.size : Int) + 1).toNat = 1 + W.size := by omega
    have e2 : (s.extract 1 ((W.size : Int) + 1).toNat).toList = W.toList ↔ pre (bytesOf W) ((bytesOf s).drop 1) = true := by
     rw [e1, toList_eq_iff, B_extract, Nat.add_sub_cancel_left]
     unfold pre
     rw [decide_eq_true_iff, B_size]
    by_cases hp : pre (bytesOf W) ((bytesOf s).drop 1) = true
    ·rw [hp]
     refine Ev.pos (fun _ => e2.2 hp) ?_
     refine Ev.eq (Ev.now _) ?_
     exact (str_B W).symm
    ·rw [Bool.eq_false_iff.2 hp]
     refine Ev.neg (fun _ e => hp (e2.1 e)) ?_
     exact next
   ·rw [if_neg h95] at next ⊢
    refine Ev.neg (fun _ => h95) ?_
    exact next
  ·refine Ev.neg (fun _ => by omega) ?_
   rw [hnone hsz]
   exact next
theorem word_ev (s : ByteArray) (hs : s.size ≤ 2000000) : Ev (fun k => spec_alpWord.f k s) (strOfNums ((wordAt (bytesOf s)).getD [])) := by
 simp only [spec_alpWord.f]
 refine Ev.bind0 rfl ?_
 have h := word_from s hs sufBs (fun w hw => ⟨sufBs_size w hw, by
  have h1 : bytesOf w ∈ sufWords := by rw [← sufBs_B]; exact List.mem_map_of_mem hw
  rw [B_size]
  exact (sufWords_len h1).1⟩) (by decide) 9 0 rfl (by decide)
 rw [List.drop_zero, sufBs_B] at h
 exact h
theorem sweight_from (x : ByteArray) (ws : List ByteArray) (hl : ws.length ≤ 100) : ∀ (m j : Nat), ws.length - j = m → j ≤ ws.length →
  Ev (fun k => spec_SuffixWeight.l0 k x ws (j : Int)) ((j + ((ws.drop j).map bytesOf).idxOf (bytesOf x) : Nat) : Int) := by
 intro m
 induction m with
 | zero =>
  intro j hm hj
  obtain rfl : j = ws.length := by omega
  refine Ev.succ ?_
  simp only [spec_SuffixWeight.l0]
  refine Ev.neg (fun _ => by first | omega | assumption | nofun) ?_
  refine Ev.eq (Ev.now _) ?_
  rw [List.drop_length]
  rfl
 | succ m ih =>
  intro j hm hj
  have hlt : j < ws.length := by omega
  have hd : ws.drop j = ws[j] :: ws.drop (j + 1) := List.drop_eq_getElem_cons hlt
  refine Ev.succ ?_
  simp only [spec_SuffixWeight.l0]
  refine Ev.pos (fun _ => by first | omega | trivial | assumption) ?_
  refine Ev.pos (fun _ => by first | omega | trivial | assumption) ?_
  rw [rdOf_at ws j hlt, hd, List.map_cons, List.idxOf_cons]
  by_cases h : bytesOf x = bytesOf ws[j]
  ·refine Ev.pos (fun _ => (toList_eq_iff _ _).2 h.symm) ?_
   refine Ev.eq (Ev.now _) ?_
   have : (bytesOf ws[j] == bytesOf x) = true := by rw [beq_iff_eq]; exact h.symm
   rw [this]
   rfl
  ·refine Ev.neg (fun _ e => h ((toList_eq_iff _ _).1 e).symm) ?_
   rw [w64 (i := (j : Int) + 1) (by omega) (by omega)]
   refine Ev.eq (ih (j + 1) (by omega) (by omega)) ?_
   have : (bytesOf ws[j] == bytesOf x) = false := by rw [beq_eq_false_iff_ne]; exact fun e => h e.symm
   rw [this]
   simp only [cond_false]
   omega
theorem sweight_ev (x : ByteArray) : Ev (fun k => spec_SuffixWeight.f k x) (wgt (bytesOf x) : Int) := by
 simp only [spec_SuffixWeight.f]
 have h := sweight_from x wgtBs (by decide) 9 0 rfl (by decide)
 rw [List.drop_zero, wgtBs_B] at h
 refine Ev.eq h ?_
 unfold wgt
 rw [Nat.zero_add]
theorem B_word {w : List Int} (h : w ∈ sufWords) : bytesOf (strOfNums w) = w := B_str (fun c hc => by have := sufWords_asc h c hc; omega)
theorem readSuffixes_from : ∀ (n : Nat) (s : ByteArray) (acc : List S56), s.size ≤ n → n ≤ 100000 → acc.length + n ≤ 200000 →
  Ev (fun k => spec_alpReadSuffixes.l0 k s acc) (acc ++ sufsA (sufsP n (bytesOf s)).1, strOfNums (sufsP n (bytesOf s)).2) := by
 intro n
 induction n with
 | zero =>
  intro s acc hs hn ha
  have h0 : bytesOf s = [] := (size_nil s).1 (by omega)
  have hr := word_ev s (by omega)
  refine Ev.succ ?_
  simp only [spec_alpReadSuffixes.l0]
  refine Ev.bind hr ?_
  have e : wordAt (bytesOf s) = none := by rw [h0]; rfl
  rw [e]
  refine Ev.pos (fun _ => (toList_nil _).2 rfl) ?_
  refine Ev.eq (Ev.now _) ?_
  simp only [sufsP]
  rw [str_B]
  simp [sufsA]
 | succ n ih =>
  intro s acc hs hn ha
  have hr := word_ev s (by omega)
  refine Ev.succ ?_
  simp only [spec_alpReadSuffixes.l0]
  refine Ev.bind hr ?_
  cases hq : wordAt (bytesOf s) with
  | none =>
   rw [sufsP_none hq]
   refine Ev.pos (fun _ => (toList_nil _).2 rfl) ?_
   refine Ev.eq (Ev.now _) ?_
   rw [str_B]
   simp [sufsA]
  | some w =>
   obtain ⟨k1, k2⟩ := wordAt_some hq
   have hlen := sufWords_len k1
   have hbw := B_word k1
   rw [sufsP_some hq]
   have htot := congrArg List.length k2
   simp only [List.length_cons, List.length_append, List.length_drop, bytesOf_length] at htot
   have hWs : (strOfNums w).size = w.length := by rw [B_size, hbw]
   show Ev _ _
   simp only [Option.getD_some]
   refine Ev.neg (fun _ e => by have := (toList_nil _).1 e; rw [hbw] at this; rw [this] at hlen; simp at hlen) ?_
   rw [hWs, w64 (i := (w.length : Int) + 1) (by omega) (by omega)]
   refine Ev.pos (fun _ => by omega) ?_
   refine Ev.pos (fun _ => by omega) ?_
   refine Ev.bind0 rfl ?_
   have e1 : ((w.length : Int) + 1).toNat = 1 + w.length := by omega
   rw [e1]
   have hb : bytesOf (s.extract (1 + w.length) s.size) = (bytesOf s).drop (1 + w.length) := B_drop _ _
   obtain ⟨Y, hY⟩ : ∃ Y, Y = s.extract (1 + w.length) s.size := ⟨_, rfl⟩
   rw [← hY] at hb ⊢
   have hYs : Y.size = s.size - (1 + w.length) := by rw [B_size, hb, List.length_drop, bytesOf_length]
   have hru := run1_ev Y (by omega)
   have hrl := run_le isD (bytesOf Y)
   rw [bytesOf_length] at hrl
   refine Ev.bind hru ?_
   have hsw := sweight_ev (strOfNums w)
   rw [hbw] at hsw
   refine Ev.bind hsw ?_
   refine Ev.pos (fun _ => by omega) ?_
   refine Ev.pos (fun _ => by omega) ?_
   rw [Int.toNat_natCast]
   have hdig : ∀ c ∈ (bytesOf Y).take (run isD (bytesOf Y)), isD c = true := fun c hc => run_mem hc
   have hio := intOf_ev (Y.extract 0 (run isD (bytesOf Y))) (by rw [B_size, B_take, List.length_take, bytesOf_length]; omega) (by rw [B_take]; exact hdig)
   rw [B_take] at hio
   refine Ev.bind hio ?_
   refine Ev.pos (fun _ => by omega) ?_
   have hbz : bytesOf (Y.extract (run isD (bytesOf Y)) Y.size) = (bytesOf Y).drop (run isD (bytesOf Y)) := B_drop _ _
   have := ih (Y.extract (run isD (bytesOf Y)) Y.size) (acc ++ [⟨(wgt w : Int), ⟨false, magB (decL ((bytesOf Y).take (run isD (bytesOf Y))))⟩⟩]) (by rw [B_size, hbz, List.length_drop, bytesOf_length]; omega) (by omega) (by simp; omega)
   rw [hbz, hb] at this
   rw [hb]
   refine Ev.eq this ?_
   rw [List.append_assoc]
   rfl
theorem readSuffixes_ev (s : ByteArray) (hs : s.size ≤ 100000) : Ev (fun k => spec_alpReadSuffixes.f k s) (sufsA (sufsP (bytesOf s).length (bytesOf s)).1, strOfNums (sufsP (bytesOf s).length (bytesOf s)).2) := by
 have h := readSuffixes_from (bytesOf s).length s [] (by rw [bytesOf_length]; exact Nat.le_refl _) (by rw [bytesOf_length]; exact hs) (by rw [bytesOf_length]; simp; omega)
 rw [List.nil_append] at h
 exact h
theorem ascii_from (s : ByteArray) (hs : s.size ≤ 2000000000) : ∀ (n i : Nat), s.size - i = n → i ≤ s.size →
  Ev (fun k => spec_Ascii.l0 k s i) (decide (∀ x ∈ (bytesOf s).drop i, x ≤ 127)) := by
 intro n
 induction n with
 | zero =>
  intro i hn hi
  refine Ev.succ ?_
  simp only [spec_Ascii.l0]
  refine Ev.neg (fun _ => by omega) ?_
  refine Ev.eq (Ev.now _) ?_
  rw [List.drop_of_length_le (by rw [bytesOf_length]; omega)]
  simp
 | succ n ih =>
  intro i hn hi
  have hl : i < (bytesOf s).length := by rw [bytesOf_length]; omega
  refine Ev.succ ?_
  simp only [spec_Ascii.l0]
  refine Ev.pos (fun _ => by omega) ?_
  refine Ev.pos (fun _ => by omega) ?_
  rw [bt_nat, drop_get _ _ hl]
  by_cases h : (bytesOf s).getD i 0 > 127
  ·refine Ev.pos (fun _ => h) ?_
   refine Ev.eq (Ev.now _) ?_
   symm
   simp only [decide_eq_false_iff_not]
   intro hx
   have := hx _ List.mem_cons_self
   omega
  ·refine Ev.neg (fun _ => h) ?_
   rw [w64 (by omega) (by omega)]
   refine Ev.eq (ih (i + 1) (by omega) (by omega)) ?_
   rw [decide_eq_decide]
   simp only [List.mem_cons, forall_eq_or_imp]
   exact ⟨fun hx => ⟨by omega, hx⟩, fun hx => hx.2⟩
theorem ascii_ev (s : ByteArray) (hs : s.size ≤ 2000000000) : Ev (fun k => spec_Ascii.f k s) (decide (∀ x ∈ bytesOf s, x ≤ 127)) := by
 have h := ascii_from s hs _ 0 rfl (Nat.zero_le _)
 simpa [spec_Ascii.f] using h
theorem clear_from (s : ByteArray) (hs : s.size ≤ 2000000) : ∀ (n i : Nat), s.size - i = n → i ≤ s.size → Ev (fun k => spec_AlpineTextKnown.l0 k s (i : Int)) (clearB ((bytesOf s).drop i)) := by
 intro n
 induction n with
 | zero =>
  intro i hn hi
  refine Ev.succ ?_
  simp only [spec_AlpineTextKnown.l0]
  refine Ev.neg (fun _ => by first | omega | assumption | nofun) ?_
  refine Ev.eq (Ev.now _) ?_
  rw [List.drop_of_length_le (by rw [bytesOf_length]; omega)]
  rfl
 | succ n ih =>
  intro i hn hi
  have hl : i < (bytesOf s).length := by rw [bytesOf_length]; omega
  have hb : bytesOf (s.extract i s.size) = (bytesOf s).drop i := B_drop _ _
  have hw := word_ev (s.extract i s.size) (by rw [B_size, hb, List.length_drop, bytesOf_length]; omega)
  rw [hb] at hw
  refine Ev.succ ?_
  simp only [spec_AlpineTextKnown.l0, Int.toNat_natCast]
  refine Ev.pos (fun _ => by first | omega | trivial | assumption) ?_
  refine Ev.pos (fun _ => by first | omega | trivial | assumption) ?_
  refine Ev.pos (fun _ => by first | omega | trivial | assumption) ?_
  refine Ev.bind hw ?_
  rw [w64 (i := (i : Int) + 1) (by omega) (by omega)]
  have e : clearB ((bytesOf s).drop i) = ((wordAt ((bytesOf s).drop i)).isNone && clearB ((bytesOf s).drop (i + 1))) := by
   rw [drop_get _ _ hl]
   rfl
  rw [e]
  cases hq : wordAt ((bytesOf s).drop i) with
  | none =>
   refine Ev.pos (fun _ => (toList_nil _).2 rfl) ?_
   exact ih (i + 1) (by omega) (by omega)
  | some w =>
   have k1 := (wordAt_some hq).1
   have hlen := sufWords_len k1
   refine Ev.neg (fun _ e => by have := (toList_nil _).1 e; rw [show (some w).getD [] = w from rfl, B_word k1] at this; rw [this] at hlen; simp at hlen) ?_
   exact Ev.now _
theorem letter_cases {α : Type} (s : ByteArray) {g : Bool → Nat → Option α} {r : α} (h : Ev (g (isL ((bytesOf s).getD 0 0))) r) : Ev (fun k => if s.toList = ([] : List UInt8) then g false k else if 0 < (s.size : Int) then (if (bt s 0) ≥ 97 then g (decide ((bt s 0) ≤ 122)) k else g false k) else none) r := by
 by_cases h0 : bytesOf s = []
 ·refine Ev.pos (fun _ => (toList_nil s).2 h0) ?_
  rw [h0] at h
  exact h
 ·have hpos : 0 < s.size := by rw [B_size]; exact List.length_pos_iff.2 h0
  refine Ev.neg (fun _ e => h0 ((toList_nil s).1 e)) ?_
  refine Ev.pos (fun _ => by omega) ?_
  rw [bt_zero]
  unfold isL at h
  by_cases h1 : (bytesOf s).getD 0 0 ≥ 97
  ·refine Ev.pos (fun _ => h1) ?_
   have e : decide ((bytesOf s).getD 0 0 ≤ 122) = decide (97 ≤ (bytesOf s).getD 0 0 ∧ (bytesOf s).getD 0 0 ≤ 122) := by rw [decide_eq_decide]; omega
   rw [e]
   exact h
  ·refine Ev.neg (fun _ => h1) ?_
   rw [decide_eq_false (by omega)] at h
   exact h
theorem B_rest {l r : List Int} (hl : ∀ x ∈ l, 0 ≤ x ∧ x ≤ 255) (h : ∃ a, l = a ++ r) : bytesOf (strOfNums r) = r := by
 obtain ⟨a, rfl⟩ := h
 exact B_str (fun c hc => hl c (List.mem_append_right _ hc))
theorem rest1_suffix (l : List Int) : ∃ a, l = a ++ rest1 l := by
 obtain ⟨sub, e, _⟩ := numsP_shape l.length l
 exact ⟨sub, e⟩
theorem rest2_suffix (l : List Int) : ∃ a, l = a ++ rest2 l := by
 obtain ⟨a, e⟩ := rest1_suffix l
 unfold rest2 letterP
 split
 ·exact ⟨a ++ (rest1 l).take 1, by rw [List.append_assoc, List.take_append_drop]; exact e⟩
 ·exact ⟨a, e⟩
theorem sufsP_suffix : ∀ (n : Nat) (l : List Int), ∃ a, l = a ++ (sufsP n l).2
 | 0, l => ⟨[], rfl⟩
 | n + 1, l => by
  cases hq : wordAt l with
  | none => rw [sufsP_none hq]; exact ⟨[], rfl⟩
  | some w =>
   rw [sufsP_some hq]
   obtain ⟨a, e⟩ := sufsP_suffix n ((l.drop (1 + w.length)).drop (run isD (l.drop (1 + w.length))))
   refine ⟨l.take (1 + w.length + run isD (l.drop (1 + w.length))) ++ a, ?_⟩
   simp only
   rw [List.append_assoc, ← e, List.drop_drop, List.take_append_drop]
theorem rest3_suffix (l : List Int) : ∃ a, l = a ++ rest3 l := by
 obtain ⟨a, e⟩ := rest2_suffix l
 obtain ⟨b, e2⟩ := sufsP_suffix (rest2 l).length (rest2 l)
 exact ⟨a ++ b, by rw [List.append_assoc]; unfold rest3; rw [← e2]; exact e⟩
theorem known_ev (s : ByteArray) (hs : s.size ≤ 100000) : Ev (fun k => spec_AlpineTextKnown.f k s) (decide (∀ x ∈ bytesOf s, x ≤ 127) && clearB (rest3 (bytesOf s))) := by
 simp only [spec_AlpineTextKnown.f]
 refine Ev.bind (ascii_ev s (by omega)) ?_
 cases ha : decide (∀ x ∈ bytesOf s, x ≤ 127)
 ·refine Ev.neg (fun _ => Bool.false_ne_true) ?_
  exact Ev.now _
 ·refine Ev.pos (fun _ => rfl) ?_
  rw [Bool.true_and]
  refine Ev.bind (readNumbers_ev s hs) ?_
  have hb1 := B_rest (B_range s) (rest1_suffix (bytesOf s))
  have hl1 := rest1_len (bytesOf s)
  have hz := hs
  rw [B_size] at hz
  refine letter_cases (strOfNums (rest1 (bytesOf s))) (g := fun b k => spec_AlpineTextKnown.j0 k (strOfNums (rest1 (bytesOf s))) b) ?_
  rw [hb1]
  have hj1 : ∀ (t : ByteArray), bytesOf t = rest2 (bytesOf s) → Ev (fun k => spec_AlpineTextKnown.j1 k t) (clearB (rest3 (bytesOf s))) := by
   intro t ht
   have hl2 := rest2_len (bytesOf s)
   have hl3 := rest3_len (bytesOf s)
   refine Ev.succ ?_
   simp only [spec_AlpineTextKnown.j1]
   have h := readSuffixes_ev t (by rw [B_size, ht]; omega)
   rw [ht] at h
   refine Ev.bind h ?_
   have hb3 := B_rest (B_range s) (rest3_suffix (bytesOf s))
   have h2 := clear_from (strOfNums (rest3 (bytesOf s))) (by rw [B_size, hb3]; omega) _ 0 rfl (Nat.zero_le _)
   rw [hb3, List.drop_zero] at h2
   exact h2
  refine Ev.succ ?_
  simp only [spec_AlpineTextKnown.j0]
  cases hc : isL ((rest1 (bytesOf s)).getD 0 0)
  ·refine Ev.neg (fun _ => Bool.false_ne_true) ?_
   refine hj1 _ ?_
   rw [hb1]
   unfold rest2 letterP
   rw [hc]
   rfl
  ·have hne : rest1 (bytesOf s) ≠ [] := by intro e; rw [e] at hc; exact absurd hc (by decide)
   have hpos : 0 < (strOfNums (rest1 (bytesOf s))).size := by rw [B_size, hb1]; exact List.length_pos_iff.2 hne
   refine Ev.pos (fun _ => rfl) ?_
   refine Ev.pos (fun _ => by omega) ?_
   refine hj1 _ ?_
   rw [B_drop, hb1]
   unfold rest2 letterP
   rw [hc]
   rfl
end Go.Proofs.YtapaijpglfmfgaaGreatDoor.V
end
section -- BC
namespace Go.Proofs.YtapaijpglfmfgaaGreatDoor.V
open Go.RowKit Go.Proofs.YtapaijpglfmfgaaGreatDoor.Q Go.Proofs.YtapaijpglfmfgaaGreatDoorG Go.Proofs.YtapaijpglfmfgaaGreatDoorP Go.Proofs.YtapaijpglfmfgaaGreatDoorH Go.Proofs.YtapaijpglfmfgaaGreatDoorB Go.Proofs.YtapaijpglfmfgaaGreatDoorM Go.Proofs.YtapaijpglfmfgaaGreatDoorW.PrintWords Go.Proofs.YtapaijpglfmfgaaGreatDoorW.PrintLast
set_option linter.unusedVariables false
set_option linter.unusedSimpArgs false
theorem short_one (s : ByteArray) : Ev (fun k => laws_short.f k [s]) (decide (s.size ≤ 1200)) := by
 refine Ev.succ ?_
 simp only [laws_short.f, laws_short.l0, List.length_cons, List.length_nil]
 refine Ev.pos (fun _ => by omega) ?_
 refine Ev.pos (fun _ => by omega) ?_
 refine Ev.pos (fun _ => by omega) ?_
 have e : rdOf ByteArray.empty [s] 0 = s := rfl
 rw [e]
 by_cases h : s.size ≤ 1200
 ·refine Ev.neg (fun _ => by omega) ?_
  refine Ev.succ ?_
  simp only [laws_short.l0]
  refine Ev.neg (fun _ => by unfold wrap64; omega) ?_
  exact Ev.eq (Ev.now _) (by simp [h])
 ·refine Ev.pos (fun _ => by omega) ?_
  exact Ev.eq (Ev.now _) (by simp [h])
theorem p4_ev (x : ByteArray) (hx : x.size ≤ 100000) (o l h : ByteArray) (ns : List S52) (ss : List S56) :
  Ev (fun k => spec_AlpineParse.j3 k x o ⟨#[]⟩ l h false ns ss true false ⟨#[]⟩)
   (o, strOfNums (buildP (bytesOf x)).2.2, l, h, (buildP (bytesOf x)).1, ns, ss, true, false, magB (decL (buildP (bytesOf x)).2.1), true) := by
 have e0 : (⟨#[]⟩ : ByteArray) = magB (decL []) := rfl
 have last : bytesOf x ≠ [45, 114] → (bytesOf x).take 2 ≠ [45, 114] → Ev (fun k => spec_AlpineParse.j4 k x false o ⟨#[]⟩ l h false ns ss true false ⟨#[]⟩)
   (o, strOfNums (buildP (bytesOf x)).2.2, l, h, (buildP (bytesOf x)).1, ns, ss, true, false, magB (decL (buildP (bytesOf x)).2.1), true) := by
  intro _ h2
  refine Ev.succ ?_
  simp only [spec_AlpineParse.j4]
  refine Ev.neg (fun _ => Bool.false_ne_true) ?_
  unfold buildP
  by_cases h0 : bytesOf x = []
  ·refine Ev.pos (fun _ => (toList_nil x).2 h0) ?_
   rw [if_pos h0]
   exact Ev.now _
  ·refine Ev.neg (fun _ e => h0 ((toList_nil x).1 e)) ?_
   rw [if_neg h0, if_neg h2, str_B]
   exact Ev.now _
 refine Ev.succ ?_
 simp only [spec_AlpineParse.j3]
 by_cases h1 : x.size > 1
 ·refine Ev.pos (fun _ => by omega) ?_
  refine Ev.pos (fun _ => by first | trivial | decide) ?_
  refine Ev.pos (fun _ => by omega) ?_
  have e2 : (x.extract 0 2).toList = ([45, 114] : List UInt8) ↔ (bytesOf x).take 2 = [45, 114] := by
   rw [toList_lit, B_take]
   rfl
  by_cases h2 : (bytesOf x).take 2 = [45, 114]
  ·have : ((x.extract 0 2).toList == ([45, 114] : List UInt8)) = true := beq_iff_eq.2 (e2.2 h2)
   rw [this]
   refine Ev.succ ?_
   simp only [spec_AlpineParse.j4]
   refine Ev.pos (fun _ => by first | rfl | trivial) ?_
   refine Ev.pos (fun _ => by omega) ?_
   have hb : bytesOf (x.extract 2 x.size) = (bytesOf x).drop 2 := B_drop _ _
   have hxz := hx
   rw [B_size] at hxz h1
   have hr := run1_ev (x.extract 2 x.size) (by rw [B_size, hb, List.length_drop]; omega)
   have hrl := run_le isD ((bytesOf x).drop 2)
   rw [List.length_drop] at hrl
   rw [hb] at hr
   refine Ev.bind hr ?_
   have hsz := B_size x
   rw [w64 (i := 2 + ((run isD ((bytesOf x).drop 2) : Nat) : Int)) (by omega) (by omega)]
   refine Ev.pos (fun _ => by omega) ?_
   refine Ev.pos (fun _ => by omega) ?_
   have e3 : (2 + ((run isD ((bytesOf x).drop 2) : Nat) : Int)).toNat = 2 + run isD ((bytesOf x).drop 2) := by omega
   rw [e3]
   have hb2 : bytesOf (x.extract 2 (2 + run isD ((bytesOf x).drop 2))) = ((bytesOf x).drop 2).take (run isD ((bytesOf x).drop 2)) := by rw [B_extract, Nat.add_sub_cancel_left]
   have hio := intOf_ev (x.extract 2 (2 + run isD ((bytesOf x).drop 2))) (by rw [B_size, hb2, List.length_take, List.length_drop]; omega) (by rw [hb2]; exact fun c hc => run_mem hc)
   rw [hb2] at hio
   refine Ev.bind hio ?_
   refine Ev.pos (fun _ => by omega) ?_
   unfold buildP
   have h0 : bytesOf x ≠ [] := by intro e; rw [e] at h1; simp at h1
   rw [if_neg h0, if_pos h2]
   refine Ev.eq (Ev.now _) ?_
   rw [str_drop, List.drop_drop]
  ·have : ((x.extract 0 2).toList == ([45, 114] : List UInt8)) = false := by rw [beq_eq_false_iff_ne]; exact fun e => h2 (e2.1 e)
   rw [this]
   exact last (fun e => h2 (by rw [e]; rfl)) h2
 ·refine Ev.neg (fun _ => by omega) ?_
  have hl : (bytesOf x).length ≤ 1 := by rw [bytesOf_length]; omega
  refine last (fun e => by rw [e] at hl; simp at hl) (fun e => ?_)
  have := congrArg List.length e
  rw [List.length_take] at this
  simp at this
  omega
theorem run_head {p : Int → Bool} {l : List Int} (h : l ≠ []) : run p l ≠ 0 ↔ p (l.getD 0 0) = true := by
 cases l with
 | nil => exact absurd rfl h
 | cons c r =>
  show _ ↔ p c = true
  cases hc : p c
  ·rw [run_neg hc]; simp
  ·rw [run_pos hc]; simp
theorem p2_ev (x : ByteArray) (hx : x.size ≤ 100000) (o l : ByteArray) (ns : List S52) :
  Ev (fun k => spec_AlpineParse.j1 k x o ⟨#[]⟩ l ⟨#[]⟩ false ns true false ⟨#[]⟩)
   (o, strOfNums (buildP (hashP (sufsP (bytesOf x).length (bytesOf x)).2).2).2.2, l, strOfNums (hashP (sufsP (bytesOf x).length (bytesOf x)).2).1, (buildP (hashP (sufsP (bytesOf x).length (bytesOf x)).2).2).1, ns,
    sufsA (sufsP (bytesOf x).length (bytesOf x)).1, true, false, magB (decL (buildP (hashP (sufsP (bytesOf x).length (bytesOf x)).2).2).2.1), true) := by
 refine Ev.succ ?_
 simp only [spec_AlpineParse.j1]
 refine Ev.bind (readSuffixes_ev x hx) ?_
 have hbz : bytesOf (strOfNums (sufsP (bytesOf x).length (bytesOf x)).2) = (sufsP (bytesOf x).length (bytesOf x)).2 := B_rest (B_range x) (sufsP_suffix _ _)
 have hlz := sufsP_len (bytesOf x).length (bytesOf x)
 rw [bytesOf_length] at hlz
 obtain ⟨ss, hss⟩ : ∃ ss, ss = sufsA (sufsP (bytesOf x).length (bytesOf x)).1 := ⟨_, rfl⟩
 obtain ⟨q, hq⟩ : ∃ q, q = (sufsP (bytesOf x).length (bytesOf x)).2 := ⟨_, rfl⟩
 rw [← hss]
 simp only [← hq] at hbz hlz ⊢
 rw [bytesOf_length] at hq
 obtain ⟨y, hy⟩ : ∃ y, y = strOfNums q := ⟨_, rfl⟩
 have hlz2 : q.length ≤ x.size := by rw [hq]; exact hlz
 rw [← hy] at hbz ⊢
 have hysz : y.size = q.length := by rw [B_size, hbz]
 have hno : ¬ (q.getD 0 0 = 126 ∧ run isX (q.drop 1) ≠ 0) → Ev (fun k => spec_AlpineParse.j2 k y false o ⟨#[]⟩ l ⟨#[]⟩ false ns ss true false ⟨#[]⟩)
   (o, strOfNums (buildP (hashP q).2).2.2, l, strOfNums (hashP q).1, (buildP (hashP q).2).1, ns, ss, true, false, magB (decL (buildP (hashP q).2).2.1), true) := by
  intro hn
  refine Ev.succ ?_
  simp only [spec_AlpineParse.j2]
  refine Ev.neg (fun _ => Bool.false_ne_true) ?_
  have h := p4_ev y (by omega) o l ⟨#[]⟩ ns ss
  unfold hashP
  rw [if_neg hn, ← hbz]
  exact h
 by_cases h1 : y.size > 1
 ·refine Ev.pos (fun _ => by omega) ?_
  refine Ev.pos (fun _ => by omega) ?_
  rw [bt_zero, hbz]
  by_cases h2 : q.getD 0 0 = 126
  ·refine Ev.pos (fun _ => h2) ?_
   refine Ev.pos (fun _ => by omega) ?_
   have e1 : bt y 1 = (q.drop 1).getD 0 0 := by
    have := bt_nat y 1
    rw [hbz] at this
    rw [show bt y 1 = bt y ((1 : Nat) : Int) from rfl, this]
    simp [List.getD_eq_getElem?_getD, List.getElem?_drop]
   rw [e1, alpHex_eq]
   simp only [Option.bind_some]
   have hne : q.drop 1 ≠ [] := by
    intro e
    have := congrArg List.length e
    rw [List.length_drop] at this
    simp at this
    omega
   cases hc : isX ((q.drop 1).getD 0 0)
   ·exact hno (fun hn => by rw [run_head hne, hc] at hn; exact absurd hn.2 Bool.false_ne_true)
   ·have hrun : run isX (q.drop 1) ≠ 0 := (run_head hne).2 hc
    refine Ev.succ ?_
    simp only [spec_AlpineParse.j2]
    refine Ev.pos (fun _ => by first | rfl | trivial) ?_
    refine Ev.pos (fun _ => by omega) ?_
    have hb : bytesOf (y.extract 1 y.size) = q.drop 1 := by rw [B_drop, hbz]
    have hr := run2_ev (y.extract 1 y.size) (by rw [B_size, hb, List.length_drop]; omega)
    rw [hb] at hr
    have hrl := run_le isX (q.drop 1)
    rw [List.length_drop] at hrl
    refine Ev.bind hr ?_
    rw [w64 (i := 1 + ((run isX (q.drop 1) : Nat) : Int)) (by omega) (by omega)]
    refine Ev.pos (fun _ => by omega) ?_
    refine Ev.pos (fun _ => by omega) ?_
    have e3 : (1 + ((run isX (q.drop 1) : Nat) : Int)).toNat = 1 + run isX (q.drop 1) := by omega
    rw [e3]
    unfold hashP
    rw [if_pos ⟨h2, hrun⟩]
    have hb2 : bytesOf (y.extract (1 + run isX (q.drop 1)) y.size) = q.drop (1 + run isX (q.drop 1)) := by rw [B_drop, hbz]
    have h := p4_ev (y.extract (1 + run isX (q.drop 1)) y.size) (by rw [B_size, hb2, List.length_drop]; omega) o l (y.extract 0 (1 + run isX (q.drop 1))) ns ss
    rw [hb2, str_take, hbz] at h
    rw [str_take, hbz]
    exact h
  ·refine Ev.neg (fun _ => h2) ?_
   exact hno (fun hn => h2 hn.1)
 ·refine Ev.neg (fun _ => by omega) ?_
  refine hno (fun hn => hn.2 ?_)
  have : q.drop 1 = [] := List.drop_of_length_le (by omega)
  rw [this]
  rfl
theorem parse_ev (s : ByteArray) (hs : s.size ≤ 100000) : Ev (fun k => spec_AlpineParse.f k s)
  (s, strOfNums (parseP (bytesOf s)).r, strOfNums (parseP (bytesOf s)).l, strOfNums (parseP (bytesOf s)).h, (parseP (bytesOf s)).i, numsA (parseP (bytesOf s)).c, sufsA (parseP (bytesOf s)).s, true, false, magB (decL (parseP (bytesOf s)).b), true) := by
 simp only [spec_AlpineParse.f]
 refine Ev.bind (readNumbers_ev s hs) ?_
 have hb1 := B_rest (B_range s) (rest1_suffix (bytesOf s))
 have hl1 := rest1_len (bytesOf s)
 rw [bytesOf_length] at hl1
 refine letter_cases (strOfNums (rest1 (bytesOf s))) (g := fun b k => spec_AlpineParse.j0 k (strOfNums (rest1 (bytesOf s))) b s ⟨#[]⟩ ⟨#[]⟩ ⟨#[]⟩ false _ true false ⟨#[]⟩) ?_
 rw [hb1]
 have key : ∀ (t l : ByteArray), bytesOf t = rest2 (bytesOf s) → l = strOfNums (letterP (rest1 (bytesOf s))).1 → Ev (fun k => spec_AlpineParse.j1 k t s ⟨#[]⟩ l ⟨#[]⟩ false (numsA (numsP (bytesOf s).length (bytesOf s)).1) true false ⟨#[]⟩)
   (s, strOfNums (parseP (bytesOf s)).r, strOfNums (parseP (bytesOf s)).l, strOfNums (parseP (bytesOf s)).h, (parseP (bytesOf s)).i, numsA (parseP (bytesOf s)).c, sufsA (parseP (bytesOf s)).s, true, false, magB (decL (parseP (bytesOf s)).b), true) := by
  intro t l ht hl
  have hl2 := rest2_len (bytesOf s)
  rw [bytesOf_length] at hl2
  have h := p2_ev t (by rw [B_size, ht]; omega) s l (numsA (numsP (bytesOf s).length (bytesOf s)).1)
  rw [ht] at h
  rw [hl] at h ⊢
  exact h
 refine Ev.succ ?_
 simp only [spec_AlpineParse.j0]
 cases hc : isL ((rest1 (bytesOf s)).getD 0 0)
 ·refine Ev.neg (fun _ => Bool.false_ne_true) ?_
  refine key _ _ ?_ ?_
  ·rw [hb1]
   unfold rest2 letterP
   rw [hc]
   rfl
  ·unfold letterP
   rw [hc]
   rfl
 ·have hne : rest1 (bytesOf s) ≠ [] := by intro e; rw [e] at hc; exact absurd hc (by decide)
  have hpos : 0 < (strOfNums (rest1 (bytesOf s))).size := by rw [B_size, hb1]; exact List.length_pos_iff.2 hne
  refine Ev.pos (fun _ => by first | rfl | trivial) ?_
  refine Ev.pos (fun _ => by first | trivial | decide) ?_
  refine Ev.pos (fun _ => by omega) ?_
  refine key _ _ ?_ ?_
  ·rw [B_drop, hb1]
   unfold rest2 letterP
   rw [hc]
   rfl
  ·unfold letterP
   rw [hc, str_take, hb1]
   rfl
theorem same_l1 (o r l h : ByteArray) (i : Bool) (ns : List S52) (ss : List S56) (hn1 : ns.length ≤ 200000) (hs1 : ss.length ≤ 200000) (hb ng : Bool) (m : ByteArray) : ∀ (n j : Nat), ss.length - j = n → j ≤ ss.length →
  Ev (fun k => laws_alpine.l1 k (ss.length : Int) (j : Int) o r l h i ns ss hb ng m o r l h i ns ss hb ng m) true := by
 intro n
 induction n with
 | zero =>
  intro j hn hj
  refine Ev.succ ?_
  simp only [laws_alpine.l1]
  refine Ev.neg (fun _ => by omega) ?_
  exact Ev.now _
 | succ n ih =>
  intro j hn hj
  refine Ev.succ ?_
  simp only [laws_alpine.l1]
  refine Ev.pos (fun _ => by omega) ?_
  refine Ev.pos (fun _ => by omega) ?_
  refine Ev.pos (fun _ => by omega) ?_
  refine Ev.pos (fun _ => by omega) ?_
  refine Ev.neg (fun _ => by simp) ?_
  rw [w64 (by omega) (by omega)]
  exact ih (j + 1) (by omega) (by omega)
theorem same_l0 (o r l h : ByteArray) (i : Bool) (ns : List S52) (ss : List S56) (hn1 : ns.length ≤ 200000) (hs1 : ss.length ≤ 200000) (hb ng : Bool) (m : ByteArray) : ∀ (n j : Nat), ns.length - j = n → j ≤ ns.length →
  Ev (fun k => laws_alpine.l0 k (ns.length : Int) (j : Int) o r l h i ns ss hb ng m o r l h i ns ss hb ng m) true := by
 intro n
 induction n with
 | zero =>
  intro j hn hj
  refine Ev.succ ?_
  simp only [laws_alpine.l0]
  refine Ev.neg (fun _ => by omega) ?_
  exact same_l1 o r l h i ns ss hn1 hs1 hb ng m _ 0 rfl (Nat.zero_le _)
 | succ n ih =>
  intro j hn hj
  refine Ev.succ ?_
  simp only [laws_alpine.l0]
  refine Ev.pos (fun _ => by omega) ?_
  refine Ev.pos (fun _ => by omega) ?_
  refine Ev.pos (fun _ => by omega) ?_
  refine Ev.pos (fun _ => by omega) ?_
  refine Ev.neg (fun _ => by simp) ?_
  rw [w64 (by omega) (by omega)]
  exact ih (j + 1) (by omega) (by omega)
theorem same_ev (o r l h : ByteArray) (i : Bool) (ns : List S52) (ss : List S56) (hn1 : ns.length ≤ 200000) (hs1 : ss.length ≤ 200000) (hb ng : Bool) (m : ByteArray) :
  Ev (fun k => laws_alpine.f k o r l h i ns ss hb ng m o r l h i ns ss hb ng m) true := by
 simp only [laws_alpine.f]
 refine Ev.pos (fun _ => by first | rfl | trivial) ?_
 refine Ev.pos (fun _ => by first | rfl | trivial) ?_
 refine Ev.pos (fun _ => by first | rfl | trivial) ?_
 refine Ev.pos (fun _ => by first | rfl | trivial) ?_
 refine Ev.neg (fun _ => by simp) ?_
 refine Ev.neg (fun _ => by simp) ?_
 have e : (!(ng == ng) || !(m.toList == m.toList)) = false := by simp
 rw [e]
 refine Ev.succ ?_
 simp only [laws_alpine.j0]
 refine Ev.neg (fun _ => Bool.false_ne_true) ?_
 refine Ev.pos (fun _ => by first | rfl | trivial) ?_
 have e2 : ((ss.length : Int) != (ss.length : Int)) = false := by simp
 rw [e2]
 refine Ev.succ ?_
 simp only [laws_alpine.j1]
 refine Ev.neg (fun _ => Bool.false_ne_true) ?_
 exact same_l0 o r l h i ns ss hn1 hs1 hb ng m _ 0 rfl (Nat.zero_le _)
theorem numsA_length (c : List (List Int)) : (numsA c).length = c.length := by simp [numsA]
theorem sufsA_length (c : List (List Int × List Int)) : (sufsA c).length = c.length := by simp [sufsA]
end Go.Proofs.YtapaijpglfmfgaaGreatDoor.V
end
section -- BD
namespace Go.Proofs.YtapaijpglfmfgaaGreatDoor.V
open Go.RowKit Go.Proofs.YtapaijpglfmfgaaGreatDoor.Q Go.Proofs.YtapaijpglfmfgaaGreatDoorG Go.Proofs.YtapaijpglfmfgaaGreatDoorP Go.Proofs.YtapaijpglfmfgaaGreatDoorH Go.Proofs.YtapaijpglfmfgaaGreatDoorB Go.Proofs.YtapaijpglfmfgaaGreatDoorM Go.Proofs.YtapaijpglfmfgaaGreatDoorW.PrintWords Go.Proofs.YtapaijpglfmfgaaGreatDoorW.PrintLast
set_option linter.unusedVariables false
set_option linter.unusedSimpArgs false
def decD (n : Nat) : List Int := if n < 10 then [48 + (n : Int)] else decD (n / 10) ++ [48 + ((n % 10 : Nat) : Int)]
theorem decD_small {n : Nat} (h : n < 10) : decD n = [48 + (n : Int)] := by rw [decD, if_pos h]
theorem decD_big {n : Nat} (h : ¬ n < 10) : decD n = decD (n / 10) ++ [48 + ((n % 10 : Nat) : Int)] := by rw [decD, if_neg h]
theorem decD_spec (n : Nat) : decD n ≠ [] ∧ (∀ c ∈ decD n, isD c = true) ∧ decL (decD n) = n := by
 induction n using Nat.strongRecOn with
 | ind n ih =>
  by_cases h : n < 10
  ·rw [decD_small h]
   refine ⟨by simp, fun c hc => ?_, ?_⟩
   ·have e : c = 48 + (n : Int) := by simpa using hc
    rw [e]; unfold isD; apply decide_eq_true; omega
   ·simp [decL]; omega
  ·rw [decD_big h]
   obtain ⟨_, h2, h3⟩ := ih (n / 10) (by omega)
   refine ⟨by simp, fun c hc => ?_, ?_⟩
   ·rcases List.mem_append.1 hc with hc | hc
    ·exact h2 c hc
    ·have e : c = 48 + ((n % 10 : Nat) : Int) := by simpa using hc
     rw [e]; unfold isD; apply decide_eq_true; omega
   ·rw [decL_snoc, h3]; omega
theorem decD_len : ∀ (k n : Nat), n < 10 ^ (k + 1) → (decD n).length ≤ k + 1
 | 0, n, h => by rw [decD_small (by simpa using h)]; simp
 | k + 1, n, h => by
  by_cases h0 : n < 10
  ·rw [decD_small h0]; simp
  ·rw [decD_big h0]
   have := decD_len k (n / 10) (by rw [Nat.pow_succ] at h; omega)
   simp; omega
theorem isD_byte {c : Int} (h : isD c = true) : 0 ≤ c ∧ c ≤ 255 := by
 unfold isD at h
 have := of_decide_eq_true h
 omega
theorem B_digits {l : List Int} (h : ∀ c ∈ l, isD c = true) : bytesOf (strOfNums l) = l := B_str (fun c hc => isD_byte (h c hc))
end Go.Proofs.YtapaijpglfmfgaaGreatDoor.V
end
section -- BE
namespace Go.Proofs.YtapaijpglfmfgaaGreatDoor.V
open Go.RowKit Go.Proofs.YtapaijpglfmfgaaGreatDoor.Q Go.Proofs.YtapaijpglfmfgaaGreatDoorG Go.Proofs.YtapaijpglfmfgaaGreatDoorP Go.Proofs.YtapaijpglfmfgaaGreatDoorH Go.Proofs.YtapaijpglfmfgaaGreatDoorB Go.Proofs.YtapaijpglfmfgaaGreatDoorM Go.Proofs.YtapaijpglfmfgaaGreatDoorW.PrintWords Go.Proofs.YtapaijpglfmfgaaGreatDoorW.PrintLast
set_option linter.unusedVariables false
set_option linter.unusedSimpArgs false
def joinP : List (List Int) → List Int
 | [] => []
 | d :: r => d ++ r.flatMap fun x => 46 :: x
def joinS (s : List (List Int × List Int)) : List Int := s.flatMap fun x => 95 :: (x.1 ++ x.2)
theorem size_of {s : ByteArray} {l : List Int} (h : bytesOf s = l) : s.size = l.length := by rw [B_size, h]
theorem app_size (s t : ByteArray) : (s ++ t).size = s.size + t.size := ByteArray.size_append
theorem joinS_cons (x : List Int × List Int) (s : List (List Int × List Int)) : joinS (x :: s) = 95 :: (x.1 ++ x.2) ++ joinS s := rfl
end Go.Proofs.YtapaijpglfmfgaaGreatDoor.V
end
