/- Proved here, for the row of the law FnAlpineBuiltPair: contracts of the Go functions that it reaches, each as its theorem 'calls' says, and the words and plain laws that they need (Qx7, Qx41, BN, PureFnAlpineBuiltPair, K19). -/
import Derived.Test.YtapaijpglfmfgaaGreatDoorFnAlpineBuiltPairE
import Derived.Test.YtapaijpglfmfgaaGreatDoorRows
import Derived.Stop.LaidErr
import Derived.Stop.Joined
import Derived.LaidSub
import Derived.MakeChecks
set_option linter.unusedVariables false
set_option linter.unusedSimpArgs false
set_option maxHeartbeats 8000000
set_option maxRecDepth 100000
section
namespace Go.Proofs.YtapaijpglfmfgaaGreatDoor.Q
open Go.RowKit YtapaijpglfmfgaaGreatDoorH YtapaijpglfmfgaaGreatDoorG YtapaijpglfmfgaaGreatDoorW.PrintWords YtapaijpglfmfgaaGreatDoorW.PrintLast YtapaijpglfmfgaaGreatDoorW.PrintMore YtapaijpglfmfgaaGreatDoorC
attribute [local go_sem] zsc zuc zhd zgd zhc zic zvc ztc
theorem zb.calls (k : Nat) (A0_0 : Option Addr) (c0_0 : Nat) (l0_0 : List Int) (a0_1 : Int) (A0_2 : Option Addr) (c0_2 : Nat) (l0_2 : List Int) (A0_3 : Option Addr) (c0_3 : Nat) (l0_3 : List Int) (a0_4 : ByteArray) (a0_5 : Bool) (a0_6 : Int) (r1 : ByteArray) (r2 : ByteArray) (r3 : ByteArray) (r4 : ByteArray) (r5 : ByteArray) (r6 : Bool) (r7 : List (S52)) (r8 : List (S56)) (r9 : Bool) (r10 : Bool) (r11 : ByteArray) (r12 : Bool) (w : World) (hr0_0 : Kd.C (Kd.int .u16) w A0_0 l0_0.length l0_0) (hc0_0 : l0_0.length ≤ c0_0) (hr0_2 : Kd.C (Kd.int .u8) w A0_2 l0_2.length l0_2) (hc0_2 : l0_2.length ≤ c0_2) (hr0_3 : Kd.C (Kd.int .u16) w A0_3 l0_3.length l0_3) (hc0_3 : l0_3.length ≤ c0_3) (h : zb.f k l0_0 a0_1 l0_2 l0_3 a0_4 a0_5 a0_6 = some (r1, r2, r3, r4, r5, r6, r7, r8, r9, r10, r11, r12)) :
  Calls Tryz.prog 7 #[.agg #[.slice A0_0 l0_0.length c0_0, .int .u8 a0_1, .slice A0_2 l0_2.length c0_2, .slice A0_3 l0_3.length c0_3, .string a0_4, .bool a0_5, .int .u16 a0_6]] w fun e w' => ∃ v6_ v7_ : Value, e = .returned (.tuple #[.string r1, .agg #[.string r2, .string r3, .string r4, .string r5, .bool r6, v6_, v7_, .bool r9, .bool r10, .string r11], .bool r12]) ∧ Kd.R k52 52 w' w.heap.size (fun _ => True) v6_ r7 ∧ Kd.R k56 56 w' w.heap.size (fun _ => True) v7_ r8 ∧ Below w.heap.size w w' := by
 have hu26 := Tryz.underlying26
 have hu33 := Tryz.underlying33
 have hu52 := Tryz.underlying52
 have hu56 := Tryz.underlying56
 have hu31 := Tryz.underlying31
 have HR0_0 := za.mk hr0_0
 have HC0_0 := za.mk hc0_0
 clear hr0_0 hc0_0
 have HR0_2 := za.mk hr0_2
 have HC0_2 := za.mk hc0_2
 clear hr0_2 hc0_2
 have HR0_3 := za.mk hr0_3
 have HC0_3 := za.mk hc0_3
 clear hr0_3 hc0_3
 have HB := za.mk (Below.refl w.heap.size w)
 have H : (if (l0_0.length : Int) = 0 then (zb.j0 k true l0_0 a0_1 l0_2 l0_3 a0_4 a0_5 a0_6) else (if (l0_0.length : Int) > 60 then (zb.j0 k true l0_0 a0_1 l0_2 l0_3 a0_4 a0_5 a0_6) else (if (l0_2.length : Int) > 60 then (zb.j0 k true l0_0 a0_1 l0_2 l0_3 a0_4 a0_5 a0_6) else (zb.j0 k (decide ((a0_4.size : Int) > 1200)) l0_0 a0_1 l0_2 l0_3 a0_4 a0_5 a0_6)))) = some (r1, r2, r3, r4, r5, r6, r7, r8, r9, r10, r11, r12) := h
 clear h
 have HC2 := za.mk H
 clear H
 go_enter Tryz.func7, Tryz.ntmps7
 go_upto_region 1 with (first | ((with_reducible refine zmb (N := 1) rfl ?_); (try (refine zrc (by rfl) ?_; dsimp only)); refine zrb ?hg (N := 1) ?hd (cs := #[.slice A0_0 l0_0.length c0_0, .int .u8 a0_1, .slice A0_2 l0_2.length c0_2, .slice A0_3 l0_3.length c0_3, .string a0_4, .bool a0_5, .int .u16 a0_6]) (t := 26) ?hr ?_; (case hd => rfl); (case hg => rfl); (case hr => first | (go_simp; done) | (go_simp; rfl)); intro gb146 hg w3 hbox hb; have BK146 := za.mk hbox; have GW146 := za.mk ((by rw [hg]; exact (zl (by (with_reducible exact HB.out))) : w.heap.size ≤ gb146)); have GE146 := za.mk ((by rw [hg]; exact (zl (by (with_reducible exact HB.out))) : w.heap.size ≤ gb146)); replace HB := za.mk (zm (by (with_reducible exact HB.out)) hb); clear hb hbox hg) | ((with_reducible refine zmb (N := 3) rfl ?_); (try (refine zrc (by rfl) ?_; dsimp only)); refine zrb ?hg (N := 3) ?hd (cs := #[.string ⟨#[]⟩, .string ⟨#[]⟩, .string ⟨#[]⟩, .string ⟨#[]⟩, .bool false, .slice none 0 0, .slice none 0 0, .bool false, .bool false, .string ⟨#[]⟩]) (t := 33) ?hr ?_; (case hd => rfl); (case hg => rfl); (case hr => first | (go_simp; done) | (go_simp; rfl)); intro gb147 hg w4 hbox hb; have n0_ := za.mk (ze BK146.out hb); have n1_ := za.mk (zm (by (with_reducible exact HB.out)) hb); have n2_ := za.mk hbox; have n3_ := za.mk ((by rw [hg]; exact (zl (by (with_reducible exact HB.out))) : w.heap.size ≤ gb147)); have n4_ := za.mk ((by rw [hg]; exact (zl (by (with_reducible exact HB.out))) : w.heap.size ≤ gb147)); have n5_ := za.mk ((by rw [hg]; exact Nat.ne_of_lt (znc BK146.out) : gb146 ≠ gb147)); have n6_ := za.mk ((by rw [hg]; exact Nat.ne_of_gt (znc BK146.out) : gb147 ≠ gb146)); clear BK146; clear HB; have BK146 := n0_; have HB := n1_; have BK147 := n2_; have GW147 := n3_; have GE147 := n4_; have NB146_147 := n5_; have NB147_146 := n6_; clear n0_ n1_ n2_ n3_ n4_ n5_ n6_; clear hb hbox hg))
 (try simp only [Act.put, List.setIfInBounds_toArray, List.set_cons_zero, List.set_cons_succ])
 go_cut [36] (fun v36 wc => ∃ (kq : Nat) (x36_1 : Bool), v36 = .bool x36_1 ∧ za (zb.j0 kq x36_1 l0_0 a0_1 l0_2 l0_3 a0_4 a0_5 a0_6 = some (r1, r2, r3, r4, r5, r6, r7, r8, r9, r10, r11, r12)) ∧ za (kq ≤ k) ∧ za (wc.heap[gb146]? = some (.cells #[(.slice A0_0 l0_0.length c0_0), .int .u8 a0_1, (.slice A0_2 l0_2.length c0_2), (.slice A0_3 l0_3.length c0_3), .string a0_4, .bool a0_5, .int .u16 a0_6] 26 (0, 0))) ∧ za (wc.heap[gb147]? = some (.cells #[.string ⟨#[]⟩, .string ⟨#[]⟩, .string ⟨#[]⟩, .string ⟨#[]⟩, .bool false, (.slice none 0 0), (.slice none 0 0), .bool false, .bool false, .string ⟨#[]⟩] 33 (0, 0))) ∧ za (Below w.heap.size w wc))
 case first =>
  have H := HC2.out
  clear HC2
  by_cases c5 : (l0_0.length : Int) = 0
  ·rw [if_pos c5] at H
   have c5b0 : ((l0_0.length : Int) == 0) = true := beq_iff_eq.mpr c5
   have c5b1 : ((l0_0.length : Int) != 0) = false := bne_eq_false_iff_eq.mpr c5
   clear c5
   (first | rw [c5b0] | (simp only [i64_w, i32_w]; rw [c5b0]) | skip)
   have H' := za.mk H
   clear H
   have hnb6 := NB146_147.out
   have hnc6 := NB147_146.out
   obtain ⟨hcz7_0, hcz7_1, hcz7_2, hcz7_3, hcz7_4, hcz7_5, hcz7_6, hfz7_0, hfz7_1, hfz7_2, hfz7_3, hfz7_4, hfz7_5, hfz7_6⟩ := cl7 BK146.out
   go_wp2
   go_meet
   case rel => exact ⟨_, (true), (by rfl), H', ⟨by omega⟩, ⟨by exact BK146.out⟩, ⟨by exact BK147.out⟩, ⟨by (with_reducible exact HB.out)⟩⟩
  ·rw [if_neg c5] at H
   have c5b0 : ((l0_0.length : Int) == 0) = false := beq_eq_false_iff_ne.mpr c5
   have c5b1 : ((l0_0.length : Int) != 0) = true := bne_iff_ne.mpr c5
   have c5b2 : ¬ (l0_0 = []) := fun h_ => c5 (by rw [h_]; rfl)
   (first | rw [c5b0] | (simp only [i64_w, i32_w]; rw [c5b0]) | skip)
   by_cases c8 : (l0_0.length : Int) > 60
   ·rw [if_pos c8] at H
    have c8b0 : decide (60 < (l0_0.length : Int)) = true := decide_eq_true c8
    have c8b1 : decide (60 < l0_0.length) = true := decide_eq_true (by omega)
    clear c8
    have H' := za.mk H
    clear H
    have hnb9 := NB146_147.out
    have hnc9 := NB147_146.out
    obtain ⟨hcz10_0, hcz10_1, hcz10_2, hcz10_3, hcz10_4, hcz10_5, hcz10_6, hfz10_0, hfz10_1, hfz10_2, hfz10_3, hfz10_4, hfz10_5, hfz10_6⟩ := cl7 BK146.out
    go_wp2
    go_meet
    case rel => exact ⟨_, (true), (by rfl), H', ⟨by omega⟩, ⟨by exact BK146.out⟩, ⟨by exact BK147.out⟩, ⟨by (with_reducible exact HB.out)⟩⟩
   ·rw [if_neg c8] at H
    have c8b0 : decide (60 < (l0_0.length : Int)) = false := decide_eq_false c8
    have c8b1 : decide (60 < l0_0.length) = false := decide_eq_false (by omega)
    clear c8
    by_cases c11 : (l0_2.length : Int) > 60
    ·rw [if_pos c11] at H
     have c11b0 : decide (60 < (l0_2.length : Int)) = true := decide_eq_true c11
     have c11b1 : decide (60 < l0_2.length) = true := decide_eq_true (by omega)
     clear c11
     have H' := za.mk H
     clear H
     have hnb12 := NB146_147.out
     have hnc12 := NB147_146.out
     obtain ⟨hcz13_0, hcz13_1, hcz13_2, hcz13_3, hcz13_4, hcz13_5, hcz13_6, hfz13_0, hfz13_1, hfz13_2, hfz13_3, hfz13_4, hfz13_5, hfz13_6⟩ := cl7 BK146.out
     go_wp2
     go_meet
     case rel => exact ⟨_, (true), (by rfl), H', ⟨by omega⟩, ⟨by exact BK146.out⟩, ⟨by exact BK147.out⟩, ⟨by (with_reducible exact HB.out)⟩⟩
    ·rw [if_neg c11] at H
     have c11b0 : decide (60 < (l0_2.length : Int)) = false := decide_eq_false c11
     have c11b1 : decide (60 < l0_2.length) = false := decide_eq_false (by omega)
     clear c11
     have H' := za.mk H
     clear H
     have hnb14 := NB146_147.out
     have hnc14 := NB147_146.out
     obtain ⟨hcz15_0, hcz15_1, hcz15_2, hcz15_3, hcz15_4, hcz15_5, hcz15_6, hfz15_0, hfz15_1, hfz15_2, hfz15_3, hfz15_4, hfz15_5, hfz15_6⟩ := cl7 BK146.out
     go_wp2
     go_meet
     case rel => exact ⟨_, (decide ((a0_4.size : Int) > 1200)), (by rfl), H', ⟨by omega⟩, ⟨by exact BK146.out⟩, ⟨by exact BK147.out⟩, ⟨by (with_reducible exact HB.out)⟩⟩
 case rest =>
  clear HC2
  obtain ⟨kq, x36_1, rfl, HA, HJ1, BK146, BK147, HB⟩ := hcut
  cases kq with
  | zero => exact absurd HA.out (by simp [zb.j0])
  | succ kj1 =>
   have H := HA.out
   clear HA
   simp only [zb.j0] at H
   by_cases c16 : x36_1 = true
   ·subst c16
    have H1 : (some ((⟨#[]⟩ : ByteArray), (⟨#[]⟩ : ByteArray), (⟨#[]⟩ : ByteArray), (⟨#[]⟩ : ByteArray), (⟨#[]⟩ : ByteArray), false, ([] : List (S52)), ([] : List (S56)), false, false, (⟨#[]⟩ : ByteArray), false)) = some (r1, r2, r3, r4, r5, r6, r7, r8, r9, r10, r11, r12) := by rw [if_pos rfl] at H; exact H
    clear H
    have H := H1
    clear H1
    simp only [Option.some.injEq, Prod.mk.injEq] at H
    obtain ⟨rfl, rfl, rfl, rfl, rfl, rfl, rfl, rfl, rfl, rfl, rfl, rfl⟩ := H
    have hnb17 := NB147_146.out
    have hnc17 := NB146_147.out
    obtain ⟨hcz18_0, hcz18_1, hcz18_2, hcz18_3, hcz18_4, hcz18_5, hcz18_6, hcz18_7, hcz18_8, hcz18_9, hfz18_0, hfz18_1, hfz18_2, hfz18_3, hfz18_4, hfz18_5, hfz18_6, hfz18_7, hfz18_8, hfz18_9⟩ := cl10 BK147.out
    go_wp2
    refine bodyPost_ret (zee (rs := [.tmp 2, .cell 3 33, .tmp 4]) rfl (by simp) (.tmp (.cell gb147 33 #[.string ⟨#[]⟩, .string ⟨#[]⟩, .string ⟨#[]⟩, .string ⟨#[]⟩, .bool false, .slice none 0 0, .slice none 0 0, .bool false, .bool false, .string ⟨#[]⟩] (0, 0) _ rfl (by exact put10 BK147.out) Tryz.underlying33 rfl (by kernel_rfl) (.tmp .nil)))) rfl ?_
    exact ⟨_, _, by rfl, by exact Kd.R_nil _ _ _ _ _, by exact Kd.R_nil _ _ _ _ _, by repeat (first | (with_reducible first | exact HB.out | apply zj | apply zc | apply zz | refine zk ?_ GE146.out | refine zk ?_ GE147.out) | exact HB.out)⟩
   ·replace c16 := Bool.eq_false_iff.mpr c16
    subst c16
    have H1 : (zb.l0 kj1 (⟨#[]⟩ : ByteArray) l0_0 (l0_0.length : Int) 0 l0_0 a0_1 l0_2 l0_3 a0_4 a0_5 a0_6 (⟨#[]⟩ : ByteArray) (⟨#[]⟩ : ByteArray) (⟨#[]⟩ : ByteArray) (⟨#[]⟩ : ByteArray) false ([] : List (S52)) false false (⟨#[]⟩ : ByteArray)) = some (r1, r2, r3, r4, r5, r6, r7, r8, r9, r10, r11, r12) := by rw [if_neg (show ¬ (false = true) by decide)] at H; exact H
    clear H
    have H := H1
    clear H1
    have H' := za.mk H
    clear H
    go_wp2_with (((with_reducible refine zmb (N := 5) rfl ?_); (try (refine zrc (by rfl) ?_; dsimp only)); refine zrb ?hg (N := 5) ?hd (cs := #[.string ⟨#[]⟩, .string ⟨#[]⟩, .string ⟨#[]⟩, .string ⟨#[]⟩, .bool false, .slice none 0 0, .slice none 0 0, .bool false, .bool false, .string ⟨#[]⟩]) (t := 33) ?hr ?_; (case hd => rfl); (case hg => rfl); (case hr => first | (go_simp; done) | (go_simp; rfl)); intro gb148 hg w19 hbox hb; have n0_ := za.mk (ze BK146.out hb); have n1_ := za.mk (ze BK147.out hb); have n2_ := za.mk (zm (by (with_reducible exact HB.out)) hb); have n3_ := za.mk hbox; have n4_ := za.mk ((by rw [hg]; exact (zl (by (with_reducible exact HB.out))) : w.heap.size ≤ gb148)); have n5_ := za.mk ((by rw [hg]; exact (zl (by (with_reducible exact HB.out))) : w.heap.size ≤ gb148)); have n6_ := za.mk ((by rw [hg]; exact Nat.ne_of_lt (znc BK146.out) : gb146 ≠ gb148)); have n7_ := za.mk ((by rw [hg]; exact Nat.ne_of_gt (znc BK146.out) : gb148 ≠ gb146)); have n8_ := za.mk ((by rw [hg]; exact Nat.ne_of_lt (znc BK147.out) : gb147 ≠ gb148)); have n9_ := za.mk ((by rw [hg]; exact Nat.ne_of_gt (znc BK147.out) : gb148 ≠ gb147)); clear BK146; clear BK147; clear HB; have BK146 := n0_; have BK147 := n1_; have HB := n2_; have BK148 := n3_; have GW148 := n4_; have GE148 := n5_; have NB146_148 := n6_; have NB148_146 := n7_; have NB147_148 := n8_; have NB148_147 := n9_; clear n0_ n1_ n2_ n3_ n4_ n5_ n6_ n7_ n8_ n9_; clear hb hbox hg; have hnb20 := NB148_146.out; have hnc20 := NB146_148.out; have hnb21 := NB148_147.out; have hnc21 := NB147_148.out; obtain ⟨hcz22_0, hcz22_1, hcz22_2, hcz22_3, hcz22_4, hcz22_5, hcz22_6, hcz22_7, hcz22_8, hcz22_9, hfz22_0, hfz22_1, hfz22_2, hfz22_3, hfz22_4, hfz22_5, hfz22_6, hfz22_7, hfz22_8, hfz22_9⟩ := cl10 BK148.out; have hnb23 := NB146_147.out; have hnc23 := NB147_146.out; obtain ⟨hcz24_0, hcz24_1, hcz24_2, hcz24_3, hcz24_4, hcz24_5, hcz24_6, hfz24_0, hfz24_1, hfz24_2, hfz24_3, hfz24_4, hfz24_5, hfz24_6⟩ := cl7 BK146.out))
    (try simp only [Act.put, List.setIfInBounds_toArray, List.set_cons_zero, List.set_cons_succ])
    go_loopg [6, 42] kj1 (fun kq v6 v42 w' => ∃ (x6_2 : ByteArray) (x42_2 : Int) (x149005_2 : List (S52)) (u149005 : Value), v6 = .string x6_2 ∧ v42 = .int .i64 x42_2 ∧ za (zb.l0 kq x6_2 l0_0 (l0_0.length : Int) x42_2 l0_0 a0_1 l0_2 l0_3 a0_4 a0_5 a0_6 (⟨#[]⟩ : ByteArray) (⟨#[]⟩ : ByteArray) (⟨#[]⟩ : ByteArray) (⟨#[]⟩ : ByteArray) false x149005_2 false false (⟨#[]⟩ : ByteArray) = some (r1, r2, r3, r4, r5, r6, r7, r8, r9, r10, r11, r12)) ∧ za (kq ≤ kj1) ∧ za (Kd.R k52 52 w' w.heap.size (fun _ => True) u149005 x149005_2) ∧ za (w'.heap[gb146]? = some (.cells #[(.slice A0_0 l0_0.length c0_0), .int .u8 a0_1, (.slice A0_2 l0_2.length c0_2), (.slice A0_3 l0_3.length c0_3), .string a0_4, .bool a0_5, .int .u16 a0_6] 26 (0, 0))) ∧ za (w'.heap[gb147]? = some (.cells #[.string ⟨#[]⟩, .string ⟨#[]⟩, .string ⟨#[]⟩, .string ⟨#[]⟩, .bool false, (.slice none 0 0), (.slice none 0 0), .bool false, .bool false, .string ⟨#[]⟩] 33 (0, 0))) ∧ za (w'.heap[gb148]? = some (.cells #[.string ⟨#[]⟩, .string ⟨#[]⟩, .string ⟨#[]⟩, .string ⟨#[]⟩, .bool false, u149005, (.slice none 0 0), .bool false, .bool false, .string ⟨#[]⟩] 33 (0, 0))) ∧ za (Below w.heap.size w w'))
    case atStart => exact ⟨((⟨#[]⟩ : ByteArray)), (0), (([] : List (S52))), (.slice none 0 0), (by rfl), (by rfl), H', ⟨Nat.le_refl _⟩, ⟨by exact Kd.R_nil _ _ _ _ _⟩, ⟨by (iterate 10 refine zkb ?_ NB146_148.out _); exact BK146.out⟩, ⟨by (iterate 10 refine zkb ?_ NB147_148.out _); exact BK147.out⟩, ⟨by exact put10 BK148.out⟩, ⟨by repeat (first | (with_reducible first | exact HB.out | apply zj | apply zc | apply zz | refine zk ?_ GE146.out | refine zk ?_ GE147.out | refine zk ?_ GE148.out) | exact HB.out)⟩⟩
    case round =>
     clear H'
     clear hcz22_0 hcz22_1 hcz22_2 hcz22_3 hcz22_4 hcz22_5 hcz22_6 hcz22_7 hcz22_8 hcz22_9 hcz24_0 hcz24_1 hcz24_2 hcz24_3 hcz24_4 hcz24_5 hcz24_6 hfz22_0 hfz22_1 hfz22_2 hfz22_3 hfz22_4 hfz22_5 hfz22_6 hfz22_7 hfz22_8 hfz22_9 hfz24_0 hfz24_1 hfz24_2 hfz24_3 hfz24_4 hfz24_5 hfz24_6
     obtain ⟨x6_2, x42_2, x149005_2, u149005, rfl, rfl, HA, HK2, HO_149005, BK146, BK147, BK148, HB⟩ := hrel
     cases gk with
     | zero => exact absurd HA.out (by simp [zb.l0])
     | succ k2 =>
      have H := HA.out
      clear HA
      simp only [zb.l0] at H
      by_cases c25 : x42_2 < (l0_0.length : Int)
      ·rw [if_pos c25] at H
       have c25b0 : decide (x42_2 < (l0_0.length : Int)) = true := decide_eq_true c25
       clear c25
       by_cases c26 : 0 ≤ x42_2
       ·rw [if_pos c26] at H
        have c26b0 : decide (0 ≤ x42_2) = true := decide_eq_true c26
        clear c26
        by_cases c27 : x42_2 < (l0_0.length : Int)
        ·rw [if_pos c27] at H
         have c27b0 : decide (x42_2 < (l0_0.length : Int)) = true := decide_eq_true c27
         clear c27
         have HC28 := za.mk H
         clear H
         have p149 : 0 ≤ (x42_2 : Int) := of_decide_eq_true (by (with_reducible assumption))
         have q149 : x42_2 < (l0_0.length : Int) := of_decide_eq_true (by (with_reducible assumption))
         obtain ⟨ad149, e149, hx149_0⟩ := Kd.at_int HR0_0.out x42_2 p149 q149
         cases e149
         replace hx149_0 := (HB.out.cell (World.block_lt_of_cell? w _ hx149_0)).trans hx149_0
         replace p149 := eq_true p149
         replace q149 := eq_true q149
         go_upto_if 48 with (fail)
         go_cut [6, 48] (fun v6 v48 wc => ∃ (kq : Nat) (x6_27 : ByteArray), v6 = .string x6_27 ∧ za (zb.j2 kq x6_27 x42_2 (rd l0_0 x42_2) l0_0 (l0_0.length : Int) x42_2 l0_0 a0_1 l0_2 l0_3 a0_4 a0_5 a0_6 (⟨#[]⟩ : ByteArray) (⟨#[]⟩ : ByteArray) (⟨#[]⟩ : ByteArray) (⟨#[]⟩ : ByteArray) false x149005_2 false false (⟨#[]⟩ : ByteArray) = some (r1, r2, r3, r4, r5, r6, r7, r8, r9, r10, r11, r12)) ∧ za (kq ≤ k2) ∧ za (Kd.R k52 52 wc w.heap.size (fun _ => True) u149005 x149005_2) ∧ za (wc.heap[gb146]? = some (.cells #[(.slice (some ad149) l0_0.length c0_0), .int .u8 a0_1, (.slice A0_2 l0_2.length c0_2), (.slice A0_3 l0_3.length c0_3), .string a0_4, .bool a0_5, .int .u16 a0_6] 26 (0, 0))) ∧ za (wc.heap[gb147]? = some (.cells #[.string ⟨#[]⟩, .string ⟨#[]⟩, .string ⟨#[]⟩, .string ⟨#[]⟩, .bool false, (.slice none 0 0), (.slice none 0 0), .bool false, .bool false, .string ⟨#[]⟩] 33 (0, 0))) ∧ za (wc.heap[gb148]? = some (.cells #[.string ⟨#[]⟩, .string ⟨#[]⟩, .string ⟨#[]⟩, .string ⟨#[]⟩, .bool false, u149005, (.slice none 0 0), .bool false, .bool false, .string ⟨#[]⟩] 33 (0, 0))) ∧ za (Below w.heap.size w wc))
         case first =>
          have H := HC28.out
          clear HC28
          by_cases c29 : x42_2 > 0
          ·rw [if_pos c29] at H
           have c29b0 : decide (0 < x42_2) = true := decide_eq_true c29
           clear c29
           (first | rw [c29b0] | (simp only [i64_w, i32_w]; rw [c29b0]) | skip)
           by_cases c30 : x6_2.size + 1 ≤ 9223372036854775807
           ·rw [if_pos c30] at H
            have c30b0 := eq_true c30
            have c30b1 : decide (x6_2.size + 1 ≤ 9223372036854775807) = true := decide_eq_true c30
            try have c30b2 : (9223372036854775807 < x6_2.size + 1) = False := eq_false (Nat.not_lt.2 c30)
            have H' := za.mk H
            clear H
            go_wp2
            go_meet
            case rel => exact ⟨_, (x6_2 ++ (⟨#[46]⟩ : ByteArray)), (by rfl), (by exact H'), ⟨by have := HJ1.out; have := HK2.out; first | omega | exact Nat.le_refl _⟩, ⟨by (with_reducible repeat (first | apply Kd.R_alloc | apply Kd.R_drewN | apply Kd.R_drew)); exact HO_149005.out⟩, ⟨by exact BK146.out⟩, ⟨by exact BK147.out⟩, ⟨by exact BK148.out⟩, ⟨by (with_reducible exact HB.out)⟩⟩
           ·rw [if_neg c30] at H
            exact absurd H (by simp)
          ·rw [if_neg c29] at H
           have c29b0 : decide (0 < x42_2) = false := decide_eq_false c29
           clear c29
           (first | rw [c29b0] | (simp only [i64_w, i32_w]; rw [c29b0]) | skip)
           have H' := za.mk H
           clear H
           go_wp2
           go_meet
           case rel => exact ⟨_, (x6_2), (by rfl), (by exact H'), ⟨by have := HJ1.out; have := HK2.out; first | omega | exact Nat.le_refl _⟩, ⟨by (with_reducible repeat (first | apply Kd.R_alloc | apply Kd.R_drewN | apply Kd.R_drew)); exact HO_149005.out⟩, ⟨by exact BK146.out⟩, ⟨by exact BK147.out⟩, ⟨by exact BK148.out⟩, ⟨by (with_reducible exact HB.out)⟩⟩
         case rest => as_aux_lemma =>
          clear HC28
          clear c25b0 c26b0 c27b0 hx149_0 p149 q149
          obtain ⟨kq, x6_27, rfl, HA, HJ27, HO_149005, BK146, BK147, BK148, HB⟩ := hcut
          cases kq with
          | zero => exact absurd HA.out (by simp [zb.j2])
          | succ kj27 =>
           have H := HA.out
           clear HA
           simp only [zb.j2] at H
           replace H := Option.bind_eq_some_iff.mp H
           obtain ⟨t150, A310, H⟩ := H
           replace H : (if x6_27.size + t150.size ≤ 9223372036854775807 then ((zfb.f kj27 (rd l0_0 x42_2)).bind fun t151 => ((zfb.f kj27 (rd l0_0 x42_2)).bind fun t152 => ((zpc.f kj27 t152).bind fun bt153 => (if x149005_2.length < 2932031007402 then (zb.l0 kj27 (x6_27 ++ t150) l0_0 (l0_0.length : Int) (wrap64 (x42_2 + 1)) l0_0 a0_1 l0_2 l0_3 a0_4 a0_5 a0_6 (⟨#[]⟩ : ByteArray) (⟨#[]⟩ : ByteArray) (⟨#[]⟩ : ByteArray) (⟨#[]⟩ : ByteArray) false (x149005_2 ++ [(⟨t151, (⟨bt153.1, bt153.2⟩ : S31), x42_2⟩ : S52)]) false false (⟨#[]⟩ : ByteArray)) else (none))))) else (none)) = some (r1, r2, r3, r4, r5, r6, r7, r8, r9, r10, r11, r12) := H
           have A31 := za.mk A310
           clear A310
           by_cases c32 : x6_27.size + t150.size ≤ 9223372036854775807
           ·rw [if_pos c32] at H
            have c32b0 := eq_true c32
            have c32b1 : decide (x6_27.size + t150.size ≤ 9223372036854775807) = true := decide_eq_true c32
            try have c32b2 : (9223372036854775807 < x6_27.size + t150.size) = False := eq_false (Nat.not_lt.2 c32)
            replace H := Option.bind_eq_some_iff.mp H
            obtain ⟨t151, A330, H⟩ := H
            replace H : ((zfb.f kj27 (rd l0_0 x42_2)).bind fun t152 => ((zpc.f kj27 t152).bind fun bt153 => (if x149005_2.length < 2932031007402 then (zb.l0 kj27 (x6_27 ++ t150) l0_0 (l0_0.length : Int) (wrap64 (x42_2 + 1)) l0_0 a0_1 l0_2 l0_3 a0_4 a0_5 a0_6 (⟨#[]⟩ : ByteArray) (⟨#[]⟩ : ByteArray) (⟨#[]⟩ : ByteArray) (⟨#[]⟩ : ByteArray) false (x149005_2 ++ [(⟨t151, (⟨bt153.1, bt153.2⟩ : S31), x42_2⟩ : S52)]) false false (⟨#[]⟩ : ByteArray)) else (none)))) = some (r1, r2, r3, r4, r5, r6, r7, r8, r9, r10, r11, r12) := H
            have A33 := za.mk A330
            clear A330
            replace H := Option.bind_eq_some_iff.mp H
            obtain ⟨t152, A340, H⟩ := H
            replace H : ((zpc.f kj27 t152).bind fun bt153 => (if x149005_2.length < 2932031007402 then (zb.l0 kj27 (x6_27 ++ t150) l0_0 (l0_0.length : Int) (wrap64 (x42_2 + 1)) l0_0 a0_1 l0_2 l0_3 a0_4 a0_5 a0_6 (⟨#[]⟩ : ByteArray) (⟨#[]⟩ : ByteArray) (⟨#[]⟩ : ByteArray) (⟨#[]⟩ : ByteArray) false (x149005_2 ++ [(⟨t151, (⟨bt153.1, bt153.2⟩ : S31), x42_2⟩ : S52)]) false false (⟨#[]⟩ : ByteArray)) else (none))) = some (r1, r2, r3, r4, r5, r6, r7, r8, r9, r10, r11, r12) := H
            have A34 := za.mk A340
            clear A340
            replace H := Option.bind_eq_some_iff.mp H
            obtain ⟨⟨t153, t154⟩, A350, H⟩ := H
            replace H : (if x149005_2.length < 2932031007402 then (zb.l0 kj27 (x6_27 ++ t150) l0_0 (l0_0.length : Int) (wrap64 (x42_2 + 1)) l0_0 a0_1 l0_2 l0_3 a0_4 a0_5 a0_6 (⟨#[]⟩ : ByteArray) (⟨#[]⟩ : ByteArray) (⟨#[]⟩ : ByteArray) (⟨#[]⟩ : ByteArray) false (x149005_2 ++ [(⟨t151, (⟨t153, t154⟩ : S31), x42_2⟩ : S52)]) false false (⟨#[]⟩ : ByteArray)) else (none)) = some (r1, r2, r3, r4, r5, r6, r7, r8, r9, r10, r11, r12) := H
            have A35 := za.mk A350
            clear A350
            by_cases c36 : x149005_2.length < 2932031007402
            ·rw [if_pos c36] at H
             have LMc36 := za.mk c36
             clear c36
             obtain ⟨y155, hy155⟩ : ∃ y_ : List (S52), y_ = (x149005_2 ++ [(⟨t151, (⟨t153, t154⟩ : S31), x42_2⟩ : S52)]) := ⟨_, rfl⟩
             replace H : (zb.l0 kj27 (x6_27 ++ t150) l0_0 (l0_0.length : Int) (wrap64 (x42_2 + 1)) l0_0 a0_1 l0_2 l0_3 a0_4 a0_5 a0_6 (⟨#[]⟩ : ByteArray) (⟨#[]⟩ : ByteArray) (⟨#[]⟩ : ByteArray) (⟨#[]⟩ : ByteArray) false y155 false false (⟨#[]⟩ : ByteArray)) = some (r1, r2, r3, r4, r5, r6, r7, r8, r9, r10, r11, r12) := by (rw [hy155]; with_reducible exact H)
             have Ny155 := za.mk hy155
             clear hy155
             have H' := za.mk H
             clear H
             try go_wp2_with (((with_reducible refine zx (f := 20) rfl ?_); refine zdc (some 53) rfl rfl Tryz.func20 (by kernel_rfl) rfl #[.int .u16 (rd l0_0 x42_2)] rfl (by (try simp only [List.map_toArray, List.map_cons, List.map_nil]); first | done | rfl | (simp only [List.length_drop, List.length_take]; rfl)) ?_; (with_reducible refine (zfb.calls kj27 (rd l0_0 x42_2) t150 _ A31.out).mono ?_); rintro e w' ⟨rfl, ⟨nd, rfl⟩⟩; refine ⟨_, rfl, ?_⟩; (try (rw [zre wc]; generalize hq_ : World.drewN wc _ = wc; have n0_ : za (Kd.R k52 52 wc w.heap.size (fun _ => True) u149005 x149005_2) := ⟨by rw [← hq_]; exact (by (with_reducible repeat (first | apply Kd.R_alloc | apply Kd.R_drewN | apply Kd.R_drew)); exact HO_149005.out)⟩; have n1_ : za (wc.heap[gb146]? = some (.cells #[.slice (some ad149) l0_0.length c0_0, .int .u8 a0_1, .slice A0_2 l0_2.length c0_2, .slice A0_3 l0_3.length c0_3, .string a0_4, .bool a0_5, .int .u16 a0_6] 26 (0, 0))) := ⟨by rw [← hq_]; exact (by (with_reducible (refine zib ?_ _)); exact BK146.out)⟩; have n2_ : za (wc.heap[gb147]? = some (.cells #[.string ⟨#[]⟩, .string ⟨#[]⟩, .string ⟨#[]⟩, .string ⟨#[]⟩, .bool false, .slice none 0 0, .slice none 0 0, .bool false, .bool false, .string ⟨#[]⟩] 33 (0, 0))) := ⟨by rw [← hq_]; exact (by (with_reducible (refine zib ?_ _)); exact BK147.out)⟩; have n3_ : za (wc.heap[gb148]? = some (.cells #[.string ⟨#[]⟩, .string ⟨#[]⟩, .string ⟨#[]⟩, .string ⟨#[]⟩, .bool false, u149005, .slice none 0 0, .bool false, .bool false, .string ⟨#[]⟩] 33 (0, 0))) := ⟨by rw [← hq_]; exact (by (with_reducible (refine zib ?_ _)); exact BK148.out)⟩; have n4_ : za (Below w.heap.size w wc) := ⟨by rw [← hq_]; exact (by (with_reducible apply zc; with_reducible exact HB.out))⟩; clear HO_149005 BK146 BK147 BK148 HB hq_; have HO_149005 := n0_; have BK146 := n1_; have BK147 := n2_; have BK148 := n3_; have HB := n4_; clear n0_ n1_ n2_ n3_ n4_))))
             replace HO_149005 := za.mk (Kd.R_drew HO_149005.out)
             replace BK146 := za.mk (zjd BK146.out)
             replace BK147 := za.mk (zjd BK147.out)
             replace BK148 := za.mk (zjd BK148.out)
             replace HB := za.mk (zz HB.out)
             refine zeh (n := 13) (S := fun w' => w'.cell? ⟨gb148, 0, none⟩ = some (.string ⟨#[]⟩) ∧ w'.cell? ⟨gb148, 1, none⟩ = some (.string ⟨#[]⟩) ∧ w'.cell? ⟨gb148, 2, none⟩ = some (.string ⟨#[]⟩) ∧ w'.cell? ⟨gb148, 3, none⟩ = some (.string ⟨#[]⟩) ∧ w'.cell? ⟨gb148, 4, none⟩ = some (.bool false) ∧ w'.cell? ⟨gb148, 5, none⟩ = some (u149005) ∧ w'.cell? ⟨gb148, 6, none⟩ = some (.slice none 0 0) ∧ w'.cell? ⟨gb148, 7, none⟩ = some (.bool false) ∧ w'.cell? ⟨gb148, 8, none⟩ = some (.bool false) ∧ w'.cell? ⟨gb148, 9, none⟩ = some (.string ⟨#[]⟩)) (ds := [12]) #[false, false, false, false, false, false, false, false, false, false, false, false, false] (by kernel_rfl) rfl rfl ⟨(zf BK148.out 0).trans rfl, (zf BK148.out 1).trans rfl, (zf BK148.out 2).trans rfl, (zf BK148.out 3).trans rfl, (zf BK148.out 4).trans rfl, (zf BK148.out 5).trans rfl, (zf BK148.out 6).trans rfl, (zf BK148.out 7).trans rfl, (zf BK148.out 8).trans rfl, (zf BK148.out 9).trans rfl⟩ (fun hHeld => ?_); refine zmg zb.tab11 zb.bits11 (fun HT_ HW_ => ?_)
             generalize wc.drew = w37 at HO_149005 BK146 BK147 BK148 HB hHeld ⊢
             refine pure_ (i := 0) (N := some 55) (v := ?_) (a' := ?_) #[true, false, false, false, false, false, false, false, false, false, false, false, false] rfl rfl (zkc HT_.out (by kernel_rfl)) (fun _ _ _ h => h) (Or.inl ⟨by rfl, ?_⟩) ?_ ?_
             rotate_left
             ·intro w'
              go_simp
              with_reducible rfl
             rotate_left
             ·simp only [Act.put, List.setIfInBounds_toArray, List.set_cons_zero, List.set_cons_succ, i64_w, i32_w]
              rfl
             refine pure_ (i := 2) (N := some 57) (v := ?_) (a' := ?_) #[true, false, true, false, false, false, false, false, false, false, false, false, false] rfl rfl (zkc HT_.out (by kernel_rfl)) (fun _ _ _ h => h) (Or.inl ⟨by rfl, ?_⟩) ?_ ?_
             rotate_left
             ·intro w'
              go_simp
              with_reducible rfl
             rotate_left
             ·simp only [Act.put, List.setIfInBounds_toArray, List.set_cons_zero, List.set_cons_succ, i64_w, i32_w]
              rfl
             refine pure_ (i := 4) (N := some 59) (v := ?_) (a' := ?_) #[true, false, true, false, true, false, false, false, false, false, false, false, false] rfl rfl (zkc HT_.out (by kernel_rfl)) (fun _ _ _ h => h) (Or.inl ⟨by rfl, ?_⟩) ?_ ?_
             rotate_left
             ·intro w'
              go_simp
              with_reducible rfl
             rotate_left
             ·simp only [Act.put, List.setIfInBounds_toArray, List.set_cons_zero, List.set_cons_succ, i64_w, i32_w]
              rfl
             refine pure_ (i := 7) (N := some 62) (v := ?_) (a' := ?_) #[true, false, true, false, true, false, false, true, false, false, false, false, false] rfl rfl (zkc HT_.out (by kernel_rfl)) (fun _ _ _ h => h) (Or.inl ⟨by rfl, ?_⟩) ?_ ?_
             rotate_left
             ·intro w'
              go_simp
              with_reducible rfl
             rotate_left
             ·simp only [Act.put, List.setIfInBounds_toArray, List.set_cons_zero, List.set_cons_succ, i64_w, i32_w]
              rfl
             refine take_ (i := 1) (N := some 56) (v := ?_) (a' := ?_) #[true, true, true, false, true, false, false, true, false, false, false, false, false] rfl rfl (take_ofW HT_.out HW_.out (by kernel_rfl)) (fun _ _ _ h => h) (Or.inl ⟨by rfl, ?_⟩) hHeld ?_ ?_
             rotate_left
             ·rintro w' ⟨s0, s1, s2, s3, s4, s5, s6, s7, s8, s9⟩
              go_simp
              with_reducible rfl
             rotate_left
             ·simp only [Act.put, List.setIfInBounds_toArray, List.set_cons_zero, List.set_cons_succ, i64_w, i32_w]
              rfl
             refine one_ (i := 3) (N := some 58) #[true, true, true, true, true, false, false, true, false, false, false, false, false] rfl rfl (zje HT_.out (by kernel_rfl)) (by decide) (fun K hK => ?_)
             refine goes_ Tryz.func20 (by kernel_rfl) rfl #[.int .u16 (rd l0_0 x42_2)] (by rfl) rfl rfl (by (try simp only [List.map_toArray, List.map_cons, List.map_nil]); first | done | rfl | (simp only [List.length_drop, List.length_take]; rfl)) ?_
             with_reducible refine (zfb.calls kj27 (rd l0_0 x42_2) t151 _ A33.out).mono ?_
             rintro e w' ⟨rfl, ⟨nd, rfl⟩⟩
             refine ⟨_, rfl, ?_⟩
             refine hK.out _ _ ⟨(zf BK148.out 0).trans rfl, (zf BK148.out 1).trans rfl, (zf BK148.out 2).trans rfl, (zf BK148.out 3).trans rfl, (zf BK148.out 4).trans rfl, (zf BK148.out 5).trans rfl, (zf BK148.out 6).trans rfl, (zf BK148.out 7).trans rfl, (zf BK148.out 8).trans rfl, (zf BK148.out 9).trans rfl⟩ (fun hHeld => ?_)
             clear hK K
             refine norm_ (a' := ?_) ?_ ?_
             rotate_left
             ·show Act.put _ (some 58) _ = _
              simp only [Act.put, List.setIfInBounds_toArray, List.set_cons_zero, List.set_cons_succ, i64_w, i32_w]
              rfl
             refine one_ (i := 5) (N := some 60) #[true, true, true, true, true, true, false, true, false, false, false, false, false] rfl rfl (zje HT_.out (by kernel_rfl)) (by decide) (fun K hK => ?_)
             refine goes_ Tryz.func20 (by kernel_rfl) rfl #[.int .u16 (rd l0_0 x42_2)] (by rfl) rfl rfl (by (try simp only [List.map_toArray, List.map_cons, List.map_nil]); first | done | rfl | (simp only [List.length_drop, List.length_take]; rfl)) ?_
             with_reducible refine (zfb.calls kj27 (rd l0_0 x42_2) t152 _ A34.out).mono ?_
             rintro e w' ⟨rfl, ⟨nd, rfl⟩⟩
             refine ⟨_, rfl, ?_⟩
             refine hK.out _ _ ⟨(zf BK148.out 0).trans rfl, (zf BK148.out 1).trans rfl, (zf BK148.out 2).trans rfl, (zf BK148.out 3).trans rfl, (zf BK148.out 4).trans rfl, (zf BK148.out 5).trans rfl, (zf BK148.out 6).trans rfl, (zf BK148.out 7).trans rfl, (zf BK148.out 8).trans rfl, (zf BK148.out 9).trans rfl⟩ (fun hHeld => ?_)
             clear hK K
             refine norm_ (a' := ?_) ?_ ?_
             rotate_left
             ·show Act.put _ (some 60) _ = _
              simp only [Act.put, List.setIfInBounds_toArray, List.set_cons_zero, List.set_cons_succ, i64_w, i32_w]
              rfl
             refine one_ (i := 6) (N := some 61) #[true, true, true, true, true, true, true, true, false, false, false, false, false] rfl rfl (zje HT_.out (by kernel_rfl)) (by decide) (fun K hK => ?_)
             refine goes_ Tryz.func21 (by kernel_rfl) rfl #[.string t152] (by rfl) rfl rfl (by (try simp only [List.map_toArray, List.map_cons, List.map_nil]); first | done | rfl | (simp only [List.length_drop, List.length_take]; rfl)) ?_
             with_reducible refine (zpc.calls kj27 t152 t153 t154 _ A35.out).mono ?_
             rintro e w38 ⟨rfl, hb⟩
             refine ⟨_, rfl, ?_⟩
             replace HO_149005 := za.mk (Kd.R_below (by (with_reducible repeat (first | apply Kd.R_alloc | apply Kd.R_drewN | apply Kd.R_drew)); exact HO_149005.out) hb)
             replace BK146 := za.mk (ze (g := gb146) (o := .cells #[.slice (some ad149) l0_0.length c0_0, .int .u8 a0_1, .slice A0_2 l0_2.length c0_2, .slice A0_3 l0_3.length c0_3, .string a0_4, .bool a0_5, .int .u16 a0_6] 26 (0, 0)) (by (with_reducible (refine zib ?_ _; refine zib ?_ _)); exact BK146.out) hb)
             replace BK147 := za.mk (ze (g := gb147) (o := .cells #[.string ⟨#[]⟩, .string ⟨#[]⟩, .string ⟨#[]⟩, .string ⟨#[]⟩, .bool false, .slice none 0 0, .slice none 0 0, .bool false, .bool false, .string ⟨#[]⟩] 33 (0, 0)) (by (with_reducible (refine zib ?_ _; refine zib ?_ _)); exact BK147.out) hb)
             replace BK148 := za.mk (ze (g := gb148) (o := .cells #[.string ⟨#[]⟩, .string ⟨#[]⟩, .string ⟨#[]⟩, .string ⟨#[]⟩, .bool false, u149005, .slice none 0 0, .bool false, .bool false, .string ⟨#[]⟩] 33 (0, 0)) (by (with_reducible (refine zib ?_ _; refine zib ?_ _)); exact BK148.out) hb)
             replace HB := za.mk (zm (by (with_reducible apply zc; with_reducible apply zc; with_reducible exact HB.out)) hb)
             (try clear hb)
             (try clear hb2)
             (try clear hk)
             (try clear hi)
             refine hK.out _ _ ⟨(zf BK148.out 0).trans rfl, (zf BK148.out 1).trans rfl, (zf BK148.out 2).trans rfl, (zf BK148.out 3).trans rfl, (zf BK148.out 4).trans rfl, (zf BK148.out 5).trans rfl, (zf BK148.out 6).trans rfl, (zf BK148.out 7).trans rfl, (zf BK148.out 8).trans rfl, (zf BK148.out 9).trans rfl⟩ (fun hHeld => ?_)
             clear hK K
             refine norm_ (a' := ?_) ?_ ?_
             rotate_left
             ·show Act.put _ (some 61) _ = _
              simp only [Act.put, List.setIfInBounds_toArray, List.set_cons_zero, List.set_cons_succ, i64_w, i32_w]
              rfl
             refine pure_ (i := 8) (N := some 63) (v := ?_) (a' := ?_) #[true, true, true, true, true, true, true, true, true, false, false, false, false] rfl rfl (zkc HT_.out (by kernel_rfl)) (fun _ _ _ h => h) (Or.inl ⟨by rfl, ?_⟩) ?_ ?_
             rotate_left
             ·intro w'
              go_simp
              with_reducible rfl
             rotate_left
             ·simp only [Act.put, List.setIfInBounds_toArray, List.set_cons_zero, List.set_cons_succ, i64_w, i32_w]
              rfl
             refine one_ (i := 9) (N := some 64) #[true, true, true, true, true, true, true, true, true, true, false, false, false] rfl rfl (zje HT_.out (by kernel_rfl)) (by decide) (fun K hK => ?_)
             refine value_ (w1 := ?_) (v := ?_) (by rfl) rfl ?_ ?_
             rotate_left 2
             ·go_simp
              constructor
              ·rfl
              ·rfl
             refine hK.out _ _ ⟨(zf (zjc BK148.out _) 0).trans rfl, (zf (zjc BK148.out _) 1).trans rfl, (zf (zjc BK148.out _) 2).trans rfl, (zf (zjc BK148.out _) 3).trans rfl, (zf (zjc BK148.out _) 4).trans rfl, (zf (zjc BK148.out _) 5).trans rfl, (zf (zjc BK148.out _) 6).trans rfl, (zf (zjc BK148.out _) 7).trans rfl, (zf (zjc BK148.out _) 8).trans rfl, (zf (zjc BK148.out _) 9).trans rfl⟩ (fun hHeld => ?_)
             clear hK K
             refine norm_ (a' := ?_) ?_ ?_
             rotate_left
             ·show Act.put _ (some 64) _ = _
              simp only [Act.put, List.setIfInBounds_toArray, List.set_cons_zero, List.set_cons_succ, i64_w, i32_w]
              rfl
             refine one_ (i := 10) (N := some 65) #[true, true, true, true, true, true, true, true, true, true, true, false, false] rfl rfl (zje HT_.out (by kernel_rfl)) (by decide) (fun K hK => ?_)
             refine Kd.R_append_step k52 (w0 := w) w.heap.size (by rfl) (.tmp 56) (.tmp 64) 28 52 (.agg #[(.string ⟨#[]⟩), (.bool false), (.string ⟨#[]⟩), (.int .i64 0)]) 48 rfl Tryz.underlying28 info52 rfl (by decide) (by omega) u149005 x149005_2 (⟨t151, (⟨t153, t154⟩ : S31), x42_2⟩ : S52) [.string t151, .bool t153, .string t154, .int .i64 x42_2] (fun _ => True) (fun _ => False) rfl rfl ?aP (fun _ hk => hk.elim) ?aF ?aO ?aB ?aS ?aL ?_
             (case aP => exact k52_mkM _ _ _ (⟨t151, (⟨t153, t154⟩ : S31), x42_2⟩ : S52))
             (case aB => exact (by (with_reducible exact HB.out)))
             (case aF => exact (fun _ _ => trivial))
             (case aO => exact (by (with_reducible repeat (first | apply Kd.R_alloc | apply Kd.R_drewN | apply Kd.R_drew)); exact HO_149005.out))
             (case aS => exact (zl (by (with_reducible exact HB.out))))
             (case aL => have := LMc36.out; omega)
             intro v156 w39 ho hb hg hat
             rw [← Ny155.out] at ho
             replace BK146 := za.mk (zrd BK146.out hg (Kd.R_ne HO_149005.out BK146.out (by decide)))
             replace BK147 := za.mk (zrd BK147.out hg (Kd.R_ne HO_149005.out BK147.out (by decide)))
             replace BK148 := za.mk (zrd BK148.out hg (Kd.R_ne HO_149005.out BK148.out (by decide)))
             have HO157 := za.mk ho
             replace HB := za.mk hb
             clear HO_149005
             clear ho hb hg hat
             obtain ⟨Ao40, co40, eo40⟩ := Kd.R_slice HO157.out
             (first | subst eo40 | (injection eo40 with f1_ f2_ f3_; have f4_ := f1_.symm; have f5_ := f3_.symm; clear f1_ f2_ f3_; subst f4_; subst f5_))
             refine hK.out _ _ ⟨(zf BK148.out 0).trans rfl, (zf BK148.out 1).trans rfl, (zf BK148.out 2).trans rfl, (zf BK148.out 3).trans rfl, (zf BK148.out 4).trans rfl, (zf BK148.out 5).trans rfl, (zf BK148.out 6).trans rfl, (zf BK148.out 7).trans rfl, (zf BK148.out 8).trans rfl, (zf BK148.out 9).trans rfl⟩ (fun hHeld => ?_)
             clear hK K
             refine norm_ (a' := ?_) ?_ ?_
             rotate_left
             ·show Act.put _ (some 65) _ = _
              simp only [Act.put, List.setIfInBounds_toArray, List.set_cons_zero, List.set_cons_succ, i64_w, i32_w]
              rfl
             refine pure_ (i := 11) (N := some 66) (v := ?_) (a' := ?_) #[true, true, true, true, true, true, true, true, true, true, true, true, false] rfl rfl (zkc HT_.out (by kernel_rfl)) (fun _ _ _ h => h) (Or.inl ⟨by rfl, ?_⟩) ?_ ?_
             rotate_left
             ·intro w'
              go_simp
              with_reducible rfl
             rotate_left
             ·simp only [Act.put, List.setIfInBounds_toArray, List.set_cons_zero, List.set_cons_succ, i64_w, i32_w]
              rfl
             refine last_ (i := 12) (N := none) #[true, true, true, true, true, true, true, true, true, true, true, true, true] rfl rfl (zje HT_.out (by kernel_rfl)) (by decide) (fun K hK => ?_)
             have hs41 : w39.cell? ⟨gb148, 5, none⟩ = some (u149005) := (zf BK148.out 5).trans rfl
             have hfs41 := zy BK148.out 5
             have hns41_0 := NB146_148.out
             have hns41_1 := NB147_148.out
             have hms41_0 := NB148_146.out
             have hms41_1 := NB148_147.out
             refine skip_ (w1 := ?_) (by rfl) rfl ?_ ?_
             rotate_left
             ·go_simp
              rfl
             refine hK.out _ _ ?_
             clear hK K
             refine done_ (done_of HT_.out (by kernel_rfl)) ?_
             try go_wp2
             go_roundg kj27
             case measure => have := HJ1.out; have := HK2.out; have := HJ27.out; omega
             case rel => exact ⟨(x6_27 ++ t150), (wrap64 (x42_2 + 1)), (y155), (.slice Ao40 y155.length co40), (by rfl), (by rfl), (by exact H'), ⟨by have := HJ1.out; have := HK2.out; have := HJ27.out; omega⟩, ⟨by (with_reducible repeat (first | apply Kd.R_alloc | apply Kd.R_drewN | apply Kd.R_drew)); exact Kd.R_mono (farC (Kd.R_types HO157.out BK148.out (by decide))) (fun _ hk => trivial)⟩, ⟨by refine zkb ?_ NB146_148.out _; exact BK146.out⟩, ⟨by refine zkb ?_ NB147_148.out _; exact BK147.out⟩, ⟨by refine zdb (cs := #[.string ⟨#[]⟩, .string ⟨#[]⟩, .string ⟨#[]⟩, .string ⟨#[]⟩, .bool false, u149005, .slice none 0 0, .bool false, .bool false, .string ⟨#[]⟩]) ?_ 5 _ rfl; exact BK148.out⟩, ⟨by (with_reducible refine zk ?_ GE148.out; with_reducible exact HB.out)⟩⟩
            ·rw [if_neg c36] at H
             exact absurd H (by simp)
           ·rw [if_neg c32] at H
            exact absurd H (by simp)
        ·rw [if_neg c27] at H
         exact absurd H (by simp)
       ·rw [if_neg c26] at H
        exact absurd H (by simp)
      ·rw [if_neg c25] at H
       have c25b0 : decide (x42_2 < (l0_0.length : Int)) = false := decide_eq_false c25
       clear c25
       have HC42 := za.mk H
       clear H
       have hnb43 := NB146_147.out
       have hnc43 := NB147_146.out
       have hnb44 := NB146_148.out
       have hnc44 := NB148_146.out
       obtain ⟨hcz45_0, hcz45_1, hcz45_2, hcz45_3, hcz45_4, hcz45_5, hcz45_6, hfz45_0, hfz45_1, hfz45_2, hfz45_3, hfz45_4, hfz45_5, hfz45_6⟩ := cl7 BK146.out
       go_upto_if 72 with (fail)
       go_cut [6, 72] (fun v6 v72 wc => ∃ (kq : Nat) (x6_41 : ByteArray) (x149002_41 : ByteArray), v6 = .string x6_41 ∧ za (zb.j3 kq x6_41 l0_0 a0_1 l0_2 l0_3 a0_4 a0_5 a0_6 (⟨#[]⟩ : ByteArray) (⟨#[]⟩ : ByteArray) x149002_41 (⟨#[]⟩ : ByteArray) false x149005_2 false false (⟨#[]⟩ : ByteArray) = some (r1, r2, r3, r4, r5, r6, r7, r8, r9, r10, r11, r12)) ∧ za (kq ≤ k2) ∧ za (Kd.R k52 52 wc w.heap.size (fun _ => True) u149005 x149005_2) ∧ za (wc.heap[gb146]? = some (.cells #[(.slice A0_0 l0_0.length c0_0), .int .u8 a0_1, (.slice A0_2 l0_2.length c0_2), (.slice A0_3 l0_3.length c0_3), .string a0_4, .bool a0_5, .int .u16 a0_6] 26 (0, 0))) ∧ za (wc.heap[gb147]? = some (.cells #[.string ⟨#[]⟩, .string ⟨#[]⟩, .string ⟨#[]⟩, .string ⟨#[]⟩, .bool false, (.slice none 0 0), (.slice none 0 0), .bool false, .bool false, .string ⟨#[]⟩] 33 (0, 0))) ∧ za (wc.heap[gb148]? = some (.cells #[.string ⟨#[]⟩, .string ⟨#[]⟩, .string x149002_41, .string ⟨#[]⟩, .bool false, u149005, (.slice none 0 0), .bool false, .bool false, .string ⟨#[]⟩] 33 (0, 0))) ∧ za (Below w.heap.size w wc))
       case first =>
        have H := HC42.out
        clear HC42
        by_cases c46 : (Int.tmod a0_1 27) > 0
        ·rw [if_pos c46] at H
         have c46b0 : decide (0 < (Int.tmod a0_1 27)) = true := decide_eq_true c46
         clear c46
         (first | rw [c46b0] | (simp only [i64_w, i32_w]; rw [c46b0]) | skip)
         by_cases c47 : x6_2.size + (Utf8.encode ((97 + (Int.tmod a0_1 27) - 1) % 256)).size ≤ 9223372036854775807
         ·rw [if_pos c47] at H
          have c47b0 := eq_true c47
          have c47b1 : decide (x6_2.size + (Utf8.encode ((97 + (Int.tmod a0_1 27) - 1) % 256)).size ≤ 9223372036854775807) = true := decide_eq_true c47
          try have c47b2 : (9223372036854775807 < x6_2.size + (Utf8.encode ((97 + (Int.tmod a0_1 27) - 1) % 256)).size) = False := eq_false (Nat.not_lt.2 c47)
          have H' := za.mk H
          clear H
          have hcv48 := fun (W_ : World) => run_convert_int_string (P := Tryz.prog) W_ 21 9 .i32 ((97 + (Int.tmod a0_1 27) - 1) % 256) (by rw [Tryz.underlying21]; rfl) Tryz.underlying9
          have hnb49 := NB148_146.out
          have hnc49 := NB146_148.out
          have hnb50 := NB148_147.out
          have hnc50 := NB147_148.out
          obtain ⟨hcz51_0, hcz51_1, hcz51_2, hcz51_3, hcz51_4, hcz51_5, hcz51_6, hcz51_7, hcz51_8, hcz51_9, hfz51_0, hfz51_1, hfz51_2, hfz51_3, hfz51_4, hfz51_5, hfz51_6, hfz51_7, hfz51_8, hfz51_9⟩ := cl10 BK148.out
          go_wp2
          go_meet
          case rel => exact ⟨_, (x6_2 ++ (Utf8.encode ((97 + (Int.tmod a0_1 27) - 1) % 256))), (Utf8.encode ((97 + (Int.tmod a0_1 27) - 1) % 256)), (by rfl), (by exact H'), ⟨by have := HJ1.out; have := HK2.out; first | omega | exact Nat.le_refl _⟩, ⟨by (with_reducible repeat (first | apply Kd.R_alloc | apply Kd.R_drewN | apply Kd.R_drew)); exact Kd.R_mono (farC (Kd.R_types HO_149005.out BK148.out (by decide))) (fun _ hk => trivial)⟩, ⟨by refine zkb ?_ NB146_148.out _; exact BK146.out⟩, ⟨by refine zkb ?_ NB147_148.out _; exact BK147.out⟩, ⟨by refine zdb (cs := #[.string ⟨#[]⟩, .string ⟨#[]⟩, .string ⟨#[]⟩, .string ⟨#[]⟩, .bool false, u149005, .slice none 0 0, .bool false, .bool false, .string ⟨#[]⟩]) ?_ 2 _ rfl; exact BK148.out⟩, ⟨by (with_reducible refine zk ?_ GE148.out; with_reducible exact HB.out)⟩⟩
         ·rw [if_neg c47] at H
          exact absurd H (by simp)
        ·rw [if_neg c46] at H
         have c46b0 : decide (0 < (Int.tmod a0_1 27)) = false := decide_eq_false c46
         clear c46
         (first | rw [c46b0] | (simp only [i64_w, i32_w]; rw [c46b0]) | skip)
         have H' := za.mk H
         clear H
         go_wp2
         go_meet
         case rel => exact ⟨_, (x6_2), ((⟨#[]⟩ : ByteArray)), (by rfl), (by exact H'), ⟨by have := HJ1.out; have := HK2.out; first | omega | exact Nat.le_refl _⟩, ⟨by (with_reducible repeat (first | apply Kd.R_alloc | apply Kd.R_drewN | apply Kd.R_drew)); exact HO_149005.out⟩, ⟨by exact BK146.out⟩, ⟨by exact BK147.out⟩, ⟨by exact BK148.out⟩, ⟨by (with_reducible exact HB.out)⟩⟩
       case rest =>
        clear HC42
        clear c25b0 hcz45_0 hcz45_1 hcz45_2 hcz45_3 hcz45_4 hcz45_5 hcz45_6 hfz45_0 hfz45_1 hfz45_2 hfz45_3 hfz45_4 hfz45_5 hfz45_6
        obtain ⟨kq, x6_41, x149002_41, rfl, HA, HJ41, HO_149005, BK146, BK147, BK148, HB⟩ := hcut
        cases kq with
        | zero => exact absurd HA.out (by simp [zb.j3])
        | succ kj41 =>
         have H := HA.out
         clear HA
         simp only [zb.j3] at H
         have H' := za.mk H
         clear H
         have hnb52 := NB146_147.out
         have hnc52 := NB147_146.out
         have hnb53 := NB146_148.out
         have hnc53 := NB148_146.out
         obtain ⟨hcz54_0, hcz54_1, hcz54_2, hcz54_3, hcz54_4, hcz54_5, hcz54_6, hfz54_0, hfz54_1, hfz54_2, hfz54_3, hfz54_4, hfz54_5, hfz54_6⟩ := cl7 BK146.out
         go_wp2
         (try simp only [Act.put, List.setIfInBounds_toArray, List.set_cons_zero, List.set_cons_succ])
         go_loopg [6, 86] kj41 (fun kq v6 v86 w' => ∃ (x6_4 : ByteArray) (x86_4 : Int) (x149006_4 : List (S56)) (u149006 : Value), v6 = .string x6_4 ∧ v86 = .int .i64 x86_4 ∧ za (zb.l1 kq x6_4 l0_2 (l0_2.length : Int) x86_4 l0_0 a0_1 l0_2 l0_3 a0_4 a0_5 a0_6 (⟨#[]⟩ : ByteArray) (⟨#[]⟩ : ByteArray) x149002_41 (⟨#[]⟩ : ByteArray) false x149005_2 x149006_4 false false (⟨#[]⟩ : ByteArray) = some (r1, r2, r3, r4, r5, r6, r7, r8, r9, r10, r11, r12)) ∧ za (kq ≤ kj41) ∧ za (Kd.R k52 52 w' w.heap.size (fun _ => True) u149005 x149005_2) ∧ za (Kd.R k56 56 w' w.heap.size (fun _ => True) u149006 x149006_4) ∧ za (w'.heap[gb146]? = some (.cells #[(.slice A0_0 l0_0.length c0_0), .int .u8 a0_1, (.slice A0_2 l0_2.length c0_2), (.slice A0_3 l0_3.length c0_3), .string a0_4, .bool a0_5, .int .u16 a0_6] 26 (0, 0))) ∧ za (w'.heap[gb147]? = some (.cells #[.string ⟨#[]⟩, .string ⟨#[]⟩, .string ⟨#[]⟩, .string ⟨#[]⟩, .bool false, (.slice none 0 0), (.slice none 0 0), .bool false, .bool false, .string ⟨#[]⟩] 33 (0, 0))) ∧ za (w'.heap[gb148]? = some (.cells #[.string ⟨#[]⟩, .string ⟨#[]⟩, .string x149002_41, .string ⟨#[]⟩, .bool false, u149005, u149006, .bool false, .bool false, .string ⟨#[]⟩] 33 (0, 0))) ∧ za (Below w.heap.size w w'))
         case atStart => exact ⟨(x6_41), (0), (([] : List (S56))), (.slice none 0 0), (by rfl), (by rfl), H', ⟨Nat.le_refl _⟩, ⟨by (with_reducible repeat (first | apply Kd.R_alloc | apply Kd.R_drewN | apply Kd.R_drew)); exact HO_149005.out⟩, ⟨by exact Kd.R_nil _ _ _ _ _⟩, ⟨by exact BK146.out⟩, ⟨by exact BK147.out⟩, ⟨by exact BK148.out⟩, ⟨by (with_reducible exact HB.out)⟩⟩
         case round =>
          clear H'
          clear hcz54_0 hcz54_1 hcz54_2 hcz54_3 hcz54_4 hcz54_5 hcz54_6 hfz54_0 hfz54_1 hfz54_2 hfz54_3 hfz54_4 hfz54_5 hfz54_6
          obtain ⟨x6_4, x86_4, x149006_4, u149006, rfl, rfl, HA, HK4, HO_149005, HO_149006, BK146, BK147, BK148, HB⟩ := hrel
          cases gk with
          | zero => exact absurd HA.out (by simp [zb.l1])
          | succ k4 =>
           have H := HA.out
           clear HA
           simp only [zb.l1] at H
           by_cases c55 : x86_4 < (l0_2.length : Int)
           ·rw [if_pos c55] at H
            have c55b0 : decide (x86_4 < (l0_2.length : Int)) = true := decide_eq_true c55
            clear c55
            by_cases c56 : 0 ≤ x86_4
            ·rw [if_pos c56] at H
             have c56b0 : decide (0 ≤ x86_4) = true := decide_eq_true c56
             clear c56
             by_cases c57 : x86_4 < (l0_2.length : Int)
             ·rw [if_pos c57] at H
              have c57b0 : decide (x86_4 < (l0_2.length : Int)) = true := decide_eq_true c57
              clear c57
              replace H := Option.bind_eq_some_iff.mp H
              obtain ⟨t159, A580, H⟩ := H
              replace H : (if 0 ≤ (Int.tmod (rd l0_2 x86_4) 9) then (if (Int.tmod (rd l0_2 x86_4) 9) < (t159.length : Int) then ((zie.f).bind fun t164 => (if (Int.tmod (rd l0_2 x86_4) 9) < (t164.length : Int) then (if 1 + (rdOf ByteArray.empty t164 (Int.tmod (rd l0_2 x86_4) 9)).size ≤ 9223372036854775807 then (if x6_4.size + ((⟨#[95]⟩ : ByteArray) ++ (rdOf ByteArray.empty t164 (Int.tmod (rd l0_2 x86_4) 9))).size ≤ 9223372036854775807 then (if x86_4 < (l0_3.length : Int) then (zb.j5 k4 (x6_4 ++ ((⟨#[95]⟩ : ByteArray) ++ (rdOf ByteArray.empty t164 (Int.tmod (rd l0_2 x86_4) 9)))) x86_4 l0_2 (l0_2.length : Int) x86_4 (decide ((rd l0_3 x86_4) > 0)) l0_0 a0_1 l0_2 l0_3 a0_4 a0_5 a0_6 (⟨#[]⟩ : ByteArray) (⟨#[]⟩ : ByteArray) x149002_41 (⟨#[]⟩ : ByteArray) false x149005_2 x149006_4 false false (⟨#[]⟩ : ByteArray) (rd t159 (Int.tmod (rd l0_2 x86_4) 9)) false (⟨#[]⟩ : ByteArray)) else (zb.j5 k4 (x6_4 ++ ((⟨#[95]⟩ : ByteArray) ++ (rdOf ByteArray.empty t164 (Int.tmod (rd l0_2 x86_4) 9)))) x86_4 l0_2 (l0_2.length : Int) x86_4 false l0_0 a0_1 l0_2 l0_3 a0_4 a0_5 a0_6 (⟨#[]⟩ : ByteArray) (⟨#[]⟩ : ByteArray) x149002_41 (⟨#[]⟩ : ByteArray) false x149005_2 x149006_4 false false (⟨#[]⟩ : ByteArray) (rd t159 (Int.tmod (rd l0_2 x86_4) 9)) false (⟨#[]⟩ : ByteArray))) else (none)) else (none)) else (none))) else (none)) else (none)) = some (r1, r2, r3, r4, r5, r6, r7, r8, r9, r10, r11, r12) := H
              have A58 := za.mk A580
              clear A580
              obtain ⟨ji59, hji59⟩ : ∃ j_ : Int, (Int.tmod (rd l0_2 x86_4) 9) = j_ := ⟨_, rfl⟩
              replace H : (if 0 ≤ (ji59) then (if (ji59) < (t159.length : Int) then ((zie.f).bind fun t164 => (if (ji59) < (t164.length : Int) then (if 1 + (rdOf ByteArray.empty t164 (ji59)).size ≤ 9223372036854775807 then (if x6_4.size + ((⟨#[95]⟩ : ByteArray) ++ (rdOf ByteArray.empty t164 (ji59))).size ≤ 9223372036854775807 then (if x86_4 < (l0_3.length : Int) then (zb.j5 k4 (x6_4 ++ ((⟨#[95]⟩ : ByteArray) ++ (rdOf ByteArray.empty t164 (ji59)))) x86_4 l0_2 (l0_2.length : Int) x86_4 (decide ((rd l0_3 x86_4) > 0)) l0_0 a0_1 l0_2 l0_3 a0_4 a0_5 a0_6 (⟨#[]⟩ : ByteArray) (⟨#[]⟩ : ByteArray) x149002_41 (⟨#[]⟩ : ByteArray) false x149005_2 x149006_4 false false (⟨#[]⟩ : ByteArray) (rd t159 (ji59)) false (⟨#[]⟩ : ByteArray)) else (zb.j5 k4 (x6_4 ++ ((⟨#[95]⟩ : ByteArray) ++ (rdOf ByteArray.empty t164 (ji59)))) x86_4 l0_2 (l0_2.length : Int) x86_4 false l0_0 a0_1 l0_2 l0_3 a0_4 a0_5 a0_6 (⟨#[]⟩ : ByteArray) (⟨#[]⟩ : ByteArray) x149002_41 (⟨#[]⟩ : ByteArray) false x149005_2 x149006_4 false false (⟨#[]⟩ : ByteArray) (rd t159 (ji59)) false (⟨#[]⟩ : ByteArray))) else (none)) else (none)) else (none))) else (none)) else (none)) = some (r1, r2, r3, r4, r5, r6, r7, r8, r9, r10, r11, r12) := by (rw [hji59] at H; exact H)
              (try rw [hji59] at A58)
              by_cases c60 : 0 ≤ (ji59)
              ·rw [if_pos c60] at H
               have c60b0 : decide (0 ≤ (ji59)) = true := decide_eq_true c60
               clear c60
               by_cases c61 : (ji59) < (t159.length : Int)
               ·rw [if_pos c61] at H
                have c61b0 : decide ((ji59) < (t159.length : Int)) = true := decide_eq_true c61
                clear c61
                replace H := Option.bind_eq_some_iff.mp H
                obtain ⟨t164, A620, H⟩ := H
                replace H : (if (ji59) < (t164.length : Int) then (if 1 + (rdOf ByteArray.empty t164 (ji59)).size ≤ 9223372036854775807 then (if x6_4.size + ((⟨#[95]⟩ : ByteArray) ++ (rdOf ByteArray.empty t164 (ji59))).size ≤ 9223372036854775807 then (if x86_4 < (l0_3.length : Int) then (zb.j5 k4 (x6_4 ++ ((⟨#[95]⟩ : ByteArray) ++ (rdOf ByteArray.empty t164 (ji59)))) x86_4 l0_2 (l0_2.length : Int) x86_4 (decide ((rd l0_3 x86_4) > 0)) l0_0 a0_1 l0_2 l0_3 a0_4 a0_5 a0_6 (⟨#[]⟩ : ByteArray) (⟨#[]⟩ : ByteArray) x149002_41 (⟨#[]⟩ : ByteArray) false x149005_2 x149006_4 false false (⟨#[]⟩ : ByteArray) (rd t159 (ji59)) false (⟨#[]⟩ : ByteArray)) else (zb.j5 k4 (x6_4 ++ ((⟨#[95]⟩ : ByteArray) ++ (rdOf ByteArray.empty t164 (ji59)))) x86_4 l0_2 (l0_2.length : Int) x86_4 false l0_0 a0_1 l0_2 l0_3 a0_4 a0_5 a0_6 (⟨#[]⟩ : ByteArray) (⟨#[]⟩ : ByteArray) x149002_41 (⟨#[]⟩ : ByteArray) false x149005_2 x149006_4 false false (⟨#[]⟩ : ByteArray) (rd t159 (ji59)) false (⟨#[]⟩ : ByteArray))) else (none)) else (none)) else (none)) = some (r1, r2, r3, r4, r5, r6, r7, r8, r9, r10, r11, r12) := H
                have A62 := za.mk A620
                clear A620
                by_cases c63 : (ji59) < (t164.length : Int)
                ·rw [if_pos c63] at H
                 have c63b0 : decide ((ji59) < (t164.length : Int)) = true := decide_eq_true c63
                 clear c63
                 by_cases c64 : 1 + (rdOf ByteArray.empty t164 (ji59)).size ≤ 9223372036854775807
                 ·rw [if_pos c64] at H
                  have c64b0 := eq_true c64
                  have c64b1 : decide (1 + (rdOf ByteArray.empty t164 (ji59)).size ≤ 9223372036854775807) = true := decide_eq_true c64
                  try have c64b2 : (9223372036854775807 < 1 + (rdOf ByteArray.empty t164 (ji59)).size) = False := eq_false (Nat.not_lt.2 c64)
                  by_cases c65 : x6_4.size + ((⟨#[95]⟩ : ByteArray) ++ (rdOf ByteArray.empty t164 (ji59))).size ≤ 9223372036854775807
                  ·rw [if_pos c65] at H
                   have c65b0 := eq_true c65
                   have c65b1 : decide (x6_4.size + ((⟨#[95]⟩ : ByteArray) ++ (rdOf ByteArray.empty t164 (ji59))).size ≤ 9223372036854775807) = true := decide_eq_true c65
                   try have c65b2 : (9223372036854775807 < x6_4.size + ((⟨#[95]⟩ : ByteArray) ++ (rdOf ByteArray.empty t164 (ji59))).size) = False := eq_false (Nat.not_lt.2 c65)
                   try have c65b3 : (9223372036854775807 < x6_4.size + (1 + (rdOf ByteArray.empty t164 (ji59)).size)) = False := eq_false (by have h_ := c65; simp only [ByteArray.size_append] at h_; have e0_ : (⟨#[95]⟩ : ByteArray).size = 1 := rfl; omega)
                   try have c65b4 : (x6_4.size + (1 + (rdOf ByteArray.empty t164 (ji59)).size) ≤ 9223372036854775807) = True := eq_true (by have h_ := c65; simp only [ByteArray.size_append] at h_; have e0_ : (⟨#[95]⟩ : ByteArray).size = 1 := rfl; omega)
                   have HC66 := za.mk H
                   clear H
                   have p158 : 0 ≤ (x86_4 : Int) := of_decide_eq_true (by (with_reducible assumption))
                   have q158 : x86_4 < (l0_2.length : Int) := of_decide_eq_true (by (with_reducible assumption))
                   obtain ⟨ad158, e158, hx158_0⟩ := Kd.at_int HR0_2.out x86_4 p158 q158
                   cases e158
                   replace hx158_0 := (HB.out.cell (World.block_lt_of_cell? w _ hx158_0)).trans hx158_0
                   replace p158 := eq_true p158
                   replace q158 := eq_true q158
                   go_upto_region 22 with (first | ((with_reducible refine zx (f := 22) rfl ?_); refine zdc (some 91) rfl rfl Tryz.func22 (by kernel_rfl) rfl #[] rfl (by (try simp only [List.map_toArray, List.map_cons, List.map_nil]); first | done | rfl | (simp only [List.length_drop, List.length_take]; rfl)) ?_; (with_reducible refine (zag.calls  t159 _ A58.out).mono ?_); rintro e w67 ⟨v160, rfl, ho0, hb⟩; refine ⟨_, rfl, ?_⟩; replace HO_149005 := za.mk (Kd.R_below (by (with_reducible repeat (first | apply Kd.R_alloc | apply Kd.R_drewN | apply Kd.R_drew)); exact HO_149005.out) hb); replace HO_149006 := za.mk (Kd.R_below (by (with_reducible repeat (first | apply Kd.R_alloc | apply Kd.R_drewN | apply Kd.R_drew)); exact HO_149006.out) hb); have HO161 := za.mk (Kd.R_lower ho0 (zl (by (with_reducible exact HB.out)))); replace BK146 := za.mk (ze BK146.out hb); replace BK147 := za.mk (ze BK147.out hb); replace BK148 := za.mk (ze BK148.out hb); replace HB := za.mk (zm (by (with_reducible exact HB.out)) hb); (try clear hb); (try clear hb2); (try clear hk); (try clear hi); (try clear ho0); obtain ⟨Ao68, co68, eo68⟩ := Kd.R_slice HO161.out; subst eo68; have p162 : 0 ≤ ((ji59) : Int) := of_decide_eq_true (by (with_reducible assumption)); have q162 : (ji59) < (t159.length : Int) := of_decide_eq_true (by (with_reducible assumption)); obtain ⟨ad162, e162, hx162_0⟩ := Kd.at_int (Kd.R_reads' HO161.out).2.2 (ji59) p162 q162; cases e162; replace p162 := eq_true p162; replace q162 := eq_true q162) | ((with_reducible refine zmb (N := 12) rfl ?_); (try (refine zrc (by rfl) ?_; dsimp only)); refine zrb ?hg (N := 12) ?hd (cs := #[.int .i64 0, .bool false, .string ⟨#[]⟩]) (t := 56) ?hr ?_; (case hd => rfl); (case hg => rfl); (case hr => first | (go_simp; done) | (go_simp; rfl)); intro gb163 hg w69 hbox hb; have n0_ := za.mk (Kd.R_below (by (with_reducible repeat (first | apply Kd.R_alloc | apply Kd.R_drewN | apply Kd.R_drew)); exact HO_149005.out) hb); have n1_ := za.mk (Kd.R_below (Kd.R_elderB (by (with_reducible repeat (first | apply Kd.R_alloc | apply Kd.R_drewN | apply Kd.R_drew)); exact HO_149006.out) gb163 (Nat.le_of_eq hg.symm)) hb); have n2_ := za.mk (Kd.R_below (by (with_reducible repeat (first | apply Kd.R_alloc | apply Kd.R_drewN | apply Kd.R_drew)); exact HO161.out) hb); have n3_ := za.mk (ze BK146.out hb); have n4_ := za.mk (ze BK147.out hb); have n5_ := za.mk (ze BK148.out hb); have n6_ := za.mk (zm (by (with_reducible exact HB.out)) hb); have n7_ := za.mk hbox; have n8_ := za.mk ((by rw [hg]; exact (zl (by (with_reducible exact HB.out))) : w.heap.size ≤ gb163)); have n9_ := za.mk ((by rw [hg]; exact (zl (by (with_reducible exact HB.out))) : w.heap.size ≤ gb163)); have n10_ := za.mk ((by rw [hg]; exact Nat.ne_of_lt (znc BK146.out) : gb146 ≠ gb163)); have n11_ := za.mk ((by rw [hg]; exact Nat.ne_of_gt (znc BK146.out) : gb163 ≠ gb146)); have n12_ := za.mk ((by rw [hg]; exact Nat.ne_of_lt (znc BK147.out) : gb147 ≠ gb163)); have n13_ := za.mk ((by rw [hg]; exact Nat.ne_of_gt (znc BK147.out) : gb163 ≠ gb147)); have n14_ := za.mk ((by rw [hg]; exact Nat.ne_of_lt (znc BK148.out) : gb148 ≠ gb163)); have n15_ := za.mk ((by rw [hg]; exact Nat.ne_of_gt (znc BK148.out) : gb163 ≠ gb148)); clear HO_149005; clear HO_149006; clear HO161; clear BK146; clear BK147; clear BK148; clear HB; have HO_149005 := n0_; have HO_149006 := n1_; have HO161 := n2_; have BK146 := n3_; have BK147 := n4_; have BK148 := n5_; have HB := n6_; have BK163 := n7_; have GW163 := n8_; have GE163 := n9_; have NB146_163 := n10_; have NB163_146 := n11_; have NB147_163 := n12_; have NB163_147 := n13_; have NB148_163 := n14_; have NB163_148 := n15_; clear n0_ n1_ n2_ n3_ n4_ n5_ n6_ n7_ n8_ n9_ n10_ n11_ n12_ n13_ n14_ n15_; clear hb hbox hg; have hnb70 := NB163_146.out; have hnc70 := NB146_163.out; have hnb71 := NB163_147.out; have hnc71 := NB147_163.out; have hnb72 := NB163_148.out; have hnc72 := NB148_163.out; obtain ⟨hcz73_0, hcz73_1, hcz73_2, hfz73_0, hfz73_1, hfz73_2⟩ := cl3 BK163.out) | ((with_reducible refine zx (f := 23) rfl ?_); refine zdc (some 98) rfl rfl Tryz.func23 (by kernel_rfl) rfl #[] rfl (by (try simp only [List.map_toArray, List.map_cons, List.map_nil]); first | done | rfl | (simp only [List.length_drop, List.length_take]; rfl)) ?_; (with_reducible refine (zie.calls  t164 _ A62.out).mono ?_); rintro e w74 ⟨v165, rfl, ho0, hb⟩; refine ⟨_, rfl, ?_⟩; replace HO_149005 := za.mk (Kd.R_below (by (with_reducible repeat (first | apply Kd.R_alloc | apply Kd.R_drewN | apply Kd.R_drew)); exact (Kd.R_mono (farC (farC (farC (Kd.R_types HO_149005.out BK163.out (by decide))))) (fun _ h_ => h_.1))) hb); replace HO_149006 := za.mk (Kd.R_below (by (with_reducible repeat (first | apply Kd.R_alloc | apply Kd.R_drewN | apply Kd.R_drew)); exact (Kd.R_mono (farC (farC (farC (Kd.R_mono HO_149006.out (fun k_ hk => (⟨hk, hk.2⟩ : _ ∧ k_ ≠ gb163)))))) (fun _ h_ => h_.1))) hb); replace HO161 := za.mk (Kd.R_below (by (with_reducible repeat (first | apply Kd.R_alloc | apply Kd.R_drewN | apply Kd.R_drew)); exact (Kd.R_mono (farC (farC (farC (Kd.R_types HO161.out BK163.out (by decide))))) (fun _ h_ => h_.1))) hb); have HO166 := za.mk (Kd.R_lower ho0 (zl (by (with_reducible refine zk ?_ GE163.out; with_reducible refine zk ?_ GE163.out; with_reducible refine zk ?_ GE163.out; with_reducible exact HB.out)))); replace BK146 := za.mk (ze (g := gb146) (o := .cells #[.slice A0_0 l0_0.length c0_0, .int .u8 a0_1, .slice (some ad158) l0_2.length c0_2, .slice A0_3 l0_3.length c0_3, .string a0_4, .bool a0_5, .int .u16 a0_6] 26 (0, 0)) (by (iterate 3 refine zkb ?_ NB146_163.out _); exact BK146.out) hb); replace BK147 := za.mk (ze (g := gb147) (o := .cells #[.string ⟨#[]⟩, .string ⟨#[]⟩, .string ⟨#[]⟩, .string ⟨#[]⟩, .bool false, .slice none 0 0, .slice none 0 0, .bool false, .bool false, .string ⟨#[]⟩] 33 (0, 0)) (by (iterate 3 refine zkb ?_ NB147_163.out _); exact BK147.out) hb); replace BK148 := za.mk (ze (g := gb148) (o := .cells #[.string ⟨#[]⟩, .string ⟨#[]⟩, .string x149002_41, .string ⟨#[]⟩, .bool false, u149005, u149006, .bool false, .bool false, .string ⟨#[]⟩] 33 (0, 0)) (by (iterate 3 refine zkb ?_ NB148_163.out _); exact BK148.out) hb); replace BK163 := za.mk (ze (g := gb163) (o := .cells #[.int .i64 (rd t159 (ji59)), .bool false, .string ⟨#[]⟩] 56 (0, 0)) (by exact put3 BK163.out) hb); replace HB := za.mk (zm (by (with_reducible refine zk ?_ GE163.out; with_reducible refine zk ?_ GE163.out; with_reducible refine zk ?_ GE163.out; with_reducible exact HB.out)) hb); (try clear hb); (try clear hb2); (try clear hk); (try clear hi); (try clear ho0); obtain ⟨Ao75, co75, eo75⟩ := Kd.R_slice HO166.out; subst eo75; have p167 : 0 ≤ ((ji59) : Int) := of_decide_eq_true (by (with_reducible assumption)); have q167 : (ji59) < (t164.length : Int) := of_decide_eq_true (by (with_reducible assumption)); obtain ⟨ad167, e167, hx167_0⟩ := Kd.at_string (Kd.R_reads' HO166.out).2.2 (ji59) p167 q167; cases e167; replace p167 := eq_true p167; replace q167 := eq_true q167))
                   (try simp only [Act.put, List.setIfInBounds_toArray, List.set_cons_zero, List.set_cons_succ])
                   go_cut [117] (fun v117 wc => ∃ (kq : Nat) (x117_65 : Bool), v117 = .bool x117_65 ∧ za (zb.j5 kq (x6_4 ++ ((⟨#[95]⟩ : ByteArray) ++ (rdOf ByteArray.empty t164 (ji59)))) x86_4 l0_2 (l0_2.length : Int) x86_4 x117_65 l0_0 a0_1 l0_2 l0_3 a0_4 a0_5 a0_6 (⟨#[]⟩ : ByteArray) (⟨#[]⟩ : ByteArray) x149002_41 (⟨#[]⟩ : ByteArray) false x149005_2 x149006_4 false false (⟨#[]⟩ : ByteArray) (rd t159 (ji59)) false (⟨#[]⟩ : ByteArray) = some (r1, r2, r3, r4, r5, r6, r7, r8, r9, r10, r11, r12)) ∧ za (kq ≤ k4) ∧ za (Kd.R k52 52 wc w.heap.size (fun _ => True) u149005 x149005_2) ∧ za (Kd.R k56 56 wc w.heap.size (fun k_ => k_ ≠ gb163) u149006 x149006_4) ∧ za (wc.heap[gb146]? = some (.cells #[(.slice A0_0 l0_0.length c0_0), .int .u8 a0_1, (.slice (some ad158) l0_2.length c0_2), (.slice A0_3 l0_3.length c0_3), .string a0_4, .bool a0_5, .int .u16 a0_6] 26 (0, 0))) ∧ za (wc.heap[gb147]? = some (.cells #[.string ⟨#[]⟩, .string ⟨#[]⟩, .string ⟨#[]⟩, .string ⟨#[]⟩, .bool false, (.slice none 0 0), (.slice none 0 0), .bool false, .bool false, .string ⟨#[]⟩] 33 (0, 0))) ∧ za (wc.heap[gb148]? = some (.cells #[.string ⟨#[]⟩, .string ⟨#[]⟩, .string x149002_41, .string ⟨#[]⟩, .bool false, u149005, u149006, .bool false, .bool false, .string ⟨#[]⟩] 33 (0, 0))) ∧ za (wc.heap[gb163]? = some (.cells #[.int .i64 (rd t159 (ji59)), .bool false, .string ⟨#[]⟩] 56 (0, 0))) ∧ za (Below w.heap.size w wc))
                   case first =>
                    have H := HC66.out
                    clear HC66
                    by_cases c76 : x86_4 < (l0_3.length : Int)
                    ·rw [if_pos c76] at H
                     have c76b0 : decide (x86_4 < (l0_3.length : Int)) = true := decide_eq_true c76
                     clear c76
                     (first | rw [c76b0] | (simp only [i64_w, i32_w]; rw [c76b0]) | skip)
                     have H' := za.mk H
                     clear H
                     have hnb77 := NB146_147.out
                     have hnc77 := NB147_146.out
                     have hnb78 := NB146_148.out
                     have hnc78 := NB148_146.out
                     have hnb79 := NB146_163.out
                     have hnc79 := NB163_146.out
                     obtain ⟨hcz80_0, hcz80_1, hcz80_2, hcz80_3, hcz80_4, hcz80_5, hcz80_6, hfz80_0, hfz80_1, hfz80_2, hfz80_3, hfz80_4, hfz80_5, hfz80_6⟩ := cl7 BK146.out
                     have p168 : 0 ≤ (x86_4 : Int) := of_decide_eq_true (by (with_reducible assumption))
                     have q168 : x86_4 < (l0_3.length : Int) := of_decide_eq_true (by (with_reducible assumption))
                     obtain ⟨ad168, e168, hx168_0⟩ := Kd.at_int HR0_3.out x86_4 p168 q168
                     cases e168
                     replace hx168_0 := (HB.out.cell (World.block_lt_of_cell? w _ hx168_0)).trans hx168_0
                     replace p168 := eq_true p168
                     replace q168 := eq_true q168
                     go_wp2
                     go_meet
                     case rel => exact ⟨_, (decide ((rd l0_3 x86_4) > 0)), (by rfl), (by exact H'), ⟨by have := HJ1.out; have := HK2.out; have := HJ41.out; have := HK4.out; first | omega | exact Nat.le_refl _⟩, ⟨by (with_reducible repeat (first | apply Kd.R_alloc | apply Kd.R_drewN | apply Kd.R_drew)); exact HO_149005.out⟩, ⟨by (with_reducible repeat (first | apply Kd.R_alloc | apply Kd.R_drewN | apply Kd.R_drew)); exact Kd.R_mono HO_149006.out (fun _ hk => hk.2)⟩, ⟨by exact BK146.out⟩, ⟨by exact BK147.out⟩, ⟨by exact BK148.out⟩, ⟨by exact BK163.out⟩, ⟨by (with_reducible exact HB.out)⟩⟩
                    ·rw [if_neg c76] at H
                     have c76b0 : decide (x86_4 < (l0_3.length : Int)) = false := decide_eq_false c76
                     clear c76
                     (first | rw [c76b0] | (simp only [i64_w, i32_w]; rw [c76b0]) | skip)
                     have H' := za.mk H
                     clear H
                     have hnb81 := NB146_147.out
                     have hnc81 := NB147_146.out
                     have hnb82 := NB146_148.out
                     have hnc82 := NB148_146.out
                     have hnb83 := NB146_163.out
                     have hnc83 := NB163_146.out
                     obtain ⟨hcz84_0, hcz84_1, hcz84_2, hcz84_3, hcz84_4, hcz84_5, hcz84_6, hfz84_0, hfz84_1, hfz84_2, hfz84_3, hfz84_4, hfz84_5, hfz84_6⟩ := cl7 BK146.out
                     go_wp2
                     go_meet
                     case rel => exact ⟨_, (false), (by rfl), (by exact H'), ⟨by have := HJ1.out; have := HK2.out; have := HJ41.out; have := HK4.out; first | omega | exact Nat.le_refl _⟩, ⟨by (with_reducible repeat (first | apply Kd.R_alloc | apply Kd.R_drewN | apply Kd.R_drew)); exact HO_149005.out⟩, ⟨by (with_reducible repeat (first | apply Kd.R_alloc | apply Kd.R_drewN | apply Kd.R_drew)); exact Kd.R_mono HO_149006.out (fun _ hk => hk.2)⟩, ⟨by exact BK146.out⟩, ⟨by exact BK147.out⟩, ⟨by exact BK148.out⟩, ⟨by exact BK163.out⟩, ⟨by (with_reducible exact HB.out)⟩⟩
                   case rest => as_aux_lemma =>
                    clear HC66
                    clear c55b0 c56b0 c57b0 c60b0 c61b0 c63b0 c64 c64b0 c64b1 c64b2 c65 c65b0 c65b1 c65b2 hcz73_0 hcz73_1 hcz73_2 hfz73_0 hfz73_1 hfz73_2 hx158_0 hx162_0 hx167_0 p158 p162 p167 q158 q162 q167
                    obtain ⟨kq, x117_65, rfl, HA, HJ65, HO_149005, HO_149006, BK146, BK147, BK148, BK163, HB⟩ := hcut
                    cases kq with
                    | zero => exact absurd HA.out (by simp [zb.j5])
                    | succ kj65 =>
                     have H := HA.out
                     clear HA
                     simp only [zb.j5] at H
                     by_cases c85 : x117_65 = true
                     ·subst c85
                      have H1 : (if 0 ≤ x86_4 then (if x86_4 < (l0_3.length : Int) then ((zfb.f kj65 (rd l0_3 x86_4)).bind fun t170 => ((zpc.f kj65 t170).bind fun bt171 => ((zfb.f kj65 (rd l0_3 x86_4)).bind fun t174 => (if (x6_4 ++ ((⟨#[95]⟩ : ByteArray) ++ (rdOf ByteArray.empty t164 (ji59)))).size + t174.size ≤ 9223372036854775807 then (if x149006_4.length < 4398046511104 then (zb.l1 kj65 ((x6_4 ++ ((⟨#[95]⟩ : ByteArray) ++ (rdOf ByteArray.empty t164 (ji59)))) ++ t174) l0_2 (l0_2.length : Int) (wrap64 (x86_4 + 1)) l0_0 a0_1 l0_2 l0_3 a0_4 a0_5 a0_6 (⟨#[]⟩ : ByteArray) (⟨#[]⟩ : ByteArray) x149002_41 (⟨#[]⟩ : ByteArray) false x149005_2 (x149006_4 ++ [(⟨(rd t159 (ji59)), (⟨bt171.1, bt171.2⟩ : S31)⟩ : S56)]) false false (⟨#[]⟩ : ByteArray)) else (none)) else (none))))) else (none)) else (none)) = some (r1, r2, r3, r4, r5, r6, r7, r8, r9, r10, r11, r12) := by rw [if_pos rfl] at H; exact H
                      clear H
                      have H := H1
                      clear H1
                      by_cases c86 : 0 ≤ x86_4
                      ·rw [if_pos c86] at H
                       have c86b0 : decide (0 ≤ x86_4) = true := decide_eq_true c86
                       clear c86
                       by_cases c87 : x86_4 < (l0_3.length : Int)
                       ·rw [if_pos c87] at H
                        have c87b0 : decide (x86_4 < (l0_3.length : Int)) = true := decide_eq_true c87
                        clear c87
                        replace H := Option.bind_eq_some_iff.mp H
                        obtain ⟨t170, A880, H⟩ := H
                        replace H : ((zpc.f kj65 t170).bind fun bt171 => ((zfb.f kj65 (rd l0_3 x86_4)).bind fun t174 => (if (x6_4 ++ ((⟨#[95]⟩ : ByteArray) ++ (rdOf ByteArray.empty t164 (ji59)))).size + t174.size ≤ 9223372036854775807 then (if x149006_4.length < 4398046511104 then (zb.l1 kj65 ((x6_4 ++ ((⟨#[95]⟩ : ByteArray) ++ (rdOf ByteArray.empty t164 (ji59)))) ++ t174) l0_2 (l0_2.length : Int) (wrap64 (x86_4 + 1)) l0_0 a0_1 l0_2 l0_3 a0_4 a0_5 a0_6 (⟨#[]⟩ : ByteArray) (⟨#[]⟩ : ByteArray) x149002_41 (⟨#[]⟩ : ByteArray) false x149005_2 (x149006_4 ++ [(⟨(rd t159 (ji59)), (⟨bt171.1, bt171.2⟩ : S31)⟩ : S56)]) false false (⟨#[]⟩ : ByteArray)) else (none)) else (none)))) = some (r1, r2, r3, r4, r5, r6, r7, r8, r9, r10, r11, r12) := H
                        have A88 := za.mk A880
                        clear A880
                        replace H := Option.bind_eq_some_iff.mp H
                        obtain ⟨⟨t171, t172⟩, A890, H⟩ := H
                        replace H : ((zfb.f kj65 (rd l0_3 x86_4)).bind fun t174 => (if (x6_4 ++ ((⟨#[95]⟩ : ByteArray) ++ (rdOf ByteArray.empty t164 (ji59)))).size + t174.size ≤ 9223372036854775807 then (if x149006_4.length < 4398046511104 then (zb.l1 kj65 ((x6_4 ++ ((⟨#[95]⟩ : ByteArray) ++ (rdOf ByteArray.empty t164 (ji59)))) ++ t174) l0_2 (l0_2.length : Int) (wrap64 (x86_4 + 1)) l0_0 a0_1 l0_2 l0_3 a0_4 a0_5 a0_6 (⟨#[]⟩ : ByteArray) (⟨#[]⟩ : ByteArray) x149002_41 (⟨#[]⟩ : ByteArray) false x149005_2 (x149006_4 ++ [(⟨(rd t159 (ji59)), (⟨t171, t172⟩ : S31)⟩ : S56)]) false false (⟨#[]⟩ : ByteArray)) else (none)) else (none))) = some (r1, r2, r3, r4, r5, r6, r7, r8, r9, r10, r11, r12) := H
                        have A89 := za.mk A890
                        clear A890
                        replace H := Option.bind_eq_some_iff.mp H
                        obtain ⟨t174, A900, H⟩ := H
                        replace H : (if (x6_4 ++ ((⟨#[95]⟩ : ByteArray) ++ (rdOf ByteArray.empty t164 (ji59)))).size + t174.size ≤ 9223372036854775807 then (if x149006_4.length < 4398046511104 then (zb.l1 kj65 ((x6_4 ++ ((⟨#[95]⟩ : ByteArray) ++ (rdOf ByteArray.empty t164 (ji59)))) ++ t174) l0_2 (l0_2.length : Int) (wrap64 (x86_4 + 1)) l0_0 a0_1 l0_2 l0_3 a0_4 a0_5 a0_6 (⟨#[]⟩ : ByteArray) (⟨#[]⟩ : ByteArray) x149002_41 (⟨#[]⟩ : ByteArray) false x149005_2 (x149006_4 ++ [(⟨(rd t159 (ji59)), (⟨t171, t172⟩ : S31)⟩ : S56)]) false false (⟨#[]⟩ : ByteArray)) else (none)) else (none)) = some (r1, r2, r3, r4, r5, r6, r7, r8, r9, r10, r11, r12) := H
                        have A90 := za.mk A900
                        clear A900
                        by_cases c91 : (x6_4 ++ ((⟨#[95]⟩ : ByteArray) ++ (rdOf ByteArray.empty t164 (ji59)))).size + t174.size ≤ 9223372036854775807
                        ·rw [if_pos c91] at H
                         have c91b0 := eq_true c91
                         have c91b1 : decide ((x6_4 ++ ((⟨#[95]⟩ : ByteArray) ++ (rdOf ByteArray.empty t164 (ji59)))).size + t174.size ≤ 9223372036854775807) = true := decide_eq_true c91
                         try have c91b2 : (9223372036854775807 < (x6_4 ++ ((⟨#[95]⟩ : ByteArray) ++ (rdOf ByteArray.empty t164 (ji59)))).size + t174.size) = False := eq_false (Nat.not_lt.2 c91)
                         try have c91b3 : (9223372036854775807 < x6_4.size + (1 + (rdOf ByteArray.empty t164 (ji59)).size) + t174.size) = False := eq_false (by have h_ := c91; simp only [ByteArray.size_append] at h_; have e0_ : (⟨#[95]⟩ : ByteArray).size = 1 := rfl; omega)
                         try have c91b4 : (x6_4.size + (1 + (rdOf ByteArray.empty t164 (ji59)).size) + t174.size ≤ 9223372036854775807) = True := eq_true (by have h_ := c91; simp only [ByteArray.size_append] at h_; have e0_ : (⟨#[95]⟩ : ByteArray).size = 1 := rfl; omega)
                         by_cases c92 : x149006_4.length < 4398046511104
                         ·rw [if_pos c92] at H
                          have LMc92 := za.mk c92
                          clear c92
                          obtain ⟨y175, hy175⟩ : ∃ y_ : List (S56), y_ = (x149006_4 ++ [(⟨(rd t159 (ji59)), (⟨t171, t172⟩ : S31)⟩ : S56)]) := ⟨_, rfl⟩
                          replace H : (zb.l1 kj65 ((x6_4 ++ ((⟨#[95]⟩ : ByteArray) ++ (rdOf ByteArray.empty t164 (ji59)))) ++ t174) l0_2 (l0_2.length : Int) (wrap64 (x86_4 + 1)) l0_0 a0_1 l0_2 l0_3 a0_4 a0_5 a0_6 (⟨#[]⟩ : ByteArray) (⟨#[]⟩ : ByteArray) x149002_41 (⟨#[]⟩ : ByteArray) false x149005_2 y175 false false (⟨#[]⟩ : ByteArray)) = some (r1, r2, r3, r4, r5, r6, r7, r8, r9, r10, r11, r12) := by (rw [hy175]; with_reducible exact H)
                          have Ny175 := za.mk hy175
                          clear hy175
                          have H' := za.mk H
                          clear H
                          have hnb93 := NB146_147.out
                          have hnc93 := NB147_146.out
                          have hnb94 := NB146_148.out
                          have hnc94 := NB148_146.out
                          have hnb95 := NB146_163.out
                          have hnc95 := NB163_146.out
                          obtain ⟨hcz96_0, hcz96_1, hcz96_2, hcz96_3, hcz96_4, hcz96_5, hcz96_6, hfz96_0, hfz96_1, hfz96_2, hfz96_3, hfz96_4, hfz96_5, hfz96_6⟩ := cl7 BK146.out
                          have p169 : 0 ≤ (x86_4 : Int) := of_decide_eq_true (by (with_reducible assumption))
                          have q169 : x86_4 < (l0_3.length : Int) := of_decide_eq_true (by (with_reducible assumption))
                          obtain ⟨ad169, e169, hx169_0⟩ := Kd.at_int HR0_3.out x86_4 p169 q169
                          cases e169
                          replace hx169_0 := (HB.out.cell (World.block_lt_of_cell? w _ hx169_0)).trans hx169_0
                          replace p169 := eq_true p169
                          replace q169 := eq_true q169
                          go_wp2_with (first | ((with_reducible refine zx (f := 20) rfl ?_); refine zdc (some 123) rfl rfl Tryz.func20 (by kernel_rfl) rfl #[.int .u16 (rd l0_3 x86_4)] rfl (by (try simp only [List.map_toArray, List.map_cons, List.map_nil]); first | done | rfl | (simp only [List.length_drop, List.length_take]; rfl)) ?_; (with_reducible refine (zfb.calls kj65 (rd l0_3 x86_4) t170 _ A88.out).mono ?_); rintro e w' ⟨rfl, ⟨nd, rfl⟩⟩; refine ⟨_, rfl, ?_⟩; (try (rw [zre wc]; generalize hq_ : World.drewN wc _ = wc; have n0_ : za (Kd.R k52 52 wc w.heap.size (fun _ => True) u149005 x149005_2) := ⟨by rw [← hq_]; exact (by (with_reducible repeat (first | apply Kd.R_alloc | apply Kd.R_drewN | apply Kd.R_drew)); exact HO_149005.out)⟩; have n1_ : za (Kd.R k56 56 wc w.heap.size (fun k_ => k_ ≠ gb163) u149006 x149006_4) := ⟨by rw [← hq_]; exact (by (with_reducible repeat (first | apply Kd.R_alloc | apply Kd.R_drewN | apply Kd.R_drew)); exact HO_149006.out)⟩; have n2_ : za (wc.heap[gb146]? = some (.cells #[.slice A0_0 l0_0.length c0_0, .int .u8 a0_1, .slice (some ad158) l0_2.length c0_2, .slice (some ad169) l0_3.length c0_3, .string a0_4, .bool a0_5, .int .u16 a0_6] 26 (0, 0))) := ⟨by rw [← hq_]; exact (by (with_reducible (refine zib ?_ _)); exact BK146.out)⟩; have n3_ : za (wc.heap[gb147]? = some (.cells #[.string ⟨#[]⟩, .string ⟨#[]⟩, .string ⟨#[]⟩, .string ⟨#[]⟩, .bool false, .slice none 0 0, .slice none 0 0, .bool false, .bool false, .string ⟨#[]⟩] 33 (0, 0))) := ⟨by rw [← hq_]; exact (by (with_reducible (refine zib ?_ _)); exact BK147.out)⟩; have n4_ : za (wc.heap[gb148]? = some (.cells #[.string ⟨#[]⟩, .string ⟨#[]⟩, .string x149002_41, .string ⟨#[]⟩, .bool false, u149005, u149006, .bool false, .bool false, .string ⟨#[]⟩] 33 (0, 0))) := ⟨by rw [← hq_]; exact (by (with_reducible (refine zib ?_ _)); exact BK148.out)⟩; have n5_ : za (wc.heap[gb163]? = some (.cells #[.int .i64 (rd t159 (ji59)), .bool false, .string ⟨#[]⟩] 56 (0, 0))) := ⟨by rw [← hq_]; exact (by (with_reducible (refine zib ?_ _)); exact BK163.out)⟩; have n6_ : za (Below w.heap.size w wc) := ⟨by rw [← hq_]; exact (by (with_reducible apply zc; with_reducible exact HB.out))⟩; clear HO_149005 HO_149006 BK146 BK147 BK148 BK163 HB hq_; have HO_149005 := n0_; have HO_149006 := n1_; have BK146 := n2_; have BK147 := n3_; have BK148 := n4_; have BK163 := n5_; have HB := n6_; clear n0_ n1_ n2_ n3_ n4_ n5_ n6_))) | ((with_reducible refine zx (f := 21) rfl ?_); refine zdc (some 124) rfl rfl Tryz.func21 (by kernel_rfl) rfl #[.string t170] rfl (by (try simp only [List.map_toArray, List.map_cons, List.map_nil]); first | done | rfl | (simp only [List.length_drop, List.length_take]; rfl)) ?_; (with_reducible refine (zpc.calls kj65 t170 t171 t172 _ A89.out).mono ?_); rintro e w97 ⟨rfl, hb⟩; refine ⟨_, rfl, ?_⟩; replace HO_149005 := za.mk (Kd.R_below (by (with_reducible repeat (first | apply Kd.R_alloc | apply Kd.R_drewN | apply Kd.R_drew)); exact HO_149005.out) hb); replace HO_149006 := za.mk (Kd.R_below (by (with_reducible repeat (first | apply Kd.R_alloc | apply Kd.R_drewN | apply Kd.R_drew)); exact HO_149006.out) hb); replace BK146 := za.mk (ze BK146.out hb); replace BK147 := za.mk (ze BK147.out hb); replace BK148 := za.mk (ze BK148.out hb); replace BK163 := za.mk (ze BK163.out hb); replace HB := za.mk (zm (by (with_reducible exact HB.out)) hb); (try clear hb); (try clear hb2); (try clear hk); (try clear hi); have hnb98 := NB163_147.out; have hnc98 := NB147_163.out; have hnb99 := NB163_148.out; have hnc99 := NB148_163.out; obtain ⟨hcz100_0, hcz100_1, hcz100_2, hfz100_0, hfz100_1, hfz100_2⟩ := cl3 BK163.out; obtain ⟨hcz101_0, hcz101_1, hcz101_2, hcz101_3, hcz101_4, hcz101_5, hcz101_6, hfz101_0, hfz101_1, hfz101_2, hfz101_3, hfz101_4, hfz101_5, hfz101_6⟩ := cl7 BK146.out; have p173 : 0 ≤ (x86_4 : Int) := of_decide_eq_true (by (with_reducible assumption)); have q173 : x86_4 < (l0_3.length : Int) := of_decide_eq_true (by (with_reducible assumption)); obtain ⟨ad173, e173, hx173_0⟩ := Kd.at_int HR0_3.out x86_4 p173 q173; obtain rfl : ad169 = ad173 := (by injection e173); have hn173_0 : ad169.block ≠ gb163 := Nat.ne_of_lt (Nat.lt_of_lt_of_le (by have := World.block_lt_of_cell? _ _ hx173_0; first | rwa [add_block] at this | exact this) GW163.out); have hn173_1 : ad169.block ≠ gb163 := Nat.ne_of_lt (Nat.lt_of_lt_of_le (by have := World.block_lt_of_cell? _ _ hx173_0; first | rwa [add_block] at this | exact this) GW163.out); replace hx173_0 := (HB.out.cell (World.block_lt_of_cell? w _ hx173_0)).trans hx173_0; replace hx173_0 := (cell_far (p := ⟨gb163, 1, none⟩) (by (rw [add_block]; exact hn173_0)) (.bool t171)).trans hx173_0; replace hx173_0 := (cell_far (p := ⟨gb163, 2, none⟩) (by (rw [add_block]; exact hn173_1)) (.string t172)).trans hx173_0; clear hn173_0; clear hn173_1; replace p173 := eq_true p173; replace q173 := eq_true q173) | ((with_reducible refine zx (f := 20) rfl ?_); refine zdc (some 132) rfl rfl Tryz.func20 (by kernel_rfl) rfl #[.int .u16 (rd l0_3 x86_4)] rfl (by (try simp only [List.map_toArray, List.map_cons, List.map_nil]); first | done | rfl | (simp only [List.length_drop, List.length_take]; rfl)) ?_; (with_reducible refine (zfb.calls kj65 (rd l0_3 x86_4) t174 _ A90.out).mono ?_); rintro e w' ⟨rfl, ⟨nd, rfl⟩⟩; refine ⟨_, rfl, ?_⟩; have hnb102 := NB148_147.out; have hnc102 := NB147_148.out; obtain ⟨hcz103_0, hcz103_1, hcz103_2, hcz103_3, hcz103_4, hcz103_5, hcz103_6, hcz103_7, hcz103_8, hcz103_9, hfz103_0, hfz103_1, hfz103_2, hfz103_3, hfz103_4, hfz103_5, hfz103_6, hfz103_7, hfz103_8, hfz103_9⟩ := cl10 BK148.out) | ((with_reducible refine zoe (b := .append) (xs := #[.tmp 135, .tmp 137]) rfl ?_); (try (refine zrc (by rfl) ?_; dsimp only)); at_builtin; refine Kd.R_append k56 (w0 := w) w.heap.size rfl (.tmp 135) (.tmp 137) 29 56 (.agg #[(.int .i64 0), (.bool false), (.string ⟨#[]⟩)]) 32 rfl Tryz.underlying29 info56 rfl (by decide) (by omega) u149006 x149006_4 (⟨(rd t159 (ji59)), (⟨t171, t172⟩ : S31)⟩ : S56) [.int .i64 (rd t159 (ji59)), .bool t171, .string t172] (fun k_ => k_ ≠ gb163) (fun _ => False) rfl (by (go_simp; done)) ?aP (fun _ hk => hk.elim) ?aF ?aO ?aB ?aS ?aL ?_; (case aP => exact k56_mkM _ _ _ (⟨(rd t159 (ji59)), (⟨t171, t172⟩ : S31)⟩ : S56)); (case aB => exact (by (with_reducible apply zc; with_reducible refine zk ?_ GE163.out; with_reducible refine zk ?_ GE163.out; with_reducible exact HB.out))); (case aF => exact (fun k_ hk => Kd.freshB (g := gb163) (o := .cells #[.int .i64 (rd t159 (ji59)), .bool t171, .string t172] 56 (0, 0)) (by (with_reducible (refine zib ?_ _)); refine zdb (cs := #[.int .i64 (rd t159 (ji59)), .bool t171, .string ⟨#[]⟩]) ?_ 2 _ rfl; refine zdb (cs := #[.int .i64 (rd t159 (ji59)), .bool false, .string ⟨#[]⟩]) ?_ 1 _ rfl; exact BK163.out) k_ hk)); (case aO => exact (by (with_reducible repeat (first | apply Kd.R_alloc | apply Kd.R_drewN | apply Kd.R_drew)); exact Kd.R_mono (farC (farC (Kd.R_mono HO_149006.out (fun k_ hk => (⟨hk, hk⟩ : _ ∧ k_ ≠ gb163))))) (fun _ hk => hk.1))); (case aS => exact (zl (by (with_reducible apply zc; with_reducible refine zk ?_ GE163.out; with_reducible refine zk ?_ GE163.out; with_reducible exact HB.out)))); (case aL => have := LMc92.out; omega); intro v176 w104 ho hb hg hat; rw [← Ny175.out] at ho; replace HO_149005 := za.mk (Kd.R_over' (by (with_reducible repeat (first | apply Kd.R_alloc | apply Kd.R_drewN | apply Kd.R_drew)); exact (Kd.R_mono (farC (farC (Kd.R_types HO_149005.out BK163.out (by decide)))) (fun _ h_ => h_.1))) (Kd.R_typed (by (with_reducible repeat (first | apply Kd.R_alloc | apply Kd.R_drewN | apply Kd.R_drew)); exact (Kd.R_mono (farC (farC (Kd.R_mono HO_149006.out (fun k_ hk => (⟨hk, hk⟩ : _ ∧ k_ ≠ gb163))))) (fun _ h_ => h_.1)))) (by decide) hg); replace BK146 := za.mk (zrd (g := gb146) (o := .cells #[.slice A0_0 l0_0.length c0_0, .int .u8 a0_1, .slice (some ad158) l0_2.length c0_2, .slice (some ad169) l0_3.length c0_3, .string a0_4, .bool a0_5, .int .u16 a0_6] 26 (0, 0)) (by (with_reducible (refine zib ?_ _)); refine zkb ?_ NB146_163.out _; refine zkb ?_ NB146_163.out _; exact BK146.out) hg (Kd.R_ne HO_149006.out BK146.out (by decide))); replace BK147 := za.mk (zrd (g := gb147) (o := .cells #[.string ⟨#[]⟩, .string ⟨#[]⟩, .string ⟨#[]⟩, .string ⟨#[]⟩, .bool false, .slice none 0 0, .slice none 0 0, .bool false, .bool false, .string ⟨#[]⟩] 33 (0, 0)) (by (with_reducible (refine zib ?_ _)); refine zkb ?_ NB147_163.out _; refine zkb ?_ NB147_163.out _; exact BK147.out) hg (Kd.R_ne HO_149006.out BK147.out (by decide))); replace BK148 := za.mk (zrd (g := gb148) (o := .cells #[.string ⟨#[]⟩, .string ⟨#[]⟩, .string x149002_41, .string ⟨#[]⟩, .bool false, u149005, u149006, .bool false, .bool false, .string ⟨#[]⟩] 33 (0, 0)) (by (with_reducible (refine zib ?_ _)); refine zkb ?_ NB148_163.out _; refine zkb ?_ NB148_163.out _; exact BK148.out) hg (Kd.R_ne HO_149006.out BK148.out (by decide))); replace BK163 := za.mk (zrd (g := gb163) (o := .cells #[.int .i64 (rd t159 (ji59)), .bool t171, .string t172] 56 (0, 0)) (by (with_reducible (refine zib ?_ _)); refine zdb (cs := #[.int .i64 (rd t159 (ji59)), .bool t171, .string ⟨#[]⟩]) ?_ 2 _ rfl; refine zdb (cs := #[.int .i64 (rd t159 (ji59)), .bool false, .string ⟨#[]⟩]) ?_ 1 _ rfl; exact BK163.out) hg (Kd.R_away HO_149006.out (fun _ hk => hk))); have HO177 := za.mk ho; replace HB := za.mk hb; clear HO_149006; clear ho hb hg hat; obtain ⟨Ao105, co105, eo105⟩ := Kd.R_slice HO177.out; subst eo105; obtain ⟨hcz106_0, hcz106_1, hcz106_2, hcz106_3, hcz106_4, hcz106_5, hcz106_6, hcz106_7, hcz106_8, hcz106_9, hfz106_0, hfz106_1, hfz106_2, hfz106_3, hfz106_4, hfz106_5, hfz106_6, hfz106_7, hfz106_8, hfz106_9⟩ := cl10 BK148.out))
                          go_roundg kj65
                          case measure => have := HJ1.out; have := HK2.out; have := HJ41.out; have := HK4.out; have := HJ65.out; omega
                          case rel => exact ⟨((x6_4 ++ ((⟨#[95]⟩ : ByteArray) ++ (rdOf ByteArray.empty t164 (ji59)))) ++ t174), (wrap64 (x86_4 + 1)), (y175), (.slice Ao105 y175.length co105), (by rfl), (by rfl), (by exact H'), ⟨by have := HJ1.out; have := HK2.out; have := HJ41.out; have := HK4.out; have := HJ65.out; omega⟩, ⟨by (with_reducible repeat (first | apply Kd.R_alloc | apply Kd.R_drewN | apply Kd.R_drew)); exact Kd.R_mono (farC (Kd.R_types HO_149005.out BK148.out (by decide))) (fun _ hk => trivial)⟩, ⟨by (with_reducible repeat (first | apply Kd.R_alloc | apply Kd.R_drewN | apply Kd.R_drew)); exact Kd.R_mono (farC (Kd.R_types HO177.out BK148.out (by decide))) (fun _ hk => trivial)⟩, ⟨by refine zkb ?_ NB146_148.out _; exact BK146.out⟩, ⟨by refine zkb ?_ NB147_148.out _; exact BK147.out⟩, ⟨by refine zdb (cs := #[.string ⟨#[]⟩, .string ⟨#[]⟩, .string x149002_41, .string ⟨#[]⟩, .bool false, u149005, u149006, .bool false, .bool false, .string ⟨#[]⟩]) ?_ 6 _ rfl; exact BK148.out⟩, ⟨by (with_reducible refine zk ?_ GE148.out; with_reducible exact HB.out)⟩⟩
                         ·rw [if_neg c92] at H
                          exact absurd H (by simp)
                        ·rw [if_neg c91] at H
                         exact absurd H (by simp)
                       ·rw [if_neg c87] at H
                        exact absurd H (by simp)
                      ·rw [if_neg c86] at H
                       exact absurd H (by simp)
                     ·replace c85 := Bool.eq_false_iff.mpr c85
                      subst c85
                      have H1 : (if x149006_4.length < 4398046511104 then (zb.l1 kj65 (x6_4 ++ ((⟨#[95]⟩ : ByteArray) ++ (rdOf ByteArray.empty t164 (ji59)))) l0_2 (l0_2.length : Int) (wrap64 (x86_4 + 1)) l0_0 a0_1 l0_2 l0_3 a0_4 a0_5 a0_6 (⟨#[]⟩ : ByteArray) (⟨#[]⟩ : ByteArray) x149002_41 (⟨#[]⟩ : ByteArray) false x149005_2 (x149006_4 ++ [(⟨(rd t159 (ji59)), (⟨false, (⟨#[]⟩ : ByteArray)⟩ : S31)⟩ : S56)]) false false (⟨#[]⟩ : ByteArray)) else (none)) = some (r1, r2, r3, r4, r5, r6, r7, r8, r9, r10, r11, r12) := by rw [if_neg (show ¬ (false = true) by decide)] at H; exact H
                      clear H
                      have H := H1
                      clear H1
                      by_cases c107 : x149006_4.length < 4398046511104
                      ·rw [if_pos c107] at H
                       have LMc107 := za.mk c107
                       clear c107
                       obtain ⟨y178, hy178⟩ : ∃ y_ : List (S56), y_ = (x149006_4 ++ [(⟨(rd t159 (ji59)), (⟨false, (⟨#[]⟩ : ByteArray)⟩ : S31)⟩ : S56)]) := ⟨_, rfl⟩
                       replace H : (zb.l1 kj65 (x6_4 ++ ((⟨#[95]⟩ : ByteArray) ++ (rdOf ByteArray.empty t164 (ji59)))) l0_2 (l0_2.length : Int) (wrap64 (x86_4 + 1)) l0_0 a0_1 l0_2 l0_3 a0_4 a0_5 a0_6 (⟨#[]⟩ : ByteArray) (⟨#[]⟩ : ByteArray) x149002_41 (⟨#[]⟩ : ByteArray) false x149005_2 y178 false false (⟨#[]⟩ : ByteArray)) = some (r1, r2, r3, r4, r5, r6, r7, r8, r9, r10, r11, r12) := by (rw [hy178]; with_reducible exact H)
                       have Ny178 := za.mk hy178
                       clear hy178
                       have H' := za.mk H
                       clear H
                       have hnb108 := NB148_146.out
                       have hnc108 := NB146_148.out
                       have hnb109 := NB148_147.out
                       have hnc109 := NB147_148.out
                       have hnb110 := NB148_163.out
                       have hnc110 := NB163_148.out
                       obtain ⟨hcz111_0, hcz111_1, hcz111_2, hcz111_3, hcz111_4, hcz111_5, hcz111_6, hcz111_7, hcz111_8, hcz111_9, hfz111_0, hfz111_1, hfz111_2, hfz111_3, hfz111_4, hfz111_5, hfz111_6, hfz111_7, hfz111_8, hfz111_9⟩ := cl10 BK148.out
                       have hnb112 := NB163_146.out
                       have hnc112 := NB146_163.out
                       have hnb113 := NB163_147.out
                       have hnc113 := NB147_163.out
                       obtain ⟨hcz114_0, hcz114_1, hcz114_2, hfz114_0, hfz114_1, hfz114_2⟩ := cl3 BK163.out
                       go_wp2_with (((with_reducible refine zoe (b := .append) (xs := #[.tmp 135, .tmp 137]) rfl ?_); (try (refine zrc (by rfl) ?_; dsimp only)); at_builtin; refine Kd.R_append k56 (w0 := w) w.heap.size rfl (.tmp 135) (.tmp 137) 29 56 (.agg #[(.int .i64 0), (.bool false), (.string ⟨#[]⟩)]) 32 rfl Tryz.underlying29 info56 rfl (by decide) (by omega) u149006 x149006_4 (⟨(rd t159 (ji59)), (⟨false, (⟨#[]⟩ : ByteArray)⟩ : S31)⟩ : S56) [.int .i64 (rd t159 (ji59)), .bool false, .string ⟨#[]⟩] (fun k_ => k_ ≠ gb163) (fun _ => False) rfl rfl ?aP (fun _ hk => hk.elim) ?aF ?aO ?aB ?aS ?aL ?_; (case aP => exact k56_mkM _ _ _ (⟨(rd t159 (ji59)), (⟨false, (⟨#[]⟩ : ByteArray)⟩ : S31)⟩ : S56)); (case aB => exact (by (with_reducible exact HB.out))); (case aF => exact (fun k_ hk => Kd.freshB (g := gb163) (o := .cells #[.int .i64 (rd t159 (ji59)), .bool false, .string ⟨#[]⟩] 56 (0, 0)) (by exact BK163.out) k_ hk)); (case aO => exact (by (with_reducible repeat (first | apply Kd.R_alloc | apply Kd.R_drewN | apply Kd.R_drew)); exact HO_149006.out)); (case aS => exact (zl (by (with_reducible exact HB.out)))); (case aL => have := LMc107.out; omega); intro v179 w115 ho hb hg hat; rw [← Ny178.out] at ho; replace HO_149005 := za.mk (Kd.R_over' (by (with_reducible repeat (first | apply Kd.R_alloc | apply Kd.R_drewN | apply Kd.R_drew)); exact HO_149005.out) (Kd.R_typed (by (with_reducible repeat (first | apply Kd.R_alloc | apply Kd.R_drewN | apply Kd.R_drew)); exact HO_149006.out)) (by decide) hg); replace BK146 := za.mk (zrd BK146.out hg (Kd.R_ne HO_149006.out BK146.out (by decide))); replace BK147 := za.mk (zrd BK147.out hg (Kd.R_ne HO_149006.out BK147.out (by decide))); replace BK148 := za.mk (zrd BK148.out hg (Kd.R_ne HO_149006.out BK148.out (by decide))); replace BK163 := za.mk (zrd BK163.out hg (Kd.R_away HO_149006.out (fun _ hk => hk))); have HO180 := za.mk ho; replace HB := za.mk hb; clear HO_149006; clear ho hb hg hat; obtain ⟨Ao116, co116, eo116⟩ := Kd.R_slice HO180.out; subst eo116; obtain ⟨hcz117_0, hcz117_1, hcz117_2, hcz117_3, hcz117_4, hcz117_5, hcz117_6, hcz117_7, hcz117_8, hcz117_9, hfz117_0, hfz117_1, hfz117_2, hfz117_3, hfz117_4, hfz117_5, hfz117_6, hfz117_7, hfz117_8, hfz117_9⟩ := cl10 BK148.out))
                       go_roundg kj65
                       case measure => have := HJ1.out; have := HK2.out; have := HJ41.out; have := HK4.out; have := HJ65.out; omega
                       case rel => exact ⟨((x6_4 ++ ((⟨#[95]⟩ : ByteArray) ++ (rdOf ByteArray.empty t164 (ji59))))), (wrap64 (x86_4 + 1)), (y178), (.slice Ao116 y178.length co116), (by rfl), (by rfl), (by exact H'), ⟨by have := HJ1.out; have := HK2.out; have := HJ41.out; have := HK4.out; have := HJ65.out; omega⟩, ⟨by (with_reducible repeat (first | apply Kd.R_alloc | apply Kd.R_drewN | apply Kd.R_drew)); exact Kd.R_mono (farC (Kd.R_types HO_149005.out BK148.out (by decide))) (fun _ hk => trivial)⟩, ⟨by (with_reducible repeat (first | apply Kd.R_alloc | apply Kd.R_drewN | apply Kd.R_drew)); exact Kd.R_mono (farC (Kd.R_types HO180.out BK148.out (by decide))) (fun _ hk => trivial)⟩, ⟨by refine zkb ?_ NB146_148.out _; exact BK146.out⟩, ⟨by refine zkb ?_ NB147_148.out _; exact BK147.out⟩, ⟨by refine zdb (cs := #[.string ⟨#[]⟩, .string ⟨#[]⟩, .string x149002_41, .string ⟨#[]⟩, .bool false, u149005, u149006, .bool false, .bool false, .string ⟨#[]⟩]) ?_ 6 _ rfl; exact BK148.out⟩, ⟨by (with_reducible refine zk ?_ GE148.out; with_reducible exact HB.out)⟩⟩
                      ·rw [if_neg c107] at H
                       exact absurd H (by simp)
                  ·rw [if_neg c65] at H
                   exact absurd H (by simp)
                 ·rw [if_neg c64] at H
                  exact absurd H (by simp)
                ·rw [if_neg c63] at H
                 exact absurd H (by simp)
               ·rw [if_neg c61] at H
                exact absurd H (by simp)
              ·rw [if_neg c60] at H
               exact absurd H (by simp)
             ·rw [if_neg c57] at H
              exact absurd H (by simp)
            ·rw [if_neg c56] at H
             exact absurd H (by simp)
           ·rw [if_neg c55] at H
            have c55b0 : decide (x86_4 < (l0_2.length : Int)) = false := decide_eq_false c55
            clear c55
            have H' := za.mk H
            clear H
            go_wp2
            (try simp only [Act.put, List.setIfInBounds_toArray, List.set_cons_zero, List.set_cons_succ])
            go_loopg [13] k4 (fun kq v13 w' => ∃ (x13_5 : Int) (x148000_5 : ByteArray) (x148001_5 : ByteArray) (x148002_5 : ByteArray) (x148003_5 : ByteArray) (x148004_5 : Bool) (x148007_5 : Bool) (x148008_5 : Bool) (x148009_5 : ByteArray), v13 = .int .i64 x13_5 ∧ za (zb.l2 kq x6_4 x13_5 l0_0 a0_1 l0_2 l0_3 a0_4 a0_5 a0_6 (⟨#[]⟩ : ByteArray) (⟨#[]⟩ : ByteArray) x149002_41 (⟨#[]⟩ : ByteArray) false x149005_2 x149006_4 false false (⟨#[]⟩ : ByteArray) = some (r1, r2, r3, r4, r5, r6, r7, r8, r9, r10, r11, r12)) ∧ za (kq ≤ k4) ∧ za (Kd.R k52 52 w' w.heap.size (fun _ => True) u149005 x149005_2) ∧ za (Kd.R k56 56 w' w.heap.size (fun _ => True) u149006 x149006_4) ∧ za (w'.heap[gb146]? = some (.cells #[(.slice A0_0 l0_0.length c0_0), .int .u8 a0_1, (.slice A0_2 l0_2.length c0_2), (.slice A0_3 l0_3.length c0_3), .string a0_4, .bool a0_5, .int .u16 a0_6] 26 (0, 0))) ∧ za (w'.heap[gb147]? = some (.cells #[.string x148000_5, .string x148001_5, .string x148002_5, .string x148003_5, .bool x148004_5, (.slice none 0 0), (.slice none 0 0), .bool x148007_5, .bool x148008_5, .string x148009_5] 33 (0, 0))) ∧ za (w'.heap[gb148]? = some (.cells #[.string ⟨#[]⟩, .string ⟨#[]⟩, .string x149002_41, .string ⟨#[]⟩, .bool false, u149005, u149006, .bool false, .bool false, .string ⟨#[]⟩] 33 (0, 0))) ∧ za (Below w.heap.size w w'))
            case atStart => exact ⟨(0), ((⟨#[]⟩ : ByteArray)), ((⟨#[]⟩ : ByteArray)), ((⟨#[]⟩ : ByteArray)), ((⟨#[]⟩ : ByteArray)), (false), (false), (false), ((⟨#[]⟩ : ByteArray)), (by rfl), H', ⟨Nat.le_refl _⟩, ⟨by (with_reducible repeat (first | apply Kd.R_alloc | apply Kd.R_drewN | apply Kd.R_drew)); exact HO_149005.out⟩, ⟨by (with_reducible repeat (first | apply Kd.R_alloc | apply Kd.R_drewN | apply Kd.R_drew)); exact HO_149006.out⟩, ⟨by exact BK146.out⟩, ⟨by exact BK147.out⟩, ⟨by exact BK148.out⟩, ⟨by (with_reducible exact HB.out)⟩⟩
            case round =>
             clear H'
             clear c55b0
             obtain ⟨x13_5, x148000_5, x148001_5, x148002_5, x148003_5, x148004_5, x148007_5, x148008_5, x148009_5, rfl, HA, HK5, HO_149005, HO_149006, BK146, BK147, BK148, HB⟩ := hrel
             cases gk with
             | zero => exact absurd HA.out (by simp [zb.l2])
             | succ k5 =>
              have H := HA.out
              clear HA
              simp only [zb.l2] at H
              by_cases c118 : x13_5 < (a0_4.size : Int)
              ·rw [if_pos c118] at H
               have c118b0 : decide (x13_5 < (a0_4.size : Int)) = true := decide_eq_true c118
               clear c118
               by_cases c119 : 0 ≤ x13_5
               ·rw [if_pos c119] at H
                have c119b0 : decide (0 ≤ x13_5) = true := decide_eq_true c119
                clear c119
                by_cases c121 : (bt a0_4 x13_5) ≥ 48
                ·rw [if_pos c121] at H
                 have c121b0 : decide (48 ≤ (bt a0_4 x13_5)) = true := decide_eq_true c121
                 clear c121
                 by_cases c122 : (bt a0_4 x13_5) ≤ 57
                 ·rw [if_pos c122] at H
                  have c122b0 : decide ((bt a0_4 x13_5) ≤ 57) = true := decide_eq_true c122
                  clear c122
                  have H' := za.mk H
                  clear H
                  have hnb123 := NB146_147.out
                  have hnc123 := NB147_146.out
                  have hnb124 := NB146_148.out
                  have hnc124 := NB148_146.out
                  obtain ⟨hcz125_0, hcz125_1, hcz125_2, hcz125_3, hcz125_4, hcz125_5, hcz125_6, hfz125_0, hfz125_1, hfz125_2, hfz125_3, hfz125_4, hfz125_5, hfz125_6⟩ := cl7 BK146.out
                  have p120 : 0 ≤ (x13_5 : Int) := of_decide_eq_true (by (with_reducible assumption))
                  have q120 : x13_5 < (a0_4.size : Int) := of_decide_eq_true (by (with_reducible assumption))
                  have hx120 := bt_at a0_4 x13_5
                  replace p120 := eq_true p120
                  replace q120 := eq_true q120
                  go_wp2
                  go_roundg k5
                  case measure => have := HJ1.out; have := HK2.out; have := HJ41.out; have := HK4.out; have := HK5.out; omega
                  case rel => exact ⟨(wrap64 (x13_5 + 1)), (x148000_5), (x148001_5), (x148002_5), (x148003_5), (x148004_5), (x148007_5), (x148008_5), (x148009_5), (by rfl), (by exact H'), ⟨by have := HJ1.out; have := HK2.out; have := HJ41.out; have := HK4.out; have := HK5.out; omega⟩, ⟨by (with_reducible repeat (first | apply Kd.R_alloc | apply Kd.R_drewN | apply Kd.R_drew)); exact HO_149005.out⟩, ⟨by (with_reducible repeat (first | apply Kd.R_alloc | apply Kd.R_drewN | apply Kd.R_drew)); exact HO_149006.out⟩, ⟨by exact BK146.out⟩, ⟨by exact BK147.out⟩, ⟨by exact BK148.out⟩, ⟨by (with_reducible exact HB.out)⟩⟩
                 ·rw [if_neg c122] at H
                  have c122b0 : decide ((bt a0_4 x13_5) ≤ 57) = false := decide_eq_false c122
                  clear c122
                  by_cases c126 : (bt a0_4 x13_5) ≥ 97
                  ·rw [if_pos c126] at H
                   have c126b0 : decide (97 ≤ (bt a0_4 x13_5)) = true := decide_eq_true c126
                   clear c126
                   by_cases c127 : ((bt a0_4 x13_5) ≤ 102)
                   ·rw [if_pos c127] at H
                    have c127b0 : decide ((bt a0_4 x13_5) ≤ 102) = true := decide_eq_true c127
                    clear c127
                    have H' := za.mk H
                    clear H
                    have hnb128 := NB146_147.out
                    have hnc128 := NB147_146.out
                    have hnb129 := NB146_148.out
                    have hnc129 := NB148_146.out
                    obtain ⟨hcz130_0, hcz130_1, hcz130_2, hcz130_3, hcz130_4, hcz130_5, hcz130_6, hfz130_0, hfz130_1, hfz130_2, hfz130_3, hfz130_4, hfz130_5, hfz130_6⟩ := cl7 BK146.out
                    have p120 : 0 ≤ (x13_5 : Int) := of_decide_eq_true (by (with_reducible assumption))
                    have q120 : x13_5 < (a0_4.size : Int) := of_decide_eq_true (by (with_reducible assumption))
                    have hx120 := bt_at a0_4 x13_5
                    replace p120 := eq_true p120
                    replace q120 := eq_true q120
                    go_wp2
                    go_roundg k5
                    case measure => have := HJ1.out; have := HK2.out; have := HJ41.out; have := HK4.out; have := HK5.out; omega
                    case rel => exact ⟨(wrap64 (x13_5 + 1)), (x148000_5), (x148001_5), (x148002_5), (x148003_5), (x148004_5), (x148007_5), (x148008_5), (x148009_5), (by rfl), (by exact H'), ⟨by have := HJ1.out; have := HK2.out; have := HJ41.out; have := HK4.out; have := HK5.out; omega⟩, ⟨by (with_reducible repeat (first | apply Kd.R_alloc | apply Kd.R_drewN | apply Kd.R_drew)); exact HO_149005.out⟩, ⟨by (with_reducible repeat (first | apply Kd.R_alloc | apply Kd.R_drewN | apply Kd.R_drew)); exact HO_149006.out⟩, ⟨by exact BK146.out⟩, ⟨by exact BK147.out⟩, ⟨by exact BK148.out⟩, ⟨by (with_reducible exact HB.out)⟩⟩
                   ·rw [if_neg c127] at H
                    have c127b0 : decide ((bt a0_4 x13_5) ≤ 102) = false := decide_eq_false c127
                    clear c127
                    simp only [Option.some.injEq, Prod.mk.injEq] at H
                    obtain ⟨rfl, rfl, rfl, rfl, rfl, rfl, rfl, rfl, rfl, rfl, rfl, rfl⟩ := H
                    have hnb131 := NB146_147.out
                    have hnc131 := NB147_146.out
                    have hnb132 := NB146_148.out
                    have hnc132 := NB148_146.out
                    obtain ⟨hcz133_0, hcz133_1, hcz133_2, hcz133_3, hcz133_4, hcz133_5, hcz133_6, hfz133_0, hfz133_1, hfz133_2, hfz133_3, hfz133_4, hfz133_5, hfz133_6⟩ := cl7 BK146.out
                    have p120 : 0 ≤ (x13_5 : Int) := of_decide_eq_true (by (with_reducible assumption))
                    have q120 : x13_5 < (a0_4.size : Int) := of_decide_eq_true (by (with_reducible assumption))
                    have hx120 := bt_at a0_4 x13_5
                    replace p120 := eq_true p120
                    replace q120 := eq_true q120
                    have hnb134 := NB147_148.out
                    have hnc134 := NB148_147.out
                    obtain ⟨hcz135_0, hcz135_1, hcz135_2, hcz135_3, hcz135_4, hcz135_5, hcz135_6, hcz135_7, hcz135_8, hcz135_9, hfz135_0, hfz135_1, hfz135_2, hfz135_3, hfz135_4, hfz135_5, hfz135_6, hfz135_7, hfz135_8, hfz135_9⟩ := cl10 BK147.out
                    go_wp2
                    refine bodyPost_ret (zee (rs := [.tmp 2, .cell 3 33, .tmp 4]) rfl (by simp) (.tmp (.cell gb147 33 #[.string ⟨#[]⟩, .string ⟨#[]⟩, .string ⟨#[]⟩, .string ⟨#[]⟩, .bool false, .slice none 0 0, .slice none 0 0, .bool false, .bool false, .string ⟨#[]⟩] (0, 0) _ rfl (by exact put10 BK147.out) Tryz.underlying33 rfl (by kernel_rfl) (.tmp .nil)))) rfl ?_
                    exact ⟨_, _, by rfl, by exact Kd.R_nil _ _ _ _ _, by exact Kd.R_nil _ _ _ _ _, by repeat (first | (with_reducible first | exact HB.out | apply zj | apply zc | apply zz | refine zk ?_ GE146.out | refine zk ?_ GE147.out | refine zk ?_ GE148.out) | exact HB.out)⟩
                  ·rw [if_neg c126] at H
                   have c126b0 : decide (97 ≤ (bt a0_4 x13_5)) = false := decide_eq_false c126
                   clear c126
                   simp only [Option.some.injEq, Prod.mk.injEq] at H
                   obtain ⟨rfl, rfl, rfl, rfl, rfl, rfl, rfl, rfl, rfl, rfl, rfl, rfl⟩ := H
                   have hnb136 := NB146_147.out
                   have hnc136 := NB147_146.out
                   have hnb137 := NB146_148.out
                   have hnc137 := NB148_146.out
                   obtain ⟨hcz138_0, hcz138_1, hcz138_2, hcz138_3, hcz138_4, hcz138_5, hcz138_6, hfz138_0, hfz138_1, hfz138_2, hfz138_3, hfz138_4, hfz138_5, hfz138_6⟩ := cl7 BK146.out
                   have p120 : 0 ≤ (x13_5 : Int) := of_decide_eq_true (by (with_reducible assumption))
                   have q120 : x13_5 < (a0_4.size : Int) := of_decide_eq_true (by (with_reducible assumption))
                   have hx120 := bt_at a0_4 x13_5
                   replace p120 := eq_true p120
                   replace q120 := eq_true q120
                   have hnb139 := NB147_148.out
                   have hnc139 := NB148_147.out
                   obtain ⟨hcz140_0, hcz140_1, hcz140_2, hcz140_3, hcz140_4, hcz140_5, hcz140_6, hcz140_7, hcz140_8, hcz140_9, hfz140_0, hfz140_1, hfz140_2, hfz140_3, hfz140_4, hfz140_5, hfz140_6, hfz140_7, hfz140_8, hfz140_9⟩ := cl10 BK147.out
                   go_wp2
                   refine bodyPost_ret (zee (rs := [.tmp 2, .cell 3 33, .tmp 4]) rfl (by simp) (.tmp (.cell gb147 33 #[.string ⟨#[]⟩, .string ⟨#[]⟩, .string ⟨#[]⟩, .string ⟨#[]⟩, .bool false, .slice none 0 0, .slice none 0 0, .bool false, .bool false, .string ⟨#[]⟩] (0, 0) _ rfl (by exact put10 BK147.out) Tryz.underlying33 rfl (by kernel_rfl) (.tmp .nil)))) rfl ?_
                   exact ⟨_, _, by rfl, by exact Kd.R_nil _ _ _ _ _, by exact Kd.R_nil _ _ _ _ _, by repeat (first | (with_reducible first | exact HB.out | apply zj | apply zc | apply zz | refine zk ?_ GE146.out | refine zk ?_ GE147.out | refine zk ?_ GE148.out) | exact HB.out)⟩
                ·rw [if_neg c121] at H
                 have c121b0 : decide (48 ≤ (bt a0_4 x13_5)) = false := decide_eq_false c121
                 clear c121
                 by_cases c141 : (bt a0_4 x13_5) ≥ 97
                 ·rw [if_pos c141] at H
                  have c141b0 : decide (97 ≤ (bt a0_4 x13_5)) = true := decide_eq_true c141
                  clear c141
                  by_cases c142 : ((bt a0_4 x13_5) ≤ 102)
                  ·rw [if_pos c142] at H
                   have c142b0 : decide ((bt a0_4 x13_5) ≤ 102) = true := decide_eq_true c142
                   clear c142
                   have H' := za.mk H
                   clear H
                   have hnb143 := NB146_147.out
                   have hnc143 := NB147_146.out
                   have hnb144 := NB146_148.out
                   have hnc144 := NB148_146.out
                   obtain ⟨hcz145_0, hcz145_1, hcz145_2, hcz145_3, hcz145_4, hcz145_5, hcz145_6, hfz145_0, hfz145_1, hfz145_2, hfz145_3, hfz145_4, hfz145_5, hfz145_6⟩ := cl7 BK146.out
                   have p120 : 0 ≤ (x13_5 : Int) := of_decide_eq_true (by (with_reducible assumption))
                   have q120 : x13_5 < (a0_4.size : Int) := of_decide_eq_true (by (with_reducible assumption))
                   have hx120 := bt_at a0_4 x13_5
                   replace p120 := eq_true p120
                   replace q120 := eq_true q120
                   go_wp2
                   go_roundg k5
                   case measure => have := HJ1.out; have := HK2.out; have := HJ41.out; have := HK4.out; have := HK5.out; omega
                   case rel => exact ⟨(wrap64 (x13_5 + 1)), (x148000_5), (x148001_5), (x148002_5), (x148003_5), (x148004_5), (x148007_5), (x148008_5), (x148009_5), (by rfl), (by exact H'), ⟨by have := HJ1.out; have := HK2.out; have := HJ41.out; have := HK4.out; have := HK5.out; omega⟩, ⟨by (with_reducible repeat (first | apply Kd.R_alloc | apply Kd.R_drewN | apply Kd.R_drew)); exact HO_149005.out⟩, ⟨by (with_reducible repeat (first | apply Kd.R_alloc | apply Kd.R_drewN | apply Kd.R_drew)); exact HO_149006.out⟩, ⟨by exact BK146.out⟩, ⟨by exact BK147.out⟩, ⟨by exact BK148.out⟩, ⟨by (with_reducible exact HB.out)⟩⟩
                  ·rw [if_neg c142] at H
                   have c142b0 : decide ((bt a0_4 x13_5) ≤ 102) = false := decide_eq_false c142
                   clear c142
                   simp only [Option.some.injEq, Prod.mk.injEq] at H
                   obtain ⟨rfl, rfl, rfl, rfl, rfl, rfl, rfl, rfl, rfl, rfl, rfl, rfl⟩ := H
                   have hnb146 := NB146_147.out
                   have hnc146 := NB147_146.out
                   have hnb147 := NB146_148.out
                   have hnc147 := NB148_146.out
                   obtain ⟨hcz148_0, hcz148_1, hcz148_2, hcz148_3, hcz148_4, hcz148_5, hcz148_6, hfz148_0, hfz148_1, hfz148_2, hfz148_3, hfz148_4, hfz148_5, hfz148_6⟩ := cl7 BK146.out
                   have p120 : 0 ≤ (x13_5 : Int) := of_decide_eq_true (by (with_reducible assumption))
                   have q120 : x13_5 < (a0_4.size : Int) := of_decide_eq_true (by (with_reducible assumption))
                   have hx120 := bt_at a0_4 x13_5
                   replace p120 := eq_true p120
                   replace q120 := eq_true q120
                   have hnb149 := NB147_148.out
                   have hnc149 := NB148_147.out
                   obtain ⟨hcz150_0, hcz150_1, hcz150_2, hcz150_3, hcz150_4, hcz150_5, hcz150_6, hcz150_7, hcz150_8, hcz150_9, hfz150_0, hfz150_1, hfz150_2, hfz150_3, hfz150_4, hfz150_5, hfz150_6, hfz150_7, hfz150_8, hfz150_9⟩ := cl10 BK147.out
                   go_wp2
                   refine bodyPost_ret (zee (rs := [.tmp 2, .cell 3 33, .tmp 4]) rfl (by simp) (.tmp (.cell gb147 33 #[.string ⟨#[]⟩, .string ⟨#[]⟩, .string ⟨#[]⟩, .string ⟨#[]⟩, .bool false, .slice none 0 0, .slice none 0 0, .bool false, .bool false, .string ⟨#[]⟩] (0, 0) _ rfl (by exact put10 BK147.out) Tryz.underlying33 rfl (by kernel_rfl) (.tmp .nil)))) rfl ?_
                   exact ⟨_, _, by rfl, by exact Kd.R_nil _ _ _ _ _, by exact Kd.R_nil _ _ _ _ _, by repeat (first | (with_reducible first | exact HB.out | apply zj | apply zc | apply zz | refine zk ?_ GE146.out | refine zk ?_ GE147.out | refine zk ?_ GE148.out) | exact HB.out)⟩
                 ·rw [if_neg c141] at H
                  have c141b0 : decide (97 ≤ (bt a0_4 x13_5)) = false := decide_eq_false c141
                  clear c141
                  simp only [Option.some.injEq, Prod.mk.injEq] at H
                  obtain ⟨rfl, rfl, rfl, rfl, rfl, rfl, rfl, rfl, rfl, rfl, rfl, rfl⟩ := H
                  have hnb151 := NB146_147.out
                  have hnc151 := NB147_146.out
                  have hnb152 := NB146_148.out
                  have hnc152 := NB148_146.out
                  obtain ⟨hcz153_0, hcz153_1, hcz153_2, hcz153_3, hcz153_4, hcz153_5, hcz153_6, hfz153_0, hfz153_1, hfz153_2, hfz153_3, hfz153_4, hfz153_5, hfz153_6⟩ := cl7 BK146.out
                  have p120 : 0 ≤ (x13_5 : Int) := of_decide_eq_true (by (with_reducible assumption))
                  have q120 : x13_5 < (a0_4.size : Int) := of_decide_eq_true (by (with_reducible assumption))
                  have hx120 := bt_at a0_4 x13_5
                  replace p120 := eq_true p120
                  replace q120 := eq_true q120
                  have hnb154 := NB147_148.out
                  have hnc154 := NB148_147.out
                  obtain ⟨hcz155_0, hcz155_1, hcz155_2, hcz155_3, hcz155_4, hcz155_5, hcz155_6, hcz155_7, hcz155_8, hcz155_9, hfz155_0, hfz155_1, hfz155_2, hfz155_3, hfz155_4, hfz155_5, hfz155_6, hfz155_7, hfz155_8, hfz155_9⟩ := cl10 BK147.out
                  go_wp2
                  refine bodyPost_ret (zee (rs := [.tmp 2, .cell 3 33, .tmp 4]) rfl (by simp) (.tmp (.cell gb147 33 #[.string ⟨#[]⟩, .string ⟨#[]⟩, .string ⟨#[]⟩, .string ⟨#[]⟩, .bool false, .slice none 0 0, .slice none 0 0, .bool false, .bool false, .string ⟨#[]⟩] (0, 0) _ rfl (by exact put10 BK147.out) Tryz.underlying33 rfl (by kernel_rfl) (.tmp .nil)))) rfl ?_
                  exact ⟨_, _, by rfl, by exact Kd.R_nil _ _ _ _ _, by exact Kd.R_nil _ _ _ _ _, by repeat (first | (with_reducible first | exact HB.out | apply zj | apply zc | apply zz | refine zk ?_ GE146.out | refine zk ?_ GE147.out | refine zk ?_ GE148.out) | exact HB.out)⟩
               ·rw [if_neg c119] at H
                exact absurd H (by simp)
              ·rw [if_neg c118] at H
               have c118b0 : decide (x13_5 < (a0_4.size : Int)) = false := decide_eq_false c118
               clear c118
               have HC156 := za.mk H
               clear H
               have hnb157 := NB146_147.out
               have hnc157 := NB147_146.out
               have hnb158 := NB146_148.out
               have hnc158 := NB148_146.out
               obtain ⟨hcz159_0, hcz159_1, hcz159_2, hcz159_3, hcz159_4, hcz159_5, hcz159_6, hfz159_0, hfz159_1, hfz159_2, hfz159_3, hfz159_4, hfz159_5, hfz159_6⟩ := cl7 BK146.out
               go_upto_if 170 with (fail)
               go_cut [6, 170] (fun v6 v170 wc => ∃ (kq : Nat) (x6_155 : ByteArray) (x149003_155 : ByteArray), v6 = .string x6_155 ∧ za (zb.j7 kq x6_155 l0_0 a0_1 l0_2 l0_3 a0_4 a0_5 a0_6 (⟨#[]⟩ : ByteArray) (⟨#[]⟩ : ByteArray) x149002_41 x149003_155 false x149005_2 x149006_4 false false (⟨#[]⟩ : ByteArray) = some (r1, r2, r3, r4, r5, r6, r7, r8, r9, r10, r11, r12)) ∧ za (kq ≤ k5) ∧ za (Kd.R k52 52 wc w.heap.size (fun _ => True) u149005 x149005_2) ∧ za (Kd.R k56 56 wc w.heap.size (fun _ => True) u149006 x149006_4) ∧ za (wc.heap[gb146]? = some (.cells #[(.slice A0_0 l0_0.length c0_0), .int .u8 a0_1, (.slice A0_2 l0_2.length c0_2), (.slice A0_3 l0_3.length c0_3), .string a0_4, .bool a0_5, .int .u16 a0_6] 26 (0, 0))) ∧ za (wc.heap[gb147]? = some (.cells #[.string x148000_5, .string x148001_5, .string x148002_5, .string x148003_5, .bool x148004_5, (.slice none 0 0), (.slice none 0 0), .bool x148007_5, .bool x148008_5, .string x148009_5] 33 (0, 0))) ∧ za (wc.heap[gb148]? = some (.cells #[.string ⟨#[]⟩, .string ⟨#[]⟩, .string x149002_41, .string x149003_155, .bool false, u149005, u149006, .bool false, .bool false, .string ⟨#[]⟩] 33 (0, 0))) ∧ za (Below w.heap.size w wc))
               case first =>
                have H := HC156.out
                clear HC156
                by_cases c160 : a0_4.toList = ([] : List UInt8)
                ·rw [if_pos c160] at H
                 have c160b0 : (a0_4.toList == ([] : List UInt8)) = true := beq_iff_eq.mpr c160
                 have c160b1 : (a0_4.toList != ([] : List UInt8)) = false := bne_eq_false_iff_eq.mpr c160
                 try have c160b9 : a0_4.toList.isEmpty = true := by simpa using c160b0
                 clear c160
                 (first | rw [c160b0] | (simp only [i64_w, i32_w]; rw [c160b0]) | rw [c160b9] | skip)
                 have H' := za.mk H
                 clear H
                 go_wp2
                 go_meet
                 case rel => exact ⟨_, (x6_4), ((⟨#[]⟩ : ByteArray)), (by rfl), (by exact H'), ⟨by have := HJ1.out; have := HK2.out; have := HJ41.out; have := HK4.out; have := HK5.out; first | omega | exact Nat.le_refl _⟩, ⟨by (with_reducible repeat (first | apply Kd.R_alloc | apply Kd.R_drewN | apply Kd.R_drew)); exact HO_149005.out⟩, ⟨by (with_reducible repeat (first | apply Kd.R_alloc | apply Kd.R_drewN | apply Kd.R_drew)); exact HO_149006.out⟩, ⟨by exact BK146.out⟩, ⟨by exact BK147.out⟩, ⟨by exact BK148.out⟩, ⟨by (with_reducible exact HB.out)⟩⟩
                ·rw [if_neg c160] at H
                 have c160b0 : (a0_4.toList == ([] : List UInt8)) = false := beq_eq_false_iff_ne.mpr c160
                 have c160b1 : (a0_4.toList != ([] : List UInt8)) = true := bne_iff_ne.mpr c160
                 try have c160b9 : a0_4.toList.isEmpty = false := by simpa using c160b0
                 (first | rw [c160b0] | (simp only [i64_w, i32_w]; rw [c160b0]) | rw [c160b9] | skip)
                 by_cases c161 : 1 + a0_4.size ≤ 9223372036854775807
                 ·rw [if_pos c161] at H
                  have c161b0 := eq_true c161
                  have c161b1 : decide (1 + a0_4.size ≤ 9223372036854775807) = true := decide_eq_true c161
                  try have c161b2 : (9223372036854775807 < 1 + a0_4.size) = False := eq_false (Nat.not_lt.2 c161)
                  by_cases c162 : x6_4.size + ((⟨#[126]⟩ : ByteArray) ++ a0_4).size ≤ 9223372036854775807
                  ·rw [if_pos c162] at H
                   have c162b0 := eq_true c162
                   have c162b1 : decide (x6_4.size + ((⟨#[126]⟩ : ByteArray) ++ a0_4).size ≤ 9223372036854775807) = true := decide_eq_true c162
                   try have c162b2 : (9223372036854775807 < x6_4.size + ((⟨#[126]⟩ : ByteArray) ++ a0_4).size) = False := eq_false (Nat.not_lt.2 c162)
                   try have c162b3 : (9223372036854775807 < x6_4.size + (1 + a0_4.size)) = False := eq_false (by have h_ := c162; simp only [ByteArray.size_append] at h_; have e0_ : (⟨#[126]⟩ : ByteArray).size = 1 := rfl; omega)
                   try have c162b4 : (x6_4.size + (1 + a0_4.size) ≤ 9223372036854775807) = True := eq_true (by have h_ := c162; simp only [ByteArray.size_append] at h_; have e0_ : (⟨#[126]⟩ : ByteArray).size = 1 := rfl; omega)
                   have H' := za.mk H
                   clear H
                   have hnb163 := NB146_147.out
                   have hnc163 := NB147_146.out
                   have hnb164 := NB146_148.out
                   have hnc164 := NB148_146.out
                   obtain ⟨hcz165_0, hcz165_1, hcz165_2, hcz165_3, hcz165_4, hcz165_5, hcz165_6, hfz165_0, hfz165_1, hfz165_2, hfz165_3, hfz165_4, hfz165_5, hfz165_6⟩ := cl7 BK146.out
                   have hnb166 := NB148_147.out
                   have hnc166 := NB147_148.out
                   obtain ⟨hcz167_0, hcz167_1, hcz167_2, hcz167_3, hcz167_4, hcz167_5, hcz167_6, hcz167_7, hcz167_8, hcz167_9, hfz167_0, hfz167_1, hfz167_2, hfz167_3, hfz167_4, hfz167_5, hfz167_6, hfz167_7, hfz167_8, hfz167_9⟩ := cl10 BK148.out
                   go_wp2
                   go_meet
                   case rel => exact ⟨_, (x6_4 ++ ((⟨#[126]⟩ : ByteArray) ++ a0_4)), ((⟨#[126]⟩ : ByteArray) ++ a0_4), (by rfl), (by exact H'), ⟨by have := HJ1.out; have := HK2.out; have := HJ41.out; have := HK4.out; have := HK5.out; first | omega | exact Nat.le_refl _⟩, ⟨by (with_reducible repeat (first | apply Kd.R_alloc | apply Kd.R_drewN | apply Kd.R_drew)); exact Kd.R_mono (farC (Kd.R_types HO_149005.out BK148.out (by decide))) (fun _ hk => trivial)⟩, ⟨by (with_reducible repeat (first | apply Kd.R_alloc | apply Kd.R_drewN | apply Kd.R_drew)); exact Kd.R_mono (farC (Kd.R_types HO_149006.out BK148.out (by decide))) (fun _ hk => trivial)⟩, ⟨by refine zkb ?_ NB146_148.out _; exact BK146.out⟩, ⟨by refine zkb ?_ NB147_148.out _; exact BK147.out⟩, ⟨by refine zdb (cs := #[.string ⟨#[]⟩, .string ⟨#[]⟩, .string x149002_41, .string ⟨#[]⟩, .bool false, u149005, u149006, .bool false, .bool false, .string ⟨#[]⟩]) ?_ 3 _ rfl; exact BK148.out⟩, ⟨by (with_reducible refine zk ?_ GE148.out; with_reducible exact HB.out)⟩⟩
                  ·rw [if_neg c162] at H
                   exact absurd H (by simp)
                 ·rw [if_neg c161] at H
                  exact absurd H (by simp)
               case rest =>
                clear HC156
                clear c118b0 hcz159_0 hcz159_1 hcz159_2 hcz159_3 hcz159_4 hcz159_5 hcz159_6 hfz159_0 hfz159_1 hfz159_2 hfz159_3 hfz159_4 hfz159_5 hfz159_6
                obtain ⟨kq, x6_155, x149003_155, rfl, HA, HJ155, HO_149005, HO_149006, BK146, BK147, BK148, HB⟩ := hcut
                cases kq with
                | zero => exact absurd HA.out (by simp [zb.j7])
                | succ kj155 =>
                 have H := HA.out
                 clear HA
                 simp only [zb.j7] at H
                 by_cases c168 : a0_5 = true
                 ·subst c168
                  have H1 : ((zfb.f kj155 a0_6).bind fun t181 => ((zpc.f kj155 t181).bind fun bt182 => ((zfb.f kj155 a0_6).bind fun t184 => (if 2 + t184.size ≤ 9223372036854775807 then (if x6_155.size + ((⟨#[45, 114]⟩ : ByteArray) ++ t184).size ≤ 9223372036854775807 then (some (x6_155 ++ ((⟨#[45, 114]⟩ : ByteArray) ++ t184), x6_155 ++ ((⟨#[45, 114]⟩ : ByteArray) ++ t184), (⟨#[]⟩ : ByteArray), x149002_41, x149003_155, false, x149005_2, x149006_4, true, bt182.1, bt182.2, true)) else (none)) else (none))))) = some (r1, r2, r3, r4, r5, r6, r7, r8, r9, r10, r11, r12) := by rw [if_pos rfl] at H; exact H
                  clear H
                  have H := H1
                  clear H1
                  replace H := Option.bind_eq_some_iff.mp H
                  obtain ⟨t181, A1690, H⟩ := H
                  replace H : ((zpc.f kj155 t181).bind fun bt182 => ((zfb.f kj155 a0_6).bind fun t184 => (if 2 + t184.size ≤ 9223372036854775807 then (if x6_155.size + ((⟨#[45, 114]⟩ : ByteArray) ++ t184).size ≤ 9223372036854775807 then (some (x6_155 ++ ((⟨#[45, 114]⟩ : ByteArray) ++ t184), x6_155 ++ ((⟨#[45, 114]⟩ : ByteArray) ++ t184), (⟨#[]⟩ : ByteArray), x149002_41, x149003_155, false, x149005_2, x149006_4, true, bt182.1, bt182.2, true)) else (none)) else (none)))) = some (r1, r2, r3, r4, r5, r6, r7, r8, r9, r10, r11, r12) := H
                  have A169 := za.mk A1690
                  clear A1690
                  replace H := Option.bind_eq_some_iff.mp H
                  obtain ⟨⟨t182, t183⟩, A1700, H⟩ := H
                  replace H : ((zfb.f kj155 a0_6).bind fun t184 => (if 2 + t184.size ≤ 9223372036854775807 then (if x6_155.size + ((⟨#[45, 114]⟩ : ByteArray) ++ t184).size ≤ 9223372036854775807 then (some (x6_155 ++ ((⟨#[45, 114]⟩ : ByteArray) ++ t184), x6_155 ++ ((⟨#[45, 114]⟩ : ByteArray) ++ t184), (⟨#[]⟩ : ByteArray), x149002_41, x149003_155, false, x149005_2, x149006_4, true, t182, t183, true)) else (none)) else (none))) = some (r1, r2, r3, r4, r5, r6, r7, r8, r9, r10, r11, r12) := H
                  have A170 := za.mk A1700
                  clear A1700
                  replace H := Option.bind_eq_some_iff.mp H
                  obtain ⟨t184, A1710, H⟩ := H
                  replace H : (if 2 + t184.size ≤ 9223372036854775807 then (if x6_155.size + ((⟨#[45, 114]⟩ : ByteArray) ++ t184).size ≤ 9223372036854775807 then (some (x6_155 ++ ((⟨#[45, 114]⟩ : ByteArray) ++ t184), x6_155 ++ ((⟨#[45, 114]⟩ : ByteArray) ++ t184), (⟨#[]⟩ : ByteArray), x149002_41, x149003_155, false, x149005_2, x149006_4, true, t182, t183, true)) else (none)) else (none)) = some (r1, r2, r3, r4, r5, r6, r7, r8, r9, r10, r11, r12) := H
                  have A171 := za.mk A1710
                  clear A1710
                  by_cases c172 : 2 + t184.size ≤ 9223372036854775807
                  ·rw [if_pos c172] at H
                   have c172b0 := eq_true c172
                   have c172b1 : decide (2 + t184.size ≤ 9223372036854775807) = true := decide_eq_true c172
                   try have c172b2 : (9223372036854775807 < 2 + t184.size) = False := eq_false (Nat.not_lt.2 c172)
                   by_cases c173 : x6_155.size + ((⟨#[45, 114]⟩ : ByteArray) ++ t184).size ≤ 9223372036854775807
                   ·rw [if_pos c173] at H
                    have c173b0 := eq_true c173
                    have c173b1 : decide (x6_155.size + ((⟨#[45, 114]⟩ : ByteArray) ++ t184).size ≤ 9223372036854775807) = true := decide_eq_true c173
                    try have c173b2 : (9223372036854775807 < x6_155.size + ((⟨#[45, 114]⟩ : ByteArray) ++ t184).size) = False := eq_false (Nat.not_lt.2 c173)
                    try have c173b3 : (9223372036854775807 < x6_155.size + (2 + t184.size)) = False := eq_false (by have h_ := c173; simp only [ByteArray.size_append] at h_; have e0_ : (⟨#[45, 114]⟩ : ByteArray).size = 2 := rfl; omega)
                    try have c173b4 : (x6_155.size + (2 + t184.size) ≤ 9223372036854775807) = True := eq_true (by have h_ := c173; simp only [ByteArray.size_append] at h_; have e0_ : (⟨#[45, 114]⟩ : ByteArray).size = 2 := rfl; omega)
                    simp only [Option.some.injEq, Prod.mk.injEq] at H
                    obtain ⟨rfl, rfl, rfl, rfl, rfl, rfl, rfl, rfl, rfl, rfl, rfl, rfl⟩ := H
                    have hnb174 := NB148_146.out
                    have hnc174 := NB146_148.out
                    have hnb175 := NB148_147.out
                    have hnc175 := NB147_148.out
                    obtain ⟨hcz176_0, hcz176_1, hcz176_2, hcz176_3, hcz176_4, hcz176_5, hcz176_6, hcz176_7, hcz176_8, hcz176_9, hfz176_0, hfz176_1, hfz176_2, hfz176_3, hfz176_4, hfz176_5, hfz176_6, hfz176_7, hfz176_8, hfz176_9⟩ := cl10 BK148.out
                    have hnb177 := NB146_147.out
                    have hnc177 := NB147_146.out
                    obtain ⟨hcz178_0, hcz178_1, hcz178_2, hcz178_3, hcz178_4, hcz178_5, hcz178_6, hfz178_0, hfz178_1, hfz178_2, hfz178_3, hfz178_4, hfz178_5, hfz178_6⟩ := cl7 BK146.out
                    try go_wp2_with (first | ((with_reducible refine zx (f := 20) rfl ?_); refine zdc (some 184) rfl rfl Tryz.func20 (by kernel_rfl) rfl #[.int .u16 a0_6] rfl (by (try simp only [List.map_toArray, List.map_cons, List.map_nil]); first | done | rfl | (simp only [List.length_drop, List.length_take]; rfl)) ?_; (with_reducible refine (zfb.calls kj155 a0_6 t181 _ A169.out).mono ?_); rintro e w' ⟨rfl, ⟨nd, rfl⟩⟩; refine ⟨_, rfl, ?_⟩) | ((with_reducible refine zx (f := 21) rfl ?_); refine zdc (some 185) rfl rfl Tryz.func21 (by kernel_rfl) rfl #[.string t181] rfl (by (try simp only [List.map_toArray, List.map_cons, List.map_nil]); first | done | rfl | (simp only [List.length_drop, List.length_take]; rfl)) ?_; (with_reducible refine (zpc.calls kj155 t181 t182 t183 _ A170.out).mono ?_); rintro e w179 ⟨rfl, hb⟩; refine ⟨_, rfl, ?_⟩; replace HO_149005 := za.mk (Kd.R_below (by (with_reducible repeat (first | apply Kd.R_alloc | apply Kd.R_drewN | apply Kd.R_drew)); exact (Kd.R_mono (farC (Kd.R_types HO_149005.out BK148.out (by decide))) (fun _ h_ => h_.1))) hb); replace HO_149006 := za.mk (Kd.R_below (by (with_reducible repeat (first | apply Kd.R_alloc | apply Kd.R_drewN | apply Kd.R_drew)); exact (Kd.R_mono (farC (Kd.R_types HO_149006.out BK148.out (by decide))) (fun _ h_ => h_.1))) hb); replace BK146 := za.mk (ze (g := gb146) (o := .cells #[.slice A0_0 l0_0.length c0_0, .int .u8 a0_1, .slice A0_2 l0_2.length c0_2, .slice A0_3 l0_3.length c0_3, .string a0_4, .bool true, .int .u16 a0_6] 26 (0, 0)) (by (with_reducible (refine zib ?_ _)); refine zkb ?_ NB146_148.out _; exact BK146.out) hb); replace BK147 := za.mk (ze (g := gb147) (o := .cells #[.string x148000_5, .string x148001_5, .string x148002_5, .string x148003_5, .bool x148004_5, .slice none 0 0, .slice none 0 0, .bool x148007_5, .bool x148008_5, .string x148009_5] 33 (0, 0)) (by (with_reducible (refine zib ?_ _)); refine zkb ?_ NB147_148.out _; exact BK147.out) hb); replace BK148 := za.mk (ze (g := gb148) (o := .cells #[.string ⟨#[]⟩, .string ⟨#[]⟩, .string x149002_41, .string x149003_155, .bool false, u149005, u149006, .bool true, .bool false, .string ⟨#[]⟩] 33 (0, 0)) (by (with_reducible (refine zib ?_ _)); refine zdb (cs := #[.string ⟨#[]⟩, .string ⟨#[]⟩, .string x149002_41, .string x149003_155, .bool false, u149005, u149006, .bool false, .bool false, .string ⟨#[]⟩]) ?_ 7 _ rfl; exact BK148.out) hb); replace HB := za.mk (zm (by (with_reducible apply zc; with_reducible refine zk ?_ GE148.out; with_reducible exact HB.out)) hb); (try clear hb); (try clear hb2); (try clear hk); (try clear hi); obtain ⟨hcz180_0, hcz180_1, hcz180_2, hcz180_3, hcz180_4, hcz180_5, hcz180_6, hcz180_7, hcz180_8, hcz180_9, hfz180_0, hfz180_1, hfz180_2, hfz180_3, hfz180_4, hfz180_5, hfz180_6, hfz180_7, hfz180_8, hfz180_9⟩ := cl10 BK148.out; obtain ⟨hcz181_0, hcz181_1, hcz181_2, hcz181_3, hcz181_4, hcz181_5, hcz181_6, hfz181_0, hfz181_1, hfz181_2, hfz181_3, hfz181_4, hfz181_5, hfz181_6⟩ := cl7 BK146.out) | ((with_reducible refine zx (f := 20) rfl ?_); refine zdc (some 190) rfl rfl Tryz.func20 (by kernel_rfl) rfl #[.int .u16 a0_6] rfl (by (try simp only [List.map_toArray, List.map_cons, List.map_nil]); first | done | rfl | (simp only [List.length_drop, List.length_take]; rfl)) ?_; (with_reducible refine (zfb.calls kj155 a0_6 t184 _ A171.out).mono ?_); rintro e w' ⟨rfl, ⟨nd, rfl⟩⟩; refine ⟨_, rfl, ?_⟩))
                    (try repeat rw [zmi])
                    have n0_ : za (Kd.R k52 52 (((w179.setCell ⟨gb148, 8, none⟩ (.bool t182)).setCell ⟨gb148, 9, none⟩ (.string t183)).setCell ⟨gb148, 0, none⟩ (.string (x6_155 ++ ((⟨#[45, 114]⟩ : ByteArray) ++ t184)))) w.heap.size (fun _ => True) u149005 x149005_2) := ⟨by (with_reducible repeat (first | apply Kd.R_alloc | apply Kd.R_drewN | apply Kd.R_drew)); exact Kd.R_mono (farC (farC (farC (Kd.R_types HO_149005.out BK148.out (by decide))))) (fun _ hk => trivial)⟩
                    have n1_ : za (Kd.R k56 56 (((w179.setCell ⟨gb148, 8, none⟩ (.bool t182)).setCell ⟨gb148, 9, none⟩ (.string t183)).setCell ⟨gb148, 0, none⟩ (.string (x6_155 ++ ((⟨#[45, 114]⟩ : ByteArray) ++ t184)))) w.heap.size (fun _ => True) u149006 x149006_4) := ⟨by (with_reducible repeat (first | apply Kd.R_alloc | apply Kd.R_drewN | apply Kd.R_drew)); exact Kd.R_mono (farC (farC (farC (Kd.R_types HO_149006.out BK148.out (by decide))))) (fun _ hk => trivial)⟩
                    have n2_ : za ((((w179.setCell ⟨gb148, 8, none⟩ (.bool t182)).setCell ⟨gb148, 9, none⟩ (.string t183)).setCell ⟨gb148, 0, none⟩ (.string (x6_155 ++ ((⟨#[45, 114]⟩ : ByteArray) ++ t184)))).heap[gb146]? = some (.cells #[.slice A0_0 l0_0.length c0_0, .int .u8 a0_1, .slice A0_2 l0_2.length c0_2, .slice A0_3 l0_3.length c0_3, .string a0_4, .bool true, .int .u16 a0_6] 26 (0, 0))) := ⟨by (iterate 3 refine zkb ?_ NB146_148.out _); exact BK146.out⟩
                    have n3_ : za ((((w179.setCell ⟨gb148, 8, none⟩ (.bool t182)).setCell ⟨gb148, 9, none⟩ (.string t183)).setCell ⟨gb148, 0, none⟩ (.string (x6_155 ++ ((⟨#[45, 114]⟩ : ByteArray) ++ t184)))).heap[gb147]? = some (.cells #[.string x148000_5, .string x148001_5, .string x148002_5, .string x148003_5, .bool x148004_5, .slice none 0 0, .slice none 0 0, .bool x148007_5, .bool x148008_5, .string x148009_5] 33 (0, 0))) := ⟨by (iterate 3 refine zkb ?_ NB147_148.out _); exact BK147.out⟩
                    have n4_ : za ((((w179.setCell ⟨gb148, 8, none⟩ (.bool t182)).setCell ⟨gb148, 9, none⟩ (.string t183)).setCell ⟨gb148, 0, none⟩ (.string (x6_155 ++ ((⟨#[45, 114]⟩ : ByteArray) ++ t184)))).heap[gb148]? = some (.cells #[.string (x6_155 ++ ((⟨#[45, 114]⟩ : ByteArray) ++ t184)), .string ⟨#[]⟩, .string x149002_41, .string x149003_155, .bool false, u149005, u149006, .bool true, .bool t182, .string t183] 33 (0, 0))) := ⟨by refine zdb (cs := #[.string ⟨#[]⟩, .string ⟨#[]⟩, .string x149002_41, .string x149003_155, .bool false, u149005, u149006, .bool true, .bool t182, .string t183]) ?_ 0 _ rfl; refine zdb (cs := #[.string ⟨#[]⟩, .string ⟨#[]⟩, .string x149002_41, .string x149003_155, .bool false, u149005, u149006, .bool true, .bool t182, .string ⟨#[]⟩]) ?_ 9 _ rfl; refine zdb (cs := #[.string ⟨#[]⟩, .string ⟨#[]⟩, .string x149002_41, .string x149003_155, .bool false, u149005, u149006, .bool true, .bool false, .string ⟨#[]⟩]) ?_ 8 _ rfl; exact BK148.out⟩
                    have n5_ : za (Below w.heap.size w (((w179.setCell ⟨gb148, 8, none⟩ (.bool t182)).setCell ⟨gb148, 9, none⟩ (.string t183)).setCell ⟨gb148, 0, none⟩ (.string (x6_155 ++ ((⟨#[45, 114]⟩ : ByteArray) ++ t184))))) := ⟨by (with_reducible refine zk ?_ GE148.out; with_reducible refine zk ?_ GE148.out; with_reducible refine zk ?_ GE148.out; with_reducible exact HB.out)⟩
                    (try clear HO_149005)
                    (try clear HO_149006)
                    (try clear BK146)
                    (try clear BK147)
                    (try clear BK148)
                    (try clear HB)
                    generalize (((w179.setCell ⟨gb148, 8, none⟩ (.bool t182)).setCell ⟨gb148, 9, none⟩ (.string t183)).setCell ⟨gb148, 0, none⟩ (.string (x6_155 ++ ((⟨#[45, 114]⟩ : ByteArray) ++ t184)))) = w182 at n0_ n1_ n2_ n3_ n4_ n5_ ⊢
                    have HO_149005 := n0_
                    have HO_149006 := n1_
                    have BK146 := n2_
                    have BK147 := n3_
                    have BK148 := n4_
                    have HB := n5_
                    clear n0_ n1_ n2_ n3_ n4_ n5_
                    (try (rw [zre w182]; generalize hq_ : World.drewN w182 _ = w182; have n0_ : za (Kd.R k52 52 w182 w.heap.size (fun _ => True) u149005 x149005_2) := ⟨by rw [← hq_]; exact (by (with_reducible repeat (first | apply Kd.R_alloc | apply Kd.R_drewN | apply Kd.R_drew)); exact HO_149005.out)⟩; have n1_ : za (Kd.R k56 56 w182 w.heap.size (fun _ => True) u149006 x149006_4) := ⟨by rw [← hq_]; exact (by (with_reducible repeat (first | apply Kd.R_alloc | apply Kd.R_drewN | apply Kd.R_drew)); exact HO_149006.out)⟩; have n2_ : za (w182.heap[gb146]? = some (.cells #[.slice A0_0 l0_0.length c0_0, .int .u8 a0_1, .slice A0_2 l0_2.length c0_2, .slice A0_3 l0_3.length c0_3, .string a0_4, .bool true, .int .u16 a0_6] 26 (0, 0))) := ⟨by rw [← hq_]; exact (by (with_reducible (refine zib ?_ _)); exact BK146.out)⟩; have n3_ : za (w182.heap[gb147]? = some (.cells #[.string x148000_5, .string x148001_5, .string x148002_5, .string x148003_5, .bool x148004_5, .slice none 0 0, .slice none 0 0, .bool x148007_5, .bool x148008_5, .string x148009_5] 33 (0, 0))) := ⟨by rw [← hq_]; exact (by (with_reducible (refine zib ?_ _)); exact BK147.out)⟩; have n4_ : za (w182.heap[gb148]? = some (.cells #[.string (x6_155 ++ ((⟨#[45, 114]⟩ : ByteArray) ++ t184)), .string ⟨#[]⟩, .string x149002_41, .string x149003_155, .bool false, u149005, u149006, .bool true, .bool t182, .string t183] 33 (0, 0))) := ⟨by rw [← hq_]; exact (by (with_reducible (refine zib ?_ _)); exact BK148.out)⟩; have n5_ : za (Below w.heap.size w w182) := ⟨by rw [← hq_]; exact (by (with_reducible apply zc; with_reducible exact HB.out))⟩; clear HO_149005 HO_149006 BK146 BK147 BK148 HB hq_; have HO_149005 := n0_; have HO_149006 := n1_; have BK146 := n2_; have BK147 := n3_; have BK148 := n4_; have HB := n5_; clear n0_ n1_ n2_ n3_ n4_ n5_))
                    replace HO_149005 := za.mk (Kd.R_drew HO_149005.out)
                    replace HO_149006 := za.mk (Kd.R_drew HO_149006.out)
                    replace BK146 := za.mk (zjd BK146.out)
                    replace BK147 := za.mk (zjd BK147.out)
                    replace BK148 := za.mk (zjd BK148.out)
                    replace HB := za.mk (zz HB.out)
                    obtain ⟨Ao189, co189, eo189⟩ := Kd.R_slice HO_149005.out
                    (first | subst eo189 | (injection eo189 with f1_ f2_ f3_; have f4_ := f1_.symm; have f5_ := f3_.symm; clear f1_ f2_ f3_; subst f4_; subst f5_))
                    obtain ⟨Ao191, co191, eo191⟩ := Kd.R_slice HO_149006.out
                    (first | subst eo191 | (injection eo191 with f1_ f2_ f3_; have f4_ := f1_.symm; have f5_ := f3_.symm; clear f1_ f2_ f3_; subst f4_; subst f5_))
                    refine zeh (n := 5) (S := fun w' => w'.cell? ⟨gb148, 0, none⟩ = some (.string (x6_155 ++ ((⟨#[45, 114]⟩ : ByteArray) ++ t184))) ∧ w'.cell? ⟨gb148, 1, none⟩ = some (.string ⟨#[]⟩) ∧ w'.cell? ⟨gb148, 2, none⟩ = some (.string x149002_41) ∧ w'.cell? ⟨gb148, 3, none⟩ = some (.string x149003_155) ∧ w'.cell? ⟨gb148, 4, none⟩ = some (.bool false) ∧ w'.cell? ⟨gb148, 5, none⟩ = some (.slice Ao189 x149005_2.length co189) ∧ w'.cell? ⟨gb148, 6, none⟩ = some (.slice Ao191 x149006_4.length co191) ∧ w'.cell? ⟨gb148, 7, none⟩ = some (.bool true) ∧ w'.cell? ⟨gb148, 8, none⟩ = some (.bool t182) ∧ w'.cell? ⟨gb148, 9, none⟩ = some (.string t183)) (ds := []) #[false, false, false, false, false] (by kernel_rfl) rfl rfl ⟨(zf BK148.out 0).trans rfl, (zf BK148.out 1).trans rfl, (zf BK148.out 2).trans rfl, (zf BK148.out 3).trans rfl, (zf BK148.out 4).trans rfl, (zf BK148.out 5).trans rfl, (zf BK148.out 6).trans rfl, (zf BK148.out 7).trans rfl, (zf BK148.out 8).trans rfl, (zf BK148.out 9).trans rfl⟩ (fun hHeld => ?_)
                    generalize w182.drew = w183 at HO_149005 HO_149006 BK146 BK147 BK148 HB hHeld ⊢
                    refine pure_ (i := 0) (N := some 195) (v := ?_) (a' := ?_) #[true, false, false, false, false] rfl rfl (by kernel_rfl) (fun _ _ _ h => h) (Or.inl ⟨by rfl, ?_⟩) ?_ ?_
                    rotate_left
                    ·intro w'
                     go_simp
                     with_reducible rfl
                    rotate_left
                    ·simp only [Act.put, List.setIfInBounds_toArray, List.set_cons_zero, List.set_cons_succ, i64_w, i32_w]
                     rfl
                    refine pure_ (i := 2) (N := some 2) (v := ?_) (a' := ?_) #[true, false, true, false, false] rfl rfl (by kernel_rfl) (fun _ _ _ h => h) (Or.inl ⟨by rfl, ?_⟩) ?_ ?_
                    rotate_left
                    ·intro w'
                     go_simp
                     with_reducible rfl
                    rotate_left
                    ·simp only [Act.put, List.setIfInBounds_toArray, List.set_cons_zero, List.set_cons_succ, i64_w, i32_w]
                     rfl
                    refine take_ (i := 1) (N := some 196) (v := ?_) (a' := ?_) #[true, true, true, false, false] rfl rfl (by kernel_rfl) (fun _ _ _ h => h) (Or.inl ⟨by rfl, ?_⟩) hHeld ?_ ?_
                    rotate_left
                    ·rintro w' ⟨s0, s1, s2, s3, s4, s5, s6, s7, s8, s9⟩
                     go_simp
                     with_reducible rfl
                    rotate_left
                    ·simp only [Act.put, List.setIfInBounds_toArray, List.set_cons_zero, List.set_cons_succ, i64_w, i32_w]
                     rfl
                    refine one_ (i := 3) (N := none) #[true, true, true, true, false] rfl rfl (by kernel_rfl) (by decide) (fun K hK => ?_)
                    have hs184 : w183.cell? ⟨gb147, 0, none⟩ = some (.string x148000_5) := (zf BK147.out 0).trans rfl
                    have hfs184 := zy BK147.out 0
                    have hns184_0 := NB146_147.out
                    have hns184_2 := NB148_147.out
                    have hms184_0 := NB147_146.out
                    have hms184_2 := NB147_148.out
                    have hs185 : w183.cell? ⟨gb147, 1, none⟩ = some (.string x148001_5) := (zf BK147.out 1).trans rfl
                    have hfs185 := zy BK147.out 1
                    have hns185_0 := NB146_147.out
                    have hns185_2 := NB148_147.out
                    have hms185_0 := NB147_146.out
                    have hms185_2 := NB147_148.out
                    have hs186 : w183.cell? ⟨gb147, 2, none⟩ = some (.string x148002_5) := (zf BK147.out 2).trans rfl
                    have hfs186 := zy BK147.out 2
                    have hns186_0 := NB146_147.out
                    have hns186_2 := NB148_147.out
                    have hms186_0 := NB147_146.out
                    have hms186_2 := NB147_148.out
                    have hs187 : w183.cell? ⟨gb147, 3, none⟩ = some (.string x148003_5) := (zf BK147.out 3).trans rfl
                    have hfs187 := zy BK147.out 3
                    have hns187_0 := NB146_147.out
                    have hns187_2 := NB148_147.out
                    have hms187_0 := NB147_146.out
                    have hms187_2 := NB147_148.out
                    have hs188 : w183.cell? ⟨gb147, 4, none⟩ = some (.bool x148004_5) := (zf BK147.out 4).trans rfl
                    have hfs188 := zy BK147.out 4
                    have hns188_0 := NB146_147.out
                    have hns188_2 := NB148_147.out
                    have hms188_0 := NB147_146.out
                    have hms188_2 := NB147_148.out
                    have hs190 : w183.cell? ⟨gb147, 5, none⟩ = some (.slice none 0 0) := (zf BK147.out 5).trans rfl
                    have hfs190 := zy BK147.out 5
                    have hns190_0 := NB146_147.out
                    have hns190_2 := NB148_147.out
                    have hms190_0 := NB147_146.out
                    have hms190_2 := NB147_148.out
                    have hs192 : w183.cell? ⟨gb147, 6, none⟩ = some (.slice none 0 0) := (zf BK147.out 6).trans rfl
                    have hfs192 := zy BK147.out 6
                    have hns192_0 := NB146_147.out
                    have hns192_2 := NB148_147.out
                    have hms192_0 := NB147_146.out
                    have hms192_2 := NB147_148.out
                    have hs193 : w183.cell? ⟨gb147, 7, none⟩ = some (.bool x148007_5) := (zf BK147.out 7).trans rfl
                    have hfs193 := zy BK147.out 7
                    have hns193_0 := NB146_147.out
                    have hns193_2 := NB148_147.out
                    have hms193_0 := NB147_146.out
                    have hms193_2 := NB147_148.out
                    have hs194 : w183.cell? ⟨gb147, 8, none⟩ = some (.bool x148008_5) := (zf BK147.out 8).trans rfl
                    have hfs194 := zy BK147.out 8
                    have hns194_0 := NB146_147.out
                    have hns194_2 := NB148_147.out
                    have hms194_0 := NB147_146.out
                    have hms194_2 := NB147_148.out
                    have hs195 : w183.cell? ⟨gb147, 9, none⟩ = some (.string x148009_5) := (zf BK147.out 9).trans rfl
                    have hfs195 := zy BK147.out 9
                    have hns195_0 := NB146_147.out
                    have hns195_2 := NB148_147.out
                    have hms195_0 := NB147_146.out
                    have hms195_2 := NB147_148.out
                    refine skip_ (w1 := ?_) (by rfl) rfl ?_ ?_
                    rotate_left
                    ·go_simp
                     rfl
                    refine hK.out _ _ ⟨((zte NB148_147.out).trans (hHeld.1)), ((zte NB148_147.out).trans (hHeld.2.1)), ((zte NB148_147.out).trans (hHeld.2.2.1)), ((zte NB148_147.out).trans (hHeld.2.2.2.1)), ((zte NB148_147.out).trans (hHeld.2.2.2.2.1)), ((zte NB148_147.out).trans (hHeld.2.2.2.2.2.1)), ((zte NB148_147.out).trans (hHeld.2.2.2.2.2.2.1)), ((zte NB148_147.out).trans (hHeld.2.2.2.2.2.2.2.1)), ((zte NB148_147.out).trans (hHeld.2.2.2.2.2.2.2.2.1)), ((zte NB148_147.out).trans (hHeld.2.2.2.2.2.2.2.2.2))⟩ (fun hHeld => ?_)
                    clear hK K
                    refine pure_ (i := 4) (N := some 4) (v := ?_) (a' := ?_) #[true, true, true, true, true] rfl rfl (by kernel_rfl) (fun _ _ _ h => h) (Or.inl ⟨by rfl, ?_⟩) ?_ ?_
                    rotate_left
                    ·intro w'
                     go_simp
                     with_reducible rfl
                    rotate_left
                    ·simp only [Act.put, List.setIfInBounds_toArray, List.set_cons_zero, List.set_cons_succ, i64_w, i32_w]
                     rfl
                    refine done_ (by kernel_rfl) ?_
                    try go_wp2
                    refine bodyPost_ret (zee (rs := [.tmp 2, .cell 3 33, .tmp 4]) rfl (by simp) (.tmp (.cell gb147 33 #[.string (x6_155 ++ ((⟨#[45, 114]⟩ : ByteArray) ++ t184)), .string ⟨#[]⟩, .string x149002_41, .string x149003_155, .bool false, .slice Ao189 x149005_2.length co189, .slice Ao191 x149006_4.length co191, .bool true, .bool t182, .string t183] (0, 0) _ rfl (by exact put10 BK147.out) Tryz.underlying33 rfl (by kernel_rfl) (.tmp .nil)))) rfl ?_
                    exact ⟨_, _, by rfl, by (with_reducible repeat (first | apply Kd.R_alloc | apply Kd.R_drewN | apply Kd.R_drew)); exact Kd.R_mono (farC (farC (farC (farC (farC (farC (farC (farC (farC (farC (Kd.R_types HO_149005.out BK147.out (by decide)))))))))))) (fun _ hk => trivial), by (with_reducible repeat (first | apply Kd.R_alloc | apply Kd.R_drewN | apply Kd.R_drew)); exact Kd.R_mono (farC (farC (farC (farC (farC (farC (farC (farC (farC (farC (Kd.R_types HO_149006.out BK147.out (by decide)))))))))))) (fun _ hk => trivial), by repeat (first | (with_reducible first | exact HB.out | apply zj | apply zc | apply zz | refine zk ?_ GE146.out | refine zk ?_ GE147.out | refine zk ?_ GE148.out) | exact HB.out)⟩
                   ·rw [if_neg c173] at H
                    exact absurd H (by simp)
                  ·rw [if_neg c172] at H
                   exact absurd H (by simp)
                 ·replace c168 := Bool.eq_false_iff.mpr c168
                  subst c168
                  have H1 : (some (x6_155, x6_155, (⟨#[]⟩ : ByteArray), x149002_41, x149003_155, false, x149005_2, x149006_4, true, false, (⟨#[]⟩ : ByteArray), true)) = some (r1, r2, r3, r4, r5, r6, r7, r8, r9, r10, r11, r12) := by rw [if_neg (show ¬ (false = true) by decide)] at H; exact H
                  clear H
                  have H := H1
                  clear H1
                  simp only [Option.some.injEq, Prod.mk.injEq] at H
                  obtain ⟨rfl, rfl, rfl, rfl, rfl, rfl, rfl, rfl, rfl, rfl, rfl, rfl⟩ := H
                  have hnb196 := NB148_146.out
                  have hnc196 := NB146_148.out
                  have hnb197 := NB148_147.out
                  have hnc197 := NB147_148.out
                  obtain ⟨hcz198_0, hcz198_1, hcz198_2, hcz198_3, hcz198_4, hcz198_5, hcz198_6, hcz198_7, hcz198_8, hcz198_9, hfz198_0, hfz198_1, hfz198_2, hfz198_3, hfz198_4, hfz198_5, hfz198_6, hfz198_7, hfz198_8, hfz198_9⟩ := cl10 BK148.out
                  have hnb199 := NB146_147.out
                  have hnc199 := NB147_146.out
                  obtain ⟨hcz200_0, hcz200_1, hcz200_2, hcz200_3, hcz200_4, hcz200_5, hcz200_6, hfz200_0, hfz200_1, hfz200_2, hfz200_3, hfz200_4, hfz200_5, hfz200_6⟩ := cl7 BK146.out
                  try go_wp2
                  (try repeat rw [zmi])
                  have n0_ : za (Kd.R k52 52 ((wc.setCell ⟨gb148, 7, none⟩ (.bool true)).setCell ⟨gb148, 0, none⟩ (.string x6_155)) w.heap.size (fun _ => True) u149005 x149005_2) := ⟨by (with_reducible repeat (first | apply Kd.R_alloc | apply Kd.R_drewN | apply Kd.R_drew)); exact Kd.R_mono (farC (farC (Kd.R_types HO_149005.out BK148.out (by decide)))) (fun _ hk => trivial)⟩
                  have n1_ : za (Kd.R k56 56 ((wc.setCell ⟨gb148, 7, none⟩ (.bool true)).setCell ⟨gb148, 0, none⟩ (.string x6_155)) w.heap.size (fun _ => True) u149006 x149006_4) := ⟨by (with_reducible repeat (first | apply Kd.R_alloc | apply Kd.R_drewN | apply Kd.R_drew)); exact Kd.R_mono (farC (farC (Kd.R_types HO_149006.out BK148.out (by decide)))) (fun _ hk => trivial)⟩
                  have n2_ : za (((wc.setCell ⟨gb148, 7, none⟩ (.bool true)).setCell ⟨gb148, 0, none⟩ (.string x6_155)).heap[gb146]? = some (.cells #[.slice A0_0 l0_0.length c0_0, .int .u8 a0_1, .slice A0_2 l0_2.length c0_2, .slice A0_3 l0_3.length c0_3, .string a0_4, .bool false, .int .u16 a0_6] 26 (0, 0))) := ⟨by refine zkb ?_ NB146_148.out _; refine zkb ?_ NB146_148.out _; exact BK146.out⟩
                  have n3_ : za (((wc.setCell ⟨gb148, 7, none⟩ (.bool true)).setCell ⟨gb148, 0, none⟩ (.string x6_155)).heap[gb147]? = some (.cells #[.string x148000_5, .string x148001_5, .string x148002_5, .string x148003_5, .bool x148004_5, .slice none 0 0, .slice none 0 0, .bool x148007_5, .bool x148008_5, .string x148009_5] 33 (0, 0))) := ⟨by refine zkb ?_ NB147_148.out _; refine zkb ?_ NB147_148.out _; exact BK147.out⟩
                  have n4_ : za (((wc.setCell ⟨gb148, 7, none⟩ (.bool true)).setCell ⟨gb148, 0, none⟩ (.string x6_155)).heap[gb148]? = some (.cells #[.string x6_155, .string ⟨#[]⟩, .string x149002_41, .string x149003_155, .bool false, u149005, u149006, .bool true, .bool false, .string ⟨#[]⟩] 33 (0, 0))) := ⟨by refine zdb (cs := #[.string ⟨#[]⟩, .string ⟨#[]⟩, .string x149002_41, .string x149003_155, .bool false, u149005, u149006, .bool true, .bool false, .string ⟨#[]⟩]) ?_ 0 _ rfl; refine zdb (cs := #[.string ⟨#[]⟩, .string ⟨#[]⟩, .string x149002_41, .string x149003_155, .bool false, u149005, u149006, .bool false, .bool false, .string ⟨#[]⟩]) ?_ 7 _ rfl; exact BK148.out⟩
                  have n5_ : za (Below w.heap.size w ((wc.setCell ⟨gb148, 7, none⟩ (.bool true)).setCell ⟨gb148, 0, none⟩ (.string x6_155))) := ⟨by (with_reducible refine zk ?_ GE148.out; with_reducible refine zk ?_ GE148.out; with_reducible exact HB.out)⟩
                  (try clear HO_149005)
                  (try clear HO_149006)
                  (try clear BK146)
                  (try clear BK147)
                  (try clear BK148)
                  (try clear HB)
                  generalize ((wc.setCell ⟨gb148, 7, none⟩ (.bool true)).setCell ⟨gb148, 0, none⟩ (.string x6_155)) = w201 at n0_ n1_ n2_ n3_ n4_ n5_ ⊢
                  have HO_149005 := n0_
                  have HO_149006 := n1_
                  have BK146 := n2_
                  have BK147 := n3_
                  have BK148 := n4_
                  have HB := n5_
                  clear n0_ n1_ n2_ n3_ n4_ n5_
                  replace HO_149005 := za.mk (Kd.R_drew HO_149005.out)
                  replace HO_149006 := za.mk (Kd.R_drew HO_149006.out)
                  replace BK146 := za.mk (zjd BK146.out)
                  replace BK147 := za.mk (zjd BK147.out)
                  replace BK148 := za.mk (zjd BK148.out)
                  replace HB := za.mk (zz HB.out)
                  obtain ⟨Ao208, co208, eo208⟩ := Kd.R_slice HO_149005.out
                  (first | subst eo208 | (injection eo208 with f1_ f2_ f3_; have f4_ := f1_.symm; have f5_ := f3_.symm; clear f1_ f2_ f3_; subst f4_; subst f5_))
                  obtain ⟨Ao210, co210, eo210⟩ := Kd.R_slice HO_149006.out
                  (first | subst eo210 | (injection eo210 with f1_ f2_ f3_; have f4_ := f1_.symm; have f5_ := f3_.symm; clear f1_ f2_ f3_; subst f4_; subst f5_))
                  refine zeh (n := 5) (S := fun w' => w'.cell? ⟨gb148, 0, none⟩ = some (.string x6_155) ∧ w'.cell? ⟨gb148, 1, none⟩ = some (.string ⟨#[]⟩) ∧ w'.cell? ⟨gb148, 2, none⟩ = some (.string x149002_41) ∧ w'.cell? ⟨gb148, 3, none⟩ = some (.string x149003_155) ∧ w'.cell? ⟨gb148, 4, none⟩ = some (.bool false) ∧ w'.cell? ⟨gb148, 5, none⟩ = some (.slice Ao208 x149005_2.length co208) ∧ w'.cell? ⟨gb148, 6, none⟩ = some (.slice Ao210 x149006_4.length co210) ∧ w'.cell? ⟨gb148, 7, none⟩ = some (.bool true) ∧ w'.cell? ⟨gb148, 8, none⟩ = some (.bool false) ∧ w'.cell? ⟨gb148, 9, none⟩ = some (.string ⟨#[]⟩)) (ds := []) #[false, false, false, false, false] (by kernel_rfl) rfl rfl ⟨(zf BK148.out 0).trans rfl, (zf BK148.out 1).trans rfl, (zf BK148.out 2).trans rfl, (zf BK148.out 3).trans rfl, (zf BK148.out 4).trans rfl, (zf BK148.out 5).trans rfl, (zf BK148.out 6).trans rfl, (zf BK148.out 7).trans rfl, (zf BK148.out 8).trans rfl, (zf BK148.out 9).trans rfl⟩ (fun hHeld => ?_)
                  generalize w201.drew = w202 at HO_149005 HO_149006 BK146 BK147 BK148 HB hHeld ⊢
                  refine pure_ (i := 0) (N := some 195) (v := ?_) (a' := ?_) #[true, false, false, false, false] rfl rfl (by kernel_rfl) (fun _ _ _ h => h) (Or.inl ⟨by rfl, ?_⟩) ?_ ?_
                  rotate_left
                  ·intro w'
                   go_simp
                   with_reducible rfl
                  rotate_left
                  ·simp only [Act.put, List.setIfInBounds_toArray, List.set_cons_zero, List.set_cons_succ, i64_w, i32_w]
                   rfl
                  refine pure_ (i := 2) (N := some 2) (v := ?_) (a' := ?_) #[true, false, true, false, false] rfl rfl (by kernel_rfl) (fun _ _ _ h => h) (Or.inl ⟨by rfl, ?_⟩) ?_ ?_
                  rotate_left
                  ·intro w'
                   go_simp
                   with_reducible rfl
                  rotate_left
                  ·simp only [Act.put, List.setIfInBounds_toArray, List.set_cons_zero, List.set_cons_succ, i64_w, i32_w]
                   rfl
                  refine take_ (i := 1) (N := some 196) (v := ?_) (a' := ?_) #[true, true, true, false, false] rfl rfl (by kernel_rfl) (fun _ _ _ h => h) (Or.inl ⟨by rfl, ?_⟩) hHeld ?_ ?_
                  rotate_left
                  ·rintro w' ⟨s0, s1, s2, s3, s4, s5, s6, s7, s8, s9⟩
                   go_simp
                   with_reducible rfl
                  rotate_left
                  ·simp only [Act.put, List.setIfInBounds_toArray, List.set_cons_zero, List.set_cons_succ, i64_w, i32_w]
                   rfl
                  refine one_ (i := 3) (N := none) #[true, true, true, true, false] rfl rfl (by kernel_rfl) (by decide) (fun K hK => ?_)
                  have hs203 : w202.cell? ⟨gb147, 0, none⟩ = some (.string x148000_5) := (zf BK147.out 0).trans rfl
                  have hfs203 := zy BK147.out 0
                  have hns203_0 := NB146_147.out
                  have hns203_2 := NB148_147.out
                  have hms203_0 := NB147_146.out
                  have hms203_2 := NB147_148.out
                  have hs204 : w202.cell? ⟨gb147, 1, none⟩ = some (.string x148001_5) := (zf BK147.out 1).trans rfl
                  have hfs204 := zy BK147.out 1
                  have hns204_0 := NB146_147.out
                  have hns204_2 := NB148_147.out
                  have hms204_0 := NB147_146.out
                  have hms204_2 := NB147_148.out
                  have hs205 : w202.cell? ⟨gb147, 2, none⟩ = some (.string x148002_5) := (zf BK147.out 2).trans rfl
                  have hfs205 := zy BK147.out 2
                  have hns205_0 := NB146_147.out
                  have hns205_2 := NB148_147.out
                  have hms205_0 := NB147_146.out
                  have hms205_2 := NB147_148.out
                  have hs206 : w202.cell? ⟨gb147, 3, none⟩ = some (.string x148003_5) := (zf BK147.out 3).trans rfl
                  have hfs206 := zy BK147.out 3
                  have hns206_0 := NB146_147.out
                  have hns206_2 := NB148_147.out
                  have hms206_0 := NB147_146.out
                  have hms206_2 := NB147_148.out
                  have hs207 : w202.cell? ⟨gb147, 4, none⟩ = some (.bool x148004_5) := (zf BK147.out 4).trans rfl
                  have hfs207 := zy BK147.out 4
                  have hns207_0 := NB146_147.out
                  have hns207_2 := NB148_147.out
                  have hms207_0 := NB147_146.out
                  have hms207_2 := NB147_148.out
                  have hs209 : w202.cell? ⟨gb147, 5, none⟩ = some (.slice none 0 0) := (zf BK147.out 5).trans rfl
                  have hfs209 := zy BK147.out 5
                  have hns209_0 := NB146_147.out
                  have hns209_2 := NB148_147.out
                  have hms209_0 := NB147_146.out
                  have hms209_2 := NB147_148.out
                  have hs211 : w202.cell? ⟨gb147, 6, none⟩ = some (.slice none 0 0) := (zf BK147.out 6).trans rfl
                  have hfs211 := zy BK147.out 6
                  have hns211_0 := NB146_147.out
                  have hns211_2 := NB148_147.out
                  have hms211_0 := NB147_146.out
                  have hms211_2 := NB147_148.out
                  have hs212 : w202.cell? ⟨gb147, 7, none⟩ = some (.bool x148007_5) := (zf BK147.out 7).trans rfl
                  have hfs212 := zy BK147.out 7
                  have hns212_0 := NB146_147.out
                  have hns212_2 := NB148_147.out
                  have hms212_0 := NB147_146.out
                  have hms212_2 := NB147_148.out
                  have hs213 : w202.cell? ⟨gb147, 8, none⟩ = some (.bool x148008_5) := (zf BK147.out 8).trans rfl
                  have hfs213 := zy BK147.out 8
                  have hns213_0 := NB146_147.out
                  have hns213_2 := NB148_147.out
                  have hms213_0 := NB147_146.out
                  have hms213_2 := NB147_148.out
                  have hs214 : w202.cell? ⟨gb147, 9, none⟩ = some (.string x148009_5) := (zf BK147.out 9).trans rfl
                  have hfs214 := zy BK147.out 9
                  have hns214_0 := NB146_147.out
                  have hns214_2 := NB148_147.out
                  have hms214_0 := NB147_146.out
                  have hms214_2 := NB147_148.out
                  refine skip_ (w1 := ?_) (by rfl) rfl ?_ ?_
                  rotate_left
                  ·go_simp
                   rfl
                  refine hK.out _ _ ⟨((zte NB148_147.out).trans (hHeld.1)), ((zte NB148_147.out).trans (hHeld.2.1)), ((zte NB148_147.out).trans (hHeld.2.2.1)), ((zte NB148_147.out).trans (hHeld.2.2.2.1)), ((zte NB148_147.out).trans (hHeld.2.2.2.2.1)), ((zte NB148_147.out).trans (hHeld.2.2.2.2.2.1)), ((zte NB148_147.out).trans (hHeld.2.2.2.2.2.2.1)), ((zte NB148_147.out).trans (hHeld.2.2.2.2.2.2.2.1)), ((zte NB148_147.out).trans (hHeld.2.2.2.2.2.2.2.2.1)), ((zte NB148_147.out).trans (hHeld.2.2.2.2.2.2.2.2.2))⟩ (fun hHeld => ?_)
                  clear hK K
                  refine pure_ (i := 4) (N := some 4) (v := ?_) (a' := ?_) #[true, true, true, true, true] rfl rfl (by kernel_rfl) (fun _ _ _ h => h) (Or.inl ⟨by rfl, ?_⟩) ?_ ?_
                  rotate_left
                  ·intro w'
                   go_simp
                   with_reducible rfl
                  rotate_left
                  ·simp only [Act.put, List.setIfInBounds_toArray, List.set_cons_zero, List.set_cons_succ, i64_w, i32_w]
                   rfl
                  refine done_ (by kernel_rfl) ?_
                  try go_wp2
                  refine bodyPost_ret (zee (rs := [.tmp 2, .cell 3 33, .tmp 4]) rfl (by simp) (.tmp (.cell gb147 33 #[.string x6_155, .string ⟨#[]⟩, .string x149002_41, .string x149003_155, .bool false, .slice Ao208 x149005_2.length co208, .slice Ao210 x149006_4.length co210, .bool true, .bool false, .string ⟨#[]⟩] (0, 0) _ rfl (by exact put10 BK147.out) Tryz.underlying33 rfl (by kernel_rfl) (.tmp .nil)))) rfl ?_
                  exact ⟨_, _, by rfl, by (with_reducible repeat (first | apply Kd.R_alloc | apply Kd.R_drewN | apply Kd.R_drew)); exact Kd.R_mono (farC (farC (farC (farC (farC (farC (farC (farC (farC (farC (Kd.R_types HO_149005.out BK147.out (by decide)))))))))))) (fun _ hk => trivial), by (with_reducible repeat (first | apply Kd.R_alloc | apply Kd.R_drewN | apply Kd.R_drew)); exact Kd.R_mono (farC (farC (farC (farC (farC (farC (farC (farC (farC (farC (Kd.R_types HO_149006.out BK147.out (by decide)))))))))))) (fun _ hk => trivial), by repeat (first | (with_reducible first | exact HB.out | apply zj | apply zc | apply zz | refine zk ?_ GE146.out | refine zk ?_ GE147.out | refine zk ?_ GE148.out) | exact HB.out)⟩
end Go.Proofs.YtapaijpglfmfgaaGreatDoor.Q
end
section
namespace Go.Proofs.YtapaijpglfmfgaaGreatDoor.Q
open Go.RowKit YtapaijpglfmfgaaGreatDoorH YtapaijpglfmfgaaGreatDoorG YtapaijpglfmfgaaGreatDoorW.PrintWords YtapaijpglfmfgaaGreatDoorW.PrintLast YtapaijpglfmfgaaGreatDoorW.PrintMore YtapaijpglfmfgaaGreatDoorC
attribute [local go_sem] zsc zuc zhd zgd zhc zic zvc ztc
mutual
def zd.j0 : Nat → Bool → List Int → Int → List Int → List Int → ByteArray → Bool → Int → List Int → Int → List Int → List Int → ByteArray → Bool → Int → Option (Bool)
 | 0, _, _, _, _, _, _, _, _, _, _, _, _, _, _, _ => none
 | k + 1, x22, x276000, x276001, x276002, x276003, x276004, x276005, x276006, x277000, x277001, x277002, x277003, x277004, x277005, x277006 => if x22 = true then (some true) else ((zb.f k x276000 x276001 x276002 x276003 x276004 x276005 x276006).bind fun bt279 => ((zb.f k x277000 x277001 x277002 x277003 x277004 x277005 x277006).bind fun bt296 => (if bt279.2.2.2.2.2.2.2.2.2.2.2 = true then (if bt296.2.2.2.2.2.2.2.2.2.2.2 = true then ((zi.f k bt279.1).bind fun t313 => (if t313 = true then ((zi.f k bt296.1).bind fun t314 => (if t314 = true then ((zyb.f k bt279.2.1 bt279.2.2.1 bt279.2.2.2.1 bt279.2.2.2.2.1 bt279.2.2.2.2.2.1 bt279.2.2.2.2.2.2.1 bt279.2.2.2.2.2.2.2.1 bt279.2.2.2.2.2.2.2.2.1 bt279.2.2.2.2.2.2.2.2.2.1 bt279.2.2.2.2.2.2.2.2.2.2.1 bt296.2.1 bt296.2.2.1 bt296.2.2.2.1 bt296.2.2.2.2.1 bt296.2.2.2.2.2.1 bt296.2.2.2.2.2.2.1 bt296.2.2.2.2.2.2.2.1 bt296.2.2.2.2.2.2.2.2.1 bt296.2.2.2.2.2.2.2.2.2.1 bt296.2.2.2.2.2.2.2.2.2.2.1).bind fun t315 => (zd.j1 k bt279.1 bt296.1 (!t315) bt279.2.1 bt279.2.2.1 bt279.2.2.2.1 bt279.2.2.2.2.1 bt279.2.2.2.2.2.1 bt279.2.2.2.2.2.2.1 bt279.2.2.2.2.2.2.2.1 bt279.2.2.2.2.2.2.2.2.1 bt279.2.2.2.2.2.2.2.2.2.1 bt279.2.2.2.2.2.2.2.2.2.2.1 bt296.2.1 bt296.2.2.1 bt296.2.2.2.1 bt296.2.2.2.2.1 bt296.2.2.2.2.2.1 bt296.2.2.2.2.2.2.1 bt296.2.2.2.2.2.2.2.1 bt296.2.2.2.2.2.2.2.2.1 bt296.2.2.2.2.2.2.2.2.2.1 bt296.2.2.2.2.2.2.2.2.2.2.1)) else (zd.j1 k bt279.1 bt296.1 true bt279.2.1 bt279.2.2.1 bt279.2.2.2.1 bt279.2.2.2.2.1 bt279.2.2.2.2.2.1 bt279.2.2.2.2.2.2.1 bt279.2.2.2.2.2.2.2.1 bt279.2.2.2.2.2.2.2.2.1 bt279.2.2.2.2.2.2.2.2.2.1 bt279.2.2.2.2.2.2.2.2.2.2.1 bt296.2.1 bt296.2.2.1 bt296.2.2.2.1 bt296.2.2.2.2.1 bt296.2.2.2.2.2.1 bt296.2.2.2.2.2.2.1 bt296.2.2.2.2.2.2.2.1 bt296.2.2.2.2.2.2.2.2.1 bt296.2.2.2.2.2.2.2.2.2.1 bt296.2.2.2.2.2.2.2.2.2.2.1))) else (zd.j1 k bt279.1 bt296.1 true bt279.2.1 bt279.2.2.1 bt279.2.2.2.1 bt279.2.2.2.2.1 bt279.2.2.2.2.2.1 bt279.2.2.2.2.2.2.1 bt279.2.2.2.2.2.2.2.1 bt279.2.2.2.2.2.2.2.2.1 bt279.2.2.2.2.2.2.2.2.2.1 bt279.2.2.2.2.2.2.2.2.2.2.1 bt296.2.1 bt296.2.2.1 bt296.2.2.2.1 bt296.2.2.2.2.1 bt296.2.2.2.2.2.1 bt296.2.2.2.2.2.2.1 bt296.2.2.2.2.2.2.2.1 bt296.2.2.2.2.2.2.2.2.1 bt296.2.2.2.2.2.2.2.2.2.1 bt296.2.2.2.2.2.2.2.2.2.2.1))) else (zd.j1 k bt279.1 bt296.1 true bt279.2.1 bt279.2.2.1 bt279.2.2.2.1 bt279.2.2.2.2.1 bt279.2.2.2.2.2.1 bt279.2.2.2.2.2.2.1 bt279.2.2.2.2.2.2.2.1 bt279.2.2.2.2.2.2.2.2.1 bt279.2.2.2.2.2.2.2.2.2.1 bt279.2.2.2.2.2.2.2.2.2.2.1 bt296.2.1 bt296.2.2.1 bt296.2.2.2.1 bt296.2.2.2.2.1 bt296.2.2.2.2.2.1 bt296.2.2.2.2.2.2.1 bt296.2.2.2.2.2.2.2.1 bt296.2.2.2.2.2.2.2.2.1 bt296.2.2.2.2.2.2.2.2.2.1 bt296.2.2.2.2.2.2.2.2.2.2.1)) else (zd.j1 k bt279.1 bt296.1 true bt279.2.1 bt279.2.2.1 bt279.2.2.2.1 bt279.2.2.2.2.1 bt279.2.2.2.2.2.1 bt279.2.2.2.2.2.2.1 bt279.2.2.2.2.2.2.2.1 bt279.2.2.2.2.2.2.2.2.1 bt279.2.2.2.2.2.2.2.2.2.1 bt279.2.2.2.2.2.2.2.2.2.2.1 bt296.2.1 bt296.2.2.1 bt296.2.2.2.1 bt296.2.2.2.2.1 bt296.2.2.2.2.2.1 bt296.2.2.2.2.2.2.1 bt296.2.2.2.2.2.2.2.1 bt296.2.2.2.2.2.2.2.2.1 bt296.2.2.2.2.2.2.2.2.2.1 bt296.2.2.2.2.2.2.2.2.2.2.1))))
def zd.j1 : Nat → ByteArray → ByteArray → Bool → ByteArray → ByteArray → ByteArray → ByteArray → Bool → List (S52) → List (S56) → Bool → Bool → ByteArray → ByteArray → ByteArray → ByteArray → ByteArray → Bool → List (S52) → List (S56) → Bool → Bool → ByteArray → Option (Bool)
 | 0, _, _, _, _, _, _, _, _, _, _, _, _, _, _, _, _, _, _, _, _, _, _, _ => none
 | k + 1, x5, x8, x56, x296000, x296001, x296002, x296003, x296004, x296005, x296006, x296007, x296008, x296009, x313000, x313001, x313002, x313003, x313004, x313005, x313006, x313007, x313008, x313009 => if x56 = true then (some true) else ((zlb.f x5 x8).bind fun bt316 => ((zlb.f x8 x5).bind fun bt318 => (if bt316.2 = true then (if bt318.2 = true then ((zg.f k x296000 x296001 x296002 x296003 x296004 x296005 x296006 x296007 x296008 x296009 x313000 x313001 x313002 x313003 x313004 x313005 x313006 x313007 x313008 x313009).bind fun t320 => (if bt316.1 = t320 then ((znd.f bt316.1 bt318.1).bind fun t321 => (some t321)) else (some false))) else (some false)) else (some false))))
end
def zd.f (k : Nat) (l0_0 : List Int) (a0_1 : Int) (l0_2 : List Int) (l0_3 : List Int) (a0_4 : ByteArray) (a0_5 : Bool) (a0_6 : Int) (l1_0 : List Int) (a1_1 : Int) (l1_2 : List Int) (l1_3 : List Int) (a1_4 : ByteArray) (a1_5 : Bool) (a1_6 : Int) : Option (Bool) := (zed.f l0_0 a0_1 l0_2 l0_3 a0_4 a0_5 a0_6).bind fun t277 => (if t277 = true then ((zed.f l1_0 a1_1 l1_2 l1_3 a1_4 a1_5 a1_6).bind fun t278 => (zd.j0 k (!t278) l0_0 a0_1 l0_2 l0_3 a0_4 a0_5 a0_6 l1_0 a1_1 l1_2 l1_3 a1_4 a1_5 a1_6)) else (zd.j0 k true l0_0 a0_1 l0_2 l0_3 a0_4 a0_5 a0_6 l1_0 a1_1 l1_2 l1_3 a1_4 a1_5 a1_6))
theorem zd.calls (k : Nat) (A0_0 : Option Addr) (c0_0 : Nat) (l0_0 : List Int) (a0_1 : Int) (A0_2 : Option Addr) (c0_2 : Nat) (l0_2 : List Int) (A0_3 : Option Addr) (c0_3 : Nat) (l0_3 : List Int) (a0_4 : ByteArray) (a0_5 : Bool) (a0_6 : Int) (A1_0 : Option Addr) (c1_0 : Nat) (l1_0 : List Int) (a1_1 : Int) (A1_2 : Option Addr) (c1_2 : Nat) (l1_2 : List Int) (A1_3 : Option Addr) (c1_3 : Nat) (l1_3 : List Int) (a1_4 : ByteArray) (a1_5 : Bool) (a1_6 : Int) (r : Bool) (w : World) (hr0_0 : Kd.C (Kd.int .u16) w A0_0 l0_0.length l0_0) (hc0_0 : l0_0.length ≤ c0_0) (hr0_2 : Kd.C (Kd.int .u8) w A0_2 l0_2.length l0_2) (hc0_2 : l0_2.length ≤ c0_2) (hr0_3 : Kd.C (Kd.int .u16) w A0_3 l0_3.length l0_3) (hc0_3 : l0_3.length ≤ c0_3) (hr1_0 : Kd.C (Kd.int .u16) w A1_0 l1_0.length l1_0) (hc1_0 : l1_0.length ≤ c1_0) (hr1_2 : Kd.C (Kd.int .u8) w A1_2 l1_2.length l1_2) (hc1_2 : l1_2.length ≤ c1_2) (hr1_3 : Kd.C (Kd.int .u16) w A1_3 l1_3.length l1_3) (hc1_3 : l1_3.length ≤ c1_3) (h : zd.f k l0_0 a0_1 l0_2 l0_3 a0_4 a0_5 a0_6 l1_0 a1_1 l1_2 l1_3 a1_4 a1_5 a1_6 = some r) (hG : GL w) (hr : r = true) :
  Calls Tryz.prog 3 #[.agg #[.slice A0_0 l0_0.length c0_0, .int .u8 a0_1, .slice A0_2 l0_2.length c0_2, .slice A0_3 l0_3.length c0_3, .string a0_4, .bool a0_5, .int .u16 a0_6], .agg #[.slice A1_0 l1_0.length c1_0, .int .u8 a1_1, .slice A1_2 l1_2.length c1_2, .slice A1_3 l1_3.length c1_3, .string a1_4, .bool a1_5, .int .u16 a1_6]] w fun e w' => e = .returned (.bool r) ∧ Below w.heap.size w w' := by
 have HT := za.mk hr
 clear hr
 have HG := za.mk hG
 clear hG
 have hu26 := Tryz.underlying26
 have hu33 := Tryz.underlying33
 have HR0_0 := za.mk hr0_0
 have HC0_0 := za.mk hc0_0
 clear hr0_0 hc0_0
 have HR0_2 := za.mk hr0_2
 have HC0_2 := za.mk hc0_2
 clear hr0_2 hc0_2
 have HR0_3 := za.mk hr0_3
 have HC0_3 := za.mk hc0_3
 clear hr0_3 hc0_3
 have HR1_0 := za.mk hr1_0
 have HC1_0 := za.mk hc1_0
 clear hr1_0 hc1_0
 have HR1_2 := za.mk hr1_2
 have HC1_2 := za.mk hc1_2
 clear hr1_2 hc1_2
 have HR1_3 := za.mk hr1_3
 have HC1_3 := za.mk hc1_3
 clear hr1_3 hc1_3
 have HB := za.mk (Below.refl w.heap.size w)
 have H : ((zed.f l0_0 a0_1 l0_2 l0_3 a0_4 a0_5 a0_6).bind fun t277 => (if t277 = true then ((zed.f l1_0 a1_1 l1_2 l1_3 a1_4 a1_5 a1_6).bind fun t278 => (zd.j0 k (!t278) l0_0 a0_1 l0_2 l0_3 a0_4 a0_5 a0_6 l1_0 a1_1 l1_2 l1_3 a1_4 a1_5 a1_6)) else (zd.j0 k true l0_0 a0_1 l0_2 l0_3 a0_4 a0_5 a0_6 l1_0 a1_1 l1_2 l1_3 a1_4 a1_5 a1_6))) = some r := h
 clear h
 have HC3 := za.mk H
 clear H
 go_enter Tryz.func3, Tryz.ntmps3
 go_upto_region 1 with (first | ((with_reducible refine zmb (N := 2) rfl ?_); refine zrb ?hg (N := 2) ?hd (cs := #[.slice A0_0 l0_0.length c0_0, .int .u8 a0_1, .slice A0_2 l0_2.length c0_2, .slice A0_3 l0_3.length c0_3, .string a0_4, .bool a0_5, .int .u16 a0_6]) (t := 26) ?hr ?_; (case hd => rfl); (case hg => rfl); (case hr => first | (go_simp; done) | (go_simp; rfl)); intro gb275 hg w4 hbox hb; have BK275 := za.mk hbox; have GW275 := za.mk ((by rw [hg]; exact (zl (by (with_reducible exact HB.out))) : w.heap.size ≤ gb275)); have GE275 := za.mk ((by rw [hg]; exact (zl (by (with_reducible exact HB.out))) : w.heap.size ≤ gb275)); replace HB := za.mk (zm (by (with_reducible exact HB.out)) hb); clear hb hbox hg) | ((with_reducible refine zmb (N := 3) rfl ?_); refine zrb ?hg (N := 3) ?hd (cs := #[.slice A1_0 l1_0.length c1_0, .int .u8 a1_1, .slice A1_2 l1_2.length c1_2, .slice A1_3 l1_3.length c1_3, .string a1_4, .bool a1_5, .int .u16 a1_6]) (t := 26) ?hr ?_; (case hd => rfl); (case hg => rfl); (case hr => first | (go_simp; done) | (go_simp; rfl)); intro gb276 hg w5 hbox hb; have n0_ := za.mk (ze BK275.out hb); have n1_ := za.mk (zm (by (with_reducible exact HB.out)) hb); have n2_ := za.mk hbox; have n3_ := za.mk ((by rw [hg]; exact (zl (by (with_reducible exact HB.out))) : w.heap.size ≤ gb276)); have n4_ := za.mk ((by rw [hg]; exact (zl (by (with_reducible exact HB.out))) : w.heap.size ≤ gb276)); have n5_ := za.mk ((by rw [hg]; exact Nat.ne_of_lt (znc BK275.out) : gb275 ≠ gb276)); have n6_ := za.mk ((by rw [hg]; exact Nat.ne_of_gt (znc BK275.out) : gb276 ≠ gb275)); clear BK275; clear HB; have BK275 := n0_; have HB := n1_; have BK276 := n2_; have GW276 := n3_; have GE276 := n4_; have NB275_276 := n5_; have NB276_275 := n6_; clear n0_ n1_ n2_ n3_ n4_ n5_ n6_; clear hb hbox hg))
 (try simp only [Act.put, List.setIfInBounds_toArray, List.set_cons_zero, List.set_cons_succ])
 go_cut [22] (fun v22 wc => ∃ (kq : Nat) (x22_2 : Bool), v22 = .bool x22_2 ∧ za (zd.j0 kq x22_2 l0_0 a0_1 l0_2 l0_3 a0_4 a0_5 a0_6 l1_0 a1_1 l1_2 l1_3 a1_4 a1_5 a1_6 = some r) ∧ za (kq ≤ k) ∧ za (wc.heap[gb275]? = some (.cells #[(.slice A0_0 l0_0.length c0_0), .int .u8 a0_1, (.slice A0_2 l0_2.length c0_2), (.slice A0_3 l0_3.length c0_3), .string a0_4, .bool a0_5, .int .u16 a0_6] 26 (0, 0))) ∧ za (wc.heap[gb276]? = some (.cells #[(.slice A1_0 l1_0.length c1_0), .int .u8 a1_1, (.slice A1_2 l1_2.length c1_2), (.slice A1_3 l1_3.length c1_3), .string a1_4, .bool a1_5, .int .u16 a1_6] 26 (0, 0))) ∧ za (Below w.heap.size w wc))
 case first =>
  have H := HC3.out
  clear HC3
  replace H := Option.bind_eq_some_iff.mp H
  obtain ⟨t277, A60, H⟩ := H
  replace H : (if t277 = true then ((zed.f l1_0 a1_1 l1_2 l1_3 a1_4 a1_5 a1_6).bind fun t278 => (zd.j0 k (!t278) l0_0 a0_1 l0_2 l0_3 a0_4 a0_5 a0_6 l1_0 a1_1 l1_2 l1_3 a1_4 a1_5 a1_6)) else (zd.j0 k true l0_0 a0_1 l0_2 l0_3 a0_4 a0_5 a0_6 l1_0 a1_1 l1_2 l1_3 a1_4 a1_5 a1_6)) = some r := H
  have A6 := za.mk A60
  clear A60
  by_cases c7 : t277 = true
  ·subst c7
   have H1 : ((zed.f l1_0 a1_1 l1_2 l1_3 a1_4 a1_5 a1_6).bind fun t278 => (zd.j0 k (!t278) l0_0 a0_1 l0_2 l0_3 a0_4 a0_5 a0_6 l1_0 a1_1 l1_2 l1_3 a1_4 a1_5 a1_6)) = some r := by rw [if_pos rfl] at H; exact H
   clear H
   have H := H1
   clear H1
   replace H := Option.bind_eq_some_iff.mp H
   obtain ⟨t278, A80, H⟩ := H
   replace H : (zd.j0 k (!t278) l0_0 a0_1 l0_2 l0_3 a0_4 a0_5 a0_6 l1_0 a1_1 l1_2 l1_3 a1_4 a1_5 a1_6) = some r := H
   have A8 := za.mk A80
   clear A80
   have H' := za.mk H
   clear H
   have hnb9 := NB275_276.out
   have hnc9 := NB276_275.out
   obtain ⟨hcz10_0, hcz10_1, hcz10_2, hcz10_3, hcz10_4, hcz10_5, hcz10_6, hfz10_0, hfz10_1, hfz10_2, hfz10_3, hfz10_4, hfz10_5, hfz10_6⟩ := cl7 BK275.out
   go_wp2_with (first | ((with_reducible refine zx (f := 6) rfl ?_); refine zdc (some 16) rfl rfl Tryz.func6 (by kernel_rfl) rfl #[.agg #[.slice A0_0 l0_0.length c0_0, .int .u8 a0_1, .slice A0_2 l0_2.length c0_2, .slice A0_3 l0_3.length c0_3, .string a0_4, .bool a0_5, .int .u16 a0_6]] rfl (by (try simp only [List.map_toArray, List.map_cons, List.map_nil]); first | done | rfl | (simp only [List.length_drop, List.length_take]; rfl)) ?_; (with_reducible refine (zed.calls _ _ l0_0 a0_1 _ _ l0_2 _ _ l0_3 a0_4 a0_5 a0_6 true _ ?side1 ?side2 ?side3 ?side4 ?side5 ?side6 A6.out).mono ?_); (case side1 => repeat (first | exact (Kd.C_below HR0_0.out HB.out) | (with_reducible refine Kd.C_alloc ?_ _) | (with_reducible refine Kd.C_drewN ?_ _) | (with_reducible refine Kd.C_drew ?_))); (case side2 => exact HC0_0.out); (case side3 => repeat (first | exact (Kd.C_below HR0_2.out HB.out) | (with_reducible refine Kd.C_alloc ?_ _) | (with_reducible refine Kd.C_drewN ?_ _) | (with_reducible refine Kd.C_drew ?_))); (case side4 => exact HC0_2.out); (case side5 => repeat (first | exact (Kd.C_below HR0_3.out HB.out) | (with_reducible refine Kd.C_alloc ?_ _) | (with_reducible refine Kd.C_drewN ?_ _) | (with_reducible refine Kd.C_drew ?_))); (case side6 => exact HC0_3.out); rintro e w11 ⟨rfl, hb⟩; refine ⟨_, rfl, ?_⟩; replace BK275 := za.mk (ze BK275.out hb); replace BK276 := za.mk (ze BK276.out hb); replace HB := za.mk (zm (by (with_reducible exact HB.out)) hb); (try clear hb); (try clear hb2); (try clear hk); (try clear hi); obtain ⟨hcz12_0, hcz12_1, hcz12_2, hcz12_3, hcz12_4, hcz12_5, hcz12_6, hfz12_0, hfz12_1, hfz12_2, hfz12_3, hfz12_4, hfz12_5, hfz12_6⟩ := cl7 BK276.out) | (go_at_call 6; (with_reducible refine (zed.calls _ _ l1_0 a1_1 _ _ l1_2 _ _ l1_3 a1_4 a1_5 a1_6 t278 _ ?side1 ?side2 ?side3 ?side4 ?side5 ?side6 A8.out).mono ?_); (case side1 => repeat (first | exact (Kd.C_below HR1_0.out HB.out) | (with_reducible refine Kd.C_alloc ?_ _) | (with_reducible refine Kd.C_drewN ?_ _) | (with_reducible refine Kd.C_drew ?_))); (case side2 => exact HC1_0.out); (case side3 => repeat (first | exact (Kd.C_below HR1_2.out HB.out) | (with_reducible refine Kd.C_alloc ?_ _) | (with_reducible refine Kd.C_drewN ?_ _) | (with_reducible refine Kd.C_drew ?_))); (case side4 => exact HC1_2.out); (case side5 => repeat (first | exact (Kd.C_below HR1_3.out HB.out) | (with_reducible refine Kd.C_alloc ?_ _) | (with_reducible refine Kd.C_drewN ?_ _) | (with_reducible refine Kd.C_drew ?_))); (case side6 => exact HC1_3.out); rintro e w13 ⟨rfl, hb⟩; replace BK275 := za.mk (ze BK275.out hb); replace BK276 := za.mk (ze BK276.out hb); replace HB := za.mk (zm (by (with_reducible exact HB.out)) hb); (try clear hb); (try clear hb2); (try clear hk); (try clear hi)))
   go_meet
   case rel => exact ⟨_, (!t278), (by rfl), H', ⟨by omega⟩, ⟨by exact BK275.out⟩, ⟨by exact BK276.out⟩, ⟨by (with_reducible exact HB.out)⟩⟩
  ·replace c7 := Bool.eq_false_iff.mpr c7
   subst c7
   have H1 : (zd.j0 k true l0_0 a0_1 l0_2 l0_3 a0_4 a0_5 a0_6 l1_0 a1_1 l1_2 l1_3 a1_4 a1_5 a1_6) = some r := by rw [if_neg (show ¬ (false = true) by decide)] at H; exact H
   clear H
   have H := H1
   clear H1
   have H' := za.mk H
   clear H
   have hnb14 := NB275_276.out
   have hnc14 := NB276_275.out
   obtain ⟨hcz15_0, hcz15_1, hcz15_2, hcz15_3, hcz15_4, hcz15_5, hcz15_6, hfz15_0, hfz15_1, hfz15_2, hfz15_3, hfz15_4, hfz15_5, hfz15_6⟩ := cl7 BK275.out
   go_wp2_with (((with_reducible refine zx (f := 6) rfl ?_); refine zdc (some 16) rfl rfl Tryz.func6 (by kernel_rfl) rfl #[.agg #[.slice A0_0 l0_0.length c0_0, .int .u8 a0_1, .slice A0_2 l0_2.length c0_2, .slice A0_3 l0_3.length c0_3, .string a0_4, .bool a0_5, .int .u16 a0_6]] rfl (by (try simp only [List.map_toArray, List.map_cons, List.map_nil]); first | done | rfl | (simp only [List.length_drop, List.length_take]; rfl)) ?_; (with_reducible refine (zed.calls _ _ l0_0 a0_1 _ _ l0_2 _ _ l0_3 a0_4 a0_5 a0_6 false _ ?side1 ?side2 ?side3 ?side4 ?side5 ?side6 A6.out).mono ?_); (case side1 => repeat (first | exact (Kd.C_below HR0_0.out HB.out) | (with_reducible refine Kd.C_alloc ?_ _) | (with_reducible refine Kd.C_drewN ?_ _) | (with_reducible refine Kd.C_drew ?_))); (case side2 => exact HC0_0.out); (case side3 => repeat (first | exact (Kd.C_below HR0_2.out HB.out) | (with_reducible refine Kd.C_alloc ?_ _) | (with_reducible refine Kd.C_drewN ?_ _) | (with_reducible refine Kd.C_drew ?_))); (case side4 => exact HC0_2.out); (case side5 => repeat (first | exact (Kd.C_below HR0_3.out HB.out) | (with_reducible refine Kd.C_alloc ?_ _) | (with_reducible refine Kd.C_drewN ?_ _) | (with_reducible refine Kd.C_drew ?_))); (case side6 => exact HC0_3.out); rintro e w16 ⟨rfl, hb⟩; refine ⟨_, rfl, ?_⟩; replace BK275 := za.mk (ze BK275.out hb); replace BK276 := za.mk (ze BK276.out hb); replace HB := za.mk (zm (by (with_reducible exact HB.out)) hb); (try clear hb); (try clear hb2); (try clear hk); (try clear hi)))
   go_meet
   case rel => exact ⟨_, (true), (by rfl), H', ⟨by omega⟩, ⟨by exact BK275.out⟩, ⟨by exact BK276.out⟩, ⟨by (with_reducible exact HB.out)⟩⟩
 case rest =>
  clear HC3
  obtain ⟨kq, x22_2, rfl, HA, HJ2, BK275, BK276, HB⟩ := hcut
  cases kq with
  | zero => exact absurd HA.out (by simp [zd.j0])
  | succ kj2 =>
   have H := HA.out
   clear HA
   simp only [zd.j0] at H
   by_cases c17 : x22_2 = true
   ·subst c17
    have H1 : (some true) = some r := by rw [if_pos rfl] at H; exact H
    clear H
    have H := H1
    clear H1
    obtain rfl := Option.some.inj H
    go_wp2
    go_ret
    exact ⟨by rfl, by (with_reducible exact HB.out)⟩
   ·replace c17 := Bool.eq_false_iff.mpr c17
    subst c17
    have H1 : ((zb.f kj2 l0_0 a0_1 l0_2 l0_3 a0_4 a0_5 a0_6).bind fun bt279 => ((zb.f kj2 l1_0 a1_1 l1_2 l1_3 a1_4 a1_5 a1_6).bind fun bt296 => (if bt279.2.2.2.2.2.2.2.2.2.2.2 = true then (if bt296.2.2.2.2.2.2.2.2.2.2.2 = true then ((zi.f kj2 bt279.1).bind fun t313 => (if t313 = true then ((zi.f kj2 bt296.1).bind fun t314 => (if t314 = true then ((zyb.f kj2 bt279.2.1 bt279.2.2.1 bt279.2.2.2.1 bt279.2.2.2.2.1 bt279.2.2.2.2.2.1 bt279.2.2.2.2.2.2.1 bt279.2.2.2.2.2.2.2.1 bt279.2.2.2.2.2.2.2.2.1 bt279.2.2.2.2.2.2.2.2.2.1 bt279.2.2.2.2.2.2.2.2.2.2.1 bt296.2.1 bt296.2.2.1 bt296.2.2.2.1 bt296.2.2.2.2.1 bt296.2.2.2.2.2.1 bt296.2.2.2.2.2.2.1 bt296.2.2.2.2.2.2.2.1 bt296.2.2.2.2.2.2.2.2.1 bt296.2.2.2.2.2.2.2.2.2.1 bt296.2.2.2.2.2.2.2.2.2.2.1).bind fun t315 => (zd.j1 kj2 bt279.1 bt296.1 (!t315) bt279.2.1 bt279.2.2.1 bt279.2.2.2.1 bt279.2.2.2.2.1 bt279.2.2.2.2.2.1 bt279.2.2.2.2.2.2.1 bt279.2.2.2.2.2.2.2.1 bt279.2.2.2.2.2.2.2.2.1 bt279.2.2.2.2.2.2.2.2.2.1 bt279.2.2.2.2.2.2.2.2.2.2.1 bt296.2.1 bt296.2.2.1 bt296.2.2.2.1 bt296.2.2.2.2.1 bt296.2.2.2.2.2.1 bt296.2.2.2.2.2.2.1 bt296.2.2.2.2.2.2.2.1 bt296.2.2.2.2.2.2.2.2.1 bt296.2.2.2.2.2.2.2.2.2.1 bt296.2.2.2.2.2.2.2.2.2.2.1)) else (zd.j1 kj2 bt279.1 bt296.1 true bt279.2.1 bt279.2.2.1 bt279.2.2.2.1 bt279.2.2.2.2.1 bt279.2.2.2.2.2.1 bt279.2.2.2.2.2.2.1 bt279.2.2.2.2.2.2.2.1 bt279.2.2.2.2.2.2.2.2.1 bt279.2.2.2.2.2.2.2.2.2.1 bt279.2.2.2.2.2.2.2.2.2.2.1 bt296.2.1 bt296.2.2.1 bt296.2.2.2.1 bt296.2.2.2.2.1 bt296.2.2.2.2.2.1 bt296.2.2.2.2.2.2.1 bt296.2.2.2.2.2.2.2.1 bt296.2.2.2.2.2.2.2.2.1 bt296.2.2.2.2.2.2.2.2.2.1 bt296.2.2.2.2.2.2.2.2.2.2.1))) else (zd.j1 kj2 bt279.1 bt296.1 true bt279.2.1 bt279.2.2.1 bt279.2.2.2.1 bt279.2.2.2.2.1 bt279.2.2.2.2.2.1 bt279.2.2.2.2.2.2.1 bt279.2.2.2.2.2.2.2.1 bt279.2.2.2.2.2.2.2.2.1 bt279.2.2.2.2.2.2.2.2.2.1 bt279.2.2.2.2.2.2.2.2.2.2.1 bt296.2.1 bt296.2.2.1 bt296.2.2.2.1 bt296.2.2.2.2.1 bt296.2.2.2.2.2.1 bt296.2.2.2.2.2.2.1 bt296.2.2.2.2.2.2.2.1 bt296.2.2.2.2.2.2.2.2.1 bt296.2.2.2.2.2.2.2.2.2.1 bt296.2.2.2.2.2.2.2.2.2.2.1))) else (zd.j1 kj2 bt279.1 bt296.1 true bt279.2.1 bt279.2.2.1 bt279.2.2.2.1 bt279.2.2.2.2.1 bt279.2.2.2.2.2.1 bt279.2.2.2.2.2.2.1 bt279.2.2.2.2.2.2.2.1 bt279.2.2.2.2.2.2.2.2.1 bt279.2.2.2.2.2.2.2.2.2.1 bt279.2.2.2.2.2.2.2.2.2.2.1 bt296.2.1 bt296.2.2.1 bt296.2.2.2.1 bt296.2.2.2.2.1 bt296.2.2.2.2.2.1 bt296.2.2.2.2.2.2.1 bt296.2.2.2.2.2.2.2.1 bt296.2.2.2.2.2.2.2.2.1 bt296.2.2.2.2.2.2.2.2.2.1 bt296.2.2.2.2.2.2.2.2.2.2.1)) else (zd.j1 kj2 bt279.1 bt296.1 true bt279.2.1 bt279.2.2.1 bt279.2.2.2.1 bt279.2.2.2.2.1 bt279.2.2.2.2.2.1 bt279.2.2.2.2.2.2.1 bt279.2.2.2.2.2.2.2.1 bt279.2.2.2.2.2.2.2.2.1 bt279.2.2.2.2.2.2.2.2.2.1 bt279.2.2.2.2.2.2.2.2.2.2.1 bt296.2.1 bt296.2.2.1 bt296.2.2.2.1 bt296.2.2.2.2.1 bt296.2.2.2.2.2.1 bt296.2.2.2.2.2.2.1 bt296.2.2.2.2.2.2.2.1 bt296.2.2.2.2.2.2.2.2.1 bt296.2.2.2.2.2.2.2.2.2.1 bt296.2.2.2.2.2.2.2.2.2.2.1)))) = some r := by rw [if_neg (show ¬ (false = true) by decide)] at H; exact H
    clear H
    have H := H1
    clear H1
    replace H := Option.bind_eq_some_iff.mp H
    obtain ⟨⟨t279, t280, t281, t282, t283, t284, t285, t288, t291, t292, t293, t294⟩, A180, H⟩ := H
    replace H : ((zb.f kj2 l1_0 a1_1 l1_2 l1_3 a1_4 a1_5 a1_6).bind fun bt296 => (if t294 = true then (if bt296.2.2.2.2.2.2.2.2.2.2.2 = true then ((zi.f kj2 t279).bind fun t313 => (if t313 = true then ((zi.f kj2 bt296.1).bind fun t314 => (if t314 = true then ((zyb.f kj2 t280 t281 t282 t283 t284 t285 t288 t291 t292 t293 bt296.2.1 bt296.2.2.1 bt296.2.2.2.1 bt296.2.2.2.2.1 bt296.2.2.2.2.2.1 bt296.2.2.2.2.2.2.1 bt296.2.2.2.2.2.2.2.1 bt296.2.2.2.2.2.2.2.2.1 bt296.2.2.2.2.2.2.2.2.2.1 bt296.2.2.2.2.2.2.2.2.2.2.1).bind fun t315 => (zd.j1 kj2 t279 bt296.1 (!t315) t280 t281 t282 t283 t284 t285 t288 t291 t292 t293 bt296.2.1 bt296.2.2.1 bt296.2.2.2.1 bt296.2.2.2.2.1 bt296.2.2.2.2.2.1 bt296.2.2.2.2.2.2.1 bt296.2.2.2.2.2.2.2.1 bt296.2.2.2.2.2.2.2.2.1 bt296.2.2.2.2.2.2.2.2.2.1 bt296.2.2.2.2.2.2.2.2.2.2.1)) else (zd.j1 kj2 t279 bt296.1 true t280 t281 t282 t283 t284 t285 t288 t291 t292 t293 bt296.2.1 bt296.2.2.1 bt296.2.2.2.1 bt296.2.2.2.2.1 bt296.2.2.2.2.2.1 bt296.2.2.2.2.2.2.1 bt296.2.2.2.2.2.2.2.1 bt296.2.2.2.2.2.2.2.2.1 bt296.2.2.2.2.2.2.2.2.2.1 bt296.2.2.2.2.2.2.2.2.2.2.1))) else (zd.j1 kj2 t279 bt296.1 true t280 t281 t282 t283 t284 t285 t288 t291 t292 t293 bt296.2.1 bt296.2.2.1 bt296.2.2.2.1 bt296.2.2.2.2.1 bt296.2.2.2.2.2.1 bt296.2.2.2.2.2.2.1 bt296.2.2.2.2.2.2.2.1 bt296.2.2.2.2.2.2.2.2.1 bt296.2.2.2.2.2.2.2.2.2.1 bt296.2.2.2.2.2.2.2.2.2.2.1))) else (zd.j1 kj2 t279 bt296.1 true t280 t281 t282 t283 t284 t285 t288 t291 t292 t293 bt296.2.1 bt296.2.2.1 bt296.2.2.2.1 bt296.2.2.2.2.1 bt296.2.2.2.2.2.1 bt296.2.2.2.2.2.2.1 bt296.2.2.2.2.2.2.2.1 bt296.2.2.2.2.2.2.2.2.1 bt296.2.2.2.2.2.2.2.2.2.1 bt296.2.2.2.2.2.2.2.2.2.2.1)) else (zd.j1 kj2 t279 bt296.1 true t280 t281 t282 t283 t284 t285 t288 t291 t292 t293 bt296.2.1 bt296.2.2.1 bt296.2.2.2.1 bt296.2.2.2.2.1 bt296.2.2.2.2.2.1 bt296.2.2.2.2.2.2.1 bt296.2.2.2.2.2.2.2.1 bt296.2.2.2.2.2.2.2.2.1 bt296.2.2.2.2.2.2.2.2.2.1 bt296.2.2.2.2.2.2.2.2.2.2.1))) = some r := H
    have A18 := za.mk A180
    clear A180
    replace H := Option.bind_eq_some_iff.mp H
    obtain ⟨⟨t296, t297, t298, t299, t300, t301, t302, t305, t308, t309, t310, t311⟩, A190, H⟩ := H
    replace H : (if t294 = true then (if t311 = true then ((zi.f kj2 t279).bind fun t313 => (if t313 = true then ((zi.f kj2 t296).bind fun t314 => (if t314 = true then ((zyb.f kj2 t280 t281 t282 t283 t284 t285 t288 t291 t292 t293 t297 t298 t299 t300 t301 t302 t305 t308 t309 t310).bind fun t315 => (zd.j1 kj2 t279 t296 (!t315) t280 t281 t282 t283 t284 t285 t288 t291 t292 t293 t297 t298 t299 t300 t301 t302 t305 t308 t309 t310)) else (zd.j1 kj2 t279 t296 true t280 t281 t282 t283 t284 t285 t288 t291 t292 t293 t297 t298 t299 t300 t301 t302 t305 t308 t309 t310))) else (zd.j1 kj2 t279 t296 true t280 t281 t282 t283 t284 t285 t288 t291 t292 t293 t297 t298 t299 t300 t301 t302 t305 t308 t309 t310))) else (zd.j1 kj2 t279 t296 true t280 t281 t282 t283 t284 t285 t288 t291 t292 t293 t297 t298 t299 t300 t301 t302 t305 t308 t309 t310)) else (zd.j1 kj2 t279 t296 true t280 t281 t282 t283 t284 t285 t288 t291 t292 t293 t297 t298 t299 t300 t301 t302 t305 t308 t309 t310)) = some r := H
    have A19 := za.mk A190
    clear A190
    have HC20 := za.mk H
    clear H
    have hnb21 := NB275_276.out
    have hnc21 := NB276_275.out
    obtain ⟨hcz22_0, hcz22_1, hcz22_2, hcz22_3, hcz22_4, hcz22_5, hcz22_6, hfz22_0, hfz22_1, hfz22_2, hfz22_3, hfz22_4, hfz22_5, hfz22_6⟩ := cl7 BK275.out
    go_upto_region 5 with (first | ((with_reducible refine zx (f := 7) rfl ?_); refine zdc (some 25) rfl rfl Tryz.func7 (by kernel_rfl) rfl #[.agg #[.slice A0_0 l0_0.length c0_0, .int .u8 a0_1, .slice A0_2 l0_2.length c0_2, .slice A0_3 l0_3.length c0_3, .string a0_4, .bool a0_5, .int .u16 a0_6]] rfl (by (try simp only [List.map_toArray, List.map_cons, List.map_nil]); first | done | rfl | (simp only [List.length_drop, List.length_take]; rfl)) ?_; (with_reducible refine (zb.calls kj2 _ _ l0_0 a0_1 _ _ l0_2 _ _ l0_3 a0_4 a0_5 a0_6 t279 t280 t281 t282 t283 t284 t285 t288 t291 t292 t293 t294 _ ?side1 ?side2 ?side3 ?side4 ?side5 ?side6 A18.out).mono ?_); (case side1 => repeat (first | exact (Kd.C_below HR0_0.out HB.out) | (with_reducible refine Kd.C_alloc ?_ _) | (with_reducible refine Kd.C_drewN ?_ _) | (with_reducible refine Kd.C_drew ?_))); (case side2 => exact HC0_0.out); (case side3 => repeat (first | exact (Kd.C_below HR0_2.out HB.out) | (with_reducible refine Kd.C_alloc ?_ _) | (with_reducible refine Kd.C_drewN ?_ _) | (with_reducible refine Kd.C_drew ?_))); (case side4 => exact HC0_2.out); (case side5 => repeat (first | exact (Kd.C_below HR0_3.out HB.out) | (with_reducible refine Kd.C_alloc ?_ _) | (with_reducible refine Kd.C_drewN ?_ _) | (with_reducible refine Kd.C_drew ?_))); (case side6 => exact HC0_3.out); rintro e w23 ⟨v286, v289, rfl, ho0, ho1, hb⟩; refine ⟨_, rfl, ?_⟩; have HO287 := za.mk (Kd.R_lower ho0 (zl (by (with_reducible exact HB.out)))); have HO290 := za.mk (Kd.R_lower ho1 (zl (by (with_reducible exact HB.out)))); replace BK275 := za.mk (ze BK275.out hb); replace BK276 := za.mk (ze BK276.out hb); replace HB := za.mk (zm (by (with_reducible exact HB.out)) hb); (try clear hb); (try clear hb2); (try clear hk); (try clear hi); (try clear ho0); (try clear ho1)) | ((with_reducible refine zmb (N := 6) rfl ?_); refine zrb ?hg (N := 6) ?hd (cs := #[.string ⟨#[]⟩, .string ⟨#[]⟩, .string ⟨#[]⟩, .string ⟨#[]⟩, .bool false, .slice none 0 0, .slice none 0 0, .bool false, .bool false, .string ⟨#[]⟩]) (t := 33) ?hr ?_; (case hd => rfl); (case hg => rfl); (case hr => first | (go_simp; done) | (go_simp; rfl)); intro gb295 hg w24 hbox hb; have n0_ := za.mk (Kd.R_below (by (with_reducible repeat (first | apply Kd.R_alloc | apply Kd.R_drewN | apply Kd.R_drew)); exact HO287.out) hb); have n1_ := za.mk (Kd.R_below (by (with_reducible repeat (first | apply Kd.R_alloc | apply Kd.R_drewN | apply Kd.R_drew)); exact HO290.out) hb); have n2_ := za.mk (ze BK275.out hb); have n3_ := za.mk (ze BK276.out hb); have n4_ := za.mk (zm (by (with_reducible exact HB.out)) hb); have n5_ := za.mk hbox; have n6_ := za.mk ((by rw [hg]; exact (zl (by (with_reducible exact HB.out))) : w.heap.size ≤ gb295)); have n7_ := za.mk ((by rw [hg]; exact (zl (by (with_reducible exact HB.out))) : w.heap.size ≤ gb295)); have n8_ := za.mk ((by rw [hg]; exact Nat.ne_of_lt (znc BK275.out) : gb275 ≠ gb295)); have n9_ := za.mk ((by rw [hg]; exact Nat.ne_of_gt (znc BK275.out) : gb295 ≠ gb275)); have n10_ := za.mk ((by rw [hg]; exact Nat.ne_of_lt (znc BK276.out) : gb276 ≠ gb295)); have n11_ := za.mk ((by rw [hg]; exact Nat.ne_of_gt (znc BK276.out) : gb295 ≠ gb276)); clear HO287; clear HO290; clear BK275; clear BK276; clear HB; have HO287 := n0_; have HO290 := n1_; have BK275 := n2_; have BK276 := n3_; have HB := n4_; have BK295 := n5_; have GW295 := n6_; have GE295 := n7_; have NB275_295 := n8_; have NB295_275 := n9_; have NB276_295 := n10_; have NB295_276 := n11_; clear n0_ n1_ n2_ n3_ n4_ n5_ n6_ n7_ n8_ n9_ n10_ n11_; clear hb hbox hg; have hnb25 := NB295_275.out; have hnc25 := NB275_295.out; have hnb26 := NB295_276.out; have hnc26 := NB276_295.out; obtain ⟨hcz27_0, hcz27_1, hcz27_2, hcz27_3, hcz27_4, hcz27_5, hcz27_6, hcz27_7, hcz27_8, hcz27_9, hfz27_0, hfz27_1, hfz27_2, hfz27_3, hfz27_4, hfz27_5, hfz27_6, hfz27_7, hfz27_8, hfz27_9⟩ := cl10 BK295.out; obtain ⟨Ao28, co28, eo28⟩ := Kd.R_slice HO287.out; subst eo28; obtain ⟨Ao29, co29, eo29⟩ := Kd.R_slice HO290.out; subst eo29; obtain ⟨hcz30_0, hcz30_1, hcz30_2, hcz30_3, hcz30_4, hcz30_5, hcz30_6, hfz30_0, hfz30_1, hfz30_2, hfz30_3, hfz30_4, hfz30_5, hfz30_6⟩ := cl7 BK276.out) | ((with_reducible refine zx (f := 7) rfl ?_); refine zdc (some 31) rfl rfl Tryz.func7 (by kernel_rfl) rfl #[.agg #[.slice A1_0 l1_0.length c1_0, .int .u8 a1_1, .slice A1_2 l1_2.length c1_2, .slice A1_3 l1_3.length c1_3, .string a1_4, .bool a1_5, .int .u16 a1_6]] rfl (by (try simp only [List.map_toArray, List.map_cons, List.map_nil]); first | done | rfl | (simp only [List.length_drop, List.length_take]; rfl)) ?_; (with_reducible refine (zb.calls kj2 _ _ l1_0 a1_1 _ _ l1_2 _ _ l1_3 a1_4 a1_5 a1_6 t296 t297 t298 t299 t300 t301 t302 t305 t308 t309 t310 t311 _ ?side1 ?side2 ?side3 ?side4 ?side5 ?side6 A19.out).mono ?_); (case side1 => exact Kd.C_below HR1_0.out (by repeat (first | (with_reducible first | exact HB.out | apply zj | apply zc | apply zz | refine zk ?_ GE275.out | refine zk ?_ GE276.out | refine zk ?_ GE295.out) | exact HB.out))); (case side2 => exact HC1_0.out); (case side3 => exact Kd.C_below HR1_2.out (by repeat (first | (with_reducible first | exact HB.out | apply zj | apply zc | apply zz | refine zk ?_ GE275.out | refine zk ?_ GE276.out | refine zk ?_ GE295.out) | exact HB.out))); (case side4 => exact HC1_2.out); (case side5 => exact Kd.C_below HR1_3.out (by repeat (first | (with_reducible first | exact HB.out | apply zj | apply zc | apply zz | refine zk ?_ GE275.out | refine zk ?_ GE276.out | refine zk ?_ GE295.out) | exact HB.out))); (case side6 => exact HC1_3.out); rintro e w31 ⟨v303, v306, rfl, ho0, ho1, hb⟩; refine ⟨_, rfl, ?_⟩; have n0_ := za.mk (Kd.R_elder' (by (with_reducible repeat (first | apply Kd.R_alloc | apply Kd.R_drewN | apply Kd.R_drew)); exact (Kd.R_mono (zae (Kd.R_types HO287.out BK295.out (by decide))) (fun _ h_ => h_.1))) (Kd.R_base ho0) hb); have n1_ := za.mk (Kd.R_elder' (by (with_reducible repeat (first | apply Kd.R_alloc | apply Kd.R_drewN | apply Kd.R_drew)); exact (Kd.R_mono (zae (Kd.R_types HO290.out BK295.out (by decide))) (fun _ h_ => h_.1))) (Kd.R_base ho1) hb); have n2_ := za.mk (Kd.R_lower (Kd.R_new' ho0 (Kd.R_lt (by (with_reducible repeat (first | apply Kd.R_alloc | apply Kd.R_drewN | apply Kd.R_drew)); exact (Kd.R_mono (zae (Kd.R_types HO287.out BK295.out (by decide))) (fun _ h_ => h_.1))))) (zl (by repeat (first | (with_reducible first | exact HB.out | apply zj | apply zc | apply zz | refine zk ?_ GE275.out | refine zk ?_ GE276.out | refine zk ?_ GE295.out) | exact HB.out)))); have n3_ := za.mk (Kd.R_lower (Kd.R_new' ho1 (Kd.R_lt (by (with_reducible repeat (first | apply Kd.R_alloc | apply Kd.R_drewN | apply Kd.R_drew)); exact (Kd.R_mono (zae (Kd.R_types HO290.out BK295.out (by decide))) (fun _ h_ => h_.1))))) (zl (by repeat (first | (with_reducible first | exact HB.out | apply zj | apply zc | apply zz | refine zk ?_ GE275.out | refine zk ?_ GE276.out | refine zk ?_ GE295.out) | exact HB.out)))); have n4_ := za.mk (ze (g := gb275) (o := .cells #[.slice A0_0 l0_0.length c0_0, .int .u8 a0_1, .slice A0_2 l0_2.length c0_2, .slice A0_3 l0_3.length c0_3, .string a0_4, .bool a0_5, .int .u16 a0_6] 26 (0, 0)) (by (iterate 10 refine zkb ?_ NB275_295.out _); exact BK275.out) hb); have n5_ := za.mk (ze (g := gb276) (o := .cells #[.slice A1_0 l1_0.length c1_0, .int .u8 a1_1, .slice A1_2 l1_2.length c1_2, .slice A1_3 l1_3.length c1_3, .string a1_4, .bool a1_5, .int .u16 a1_6] 26 (0, 0)) (by (iterate 10 refine zkb ?_ NB276_295.out _); exact BK276.out) hb); have n6_ := za.mk (ze (g := gb295) (o := .cells #[.string t280, .string t281, .string t282, .string t283, .bool t284, .slice Ao28 t285.length co28, .slice Ao29 t288.length co29, .bool t291, .bool t292, .string t293] 33 (0, 0)) (by exact put10 BK295.out) hb); have n7_ := za.mk (zm (by repeat (first | (with_reducible first | exact HB.out | apply zj | apply zc | apply zz | refine zk ?_ GE275.out | refine zk ?_ GE276.out | refine zk ?_ GE295.out) | exact HB.out)) hb); clear HO287; clear HO290; clear BK275; clear BK276; clear BK295; clear HB; have HO287 := n0_; have HO290 := n1_; have HO304 := n2_; have HO307 := n3_; have BK275 := n4_; have BK276 := n5_; have BK295 := n6_; have HB := n7_; clear n0_ n1_ n2_ n3_ n4_ n5_ n6_ n7_; (try clear hb); (try clear hb2); (try clear hk); (try clear hi); (try clear ho0); (try clear ho1)) | ((with_reducible refine zmb (N := 9) rfl ?_); refine zrb ?hg (N := 9) ?hd (cs := #[.string ⟨#[]⟩, .string ⟨#[]⟩, .string ⟨#[]⟩, .string ⟨#[]⟩, .bool false, .slice none 0 0, .slice none 0 0, .bool false, .bool false, .string ⟨#[]⟩]) (t := 33) ?hr ?_; (case hd => rfl); (case hg => rfl); (case hr => first | (go_simp; done) | (go_simp; rfl)); intro gb312 hg w32 hbox hb; have n0_ := za.mk (Kd.R_below (by (with_reducible repeat (first | apply Kd.R_alloc | apply Kd.R_drewN | apply Kd.R_drew)); exact HO287.out) hb); have n1_ := za.mk (Kd.R_below (by (with_reducible repeat (first | apply Kd.R_alloc | apply Kd.R_drewN | apply Kd.R_drew)); exact HO290.out) hb); have n2_ := za.mk (Kd.R_below (by (with_reducible repeat (first | apply Kd.R_alloc | apply Kd.R_drewN | apply Kd.R_drew)); exact HO304.out) hb); have n3_ := za.mk (Kd.R_below (by (with_reducible repeat (first | apply Kd.R_alloc | apply Kd.R_drewN | apply Kd.R_drew)); exact HO307.out) hb); have n4_ := za.mk (ze BK275.out hb); have n5_ := za.mk (ze BK276.out hb); have n6_ := za.mk (ze BK295.out hb); have n7_ := za.mk (zm (by (with_reducible exact HB.out)) hb); have n8_ := za.mk hbox; have n9_ := za.mk ((by rw [hg]; exact (zl (by (with_reducible exact HB.out))) : w.heap.size ≤ gb312)); have n10_ := za.mk ((by rw [hg]; exact (zl (by (with_reducible exact HB.out))) : w.heap.size ≤ gb312)); have n11_ := za.mk ((by rw [hg]; exact Nat.ne_of_lt (znc BK275.out) : gb275 ≠ gb312)); have n12_ := za.mk ((by rw [hg]; exact Nat.ne_of_gt (znc BK275.out) : gb312 ≠ gb275)); have n13_ := za.mk ((by rw [hg]; exact Nat.ne_of_lt (znc BK276.out) : gb276 ≠ gb312)); have n14_ := za.mk ((by rw [hg]; exact Nat.ne_of_gt (znc BK276.out) : gb312 ≠ gb276)); have n15_ := za.mk ((by rw [hg]; exact Nat.ne_of_lt (znc BK295.out) : gb295 ≠ gb312)); have n16_ := za.mk ((by rw [hg]; exact Nat.ne_of_gt (znc BK295.out) : gb312 ≠ gb295)); clear HO287; clear HO290; clear HO304; clear HO307; clear BK275; clear BK276; clear BK295; clear HB; have HO287 := n0_; have HO290 := n1_; have HO304 := n2_; have HO307 := n3_; have BK275 := n4_; have BK276 := n5_; have BK295 := n6_; have HB := n7_; have BK312 := n8_; have GW312 := n9_; have GE312 := n10_; have NB275_312 := n11_; have NB312_275 := n12_; have NB276_312 := n13_; have NB312_276 := n14_; have NB295_312 := n15_; have NB312_295 := n16_; clear n0_ n1_ n2_ n3_ n4_ n5_ n6_ n7_ n8_ n9_ n10_ n11_ n12_ n13_ n14_ n15_ n16_; clear hb hbox hg; have hnb33 := NB312_275.out; have hnc33 := NB275_312.out; have hnb34 := NB312_276.out; have hnc34 := NB276_312.out; have hnb35 := NB312_295.out; have hnc35 := NB295_312.out; obtain ⟨hcz36_0, hcz36_1, hcz36_2, hcz36_3, hcz36_4, hcz36_5, hcz36_6, hcz36_7, hcz36_8, hcz36_9, hfz36_0, hfz36_1, hfz36_2, hfz36_3, hfz36_4, hfz36_5, hfz36_6, hfz36_7, hfz36_8, hfz36_9⟩ := cl10 BK312.out; obtain ⟨Ao37, co37, eo37⟩ := Kd.R_slice HO304.out; subst eo37; obtain ⟨Ao38, co38, eo38⟩ := Kd.R_slice HO307.out; subst eo38))
    (try simp only [Act.put, List.setIfInBounds_toArray, List.set_cons_zero, List.set_cons_succ])
    go_cut [56] (fun v56 wc => ∃ (kq : Nat) (x56_19 : Bool), v56 = .bool x56_19 ∧ za (zd.j1 kq t279 t296 x56_19 t280 t281 t282 t283 t284 t285 t288 t291 t292 t293 t297 t298 t299 t300 t301 t302 t305 t308 t309 t310 = some r) ∧ za (kq ≤ kj2) ∧ za (Kd.R k52 52 wc w.heap.size (fun k_ => some k_ ≠ ((.slice Ao37 t302.length co37) : Value).ownBlock) (.slice Ao28 t285.length co28) t285) ∧ za (Kd.R k56 56 wc w.heap.size (fun k_ => some k_ ≠ ((.slice Ao38 t305.length co38) : Value).ownBlock) (.slice Ao29 t288.length co29) t288) ∧ za (Kd.R k52 52 wc w.heap.size (fun k_ => some k_ ≠ ((.slice Ao28 t285.length co28) : Value).ownBlock) (.slice Ao37 t302.length co37) t302) ∧ za (Kd.R k56 56 wc w.heap.size (fun k_ => some k_ ≠ ((.slice Ao29 t288.length co29) : Value).ownBlock) (.slice Ao38 t305.length co38) t305) ∧ za (wc.heap[gb275]? = some (.cells #[(.slice A0_0 l0_0.length c0_0), .int .u8 a0_1, (.slice A0_2 l0_2.length c0_2), (.slice A0_3 l0_3.length c0_3), .string a0_4, .bool a0_5, .int .u16 a0_6] 26 (0, 0))) ∧ za (wc.heap[gb276]? = some (.cells #[(.slice A1_0 l1_0.length c1_0), .int .u8 a1_1, (.slice A1_2 l1_2.length c1_2), (.slice A1_3 l1_3.length c1_3), .string a1_4, .bool a1_5, .int .u16 a1_6] 26 (0, 0))) ∧ za (wc.heap[gb295]? = some (.cells #[.string t280, .string t281, .string t282, .string t283, .bool t284, (.slice Ao28 t285.length co28), (.slice Ao29 t288.length co29), .bool t291, .bool t292, .string t293] 33 (0, 0))) ∧ za (wc.heap[gb312]? = some (.cells #[.string t297, .string t298, .string t299, .string t300, .bool t301, (.slice Ao37 t302.length co37), (.slice Ao38 t305.length co38), .bool t308, .bool t309, .string t310] 33 (0, 0))) ∧ za (Below w.heap.size w wc))
    case first =>
     have H := HC20.out
     clear HC20
     by_cases c39 : t294 = true
     ·subst c39
      have H1 : (if t311 = true then ((zi.f kj2 t279).bind fun t313 => (if t313 = true then ((zi.f kj2 t296).bind fun t314 => (if t314 = true then ((zyb.f kj2 t280 t281 t282 t283 t284 t285 t288 t291 t292 t293 t297 t298 t299 t300 t301 t302 t305 t308 t309 t310).bind fun t315 => (zd.j1 kj2 t279 t296 (!t315) t280 t281 t282 t283 t284 t285 t288 t291 t292 t293 t297 t298 t299 t300 t301 t302 t305 t308 t309 t310)) else (zd.j1 kj2 t279 t296 true t280 t281 t282 t283 t284 t285 t288 t291 t292 t293 t297 t298 t299 t300 t301 t302 t305 t308 t309 t310))) else (zd.j1 kj2 t279 t296 true t280 t281 t282 t283 t284 t285 t288 t291 t292 t293 t297 t298 t299 t300 t301 t302 t305 t308 t309 t310))) else (zd.j1 kj2 t279 t296 true t280 t281 t282 t283 t284 t285 t288 t291 t292 t293 t297 t298 t299 t300 t301 t302 t305 t308 t309 t310)) = some r := by rw [if_pos rfl] at H; exact H
      clear H
      have H := H1
      clear H1
      by_cases c40 : t311 = true
      ·subst c40
       have H1 : ((zi.f kj2 t279).bind fun t313 => (if t313 = true then ((zi.f kj2 t296).bind fun t314 => (if t314 = true then ((zyb.f kj2 t280 t281 t282 t283 t284 t285 t288 t291 t292 t293 t297 t298 t299 t300 t301 t302 t305 t308 t309 t310).bind fun t315 => (zd.j1 kj2 t279 t296 (!t315) t280 t281 t282 t283 t284 t285 t288 t291 t292 t293 t297 t298 t299 t300 t301 t302 t305 t308 t309 t310)) else (zd.j1 kj2 t279 t296 true t280 t281 t282 t283 t284 t285 t288 t291 t292 t293 t297 t298 t299 t300 t301 t302 t305 t308 t309 t310))) else (zd.j1 kj2 t279 t296 true t280 t281 t282 t283 t284 t285 t288 t291 t292 t293 t297 t298 t299 t300 t301 t302 t305 t308 t309 t310))) = some r := by rw [if_pos rfl] at H; exact H
       clear H
       have H := H1
       clear H1
       replace H := Option.bind_eq_some_iff.mp H
       obtain ⟨t313, A410, H⟩ := H
       replace H : (if t313 = true then ((zi.f kj2 t296).bind fun t314 => (if t314 = true then ((zyb.f kj2 t280 t281 t282 t283 t284 t285 t288 t291 t292 t293 t297 t298 t299 t300 t301 t302 t305 t308 t309 t310).bind fun t315 => (zd.j1 kj2 t279 t296 (!t315) t280 t281 t282 t283 t284 t285 t288 t291 t292 t293 t297 t298 t299 t300 t301 t302 t305 t308 t309 t310)) else (zd.j1 kj2 t279 t296 true t280 t281 t282 t283 t284 t285 t288 t291 t292 t293 t297 t298 t299 t300 t301 t302 t305 t308 t309 t310))) else (zd.j1 kj2 t279 t296 true t280 t281 t282 t283 t284 t285 t288 t291 t292 t293 t297 t298 t299 t300 t301 t302 t305 t308 t309 t310)) = some r := H
       have A41 := za.mk A410
       clear A410
       by_cases c42 : t313 = true
       ·subst c42
        have H1 : ((zi.f kj2 t296).bind fun t314 => (if t314 = true then ((zyb.f kj2 t280 t281 t282 t283 t284 t285 t288 t291 t292 t293 t297 t298 t299 t300 t301 t302 t305 t308 t309 t310).bind fun t315 => (zd.j1 kj2 t279 t296 (!t315) t280 t281 t282 t283 t284 t285 t288 t291 t292 t293 t297 t298 t299 t300 t301 t302 t305 t308 t309 t310)) else (zd.j1 kj2 t279 t296 true t280 t281 t282 t283 t284 t285 t288 t291 t292 t293 t297 t298 t299 t300 t301 t302 t305 t308 t309 t310))) = some r := by rw [if_pos rfl] at H; exact H
        clear H
        have H := H1
        clear H1
        replace H := Option.bind_eq_some_iff.mp H
        obtain ⟨t314, A430, H⟩ := H
        replace H : (if t314 = true then ((zyb.f kj2 t280 t281 t282 t283 t284 t285 t288 t291 t292 t293 t297 t298 t299 t300 t301 t302 t305 t308 t309 t310).bind fun t315 => (zd.j1 kj2 t279 t296 (!t315) t280 t281 t282 t283 t284 t285 t288 t291 t292 t293 t297 t298 t299 t300 t301 t302 t305 t308 t309 t310)) else (zd.j1 kj2 t279 t296 true t280 t281 t282 t283 t284 t285 t288 t291 t292 t293 t297 t298 t299 t300 t301 t302 t305 t308 t309 t310)) = some r := H
        have A43 := za.mk A430
        clear A430
        by_cases c44 : t314 = true
        ·subst c44
         have H1 : ((zyb.f kj2 t280 t281 t282 t283 t284 t285 t288 t291 t292 t293 t297 t298 t299 t300 t301 t302 t305 t308 t309 t310).bind fun t315 => (zd.j1 kj2 t279 t296 (!t315) t280 t281 t282 t283 t284 t285 t288 t291 t292 t293 t297 t298 t299 t300 t301 t302 t305 t308 t309 t310)) = some r := by rw [if_pos rfl] at H; exact H
         clear H
         have H := H1
         clear H1
         replace H := Option.bind_eq_some_iff.mp H
         obtain ⟨t315, A450, H⟩ := H
         replace H : (zd.j1 kj2 t279 t296 (!t315) t280 t281 t282 t283 t284 t285 t288 t291 t292 t293 t297 t298 t299 t300 t301 t302 t305 t308 t309 t310) = some r := H
         have A45 := za.mk A450
         clear A450
         have H' := za.mk H
         clear H
         go_wp2_with (first | (go_at_call 8; (with_reducible refine (zi.calls kj2 t279 true _ A41.out).mono ?_); rintro e w46 ⟨rfl, hb⟩; replace HO287 := za.mk (Kd.R_below (by (with_reducible repeat (first | apply Kd.R_alloc | apply Kd.R_drewN | apply Kd.R_drew)); exact (Kd.R_mono (zae (Kd.R_types HO287.out BK312.out (by decide))) (fun _ h_ => h_.1))) hb); replace HO290 := za.mk (Kd.R_below (by (with_reducible repeat (first | apply Kd.R_alloc | apply Kd.R_drewN | apply Kd.R_drew)); exact (Kd.R_mono (zae (Kd.R_types HO290.out BK312.out (by decide))) (fun _ h_ => h_.1))) hb); replace HO304 := za.mk (Kd.R_below (by (with_reducible repeat (first | apply Kd.R_alloc | apply Kd.R_drewN | apply Kd.R_drew)); exact (Kd.R_mono (zae (Kd.R_types HO304.out BK312.out (by decide))) (fun _ h_ => h_.1))) hb); replace HO307 := za.mk (Kd.R_below (by (with_reducible repeat (first | apply Kd.R_alloc | apply Kd.R_drewN | apply Kd.R_drew)); exact (Kd.R_mono (zae (Kd.R_types HO307.out BK312.out (by decide))) (fun _ h_ => h_.1))) hb); replace BK275 := za.mk (ze (g := gb275) (o := .cells #[.slice A0_0 l0_0.length c0_0, .int .u8 a0_1, .slice A0_2 l0_2.length c0_2, .slice A0_3 l0_3.length c0_3, .string a0_4, .bool a0_5, .int .u16 a0_6] 26 (0, 0)) (by (iterate 10 refine zkb ?_ NB275_312.out _); exact BK275.out) hb); replace BK276 := za.mk (ze (g := gb276) (o := .cells #[.slice A1_0 l1_0.length c1_0, .int .u8 a1_1, .slice A1_2 l1_2.length c1_2, .slice A1_3 l1_3.length c1_3, .string a1_4, .bool a1_5, .int .u16 a1_6] 26 (0, 0)) (by (iterate 10 refine zkb ?_ NB276_312.out _); exact BK276.out) hb); replace BK295 := za.mk (ze (g := gb295) (o := .cells #[.string t280, .string t281, .string t282, .string t283, .bool t284, .slice Ao28 t285.length co28, .slice Ao29 t288.length co29, .bool t291, .bool t292, .string t293] 33 (0, 0)) (by (iterate 10 refine zkb ?_ NB295_312.out _); exact BK295.out) hb); replace BK312 := za.mk (ze (g := gb312) (o := .cells #[.string t297, .string t298, .string t299, .string t300, .bool t301, .slice Ao37 t302.length co37, .slice Ao38 t305.length co38, .bool t308, .bool t309, .string t310] 33 (0, 0)) (by exact put10 BK312.out) hb); replace HB := za.mk (zm (by repeat (first | (with_reducible first | exact HB.out | apply zj | apply zc | apply zz | refine zk ?_ GE275.out | refine zk ?_ GE276.out | refine zk ?_ GE295.out | refine zk ?_ GE312.out) | exact HB.out)) hb); (try clear hb); (try clear hb2); (try clear hk); (try clear hi)) | (go_at_call 8; (with_reducible refine (zi.calls kj2 t296 true _ A43.out).mono ?_); rintro e w47 ⟨rfl, hb⟩; replace HO287 := za.mk (Kd.R_below (by (with_reducible repeat (first | apply Kd.R_alloc | apply Kd.R_drewN | apply Kd.R_drew)); exact HO287.out) hb); replace HO290 := za.mk (Kd.R_below (by (with_reducible repeat (first | apply Kd.R_alloc | apply Kd.R_drewN | apply Kd.R_drew)); exact HO290.out) hb); replace HO304 := za.mk (Kd.R_below (by (with_reducible repeat (first | apply Kd.R_alloc | apply Kd.R_drewN | apply Kd.R_drew)); exact HO304.out) hb); replace HO307 := za.mk (Kd.R_below (by (with_reducible repeat (first | apply Kd.R_alloc | apply Kd.R_drewN | apply Kd.R_drew)); exact HO307.out) hb); replace BK275 := za.mk (ze BK275.out hb); replace BK276 := za.mk (ze BK276.out hb); replace BK295 := za.mk (ze BK295.out hb); replace BK312 := za.mk (ze BK312.out hb); replace HB := za.mk (zm (by (with_reducible exact HB.out)) hb); (try clear hb); (try clear hb2); (try clear hk); (try clear hi); have hnb48 := NB295_275.out; have hnc48 := NB275_295.out; have hnb49 := NB295_276.out; have hnc49 := NB276_295.out; have hnb50 := NB295_312.out; have hnc50 := NB312_295.out; obtain ⟨hcz51_0, hcz51_1, hcz51_2, hcz51_3, hcz51_4, hcz51_5, hcz51_6, hcz51_7, hcz51_8, hcz51_9, hfz51_0, hfz51_1, hfz51_2, hfz51_3, hfz51_4, hfz51_5, hfz51_6, hfz51_7, hfz51_8, hfz51_9⟩ := cl10 BK295.out; have hnb52 := NB312_275.out; have hnc52 := NB275_312.out; have hnb53 := NB312_276.out; have hnc53 := NB276_312.out; obtain ⟨hcz54_0, hcz54_1, hcz54_2, hcz54_3, hcz54_4, hcz54_5, hcz54_6, hcz54_7, hcz54_8, hcz54_9, hfz54_0, hfz54_1, hfz54_2, hfz54_3, hfz54_4, hfz54_5, hfz54_6, hfz54_7, hfz54_8, hfz54_9⟩ := cl10 BK312.out) | (go_at_call 9; (with_reducible refine (zyb.calls kj2 t280 t281 t282 t283 t284 _ _ t285 _ _ t288 t291 t292 t293 t297 t298 t299 t300 t301 _ _ t302 _ _ t305 t308 t309 t310 t315 _ ?side1 ?side2 ?side3 ?side4 ?side5 ?side6 ?side7 ?side8 A45.out).mono ?_); (case side1 => repeat (first | exact (Kd.R_reads' HO287.out).2.2 | (with_reducible refine Kd.C_alloc ?_ _) | (with_reducible refine Kd.C_drewN ?_ _) | (with_reducible refine Kd.C_drew ?_))); (case side2 => exact (Kd.R_reads' HO287.out).2.1); (case side3 => repeat (first | exact (Kd.R_reads' HO290.out).2.2 | (with_reducible refine Kd.C_alloc ?_ _) | (with_reducible refine Kd.C_drewN ?_ _) | (with_reducible refine Kd.C_drew ?_))); (case side4 => exact (Kd.R_reads' HO290.out).2.1); (case side5 => repeat (first | exact (Kd.R_reads' HO304.out).2.2 | (with_reducible refine Kd.C_alloc ?_ _) | (with_reducible refine Kd.C_drewN ?_ _) | (with_reducible refine Kd.C_drew ?_))); (case side6 => exact (Kd.R_reads' HO304.out).2.1); (case side7 => repeat (first | exact (Kd.R_reads' HO307.out).2.2 | (with_reducible refine Kd.C_alloc ?_ _) | (with_reducible refine Kd.C_drewN ?_ _) | (with_reducible refine Kd.C_drew ?_))); (case side8 => exact (Kd.R_reads' HO307.out).2.1); rintro e w55 ⟨rfl, hb⟩; replace HO287 := za.mk (Kd.R_below (by (with_reducible repeat (first | apply Kd.R_alloc | apply Kd.R_drewN | apply Kd.R_drew)); exact HO287.out) hb); replace HO290 := za.mk (Kd.R_below (by (with_reducible repeat (first | apply Kd.R_alloc | apply Kd.R_drewN | apply Kd.R_drew)); exact HO290.out) hb); replace HO304 := za.mk (Kd.R_below (by (with_reducible repeat (first | apply Kd.R_alloc | apply Kd.R_drewN | apply Kd.R_drew)); exact HO304.out) hb); replace HO307 := za.mk (Kd.R_below (by (with_reducible repeat (first | apply Kd.R_alloc | apply Kd.R_drewN | apply Kd.R_drew)); exact HO307.out) hb); replace BK275 := za.mk (ze BK275.out hb); replace BK276 := za.mk (ze BK276.out hb); replace BK295 := za.mk (ze BK295.out hb); replace BK312 := za.mk (ze BK312.out hb); replace HB := za.mk (zm (by (with_reducible exact HB.out)) hb); (try clear hb); (try clear hb2); (try clear hk); (try clear hi)))
         go_meet
         case rel => exact ⟨_, (!t315), (by rfl), H', ⟨by have := HJ2.out; first | omega | exact Nat.le_refl _⟩, ⟨by (with_reducible repeat (first | apply Kd.R_alloc | apply Kd.R_drewN | apply Kd.R_drew)); exact Kd.R_mono HO287.out (fun _ hk => hk.2)⟩, ⟨by (with_reducible repeat (first | apply Kd.R_alloc | apply Kd.R_drewN | apply Kd.R_drew)); exact Kd.R_mono HO290.out (fun _ hk => hk.2)⟩, ⟨by (with_reducible repeat (first | apply Kd.R_alloc | apply Kd.R_drewN | apply Kd.R_drew)); exact Kd.R_mono HO304.out (fun _ hk => hk.2)⟩, ⟨by (with_reducible repeat (first | apply Kd.R_alloc | apply Kd.R_drewN | apply Kd.R_drew)); exact Kd.R_mono HO307.out (fun _ hk => hk.2)⟩, ⟨by exact BK275.out⟩, ⟨by exact BK276.out⟩, ⟨by exact BK295.out⟩, ⟨by exact BK312.out⟩, ⟨by (with_reducible exact HB.out)⟩⟩
        ·replace c44 := Bool.eq_false_iff.mpr c44
         subst c44
         have H1 : (zd.j1 kj2 t279 t296 true t280 t281 t282 t283 t284 t285 t288 t291 t292 t293 t297 t298 t299 t300 t301 t302 t305 t308 t309 t310) = some r := by rw [if_neg (show ¬ (false = true) by decide)] at H; exact H
         clear H
         have H := H1
         clear H1
         have H' := za.mk H
         clear H
         go_wp2_with (first | (go_at_call 8; (with_reducible refine (zi.calls kj2 t279 true _ A41.out).mono ?_); rintro e w56 ⟨rfl, hb⟩; replace HO287 := za.mk (Kd.R_below (by (with_reducible repeat (first | apply Kd.R_alloc | apply Kd.R_drewN | apply Kd.R_drew)); exact (Kd.R_mono (zae (Kd.R_types HO287.out BK312.out (by decide))) (fun _ h_ => h_.1))) hb); replace HO290 := za.mk (Kd.R_below (by (with_reducible repeat (first | apply Kd.R_alloc | apply Kd.R_drewN | apply Kd.R_drew)); exact (Kd.R_mono (zae (Kd.R_types HO290.out BK312.out (by decide))) (fun _ h_ => h_.1))) hb); replace HO304 := za.mk (Kd.R_below (by (with_reducible repeat (first | apply Kd.R_alloc | apply Kd.R_drewN | apply Kd.R_drew)); exact (Kd.R_mono (zae (Kd.R_types HO304.out BK312.out (by decide))) (fun _ h_ => h_.1))) hb); replace HO307 := za.mk (Kd.R_below (by (with_reducible repeat (first | apply Kd.R_alloc | apply Kd.R_drewN | apply Kd.R_drew)); exact (Kd.R_mono (zae (Kd.R_types HO307.out BK312.out (by decide))) (fun _ h_ => h_.1))) hb); replace BK275 := za.mk (ze (g := gb275) (o := .cells #[.slice A0_0 l0_0.length c0_0, .int .u8 a0_1, .slice A0_2 l0_2.length c0_2, .slice A0_3 l0_3.length c0_3, .string a0_4, .bool a0_5, .int .u16 a0_6] 26 (0, 0)) (by (iterate 10 refine zkb ?_ NB275_312.out _); exact BK275.out) hb); replace BK276 := za.mk (ze (g := gb276) (o := .cells #[.slice A1_0 l1_0.length c1_0, .int .u8 a1_1, .slice A1_2 l1_2.length c1_2, .slice A1_3 l1_3.length c1_3, .string a1_4, .bool a1_5, .int .u16 a1_6] 26 (0, 0)) (by (iterate 10 refine zkb ?_ NB276_312.out _); exact BK276.out) hb); replace BK295 := za.mk (ze (g := gb295) (o := .cells #[.string t280, .string t281, .string t282, .string t283, .bool t284, .slice Ao28 t285.length co28, .slice Ao29 t288.length co29, .bool t291, .bool t292, .string t293] 33 (0, 0)) (by (iterate 10 refine zkb ?_ NB295_312.out _); exact BK295.out) hb); replace BK312 := za.mk (ze (g := gb312) (o := .cells #[.string t297, .string t298, .string t299, .string t300, .bool t301, .slice Ao37 t302.length co37, .slice Ao38 t305.length co38, .bool t308, .bool t309, .string t310] 33 (0, 0)) (by exact put10 BK312.out) hb); replace HB := za.mk (zm (by repeat (first | (with_reducible first | exact HB.out | apply zj | apply zc | apply zz | refine zk ?_ GE275.out | refine zk ?_ GE276.out | refine zk ?_ GE295.out | refine zk ?_ GE312.out) | exact HB.out)) hb); (try clear hb); (try clear hb2); (try clear hk); (try clear hi)) | (go_at_call 8; (with_reducible refine (zi.calls kj2 t296 false _ A43.out).mono ?_); rintro e w57 ⟨rfl, hb⟩; replace HO287 := za.mk (Kd.R_below (by (with_reducible repeat (first | apply Kd.R_alloc | apply Kd.R_drewN | apply Kd.R_drew)); exact HO287.out) hb); replace HO290 := za.mk (Kd.R_below (by (with_reducible repeat (first | apply Kd.R_alloc | apply Kd.R_drewN | apply Kd.R_drew)); exact HO290.out) hb); replace HO304 := za.mk (Kd.R_below (by (with_reducible repeat (first | apply Kd.R_alloc | apply Kd.R_drewN | apply Kd.R_drew)); exact HO304.out) hb); replace HO307 := za.mk (Kd.R_below (by (with_reducible repeat (first | apply Kd.R_alloc | apply Kd.R_drewN | apply Kd.R_drew)); exact HO307.out) hb); replace BK275 := za.mk (ze BK275.out hb); replace BK276 := za.mk (ze BK276.out hb); replace BK295 := za.mk (ze BK295.out hb); replace BK312 := za.mk (ze BK312.out hb); replace HB := za.mk (zm (by (with_reducible exact HB.out)) hb); (try clear hb); (try clear hb2); (try clear hk); (try clear hi)))
         go_meet
         case rel => exact ⟨_, (true), (by rfl), H', ⟨by have := HJ2.out; first | omega | exact Nat.le_refl _⟩, ⟨by (with_reducible repeat (first | apply Kd.R_alloc | apply Kd.R_drewN | apply Kd.R_drew)); exact Kd.R_mono HO287.out (fun _ hk => hk.2)⟩, ⟨by (with_reducible repeat (first | apply Kd.R_alloc | apply Kd.R_drewN | apply Kd.R_drew)); exact Kd.R_mono HO290.out (fun _ hk => hk.2)⟩, ⟨by (with_reducible repeat (first | apply Kd.R_alloc | apply Kd.R_drewN | apply Kd.R_drew)); exact Kd.R_mono HO304.out (fun _ hk => hk.2)⟩, ⟨by (with_reducible repeat (first | apply Kd.R_alloc | apply Kd.R_drewN | apply Kd.R_drew)); exact Kd.R_mono HO307.out (fun _ hk => hk.2)⟩, ⟨by exact BK275.out⟩, ⟨by exact BK276.out⟩, ⟨by exact BK295.out⟩, ⟨by exact BK312.out⟩, ⟨by (with_reducible exact HB.out)⟩⟩
       ·replace c42 := Bool.eq_false_iff.mpr c42
        subst c42
        have H1 : (zd.j1 kj2 t279 t296 true t280 t281 t282 t283 t284 t285 t288 t291 t292 t293 t297 t298 t299 t300 t301 t302 t305 t308 t309 t310) = some r := by rw [if_neg (show ¬ (false = true) by decide)] at H; exact H
        clear H
        have H := H1
        clear H1
        have H' := za.mk H
        clear H
        go_wp2_with ((go_at_call 8; (with_reducible refine (zi.calls kj2 t279 false _ A41.out).mono ?_); rintro e w58 ⟨rfl, hb⟩; replace HO287 := za.mk (Kd.R_below (by (with_reducible repeat (first | apply Kd.R_alloc | apply Kd.R_drewN | apply Kd.R_drew)); exact (Kd.R_mono (zae (Kd.R_types HO287.out BK312.out (by decide))) (fun _ h_ => h_.1))) hb); replace HO290 := za.mk (Kd.R_below (by (with_reducible repeat (first | apply Kd.R_alloc | apply Kd.R_drewN | apply Kd.R_drew)); exact (Kd.R_mono (zae (Kd.R_types HO290.out BK312.out (by decide))) (fun _ h_ => h_.1))) hb); replace HO304 := za.mk (Kd.R_below (by (with_reducible repeat (first | apply Kd.R_alloc | apply Kd.R_drewN | apply Kd.R_drew)); exact (Kd.R_mono (zae (Kd.R_types HO304.out BK312.out (by decide))) (fun _ h_ => h_.1))) hb); replace HO307 := za.mk (Kd.R_below (by (with_reducible repeat (first | apply Kd.R_alloc | apply Kd.R_drewN | apply Kd.R_drew)); exact (Kd.R_mono (zae (Kd.R_types HO307.out BK312.out (by decide))) (fun _ h_ => h_.1))) hb); replace BK275 := za.mk (ze (g := gb275) (o := .cells #[.slice A0_0 l0_0.length c0_0, .int .u8 a0_1, .slice A0_2 l0_2.length c0_2, .slice A0_3 l0_3.length c0_3, .string a0_4, .bool a0_5, .int .u16 a0_6] 26 (0, 0)) (by (iterate 10 refine zkb ?_ NB275_312.out _); exact BK275.out) hb); replace BK276 := za.mk (ze (g := gb276) (o := .cells #[.slice A1_0 l1_0.length c1_0, .int .u8 a1_1, .slice A1_2 l1_2.length c1_2, .slice A1_3 l1_3.length c1_3, .string a1_4, .bool a1_5, .int .u16 a1_6] 26 (0, 0)) (by (iterate 10 refine zkb ?_ NB276_312.out _); exact BK276.out) hb); replace BK295 := za.mk (ze (g := gb295) (o := .cells #[.string t280, .string t281, .string t282, .string t283, .bool t284, .slice Ao28 t285.length co28, .slice Ao29 t288.length co29, .bool t291, .bool t292, .string t293] 33 (0, 0)) (by (iterate 10 refine zkb ?_ NB295_312.out _); exact BK295.out) hb); replace BK312 := za.mk (ze (g := gb312) (o := .cells #[.string t297, .string t298, .string t299, .string t300, .bool t301, .slice Ao37 t302.length co37, .slice Ao38 t305.length co38, .bool t308, .bool t309, .string t310] 33 (0, 0)) (by exact put10 BK312.out) hb); replace HB := za.mk (zm (by repeat (first | (with_reducible first | exact HB.out | apply zj | apply zc | apply zz | refine zk ?_ GE275.out | refine zk ?_ GE276.out | refine zk ?_ GE295.out | refine zk ?_ GE312.out) | exact HB.out)) hb); (try clear hb); (try clear hb2); (try clear hk); (try clear hi)))
        go_meet
        case rel => exact ⟨_, (true), (by rfl), H', ⟨by have := HJ2.out; first | omega | exact Nat.le_refl _⟩, ⟨by (with_reducible repeat (first | apply Kd.R_alloc | apply Kd.R_drewN | apply Kd.R_drew)); exact Kd.R_mono HO287.out (fun _ hk => hk.2)⟩, ⟨by (with_reducible repeat (first | apply Kd.R_alloc | apply Kd.R_drewN | apply Kd.R_drew)); exact Kd.R_mono HO290.out (fun _ hk => hk.2)⟩, ⟨by (with_reducible repeat (first | apply Kd.R_alloc | apply Kd.R_drewN | apply Kd.R_drew)); exact Kd.R_mono HO304.out (fun _ hk => hk.2)⟩, ⟨by (with_reducible repeat (first | apply Kd.R_alloc | apply Kd.R_drewN | apply Kd.R_drew)); exact Kd.R_mono HO307.out (fun _ hk => hk.2)⟩, ⟨by exact BK275.out⟩, ⟨by exact BK276.out⟩, ⟨by exact BK295.out⟩, ⟨by exact BK312.out⟩, ⟨by (with_reducible exact HB.out)⟩⟩
      ·replace c40 := Bool.eq_false_iff.mpr c40
       subst c40
       have H1 : (zd.j1 kj2 t279 t296 true t280 t281 t282 t283 t284 t285 t288 t291 t292 t293 t297 t298 t299 t300 t301 t302 t305 t308 t309 t310) = some r := by rw [if_neg (show ¬ (false = true) by decide)] at H; exact H
       clear H
       have H := H1
       clear H1
       have H' := za.mk H
       clear H
       go_wp2
       go_meet
       case rel => exact ⟨_, (true), (by rfl), H', ⟨by have := HJ2.out; first | omega | exact Nat.le_refl _⟩, ⟨by (with_reducible repeat (first | apply Kd.R_alloc | apply Kd.R_drewN | apply Kd.R_drew)); exact Kd.R_mono (zae (Kd.R_types HO287.out BK312.out (by decide))) (fun _ hk => hk.1.2)⟩, ⟨by (with_reducible repeat (first | apply Kd.R_alloc | apply Kd.R_drewN | apply Kd.R_drew)); exact Kd.R_mono (zae (Kd.R_types HO290.out BK312.out (by decide))) (fun _ hk => hk.1.2)⟩, ⟨by (with_reducible repeat (first | apply Kd.R_alloc | apply Kd.R_drewN | apply Kd.R_drew)); exact Kd.R_mono (zae (Kd.R_types HO304.out BK312.out (by decide))) (fun _ hk => hk.1.2)⟩, ⟨by (with_reducible repeat (first | apply Kd.R_alloc | apply Kd.R_drewN | apply Kd.R_drew)); exact Kd.R_mono (zae (Kd.R_types HO307.out BK312.out (by decide))) (fun _ hk => hk.1.2)⟩, ⟨by (iterate 10 refine zkb ?_ NB275_312.out _); exact BK275.out⟩, ⟨by (iterate 10 refine zkb ?_ NB276_312.out _); exact BK276.out⟩, ⟨by (iterate 10 refine zkb ?_ NB295_312.out _); exact BK295.out⟩, ⟨by exact put10 BK312.out⟩, ⟨by repeat (first | (with_reducible first | exact HB.out | apply zj | apply zc | apply zz | refine zk ?_ GE275.out | refine zk ?_ GE276.out | refine zk ?_ GE295.out | refine zk ?_ GE312.out) | exact HB.out)⟩⟩
     ·replace c39 := Bool.eq_false_iff.mpr c39
      subst c39
      have H1 : (zd.j1 kj2 t279 t296 true t280 t281 t282 t283 t284 t285 t288 t291 t292 t293 t297 t298 t299 t300 t301 t302 t305 t308 t309 t310) = some r := by rw [if_neg (show ¬ (false = true) by decide)] at H; exact H
      clear H
      have H := H1
      clear H1
      have H' := za.mk H
      clear H
      go_wp2
      go_meet
      case rel => exact ⟨_, (true), (by rfl), H', ⟨by have := HJ2.out; first | omega | exact Nat.le_refl _⟩, ⟨by (with_reducible repeat (first | apply Kd.R_alloc | apply Kd.R_drewN | apply Kd.R_drew)); exact Kd.R_mono (zae (Kd.R_types HO287.out BK312.out (by decide))) (fun _ hk => hk.1.2)⟩, ⟨by (with_reducible repeat (first | apply Kd.R_alloc | apply Kd.R_drewN | apply Kd.R_drew)); exact Kd.R_mono (zae (Kd.R_types HO290.out BK312.out (by decide))) (fun _ hk => hk.1.2)⟩, ⟨by (with_reducible repeat (first | apply Kd.R_alloc | apply Kd.R_drewN | apply Kd.R_drew)); exact Kd.R_mono (zae (Kd.R_types HO304.out BK312.out (by decide))) (fun _ hk => hk.1.2)⟩, ⟨by (with_reducible repeat (first | apply Kd.R_alloc | apply Kd.R_drewN | apply Kd.R_drew)); exact Kd.R_mono (zae (Kd.R_types HO307.out BK312.out (by decide))) (fun _ hk => hk.1.2)⟩, ⟨by (iterate 10 refine zkb ?_ NB275_312.out _); exact BK275.out⟩, ⟨by (iterate 10 refine zkb ?_ NB276_312.out _); exact BK276.out⟩, ⟨by (iterate 10 refine zkb ?_ NB295_312.out _); exact BK295.out⟩, ⟨by exact put10 BK312.out⟩, ⟨by repeat (first | (with_reducible first | exact HB.out | apply zj | apply zc | apply zz | refine zk ?_ GE275.out | refine zk ?_ GE276.out | refine zk ?_ GE295.out | refine zk ?_ GE312.out) | exact HB.out)⟩⟩
    case rest =>
     clear HC20
     clear hcz22_0 hcz22_1 hcz22_2 hcz22_3 hcz22_4 hcz22_5 hcz22_6 hcz27_0 hcz27_1 hcz27_2 hcz27_3 hcz27_4 hcz27_5 hcz27_6 hcz27_7 hcz27_8 hcz27_9 hcz30_0 hcz30_1 hcz30_2 hcz30_3 hcz30_4 hcz30_5 hcz30_6 hcz36_0 hcz36_1 hcz36_2 hcz36_3 hcz36_4 hcz36_5 hcz36_6 hcz36_7 hcz36_8 hcz36_9 hfz22_0 hfz22_1 hfz22_2 hfz22_3 hfz22_4 hfz22_5 hfz22_6 hfz27_0 hfz27_1 hfz27_2 hfz27_3 hfz27_4 hfz27_5 hfz27_6 hfz27_7 hfz27_8 hfz27_9 hfz30_0 hfz30_1 hfz30_2 hfz30_3 hfz30_4 hfz30_5 hfz30_6 hfz36_0 hfz36_1 hfz36_2 hfz36_3 hfz36_4 hfz36_5 hfz36_6 hfz36_7 hfz36_8 hfz36_9
     obtain ⟨kq, x56_19, rfl, HA, HJ19, HO_296005, HO_296006, HO_313005, HO_313006, BK275, BK276, BK295, BK312, HB⟩ := hcut
     cases kq with
     | zero => exact absurd HA.out (by simp [zd.j1])
     | succ kj19 =>
      have H := HA.out
      clear HA
      simp only [zd.j1] at H
      by_cases c59 : x56_19 = true
      ·subst c59
       have H1 : (some true) = some r := by rw [if_pos rfl] at H; exact H
       clear H
       have H := H1
       clear H1
       obtain rfl := Option.some.inj H
       go_wp2
       go_ret
       exact ⟨by rfl, by (with_reducible exact HB.out)⟩
      ·replace c59 := Bool.eq_false_iff.mpr c59
       subst c59
       have H1 : ((zlb.f t279 t296).bind fun bt316 => ((zlb.f t296 t279).bind fun bt318 => (if bt316.2 = true then (if bt318.2 = true then ((zg.f kj19 t280 t281 t282 t283 t284 t285 t288 t291 t292 t293 t297 t298 t299 t300 t301 t302 t305 t308 t309 t310).bind fun t320 => (if bt316.1 = t320 then ((znd.f bt316.1 bt318.1).bind fun t321 => (some t321)) else (some false))) else (some false)) else (some false)))) = some r := by rw [if_neg (show ¬ (false = true) by decide)] at H; exact H
       clear H
       have H := H1
       clear H1
       replace H := Option.bind_eq_some_iff.mp H
       obtain ⟨⟨t316, t317⟩, A600, H⟩ := H
       replace H : ((zlb.f t296 t279).bind fun bt318 => (if t317 = true then (if bt318.2 = true then ((zg.f kj19 t280 t281 t282 t283 t284 t285 t288 t291 t292 t293 t297 t298 t299 t300 t301 t302 t305 t308 t309 t310).bind fun t320 => (if t316 = t320 then ((znd.f t316 bt318.1).bind fun t321 => (some t321)) else (some false))) else (some false)) else (some false))) = some r := H
       have A60 := za.mk A600
       clear A600
       replace H := Option.bind_eq_some_iff.mp H
       obtain ⟨⟨t318, t319⟩, A610, H⟩ := H
       replace H : (if t317 = true then (if t319 = true then ((zg.f kj19 t280 t281 t282 t283 t284 t285 t288 t291 t292 t293 t297 t298 t299 t300 t301 t302 t305 t308 t309 t310).bind fun t320 => (if t316 = t320 then ((znd.f t316 t318).bind fun t321 => (some t321)) else (some false))) else (some false)) else (some false)) = some r := H
       have A61 := za.mk A610
       clear A610
       by_cases c62 : t317 = true
       ·subst c62
        have H1 : (if t319 = true then ((zg.f kj19 t280 t281 t282 t283 t284 t285 t288 t291 t292 t293 t297 t298 t299 t300 t301 t302 t305 t308 t309 t310).bind fun t320 => (if t316 = t320 then ((znd.f t316 t318).bind fun t321 => (some t321)) else (some false))) else (some false)) = some r := by rw [if_pos rfl] at H; exact H
        clear H
        have H := H1
        clear H1
        by_cases c63 : t319 = true
        ·subst c63
         have H1 : ((zg.f kj19 t280 t281 t282 t283 t284 t285 t288 t291 t292 t293 t297 t298 t299 t300 t301 t302 t305 t308 t309 t310).bind fun t320 => (if t316 = t320 then ((znd.f t316 t318).bind fun t321 => (some t321)) else (some false))) = some r := by rw [if_pos rfl] at H; exact H
         clear H
         have H := H1
         clear H1
         replace H := Option.bind_eq_some_iff.mp H
         obtain ⟨t320, A640, H⟩ := H
         replace H : (if t316 = t320 then ((znd.f t316 t318).bind fun t321 => (some t321)) else (some false)) = some r := H
         have A64 := za.mk A640
         clear A640
         by_cases c65 : t316 = t320
         ·rw [if_pos c65] at H
          have c65b0 : (t316 == t320) = true := beq_iff_eq.mpr c65
          have c65b1 : (t316 != t320) = false := bne_eq_false_iff_eq.mpr c65
          clear c65
          replace H := Option.bind_eq_some_iff.mp H
          obtain ⟨t321, A660, H⟩ := H
          replace H : (some t321) = some r := H
          have A66 := za.mk A660
          clear A660
          obtain rfl := Option.some.inj H
          go_wp2_with (first | ((with_reducible refine zx (f := 10) rfl ?_); refine zdc (some 60) rfl rfl Tryz.func10 (by kernel_rfl) rfl #[.string t279, .string t296] rfl (by (try simp only [List.map_toArray, List.map_cons, List.map_nil]); first | done | rfl | (simp only [List.length_drop, List.length_take]; rfl)) ?_; (with_reducible refine (zlb.calls t279 t296 t316 true _ A60.out (by exact GL.at HG.out (by repeat (first | (with_reducible first | exact HB.out | apply zj | apply zc | apply zz) | exact HB.out)))).mono ?_); rintro e w67 ⟨rfl, hb⟩; refine ⟨_, rfl, ?_⟩; replace HO_296005 := za.mk (Kd.R_below (by (with_reducible repeat (first | apply Kd.R_alloc | apply Kd.R_drewN | apply Kd.R_drew)); exact HO_296005.out) hb); replace HO_296006 := za.mk (Kd.R_below (by (with_reducible repeat (first | apply Kd.R_alloc | apply Kd.R_drewN | apply Kd.R_drew)); exact HO_296006.out) hb); replace HO_313005 := za.mk (Kd.R_below (by (with_reducible repeat (first | apply Kd.R_alloc | apply Kd.R_drewN | apply Kd.R_drew)); exact HO_313005.out) hb); replace HO_313006 := za.mk (Kd.R_below (by (with_reducible repeat (first | apply Kd.R_alloc | apply Kd.R_drewN | apply Kd.R_drew)); exact HO_313006.out) hb); replace BK275 := za.mk (ze BK275.out hb); replace BK276 := za.mk (ze BK276.out hb); replace BK295 := za.mk (ze BK295.out hb); replace BK312 := za.mk (ze BK312.out hb); replace HB := za.mk (zm (by (with_reducible exact HB.out)) hb); (try clear hb); (try clear hb2); (try clear hk); (try clear hi)) | ((with_reducible refine zx (f := 10) rfl ?_); refine zdc (some 66) rfl rfl Tryz.func10 (by kernel_rfl) rfl #[.string t296, .string t279] rfl (by (try simp only [List.map_toArray, List.map_cons, List.map_nil]); first | done | rfl | (simp only [List.length_drop, List.length_take]; rfl)) ?_; (with_reducible refine (zlb.calls t296 t279 t318 true _ A61.out (by exact GL.at HG.out (by repeat (first | (with_reducible first | exact HB.out | apply zj | apply zc | apply zz) | exact HB.out)))).mono ?_); rintro e w68 ⟨rfl, hb⟩; refine ⟨_, rfl, ?_⟩; replace HO_296005 := za.mk (Kd.R_below (by (with_reducible repeat (first | apply Kd.R_alloc | apply Kd.R_drewN | apply Kd.R_drew)); exact HO_296005.out) hb); replace HO_296006 := za.mk (Kd.R_below (by (with_reducible repeat (first | apply Kd.R_alloc | apply Kd.R_drewN | apply Kd.R_drew)); exact HO_296006.out) hb); replace HO_313005 := za.mk (Kd.R_below (by (with_reducible repeat (first | apply Kd.R_alloc | apply Kd.R_drewN | apply Kd.R_drew)); exact HO_313005.out) hb); replace HO_313006 := za.mk (Kd.R_below (by (with_reducible repeat (first | apply Kd.R_alloc | apply Kd.R_drewN | apply Kd.R_drew)); exact HO_313006.out) hb); replace BK275 := za.mk (ze BK275.out hb); replace BK276 := za.mk (ze BK276.out hb); replace BK295 := za.mk (ze BK295.out hb); replace BK312 := za.mk (ze BK312.out hb); replace HB := za.mk (zm (by (with_reducible exact HB.out)) hb); (try clear hb); (try clear hb2); (try clear hk); (try clear hi); have hnb69 := NB295_275.out; have hnc69 := NB275_295.out; have hnb70 := NB295_276.out; have hnc70 := NB276_295.out; have hnb71 := NB295_312.out; have hnc71 := NB312_295.out; obtain ⟨hcz72_0, hcz72_1, hcz72_2, hcz72_3, hcz72_4, hcz72_5, hcz72_6, hcz72_7, hcz72_8, hcz72_9, hfz72_0, hfz72_1, hfz72_2, hfz72_3, hfz72_4, hfz72_5, hfz72_6, hfz72_7, hfz72_8, hfz72_9⟩ := cl10 BK295.out; have hnb73 := NB312_275.out; have hnc73 := NB275_312.out; have hnb74 := NB312_276.out; have hnc74 := NB276_312.out; obtain ⟨hcz75_0, hcz75_1, hcz75_2, hcz75_3, hcz75_4, hcz75_5, hcz75_6, hcz75_7, hcz75_8, hcz75_9, hfz75_0, hfz75_1, hfz75_2, hfz75_3, hfz75_4, hfz75_5, hfz75_6, hfz75_7, hfz75_8, hfz75_9⟩ := cl10 BK312.out) | (go_at_call 11; (with_reducible refine (zg.calls kj19 t280 t281 t282 t283 t284 _ _ t285 _ _ t288 t291 t292 t293 t297 t298 t299 t300 t301 _ _ t302 _ _ t305 t308 t309 t310 t320 _ ?side1 ?side2 ?side3 ?side4 ?side5 ?side6 ?side7 ?side8 A64.out).mono ?_); (case side1 => repeat (first | exact (Kd.R_reads' HO_296005.out).2.2 | (with_reducible refine Kd.C_alloc ?_ _) | (with_reducible refine Kd.C_drewN ?_ _) | (with_reducible refine Kd.C_drew ?_))); (case side2 => exact (Kd.R_reads' HO_296005.out).2.1); (case side3 => repeat (first | exact (Kd.R_reads' HO_296006.out).2.2 | (with_reducible refine Kd.C_alloc ?_ _) | (with_reducible refine Kd.C_drewN ?_ _) | (with_reducible refine Kd.C_drew ?_))); (case side4 => exact (Kd.R_reads' HO_296006.out).2.1); (case side5 => repeat (first | exact (Kd.R_reads' HO_313005.out).2.2 | (with_reducible refine Kd.C_alloc ?_ _) | (with_reducible refine Kd.C_drewN ?_ _) | (with_reducible refine Kd.C_drew ?_))); (case side6 => exact (Kd.R_reads' HO_313005.out).2.1); (case side7 => repeat (first | exact (Kd.R_reads' HO_313006.out).2.2 | (with_reducible refine Kd.C_alloc ?_ _) | (with_reducible refine Kd.C_drewN ?_ _) | (with_reducible refine Kd.C_drew ?_))); (case side8 => exact (Kd.R_reads' HO_313006.out).2.1); rintro e w76 ⟨rfl, hb⟩; replace HO_296005 := za.mk (Kd.R_below (by (with_reducible repeat (first | apply Kd.R_alloc | apply Kd.R_drewN | apply Kd.R_drew)); exact HO_296005.out) hb); replace HO_296006 := za.mk (Kd.R_below (by (with_reducible repeat (first | apply Kd.R_alloc | apply Kd.R_drewN | apply Kd.R_drew)); exact HO_296006.out) hb); replace HO_313005 := za.mk (Kd.R_below (by (with_reducible repeat (first | apply Kd.R_alloc | apply Kd.R_drewN | apply Kd.R_drew)); exact HO_313005.out) hb); replace HO_313006 := za.mk (Kd.R_below (by (with_reducible repeat (first | apply Kd.R_alloc | apply Kd.R_drewN | apply Kd.R_drew)); exact HO_313006.out) hb); replace BK275 := za.mk (ze BK275.out hb); replace BK276 := za.mk (ze BK276.out hb); replace BK295 := za.mk (ze BK295.out hb); replace BK312 := za.mk (ze BK312.out hb); replace HB := za.mk (zm (by (with_reducible exact HB.out)) hb); (try clear hb); (try clear hb2); (try clear hk); (try clear hi)) | (go_at_call 12; (with_reducible refine (znd.calls t316 t318 t321 _ A66.out).mono ?_); rintro e w' ⟨rfl, ⟨nd, rfl⟩⟩))
          go_ret
          exact ⟨by rfl, by (with_reducible apply zc; with_reducible exact HB.out)⟩
         ·rw [if_neg c65] at H
          have c65b0 : (t316 == t320) = false := beq_eq_false_iff_ne.mpr c65
          have c65b1 : (t316 != t320) = true := bne_iff_ne.mpr c65
          obtain rfl := Option.some.inj H
          go_wp2_with (first | ((with_reducible refine zx (f := 10) rfl ?_); refine zdc (some 60) rfl rfl Tryz.func10 (by kernel_rfl) rfl #[.string t279, .string t296] rfl (by (try simp only [List.map_toArray, List.map_cons, List.map_nil]); first | done | rfl | (simp only [List.length_drop, List.length_take]; rfl)) ?_; (with_reducible refine (zlb.calls t279 t296 t316 true _ A60.out (by exact GL.at HG.out (by repeat (first | (with_reducible first | exact HB.out | apply zj | apply zc | apply zz) | exact HB.out)))).mono ?_); rintro e w77 ⟨rfl, hb⟩; refine ⟨_, rfl, ?_⟩; replace HO_296005 := za.mk (Kd.R_below (by (with_reducible repeat (first | apply Kd.R_alloc | apply Kd.R_drewN | apply Kd.R_drew)); exact HO_296005.out) hb); replace HO_296006 := za.mk (Kd.R_below (by (with_reducible repeat (first | apply Kd.R_alloc | apply Kd.R_drewN | apply Kd.R_drew)); exact HO_296006.out) hb); replace HO_313005 := za.mk (Kd.R_below (by (with_reducible repeat (first | apply Kd.R_alloc | apply Kd.R_drewN | apply Kd.R_drew)); exact HO_313005.out) hb); replace HO_313006 := za.mk (Kd.R_below (by (with_reducible repeat (first | apply Kd.R_alloc | apply Kd.R_drewN | apply Kd.R_drew)); exact HO_313006.out) hb); replace BK275 := za.mk (ze BK275.out hb); replace BK276 := za.mk (ze BK276.out hb); replace BK295 := za.mk (ze BK295.out hb); replace BK312 := za.mk (ze BK312.out hb); replace HB := za.mk (zm (by (with_reducible exact HB.out)) hb); (try clear hb); (try clear hb2); (try clear hk); (try clear hi)) | ((with_reducible refine zx (f := 10) rfl ?_); refine zdc (some 66) rfl rfl Tryz.func10 (by kernel_rfl) rfl #[.string t296, .string t279] rfl (by (try simp only [List.map_toArray, List.map_cons, List.map_nil]); first | done | rfl | (simp only [List.length_drop, List.length_take]; rfl)) ?_; (with_reducible refine (zlb.calls t296 t279 t318 true _ A61.out (by exact GL.at HG.out (by repeat (first | (with_reducible first | exact HB.out | apply zj | apply zc | apply zz) | exact HB.out)))).mono ?_); rintro e w78 ⟨rfl, hb⟩; refine ⟨_, rfl, ?_⟩; replace HO_296005 := za.mk (Kd.R_below (by (with_reducible repeat (first | apply Kd.R_alloc | apply Kd.R_drewN | apply Kd.R_drew)); exact HO_296005.out) hb); replace HO_296006 := za.mk (Kd.R_below (by (with_reducible repeat (first | apply Kd.R_alloc | apply Kd.R_drewN | apply Kd.R_drew)); exact HO_296006.out) hb); replace HO_313005 := za.mk (Kd.R_below (by (with_reducible repeat (first | apply Kd.R_alloc | apply Kd.R_drewN | apply Kd.R_drew)); exact HO_313005.out) hb); replace HO_313006 := za.mk (Kd.R_below (by (with_reducible repeat (first | apply Kd.R_alloc | apply Kd.R_drewN | apply Kd.R_drew)); exact HO_313006.out) hb); replace BK275 := za.mk (ze BK275.out hb); replace BK276 := za.mk (ze BK276.out hb); replace BK295 := za.mk (ze BK295.out hb); replace BK312 := za.mk (ze BK312.out hb); replace HB := za.mk (zm (by (with_reducible exact HB.out)) hb); (try clear hb); (try clear hb2); (try clear hk); (try clear hi); have hnb79 := NB295_275.out; have hnc79 := NB275_295.out; have hnb80 := NB295_276.out; have hnc80 := NB276_295.out; have hnb81 := NB295_312.out; have hnc81 := NB312_295.out; obtain ⟨hcz82_0, hcz82_1, hcz82_2, hcz82_3, hcz82_4, hcz82_5, hcz82_6, hcz82_7, hcz82_8, hcz82_9, hfz82_0, hfz82_1, hfz82_2, hfz82_3, hfz82_4, hfz82_5, hfz82_6, hfz82_7, hfz82_8, hfz82_9⟩ := cl10 BK295.out; have hnb83 := NB312_275.out; have hnc83 := NB275_312.out; have hnb84 := NB312_276.out; have hnc84 := NB276_312.out; obtain ⟨hcz85_0, hcz85_1, hcz85_2, hcz85_3, hcz85_4, hcz85_5, hcz85_6, hcz85_7, hcz85_8, hcz85_9, hfz85_0, hfz85_1, hfz85_2, hfz85_3, hfz85_4, hfz85_5, hfz85_6, hfz85_7, hfz85_8, hfz85_9⟩ := cl10 BK312.out) | (go_at_call 11; (with_reducible refine (zg.calls kj19 t280 t281 t282 t283 t284 _ _ t285 _ _ t288 t291 t292 t293 t297 t298 t299 t300 t301 _ _ t302 _ _ t305 t308 t309 t310 t320 _ ?side1 ?side2 ?side3 ?side4 ?side5 ?side6 ?side7 ?side8 A64.out).mono ?_); (case side1 => repeat (first | exact (Kd.R_reads' HO_296005.out).2.2 | (with_reducible refine Kd.C_alloc ?_ _) | (with_reducible refine Kd.C_drewN ?_ _) | (with_reducible refine Kd.C_drew ?_))); (case side2 => exact (Kd.R_reads' HO_296005.out).2.1); (case side3 => repeat (first | exact (Kd.R_reads' HO_296006.out).2.2 | (with_reducible refine Kd.C_alloc ?_ _) | (with_reducible refine Kd.C_drewN ?_ _) | (with_reducible refine Kd.C_drew ?_))); (case side4 => exact (Kd.R_reads' HO_296006.out).2.1); (case side5 => repeat (first | exact (Kd.R_reads' HO_313005.out).2.2 | (with_reducible refine Kd.C_alloc ?_ _) | (with_reducible refine Kd.C_drewN ?_ _) | (with_reducible refine Kd.C_drew ?_))); (case side6 => exact (Kd.R_reads' HO_313005.out).2.1); (case side7 => repeat (first | exact (Kd.R_reads' HO_313006.out).2.2 | (with_reducible refine Kd.C_alloc ?_ _) | (with_reducible refine Kd.C_drewN ?_ _) | (with_reducible refine Kd.C_drew ?_))); (case side8 => exact (Kd.R_reads' HO_313006.out).2.1); rintro e w86 ⟨rfl, hb⟩; replace HO_296005 := za.mk (Kd.R_below (by (with_reducible repeat (first | apply Kd.R_alloc | apply Kd.R_drewN | apply Kd.R_drew)); exact HO_296005.out) hb); replace HO_296006 := za.mk (Kd.R_below (by (with_reducible repeat (first | apply Kd.R_alloc | apply Kd.R_drewN | apply Kd.R_drew)); exact HO_296006.out) hb); replace HO_313005 := za.mk (Kd.R_below (by (with_reducible repeat (first | apply Kd.R_alloc | apply Kd.R_drewN | apply Kd.R_drew)); exact HO_313005.out) hb); replace HO_313006 := za.mk (Kd.R_below (by (with_reducible repeat (first | apply Kd.R_alloc | apply Kd.R_drewN | apply Kd.R_drew)); exact HO_313006.out) hb); replace BK275 := za.mk (ze BK275.out hb); replace BK276 := za.mk (ze BK276.out hb); replace BK295 := za.mk (ze BK295.out hb); replace BK312 := za.mk (ze BK312.out hb); replace HB := za.mk (zm (by (with_reducible exact HB.out)) hb); (try clear hb); (try clear hb2); (try clear hk); (try clear hi)))
          go_ret
          exact ⟨by rfl, by (with_reducible exact HB.out)⟩
        ·replace c63 := Bool.eq_false_iff.mpr c63
         subst c63
         have H1 : (some false) = some r := by rw [if_neg (show ¬ (false = true) by decide)] at H; exact H
         clear H
         have H := H1
         clear H1
         obtain rfl := Option.some.inj H
         exact absurd HT.out Bool.false_ne_true
       ·replace c62 := Bool.eq_false_iff.mpr c62
        subst c62
        have H1 : (some false) = some r := by rw [if_neg (show ¬ (false = true) by decide)] at H; exact H
        clear H
        have H := H1
        clear H1
        obtain rfl := Option.some.inj H
        exact absurd HT.out Bool.false_ne_true
def zd.Pure : Prop := ∀ (l0_0 : List Int) (a0_1 : Int) (l0_2 : List Int) (l0_3 : List Int) (a0_4 : ByteArray) (a0_5 : Bool) (a0_6 : Int) (l1_0 : List Int) (a1_1 : Int) (l1_2 : List Int) (l1_3 : List Int) (a1_4 : ByteArray) (a1_5 : Bool) (a1_6 : Int), l0_0.length ≤ maxLen → (∀ x ∈ l0_0, (Lit.int .u16 x).wf = true) → (Lit.int .u8 a0_1).wf = true → l0_2.length ≤ maxLen → (∀ x ∈ l0_2, (Lit.int .u8 x).wf = true) → l0_3.length ≤ maxLen → (∀ x ∈ l0_3, (Lit.int .u16 x).wf = true) → a0_4.size ≤ maxLen → (Lit.int .u16 a0_6).wf = true → l1_0.length ≤ maxLen → (∀ x ∈ l1_0, (Lit.int .u16 x).wf = true) → (Lit.int .u8 a1_1).wf = true → l1_2.length ≤ maxLen → (∀ x ∈ l1_2, (Lit.int .u8 x).wf = true) → l1_3.length ≤ maxLen → (∀ x ∈ l1_3, (Lit.int .u16 x).wf = true) → a1_4.size ≤ maxLen → (Lit.int .u16 a1_6).wf = true → ∃ k, zd.f k l0_0 a0_1 l0_2 l0_3 a0_4 a0_5 a0_6 l1_0 a1_1 l1_2 l1_3 a1_4 a1_5 a1_6 = some true
theorem zd.walk (P : zd.Pure) (a0_0 : Option Addr) (len0_0 cap0_0 : Nat) (z0_0 : List Int) (a0_1 : Int) (a0_2 : Option Addr) (len0_2 cap0_2 : Nat) (z0_2 : List Int) (a0_3 : Option Addr) (len0_3 cap0_3 : Nat) (z0_3 : List Int) (a0_4 : ByteArray) (a0_5 : Bool) (a0_6 : Int) (a1_0 : Option Addr) (len1_0 cap1_0 : Nat) (z1_0 : List Int) (a1_1 : Int) (a1_2 : Option Addr) (len1_2 cap1_2 : Nat) (z1_2 : List Int) (a1_3 : Option Addr) (len1_3 cap1_3 : Nat) (z1_3 : List Int) (a1_4 : ByteArray) (a1_5 : Bool) (a1_6 : Int) (w : World) (w0_0 : ((a0_0 = none ∧ len0_0 = 0 ∧ cap0_0 = 0 ∧ z0_0 = []) ∨ ∃ x, a0_0 = some x ∧ len0_0 ≤ cap0_0 ∧ cap0_0 ≤ maxLen ∧ z0_0.length = cap0_0 ∧ (∀ i, i < z0_0.length → w.cell? (x.add i) = some (.int .u16 (z0_0.getD i 0))) ∧ ∀ n ∈ z0_0, (Lit.int .u16 n).wf = true)) (w0_1 : (Lit.int .u8 a0_1).wf = true) (w0_2 : ((a0_2 = none ∧ len0_2 = 0 ∧ cap0_2 = 0 ∧ z0_2 = []) ∨ ∃ x, a0_2 = some x ∧ len0_2 ≤ cap0_2 ∧ cap0_2 ≤ maxLen ∧ z0_2.length = cap0_2 ∧ (∀ i, i < z0_2.length → w.cell? (x.add i) = some (.int .u8 (z0_2.getD i 0))) ∧ ∀ n ∈ z0_2, (Lit.int .u8 n).wf = true)) (w0_3 : ((a0_3 = none ∧ len0_3 = 0 ∧ cap0_3 = 0 ∧ z0_3 = []) ∨ ∃ x, a0_3 = some x ∧ len0_3 ≤ cap0_3 ∧ cap0_3 ≤ maxLen ∧ z0_3.length = cap0_3 ∧ (∀ i, i < z0_3.length → w.cell? (x.add i) = some (.int .u16 (z0_3.getD i 0))) ∧ ∀ n ∈ z0_3, (Lit.int .u16 n).wf = true)) (w0_4 : a0_4.size ≤ maxLen) (w0_6 : (Lit.int .u16 a0_6).wf = true) (w1_0 : ((a1_0 = none ∧ len1_0 = 0 ∧ cap1_0 = 0 ∧ z1_0 = []) ∨ ∃ x, a1_0 = some x ∧ len1_0 ≤ cap1_0 ∧ cap1_0 ≤ maxLen ∧ z1_0.length = cap1_0 ∧ (∀ i, i < z1_0.length → w.cell? (x.add i) = some (.int .u16 (z1_0.getD i 0))) ∧ ∀ n ∈ z1_0, (Lit.int .u16 n).wf = true)) (w1_1 : (Lit.int .u8 a1_1).wf = true) (w1_2 : ((a1_2 = none ∧ len1_2 = 0 ∧ cap1_2 = 0 ∧ z1_2 = []) ∨ ∃ x, a1_2 = some x ∧ len1_2 ≤ cap1_2 ∧ cap1_2 ≤ maxLen ∧ z1_2.length = cap1_2 ∧ (∀ i, i < z1_2.length → w.cell? (x.add i) = some (.int .u8 (z1_2.getD i 0))) ∧ ∀ n ∈ z1_2, (Lit.int .u8 n).wf = true)) (w1_3 : ((a1_3 = none ∧ len1_3 = 0 ∧ cap1_3 = 0 ∧ z1_3 = []) ∨ ∃ x, a1_3 = some x ∧ len1_3 ≤ cap1_3 ∧ cap1_3 ≤ maxLen ∧ z1_3.length = cap1_3 ∧ (∀ i, i < z1_3.length → w.cell? (x.add i) = some (.int .u16 (z1_3.getD i 0))) ∧ ∀ n ∈ z1_3, (Lit.int .u16 n).wf = true)) (w1_4 : a1_4.size ≤ maxLen) (w1_6 : (Lit.int .u16 a1_6).wf = true) (hG : GL w) :
  Calls Tryz.prog 3 #[.agg #[.slice a0_0 len0_0 cap0_0, .int .u8 a0_1, .slice a0_2 len0_2 cap0_2, .slice a0_3 len0_3 cap0_3, .string a0_4, .bool a0_5, .int .u16 a0_6], .agg #[.slice a1_0 len1_0 cap1_0, .int .u8 a1_1, .slice a1_2 len1_2 cap1_2, .slice a1_3 len1_3 cap1_3, .string a1_4, .bool a1_5, .int .u16 a1_6]] w fun e w' => e = .returned (.bool true) ∧ Below w.heap.size w w' := by
 obtain ⟨l0_0, rfl, hr0_0, hm0_0, hw0_0, hc0_0⟩ := zyd.ofRowC w0_0
 obtain ⟨l0_2, rfl, hr0_2, hm0_2, hw0_2, hc0_2⟩ := zyd.ofRowC w0_2
 obtain ⟨l0_3, rfl, hr0_3, hm0_3, hw0_3, hc0_3⟩ := zyd.ofRowC w0_3
 obtain ⟨l1_0, rfl, hr1_0, hm1_0, hw1_0, hc1_0⟩ := zyd.ofRowC w1_0
 obtain ⟨l1_2, rfl, hr1_2, hm1_2, hw1_2, hc1_2⟩ := zyd.ofRowC w1_2
 obtain ⟨l1_3, rfl, hr1_3, hm1_3, hw1_3, hc1_3⟩ := zyd.ofRowC w1_3
 obtain ⟨k, h⟩ := P l0_0 a0_1 l0_2 l0_3 a0_4 a0_5 a0_6 l1_0 a1_1 l1_2 l1_3 a1_4 a1_5 a1_6 hm0_0 hw0_0 w0_1 hm0_2 hw0_2 hm0_3 hw0_3 w0_4 w0_6 hm1_0 hw1_0 w1_1 hm1_2 hw1_2 hm1_3 hw1_3 w1_4 w1_6
 refine (zd.calls k _ _ l0_0 a0_1 _ _ l0_2 _ _ l0_3 a0_4 a0_5 a0_6 _ _ l1_0 a1_1 _ _ l1_2 _ _ l1_3 a1_4 a1_5 a1_6 true w (Kd.C_of_reads (d := (0 : Int)) (h1 := fun _ => rfl) hr0_0) hc0_0 (Kd.C_of_reads (d := (0 : Int)) (h1 := fun _ => rfl) hr0_2) hc0_2 (Kd.C_of_reads (d := (0 : Int)) (h1 := fun _ => rfl) hr0_3) hc0_3 (Kd.C_of_reads (d := (0 : Int)) (h1 := fun _ => rfl) hr1_0) hc1_0 (Kd.C_of_reads (d := (0 : Int)) (h1 := fun _ => rfl) hr1_2) hc1_2 (Kd.C_of_reads (d := (0 : Int)) (h1 := fun _ => rfl) hr1_3) hc1_3 h hG rfl).mono ?_
 rintro e w' ⟨rfl, hd⟩
 exact ⟨rfl, hd⟩
end Go.Proofs.YtapaijpglfmfgaaGreatDoor.Q
end
section
namespace Go.Proofs.YtapaijpglfmfgaaGreatDoor.V
open Go.RowKit YtapaijpglfmfgaaGreatDoor.Q YtapaijpglfmfgaaGreatDoorG YtapaijpglfmfgaaGreatDoorP YtapaijpglfmfgaaGreatDoorH YtapaijpglfmfgaaGreatDoorB YtapaijpglfmfgaaGreatDoorM YtapaijpglfmfgaaGreatDoorW.PrintWords YtapaijpglfmfgaaGreatDoorW.PrintLast YtapaijpglfmfgaaGreatDoorW.PrintMore
theorem FnAlpineBuiltPair : zd.Pure := by
 intro ns1 l1 ss1 sn1 h1 b1 n1 ns2 l2 ss2 sn2 h2 b2 n2 _ a1 a2 _ a3 _ a4 _ a5 _ c1 c2 _ c3 _ c4 _ c5
 have N1 : ∀ x ∈ ns1, U16 x := fun x hx => u16_of (a1 x hx)
 have N2 : ∀ x ∈ ns2, U16 x := fun x hx => u16_of (c1 x hx)
 have L1 := u8_of a2
 have L2 := u8_of c2
 have S1 : ∀ x ∈ ss1, 0 ≤ x := fun x hx => (u8_of (a3 x hx)).1
 have S2 : ∀ x ∈ ss2, 0 ≤ x := fun x hx => (u8_of (c3 x hx)).1
 have E1 : ∀ x ∈ sn1, U16 x := fun x hx => u16_of (a4 x hx)
 have E2 : ∀ x ∈ sn2, U16 x := fun x hx => u16_of (c4 x hx)
 have B1 := u16_of a5
 have B2 := u16_of c5
 clear a1 a2 a3 a4 a5 c1 c2 c3 c4 c5
 obtain ⟨T1, t1, g1⟩ := text_or ns1 N1 l1 L1.1 ss1 sn1 S1 E1 h1 b1 n1 B1
 obtain ⟨T2, t2, g2⟩ := text_or ns2 N2 l2 L2.1 ss2 sn2 S2 E2 h2 b2 n2 B2
 refine Ev.rounds ?_
 simp only [zd.f]
 have hout0 : Ev (fun k => zd.j0 k true ns1 l1 ss1 sn1 h1 b1 n1 ns2 l2 ss2 sn2 h2 b2 n2) true := by
  refine Ev.succ ?_
  simp only [zd.j0]
  refine Ev.pos (fun _ => by first | rfl | trivial) ?_
  exact Ev.now _
 have hout1 : ∀ (x y p1 p2 p3 p4 : ByteArray) (p5 : Bool) (p6 : List S52) (p7 : List S56) (p8 p9 : Bool) (p10 q1 q2 q3 q4 : ByteArray) (q5 : Bool) (q6 : List S52) (q7 : List S56) (q8 q9 : Bool) (q10 : ByteArray),
   Ev (fun k => zd.j1 k x y true p1 p2 p3 p4 p5 p6 p7 p8 p9 p10 q1 q2 q3 q4 q5 q6 q7 q8 q9 q10) true := by
  intros
  refine Ev.succ ?_
  simp only [zd.j1]
  refine Ev.pos (fun _ => by first | rfl | trivial) ?_
  exact Ev.now _
 obtain ⟨f1, hf1⟩ := fits2_ev ns1 l1 ss1 sn1 h1 b1 n1
 obtain ⟨f2, hf2⟩ := fits2_ev ns2 l2 ss2 sn2 h2 b2 n2
 refine Ev.bind0 hf1 ?_
 cases f1
 ·exact Ev.neg (fun _ => Bool.false_ne_true) hout0
 refine Ev.pos (fun _ => by first | rfl | trivial) ?_
 refine Ev.bind0 hf2 ?_
 cases f2
 ·exact hout0
 refine Ev.succ ?_
 simp only [zd.j0]
 refine Ev.neg (fun _ => Bool.false_ne_true) ?_
 refine Ev.bind t1 ?_
 refine Ev.bind t2 ?_
 rcases g1 with ⟨k1, rfl⟩ | rfl
 case inr => exact Ev.neg (fun _ => Bool.false_ne_true) (hout1 _ _ _ _ _ _ _ _ _ _ _ _ _ _ _ _ _ _ _ _ _ _)
 refine Ev.pos (fun _ => by first | rfl | trivial) ?_
 rcases g2 with ⟨k2, rfl⟩ | rfl
 case inr => exact Ev.neg (fun _ => Bool.false_ne_true) (hout1 _ _ _ _ _ _ _ _ _ _ _ _ _ _ _ _ _ _ _ _ _ _)
 refine Ev.pos (fun _ => by first | rfl | trivial) ?_
 obtain ⟨o1, e1⟩ := text_ok (sn := sn1) (b := b1) k1 N1 L1.1 S1 E1 B1
 obtain ⟨o2, e2⟩ := text_ok (sn := sn2) (b := b2) k2 N2 L2.1 S2 E2 B2
 have P1 := parse_PG (l := bytesOf (strOfNums (textL ns1 l1 ss1 sn1 (bytesOf h1) b1 n1))) (by rw [← zcc]; exact o1.1)
 have P2 := parse_PG (l := bytesOf (strOfNums (textL ns2 l2 ss2 sn2 (bytesOf h2) b2 n2))) (by rw [← zcc]; exact o2.1)
 rw [e1] at P1
 rw [e2] at P2
 unfold goodT
 refine Ev.bind (known_ev _ o1.1) ?_
 cases (decide (∀ x ∈ bytesOf (strOfNums (textL ns1 l1 ss1 sn1 (bytesOf h1) b1 n1)), x ≤ 127) && zbh (rest3 (bytesOf (strOfNums (textL ns1 l1 ss1 sn1 (bytesOf h1) b1 n1)))))
 ·exact Ev.neg (fun _ => Bool.false_ne_true) (hout1 _ _ _ _ _ _ _ _ _ _ _ _ _ _ _ _ _ _ _ _ _ _)
 refine Ev.pos (fun _ => by first | rfl | trivial) ?_
 refine Ev.bind (known_ev _ o2.1) ?_
 cases (decide (∀ x ∈ bytesOf (strOfNums (textL ns2 l2 ss2 sn2 (bytesOf h2) b2 n2)), x ≤ 127) && zbh (rest3 (bytesOf (strOfNums (textL ns2 l2 ss2 sn2 (bytesOf h2) b2 n2)))))
 ·exact Ev.neg (fun _ => Bool.false_ne_true) (hout1 _ _ _ _ _ _ _ _ _ _ _ _ _ _ _ _ _ _ _ _ _ _)
 refine Ev.pos (fun _ => by first | rfl | trivial) ?_
 obtain ⟨q, hq, hq2⟩ := known_tells P1 P2 (strOfNums (textL ns1 l1 ss1 sn1 (bytesOf h1) b1 n1)) ⟨#[]⟩ (strOfNums (tL l1)) (strOfNums (tH (bytesOf h1))) (magB (decL (tB b1 n1))) (strOfNums (textL ns2 l2 ss2 sn2 (bytesOf h2) b2 n2)) ⟨#[]⟩ (strOfNums (tL l2)) (strOfNums (tH (bytesOf h2))) (magB (decL (tB b2 n2))) true false true false
 refine Ev.bind hq ?_
 cases q
 ·exact hout1 _ _ _ _ _ _ _ _ _ _ _ _ _ _ _ _ _ _ _ _ _ _
 obtain ⟨_, z1, z2⟩ := hq2 rfl
 refine Ev.succ ?_
 simp only [zd.j1]
 refine Ev.neg (fun _ => Bool.false_ne_true) ?_
 refine Ev.bind0 (cmp_text o1 o2) ?_
 refine Ev.bind0 (cmp_text o2 o1) ?_
 rw [e1, e2]
 refine Ev.pos (fun _ => by first | rfl | trivial) ?_
 refine Ev.pos (fun _ => by first | rfl | trivial) ?_
 refine Ev.bind (compare_ev P1 P2 z1 z2 (strOfNums (tH (bytesOf h1))) (strOfNums (tH (bytesOf h2)))) ?_
 refine Ev.pos (fun _ => by first | rfl | trivial) ?_
 refine Ev.bind0 (turned_eq (apOf (pvT (textL ns1 l1 ss1 sn1 (bytesOf h1) b1 n1) ns1 l1 ss1 sn1 (bytesOf h1) b1 n1)) (apOf (pvT (textL ns2 l2 ss2 sn2 (bytesOf h2) b2 n2) ns2 l2 ss2 sn2 (bytesOf h2) b2 n2))) ?_
 exact Ev.now _
end Go.Proofs.YtapaijpglfmfgaaGreatDoor.V
end
section
namespace Go.Proofs.YtapaijpglfmfgaaGreatDoor.Pure
theorem FnAlpineBuiltPair : Q.zd.Pure := V.FnAlpineBuiltPair
end Go.Proofs.YtapaijpglfmfgaaGreatDoor.Pure
end
section
namespace Go.Proofs.YtapaijpglfmfgaaGreatDoorG
open Go.RowKit Go.ChangeShapes YtapaijpglfmfgaaGreatDoorW.PrintWords YtapaijpglfmfgaaGreatDoorW.PrintLast
theorem err_star : "*" ++ "errors.errorString" = "*errors.errorString" := by decide
theorem err_row (u : TypeId) (h : Tryz.prog.typeName? 3 u = some "*errors.errorString") : u = 193 :=
 typeName_ptr_named (nm := "errors.errorString") (by rw [err_star]; kernel_rfl) (by kernel_rfl) (by decide) u (by rw [err_star]; exact h)
theorem sent {n : String} {text : List UInt8} {g : Nat} {W : World} (hg : Tryz.prog.globalNamed n = some g) (ht : (Tryz.prog.globals[g]?).map (·.type) = some 73)
    (h : laidMet Tryz.prog [(n, .iface "*errors.errorString" (.ptr (.agg [.lit (.string text)])))] W) : (∃ a, W.cell? ⟨g, 0, none⟩ = some (ErrV a)) ∧ g < W.heap.size := by
  obtain ⟨a, s, hv, _⟩ := laid_sentinel h hg ht Tryz.underlying73 err_row Tryz.underlying193 Tryz.underlying210 rfl rfl Tryz.underlying9 (by kernel_rfl) (by kernel_rfl)
  have hc : W.cell? ⟨g, 0, none⟩ = some (ErrV a) := by
    have h0 := World.var?_cell hg hv 0
    simpa [ErrV] using h0
  refine ⟨⟨a, hc⟩, ?_⟩
  rcases Nat.lt_or_ge g W.heap.size with hl | hl
  · exact hl
  · unfold World.cell? at hc
    rw [Array.getElem?_eq_none hl] at hc
    cases hc
theorem GL_of {l : List (String × DataW Unit)} {W : World} (hL : laidMetH Tryz.prog l W) (hp : (l.all fun x => x.2.handleName?.isNone) = true)
  (e1 : l.filter (fun x => x.1 == "io.EOF") = [("io.EOF", Go.Proofs.YtapaijpglfmfgaaGreatDoor.Rows.laid_io_EOF)])
  (e2 : l.filter (fun x => x.1 == "pub-primogeniture/pub/bigall.errNoDigits") = [("pub-primogeniture/pub/bigall.errNoDigits", Go.Proofs.YtapaijpglfmfgaaGreatDoor.Rows.laid_pub_primogeniture_pub_bigall_errNoDigits)])
  (e3 : l.filter (fun x => x.1 == "pub-primogeniture/pub/scalibr/semantic.ErrInvalidVersion") = [("pub-primogeniture/pub/scalibr/semantic.ErrInvalidVersion", Go.Proofs.YtapaijpglfmfgaaGreatDoor.Rows.laid_pub_primogeniture_pub_scalibr_semantic_ErrInvalidVersion)]) : GL W := by
 have one : ∀ (n : String) (d : DataW Unit), l.filter (fun x => x.1 == n) = [(n, d)] → d.handleName?.isNone = true → laidMet Tryz.prog [(n, d)] W := by
  intro n d e hd
  have h := hL.filter (fun x => x.1 == n)
  rw [e, MakeChecks.laidMetH_plain _ _ _ (by simp [hd])] at h
  exact h
 obtain ⟨h1, g1⟩ := sent (g := 2) (by kernel_rfl) (by kernel_rfl) (one _ _ e1 (by kernel_rfl))
 obtain ⟨h2, g2⟩ := sent (g := 4) (by kernel_rfl) (by kernel_rfl) (one _ _ e2 (by kernel_rfl))
 obtain ⟨h3, g3⟩ := sent (g := 0) (by kernel_rfl) (by kernel_rfl) (one _ _ e3 (by kernel_rfl))
 exact ⟨by omega, h3, h1, h2⟩
end Go.Proofs.YtapaijpglfmfgaaGreatDoorG
end
