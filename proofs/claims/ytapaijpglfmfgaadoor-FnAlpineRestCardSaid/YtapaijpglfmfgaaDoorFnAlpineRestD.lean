/- Proved here, for the row of the law FnAlpineRest: contracts of the Go functions that it reaches, each as its theorem 'calls' says, and the words and plain laws that they need (Qx7, Qx10, Qx13, Qx14). -/
import Derived.Test.YtapaijpglfmfgaaDoorFnAlpineRestC
set_option linter.unusedVariables false
set_option linter.unusedSimpArgs false
set_option maxHeartbeats 8000000
set_option maxRecDepth 100000
section
namespace Go.Proofs.YtapaijpglfmfgaaDoor.Q
open Go.RowKit YtapaijpglfmfgaaDoorH YtapaijpglfmfgaaDoorG YtapaijpglfmfgaaDoorW.PrintWords YtapaijpglfmfgaaDoorW.PrintLast YtapaijpglfmfgaaDoorW.PrintMore YtapaijpglfmfgaaDoorC
attribute [local go_sem] zsc zrc zbd zad zic zhc zqc ztc
theorem zb.calls (k : Nat) (A0_0 : Option Addr) (c0_0 : Nat) (l0_0 : List Int) (a0_1 : Int) (A0_2 : Option Addr) (c0_2 : Nat) (l0_2 : List Int) (A0_3 : Option Addr) (c0_3 : Nat) (l0_3 : List Int) (a0_4 : ByteArray) (a0_5 : Bool) (a0_6 : Int) (r1 : ByteArray) (r2 : ByteArray) (r3 : ByteArray) (r4 : ByteArray) (r5 : ByteArray) (r6 : Bool) (r7 : List (S54)) (r8 : List (S58)) (r9 : Bool) (r10 : Bool) (r11 : ByteArray) (r12 : Bool) (w : World) (hr0_0 : Kd.C (Kd.int .u16) w A0_0 l0_0.length l0_0) (hc0_0 : l0_0.length ≤ c0_0) (hr0_2 : Kd.C (Kd.int .u8) w A0_2 l0_2.length l0_2) (hc0_2 : l0_2.length ≤ c0_2) (hr0_3 : Kd.C (Kd.int .u16) w A0_3 l0_3.length l0_3) (hc0_3 : l0_3.length ≤ c0_3) (h : zb.f k l0_0 a0_1 l0_2 l0_3 a0_4 a0_5 a0_6 = some (r1, r2, r3, r4, r5, r6, r7, r8, r9, r10, r11, r12)) :
  Calls Tryd.prog 10 #[.agg #[.slice A0_0 l0_0.length c0_0, .int .u8 a0_1, .slice A0_2 l0_2.length c0_2, .slice A0_3 l0_3.length c0_3, .string a0_4, .bool a0_5, .int .u16 a0_6]] w fun e w' => ∃ v6_ v7_ : Value, e = .returned (.tuple #[.string r1, .agg #[.string r2, .string r3, .string r4, .string r5, .bool r6, v6_, v7_, .bool r9, .bool r10, .string r11], .bool r12]) ∧ Kd.R k54 54 w' w.heap.size (fun _ => True) v6_ r7 ∧ Kd.R k58 58 w' w.heap.size (fun _ => True) v7_ r8 ∧ Below w.heap.size w w' := by
 have hu26 := Tryd.underlying26
 have hu33 := Tryd.underlying33
 have hu54 := Tryd.underlying54
 have hu58 := Tryd.underlying58
 have hu31 := Tryd.underlying31
 have HR0_0 := za.mk hr0_0
 have HC0_0 := za.mk hc0_0
 clear hr0_0 hc0_0
 have HR0_2 := za.mk hr0_2
 have HC0_2 := za.mk hc0_2
 clear hr0_2 hc0_2
 have HR0_3 := za.mk hr0_3
 have HC0_3 := za.mk hc0_3
 clear hr0_3 hc0_3
 have HB := za.mk (Below.refl w.heap.size w)
 have H : (if (l0_0.length : Int) = 0 then (zb.j0 k true l0_0 a0_1 l0_2 l0_3 a0_4 a0_5 a0_6) else (if (l0_0.length : Int) > 60 then (zb.j0 k true l0_0 a0_1 l0_2 l0_3 a0_4 a0_5 a0_6) else (if (l0_2.length : Int) > 60 then (zb.j0 k true l0_0 a0_1 l0_2 l0_3 a0_4 a0_5 a0_6) else (zb.j0 k (decide ((a0_4.size : Int) > 1200)) l0_0 a0_1 l0_2 l0_3 a0_4 a0_5 a0_6)))) = some (r1, r2, r3, r4, r5, r6, r7, r8, r9, r10, r11, r12) := h
 clear h
 have HC2 := za.mk H
 clear H
 go_enter Tryd.func10, Tryd.ntmps10
 go_upto_region 1 with (first | ((with_reducible refine zjb (N := 1) rfl ?_); (try (refine zyb (by rfl) ?_; dsimp only)); refine zec ?hg (N := 1) ?hd (cs := #[.slice A0_0 l0_0.length c0_0, .int .u8 a0_1, .slice A0_2 l0_2.length c0_2, .slice A0_3 l0_3.length c0_3, .string a0_4, .bool a0_5, .int .u16 a0_6]) (t := 26) ?hr ?_; (case hd => rfl); (case hg => rfl); (case hr => first | (go_simp; done) | (go_simp; rfl)); intro gb145 hg w3 hbox hb; have BK145 := za.mk hbox; have GW145 := za.mk ((by rw [hg]; exact (zl (by (with_reducible exact HB.out))) : w.heap.size ≤ gb145)); have GE145 := za.mk ((by rw [hg]; exact (zl (by (with_reducible exact HB.out))) : w.heap.size ≤ gb145)); replace HB := za.mk (zm (by (with_reducible exact HB.out)) hb); clear hb hbox hg) | ((with_reducible refine zjb (N := 3) rfl ?_); (try (refine zyb (by rfl) ?_; dsimp only)); refine zec ?hg (N := 3) ?hd (cs := #[.string ⟨#[]⟩, .string ⟨#[]⟩, .string ⟨#[]⟩, .string ⟨#[]⟩, .bool false, .slice none 0 0, .slice none 0 0, .bool false, .bool false, .string ⟨#[]⟩]) (t := 33) ?hr ?_; (case hd => rfl); (case hg => rfl); (case hr => first | (go_simp; done) | (go_simp; rfl)); intro gb146 hg w4 hbox hb; have n0_ := za.mk (zk BK145.out hb); have n1_ := za.mk (zm (by (with_reducible exact HB.out)) hb); have n2_ := za.mk hbox; have n3_ := za.mk ((by rw [hg]; exact (zl (by (with_reducible exact HB.out))) : w.heap.size ≤ gb146)); have n4_ := za.mk ((by rw [hg]; exact (zl (by (with_reducible exact HB.out))) : w.heap.size ≤ gb146)); have n5_ := za.mk ((by rw [hg]; exact Nat.ne_of_lt (zac BK145.out) : gb145 ≠ gb146)); have n6_ := za.mk ((by rw [hg]; exact Nat.ne_of_gt (zac BK145.out) : gb146 ≠ gb145)); clear BK145; clear HB; have BK145 := n0_; have HB := n1_; have BK146 := n2_; have GW146 := n3_; have GE146 := n4_; have NB145_146 := n5_; have NB146_145 := n6_; clear n0_ n1_ n2_ n3_ n4_ n5_ n6_; clear hb hbox hg))
 (try simp only [Act.put, List.setIfInBounds_toArray, List.set_cons_zero, List.set_cons_succ])
 go_cut [36] (fun v36 wc => ∃ (kq : Nat) (x36_1 : Bool), v36 = .bool x36_1 ∧ za (zb.j0 kq x36_1 l0_0 a0_1 l0_2 l0_3 a0_4 a0_5 a0_6 = some (r1, r2, r3, r4, r5, r6, r7, r8, r9, r10, r11, r12)) ∧ za (kq ≤ k) ∧ za (wc.heap[gb145]? = some (.cells #[(.slice A0_0 l0_0.length c0_0), .int .u8 a0_1, (.slice A0_2 l0_2.length c0_2), (.slice A0_3 l0_3.length c0_3), .string a0_4, .bool a0_5, .int .u16 a0_6] 26 (0, 0))) ∧ za (wc.heap[gb146]? = some (.cells #[.string ⟨#[]⟩, .string ⟨#[]⟩, .string ⟨#[]⟩, .string ⟨#[]⟩, .bool false, (.slice none 0 0), (.slice none 0 0), .bool false, .bool false, .string ⟨#[]⟩] 33 (0, 0))) ∧ za (Below w.heap.size w wc))
 case first =>
  have H := HC2.out
  clear HC2
  by_cases c5 : (l0_0.length : Int) = 0
  ·rw [if_pos c5] at H
   have c5b0 : ((l0_0.length : Int) == 0) = true := beq_iff_eq.mpr c5
   have c5b1 : ((l0_0.length : Int) != 0) = false := bne_eq_false_iff_eq.mpr c5
   clear c5
   (first | rw [c5b0] | (simp only [i64_w, i32_w]; rw [c5b0]) | skip)
   have H' := za.mk H
   clear H
   have hnb6 := NB145_146.out
   have hnc6 := NB146_145.out
   obtain ⟨hcz7_0, hcz7_1, hcz7_2, hcz7_3, hcz7_4, hcz7_5, hcz7_6, hfz7_0, hfz7_1, hfz7_2, hfz7_3, hfz7_4, hfz7_5, hfz7_6⟩ := cl7 BK145.out
   go_wp2
   go_meet
   case rel => exact ⟨_, (true), (by rfl), H', ⟨by omega⟩, ⟨by exact BK145.out⟩, ⟨by exact BK146.out⟩, ⟨by (with_reducible exact HB.out)⟩⟩
  ·rw [if_neg c5] at H
   have c5b0 : ((l0_0.length : Int) == 0) = false := beq_eq_false_iff_ne.mpr c5
   have c5b1 : ((l0_0.length : Int) != 0) = true := bne_iff_ne.mpr c5
   have c5b2 : ¬ (l0_0 = []) := fun h_ => c5 (by rw [h_]; rfl)
   (first | rw [c5b0] | (simp only [i64_w, i32_w]; rw [c5b0]) | skip)
   by_cases c8 : (l0_0.length : Int) > 60
   ·rw [if_pos c8] at H
    have c8b0 : decide (60 < (l0_0.length : Int)) = true := decide_eq_true c8
    have c8b1 : decide (60 < l0_0.length) = true := decide_eq_true (by omega)
    clear c8
    have H' := za.mk H
    clear H
    have hnb9 := NB145_146.out
    have hnc9 := NB146_145.out
    obtain ⟨hcz10_0, hcz10_1, hcz10_2, hcz10_3, hcz10_4, hcz10_5, hcz10_6, hfz10_0, hfz10_1, hfz10_2, hfz10_3, hfz10_4, hfz10_5, hfz10_6⟩ := cl7 BK145.out
    go_wp2
    go_meet
    case rel => exact ⟨_, (true), (by rfl), H', ⟨by omega⟩, ⟨by exact BK145.out⟩, ⟨by exact BK146.out⟩, ⟨by (with_reducible exact HB.out)⟩⟩
   ·rw [if_neg c8] at H
    have c8b0 : decide (60 < (l0_0.length : Int)) = false := decide_eq_false c8
    have c8b1 : decide (60 < l0_0.length) = false := decide_eq_false (by omega)
    clear c8
    by_cases c11 : (l0_2.length : Int) > 60
    ·rw [if_pos c11] at H
     have c11b0 : decide (60 < (l0_2.length : Int)) = true := decide_eq_true c11
     have c11b1 : decide (60 < l0_2.length) = true := decide_eq_true (by omega)
     clear c11
     have H' := za.mk H
     clear H
     have hnb12 := NB145_146.out
     have hnc12 := NB146_145.out
     obtain ⟨hcz13_0, hcz13_1, hcz13_2, hcz13_3, hcz13_4, hcz13_5, hcz13_6, hfz13_0, hfz13_1, hfz13_2, hfz13_3, hfz13_4, hfz13_5, hfz13_6⟩ := cl7 BK145.out
     go_wp2
     go_meet
     case rel => exact ⟨_, (true), (by rfl), H', ⟨by omega⟩, ⟨by exact BK145.out⟩, ⟨by exact BK146.out⟩, ⟨by (with_reducible exact HB.out)⟩⟩
    ·rw [if_neg c11] at H
     have c11b0 : decide (60 < (l0_2.length : Int)) = false := decide_eq_false c11
     have c11b1 : decide (60 < l0_2.length) = false := decide_eq_false (by omega)
     clear c11
     have H' := za.mk H
     clear H
     have hnb14 := NB145_146.out
     have hnc14 := NB146_145.out
     obtain ⟨hcz15_0, hcz15_1, hcz15_2, hcz15_3, hcz15_4, hcz15_5, hcz15_6, hfz15_0, hfz15_1, hfz15_2, hfz15_3, hfz15_4, hfz15_5, hfz15_6⟩ := cl7 BK145.out
     go_wp2
     go_meet
     case rel => exact ⟨_, (decide ((a0_4.size : Int) > 1200)), (by rfl), H', ⟨by omega⟩, ⟨by exact BK145.out⟩, ⟨by exact BK146.out⟩, ⟨by (with_reducible exact HB.out)⟩⟩
 case rest =>
  clear HC2
  obtain ⟨kq, x36_1, rfl, HA, HJ1, BK145, BK146, HB⟩ := hcut
  cases kq with
  | zero => exact absurd HA.out (by simp [zb.j0])
  | succ kj1 =>
   have H := HA.out
   clear HA
   simp only [zb.j0] at H
   by_cases c16 : x36_1 = true
   ·subst c16
    have H1 : (some ((⟨#[]⟩ : ByteArray), (⟨#[]⟩ : ByteArray), (⟨#[]⟩ : ByteArray), (⟨#[]⟩ : ByteArray), (⟨#[]⟩ : ByteArray), false, ([] : List (S54)), ([] : List (S58)), false, false, (⟨#[]⟩ : ByteArray), false)) = some (r1, r2, r3, r4, r5, r6, r7, r8, r9, r10, r11, r12) := by rw [if_pos rfl] at H; exact H
    clear H
    have H := H1
    clear H1
    simp only [Option.some.injEq, Prod.mk.injEq] at H
    obtain ⟨rfl, rfl, rfl, rfl, rfl, rfl, rfl, rfl, rfl, rfl, rfl, rfl⟩ := H
    have hnb17 := NB146_145.out
    have hnc17 := NB145_146.out
    obtain ⟨hcz18_0, hcz18_1, hcz18_2, hcz18_3, hcz18_4, hcz18_5, hcz18_6, hcz18_7, hcz18_8, hcz18_9, hfz18_0, hfz18_1, hfz18_2, hfz18_3, hfz18_4, hfz18_5, hfz18_6, hfz18_7, hfz18_8, hfz18_9⟩ := cl10 BK146.out
    go_wp2
    refine bodyPost_ret (zae (rs := [.tmp 2, .cell 3 33, .tmp 4]) rfl (by simp) (.tmp (.cell gb146 33 #[.string ⟨#[]⟩, .string ⟨#[]⟩, .string ⟨#[]⟩, .string ⟨#[]⟩, .bool false, .slice none 0 0, .slice none 0 0, .bool false, .bool false, .string ⟨#[]⟩] (0, 0) _ rfl (by exact put10 BK146.out) Tryd.underlying33 rfl (by kernel_rfl) (.tmp .nil)))) rfl ?_
    exact ⟨_, _, by rfl, by exact Kd.R_nil _ _ _ _ _, by exact Kd.R_nil _ _ _ _ _, by repeat (first | (with_reducible first | exact HB.out | apply zo | apply ze | apply zy | refine zi ?_ GE145.out | refine zi ?_ GE146.out) | exact HB.out)⟩
   ·replace c16 := Bool.eq_false_iff.mpr c16
    subst c16
    have H1 : (zb.l0 kj1 (⟨#[]⟩ : ByteArray) l0_0 (l0_0.length : Int) 0 l0_0 a0_1 l0_2 l0_3 a0_4 a0_5 a0_6 (⟨#[]⟩ : ByteArray) (⟨#[]⟩ : ByteArray) (⟨#[]⟩ : ByteArray) (⟨#[]⟩ : ByteArray) false ([] : List (S54)) false false (⟨#[]⟩ : ByteArray)) = some (r1, r2, r3, r4, r5, r6, r7, r8, r9, r10, r11, r12) := by rw [if_neg (show ¬ (false = true) by decide)] at H; exact H
    clear H
    have H := H1
    clear H1
    have H' := za.mk H
    clear H
    go_wp2_with (((with_reducible refine zjb (N := 5) rfl ?_); (try (refine zyb (by rfl) ?_; dsimp only)); refine zec ?hg (N := 5) ?hd (cs := #[.string ⟨#[]⟩, .string ⟨#[]⟩, .string ⟨#[]⟩, .string ⟨#[]⟩, .bool false, .slice none 0 0, .slice none 0 0, .bool false, .bool false, .string ⟨#[]⟩]) (t := 33) ?hr ?_; (case hd => rfl); (case hg => rfl); (case hr => first | (go_simp; done) | (go_simp; rfl)); intro gb147 hg w19 hbox hb; have n0_ := za.mk (zk BK145.out hb); have n1_ := za.mk (zk BK146.out hb); have n2_ := za.mk (zm (by (with_reducible exact HB.out)) hb); have n3_ := za.mk hbox; have n4_ := za.mk ((by rw [hg]; exact (zl (by (with_reducible exact HB.out))) : w.heap.size ≤ gb147)); have n5_ := za.mk ((by rw [hg]; exact (zl (by (with_reducible exact HB.out))) : w.heap.size ≤ gb147)); have n6_ := za.mk ((by rw [hg]; exact Nat.ne_of_lt (zac BK145.out) : gb145 ≠ gb147)); have n7_ := za.mk ((by rw [hg]; exact Nat.ne_of_gt (zac BK145.out) : gb147 ≠ gb145)); have n8_ := za.mk ((by rw [hg]; exact Nat.ne_of_lt (zac BK146.out) : gb146 ≠ gb147)); have n9_ := za.mk ((by rw [hg]; exact Nat.ne_of_gt (zac BK146.out) : gb147 ≠ gb146)); clear BK145; clear BK146; clear HB; have BK145 := n0_; have BK146 := n1_; have HB := n2_; have BK147 := n3_; have GW147 := n4_; have GE147 := n5_; have NB145_147 := n6_; have NB147_145 := n7_; have NB146_147 := n8_; have NB147_146 := n9_; clear n0_ n1_ n2_ n3_ n4_ n5_ n6_ n7_ n8_ n9_; clear hb hbox hg; have hnb20 := NB147_145.out; have hnc20 := NB145_147.out; have hnb21 := NB147_146.out; have hnc21 := NB146_147.out; obtain ⟨hcz22_0, hcz22_1, hcz22_2, hcz22_3, hcz22_4, hcz22_5, hcz22_6, hcz22_7, hcz22_8, hcz22_9, hfz22_0, hfz22_1, hfz22_2, hfz22_3, hfz22_4, hfz22_5, hfz22_6, hfz22_7, hfz22_8, hfz22_9⟩ := cl10 BK147.out; have hnb23 := NB145_146.out; have hnc23 := NB146_145.out; obtain ⟨hcz24_0, hcz24_1, hcz24_2, hcz24_3, hcz24_4, hcz24_5, hcz24_6, hfz24_0, hfz24_1, hfz24_2, hfz24_3, hfz24_4, hfz24_5, hfz24_6⟩ := cl7 BK145.out))
    (try simp only [Act.put, List.setIfInBounds_toArray, List.set_cons_zero, List.set_cons_succ])
    go_loopg [6, 42] kj1 (fun kq v6 v42 w' => ∃ (x6_2 : ByteArray) (x42_2 : Int) (x148005_2 : List (S54)) (u148005 : Value), v6 = .string x6_2 ∧ v42 = .int .i64 x42_2 ∧ za (zb.l0 kq x6_2 l0_0 (l0_0.length : Int) x42_2 l0_0 a0_1 l0_2 l0_3 a0_4 a0_5 a0_6 (⟨#[]⟩ : ByteArray) (⟨#[]⟩ : ByteArray) (⟨#[]⟩ : ByteArray) (⟨#[]⟩ : ByteArray) false x148005_2 false false (⟨#[]⟩ : ByteArray) = some (r1, r2, r3, r4, r5, r6, r7, r8, r9, r10, r11, r12)) ∧ za (kq ≤ kj1) ∧ za (Kd.R k54 54 w' w.heap.size (fun _ => True) u148005 x148005_2) ∧ za (w'.heap[gb145]? = some (.cells #[(.slice A0_0 l0_0.length c0_0), .int .u8 a0_1, (.slice A0_2 l0_2.length c0_2), (.slice A0_3 l0_3.length c0_3), .string a0_4, .bool a0_5, .int .u16 a0_6] 26 (0, 0))) ∧ za (w'.heap[gb146]? = some (.cells #[.string ⟨#[]⟩, .string ⟨#[]⟩, .string ⟨#[]⟩, .string ⟨#[]⟩, .bool false, (.slice none 0 0), (.slice none 0 0), .bool false, .bool false, .string ⟨#[]⟩] 33 (0, 0))) ∧ za (w'.heap[gb147]? = some (.cells #[.string ⟨#[]⟩, .string ⟨#[]⟩, .string ⟨#[]⟩, .string ⟨#[]⟩, .bool false, u148005, (.slice none 0 0), .bool false, .bool false, .string ⟨#[]⟩] 33 (0, 0))) ∧ za (Below w.heap.size w w'))
    case atStart => exact ⟨((⟨#[]⟩ : ByteArray)), (0), (([] : List (S54))), (.slice none 0 0), (by rfl), (by rfl), H', ⟨Nat.le_refl _⟩, ⟨by exact Kd.R_nil _ _ _ _ _⟩, ⟨by (iterate 10 refine zmb ?_ NB145_147.out _); exact BK145.out⟩, ⟨by (iterate 10 refine zmb ?_ NB146_147.out _); exact BK146.out⟩, ⟨by exact put10 BK147.out⟩, ⟨by repeat (first | (with_reducible first | exact HB.out | apply zo | apply ze | apply zy | refine zi ?_ GE145.out | refine zi ?_ GE146.out | refine zi ?_ GE147.out) | exact HB.out)⟩⟩
    case round =>
     clear H'
     clear hcz22_0 hcz22_1 hcz22_2 hcz22_3 hcz22_4 hcz22_5 hcz22_6 hcz22_7 hcz22_8 hcz22_9 hcz24_0 hcz24_1 hcz24_2 hcz24_3 hcz24_4 hcz24_5 hcz24_6 hfz22_0 hfz22_1 hfz22_2 hfz22_3 hfz22_4 hfz22_5 hfz22_6 hfz22_7 hfz22_8 hfz22_9 hfz24_0 hfz24_1 hfz24_2 hfz24_3 hfz24_4 hfz24_5 hfz24_6
     obtain ⟨x6_2, x42_2, x148005_2, u148005, rfl, rfl, HA, HK2, HO_148005, BK145, BK146, BK147, HB⟩ := hrel
     cases gk with
     | zero => exact absurd HA.out (by simp [zb.l0])
     | succ k2 =>
      have H := HA.out
      clear HA
      simp only [zb.l0] at H
      by_cases c25 : x42_2 < (l0_0.length : Int)
      ·rw [if_pos c25] at H
       have c25b0 : decide (x42_2 < (l0_0.length : Int)) = true := decide_eq_true c25
       clear c25
       by_cases c26 : 0 ≤ x42_2
       ·rw [if_pos c26] at H
        have c26b0 : decide (0 ≤ x42_2) = true := decide_eq_true c26
        clear c26
        by_cases c27 : x42_2 < (l0_0.length : Int)
        ·rw [if_pos c27] at H
         have c27b0 : decide (x42_2 < (l0_0.length : Int)) = true := decide_eq_true c27
         clear c27
         have HC28 := za.mk H
         clear H
         have p148 : 0 ≤ (x42_2 : Int) := of_decide_eq_true (by (with_reducible assumption))
         have q148 : x42_2 < (l0_0.length : Int) := of_decide_eq_true (by (with_reducible assumption))
         obtain ⟨ad148, e148, hx148_0⟩ := Kd.at_int HR0_0.out x42_2 p148 q148
         cases e148
         replace hx148_0 := (HB.out.cell (World.block_lt_of_cell? w _ hx148_0)).trans hx148_0
         replace p148 := eq_true p148
         replace q148 := eq_true q148
         go_upto_if 48 with (fail)
         go_cut [6, 48] (fun v6 v48 wc => ∃ (kq : Nat) (x6_27 : ByteArray), v6 = .string x6_27 ∧ za (zb.j2 kq x6_27 x42_2 (rd l0_0 x42_2) l0_0 (l0_0.length : Int) x42_2 l0_0 a0_1 l0_2 l0_3 a0_4 a0_5 a0_6 (⟨#[]⟩ : ByteArray) (⟨#[]⟩ : ByteArray) (⟨#[]⟩ : ByteArray) (⟨#[]⟩ : ByteArray) false x148005_2 false false (⟨#[]⟩ : ByteArray) = some (r1, r2, r3, r4, r5, r6, r7, r8, r9, r10, r11, r12)) ∧ za (kq ≤ k2) ∧ za (Kd.R k54 54 wc w.heap.size (fun _ => True) u148005 x148005_2) ∧ za (wc.heap[gb145]? = some (.cells #[(.slice (some ad148) l0_0.length c0_0), .int .u8 a0_1, (.slice A0_2 l0_2.length c0_2), (.slice A0_3 l0_3.length c0_3), .string a0_4, .bool a0_5, .int .u16 a0_6] 26 (0, 0))) ∧ za (wc.heap[gb146]? = some (.cells #[.string ⟨#[]⟩, .string ⟨#[]⟩, .string ⟨#[]⟩, .string ⟨#[]⟩, .bool false, (.slice none 0 0), (.slice none 0 0), .bool false, .bool false, .string ⟨#[]⟩] 33 (0, 0))) ∧ za (wc.heap[gb147]? = some (.cells #[.string ⟨#[]⟩, .string ⟨#[]⟩, .string ⟨#[]⟩, .string ⟨#[]⟩, .bool false, u148005, (.slice none 0 0), .bool false, .bool false, .string ⟨#[]⟩] 33 (0, 0))) ∧ za (Below w.heap.size w wc))
         case first =>
          have H := HC28.out
          clear HC28
          by_cases c29 : x42_2 > 0
          ·rw [if_pos c29] at H
           have c29b0 : decide (0 < x42_2) = true := decide_eq_true c29
           clear c29
           (first | rw [c29b0] | (simp only [i64_w, i32_w]; rw [c29b0]) | skip)
           by_cases c30 : x6_2.size + 1 ≤ 9223372036854775807
           ·rw [if_pos c30] at H
            have c30b0 := eq_true c30
            have c30b1 : decide (x6_2.size + 1 ≤ 9223372036854775807) = true := decide_eq_true c30
            try have c30b2 : (9223372036854775807 < x6_2.size + 1) = False := eq_false (Nat.not_lt.2 c30)
            have H' := za.mk H
            clear H
            go_wp2
            go_meet
            case rel => exact ⟨_, (x6_2 ++ (⟨#[46]⟩ : ByteArray)), (by rfl), (by exact H'), ⟨by have := HJ1.out; have := HK2.out; first | omega | exact Nat.le_refl _⟩, ⟨by (with_reducible repeat (first | apply Kd.R_alloc | apply Kd.R_drewN | apply Kd.R_drew)); exact HO_148005.out⟩, ⟨by exact BK145.out⟩, ⟨by exact BK146.out⟩, ⟨by exact BK147.out⟩, ⟨by (with_reducible exact HB.out)⟩⟩
           ·rw [if_neg c30] at H
            exact absurd H (by simp)
          ·rw [if_neg c29] at H
           have c29b0 : decide (0 < x42_2) = false := decide_eq_false c29
           clear c29
           (first | rw [c29b0] | (simp only [i64_w, i32_w]; rw [c29b0]) | skip)
           have H' := za.mk H
           clear H
           go_wp2
           go_meet
           case rel => exact ⟨_, (x6_2), (by rfl), (by exact H'), ⟨by have := HJ1.out; have := HK2.out; first | omega | exact Nat.le_refl _⟩, ⟨by (with_reducible repeat (first | apply Kd.R_alloc | apply Kd.R_drewN | apply Kd.R_drew)); exact HO_148005.out⟩, ⟨by exact BK145.out⟩, ⟨by exact BK146.out⟩, ⟨by exact BK147.out⟩, ⟨by (with_reducible exact HB.out)⟩⟩
         case rest => as_aux_lemma =>
          clear HC28
          clear c25b0 c26b0 c27b0 hx148_0 p148 q148
          obtain ⟨kq, x6_27, rfl, HA, HJ27, HO_148005, BK145, BK146, BK147, HB⟩ := hcut
          cases kq with
          | zero => exact absurd HA.out (by simp [zb.j2])
          | succ kj27 =>
           have H := HA.out
           clear HA
           simp only [zb.j2] at H
           replace H := Option.bind_eq_some_iff.mp H
           obtain ⟨t149, A310, H⟩ := H
           replace H : (if x6_27.size + t149.size ≤ 9223372036854775807 then ((zfb.f kj27 (rd l0_0 x42_2)).bind fun t150 => ((zfb.f kj27 (rd l0_0 x42_2)).bind fun t151 => ((zlc.f kj27 t151).bind fun bt152 => (if x148005_2.length < 2932031007402 then (zb.l0 kj27 (x6_27 ++ t149) l0_0 (l0_0.length : Int) (wrap64 (x42_2 + 1)) l0_0 a0_1 l0_2 l0_3 a0_4 a0_5 a0_6 (⟨#[]⟩ : ByteArray) (⟨#[]⟩ : ByteArray) (⟨#[]⟩ : ByteArray) (⟨#[]⟩ : ByteArray) false (x148005_2 ++ [(⟨t150, (⟨bt152.1, bt152.2⟩ : S31), x42_2⟩ : S54)]) false false (⟨#[]⟩ : ByteArray)) else (none))))) else (none)) = some (r1, r2, r3, r4, r5, r6, r7, r8, r9, r10, r11, r12) := H
           have A31 := za.mk A310
           clear A310
           by_cases c32 : x6_27.size + t149.size ≤ 9223372036854775807
           ·rw [if_pos c32] at H
            have c32b0 := eq_true c32
            have c32b1 : decide (x6_27.size + t149.size ≤ 9223372036854775807) = true := decide_eq_true c32
            try have c32b2 : (9223372036854775807 < x6_27.size + t149.size) = False := eq_false (Nat.not_lt.2 c32)
            replace H := Option.bind_eq_some_iff.mp H
            obtain ⟨t150, A330, H⟩ := H
            replace H : ((zfb.f kj27 (rd l0_0 x42_2)).bind fun t151 => ((zlc.f kj27 t151).bind fun bt152 => (if x148005_2.length < 2932031007402 then (zb.l0 kj27 (x6_27 ++ t149) l0_0 (l0_0.length : Int) (wrap64 (x42_2 + 1)) l0_0 a0_1 l0_2 l0_3 a0_4 a0_5 a0_6 (⟨#[]⟩ : ByteArray) (⟨#[]⟩ : ByteArray) (⟨#[]⟩ : ByteArray) (⟨#[]⟩ : ByteArray) false (x148005_2 ++ [(⟨t150, (⟨bt152.1, bt152.2⟩ : S31), x42_2⟩ : S54)]) false false (⟨#[]⟩ : ByteArray)) else (none)))) = some (r1, r2, r3, r4, r5, r6, r7, r8, r9, r10, r11, r12) := H
            have A33 := za.mk A330
            clear A330
            replace H := Option.bind_eq_some_iff.mp H
            obtain ⟨t151, A340, H⟩ := H
            replace H : ((zlc.f kj27 t151).bind fun bt152 => (if x148005_2.length < 2932031007402 then (zb.l0 kj27 (x6_27 ++ t149) l0_0 (l0_0.length : Int) (wrap64 (x42_2 + 1)) l0_0 a0_1 l0_2 l0_3 a0_4 a0_5 a0_6 (⟨#[]⟩ : ByteArray) (⟨#[]⟩ : ByteArray) (⟨#[]⟩ : ByteArray) (⟨#[]⟩ : ByteArray) false (x148005_2 ++ [(⟨t150, (⟨bt152.1, bt152.2⟩ : S31), x42_2⟩ : S54)]) false false (⟨#[]⟩ : ByteArray)) else (none))) = some (r1, r2, r3, r4, r5, r6, r7, r8, r9, r10, r11, r12) := H
            have A34 := za.mk A340
            clear A340
            replace H := Option.bind_eq_some_iff.mp H
            obtain ⟨⟨t152, t153⟩, A350, H⟩ := H
            replace H : (if x148005_2.length < 2932031007402 then (zb.l0 kj27 (x6_27 ++ t149) l0_0 (l0_0.length : Int) (wrap64 (x42_2 + 1)) l0_0 a0_1 l0_2 l0_3 a0_4 a0_5 a0_6 (⟨#[]⟩ : ByteArray) (⟨#[]⟩ : ByteArray) (⟨#[]⟩ : ByteArray) (⟨#[]⟩ : ByteArray) false (x148005_2 ++ [(⟨t150, (⟨t152, t153⟩ : S31), x42_2⟩ : S54)]) false false (⟨#[]⟩ : ByteArray)) else (none)) = some (r1, r2, r3, r4, r5, r6, r7, r8, r9, r10, r11, r12) := H
            have A35 := za.mk A350
            clear A350
            by_cases c36 : x148005_2.length < 2932031007402
            ·rw [if_pos c36] at H
             have LMc36 := za.mk c36
             clear c36
             obtain ⟨y154, hy154⟩ : ∃ y_ : List (S54), y_ = (x148005_2 ++ [(⟨t150, (⟨t152, t153⟩ : S31), x42_2⟩ : S54)]) := ⟨_, rfl⟩
             replace H : (zb.l0 kj27 (x6_27 ++ t149) l0_0 (l0_0.length : Int) (wrap64 (x42_2 + 1)) l0_0 a0_1 l0_2 l0_3 a0_4 a0_5 a0_6 (⟨#[]⟩ : ByteArray) (⟨#[]⟩ : ByteArray) (⟨#[]⟩ : ByteArray) (⟨#[]⟩ : ByteArray) false y154 false false (⟨#[]⟩ : ByteArray)) = some (r1, r2, r3, r4, r5, r6, r7, r8, r9, r10, r11, r12) := by (rw [hy154]; with_reducible exact H)
             have Ny154 := za.mk hy154
             clear hy154
             have H' := za.mk H
             clear H
             try go_wp2_with (((with_reducible refine zab (f := 19) rfl ?_); refine zjc (some 53) rfl rfl Tryd.func19 (by kernel_rfl) rfl #[.int .u16 (rd l0_0 x42_2)] rfl (by (try simp only [List.map_toArray, List.map_cons, List.map_nil]); first | done | rfl | (simp only [List.length_drop, List.length_take]; rfl)) ?_; (with_reducible refine (zfb.calls kj27 (rd l0_0 x42_2) t149 _ A31.out).mono ?_); rintro e w' ⟨rfl, ⟨nd, rfl⟩⟩; refine ⟨_, rfl, ?_⟩; (try (rw [zsd wc]; generalize hq_ : World.drewN wc _ = wc; have n0_ : za (Kd.R k54 54 wc w.heap.size (fun _ => True) u148005 x148005_2) := ⟨by rw [← hq_]; exact (by (with_reducible repeat (first | apply Kd.R_alloc | apply Kd.R_drewN | apply Kd.R_drew)); exact HO_148005.out)⟩; have n1_ : za (wc.heap[gb145]? = some (.cells #[.slice (some ad148) l0_0.length c0_0, .int .u8 a0_1, .slice A0_2 l0_2.length c0_2, .slice A0_3 l0_3.length c0_3, .string a0_4, .bool a0_5, .int .u16 a0_6] 26 (0, 0))) := ⟨by rw [← hq_]; exact (by (with_reducible (refine zz ?_ _)); exact BK145.out)⟩; have n2_ : za (wc.heap[gb146]? = some (.cells #[.string ⟨#[]⟩, .string ⟨#[]⟩, .string ⟨#[]⟩, .string ⟨#[]⟩, .bool false, .slice none 0 0, .slice none 0 0, .bool false, .bool false, .string ⟨#[]⟩] 33 (0, 0))) := ⟨by rw [← hq_]; exact (by (with_reducible (refine zz ?_ _)); exact BK146.out)⟩; have n3_ : za (wc.heap[gb147]? = some (.cells #[.string ⟨#[]⟩, .string ⟨#[]⟩, .string ⟨#[]⟩, .string ⟨#[]⟩, .bool false, u148005, .slice none 0 0, .bool false, .bool false, .string ⟨#[]⟩] 33 (0, 0))) := ⟨by rw [← hq_]; exact (by (with_reducible (refine zz ?_ _)); exact BK147.out)⟩; have n4_ : za (Below w.heap.size w wc) := ⟨by rw [← hq_]; exact (by (with_reducible apply ze; with_reducible exact HB.out))⟩; clear HO_148005 BK145 BK146 BK147 HB hq_; have HO_148005 := n0_; have BK145 := n1_; have BK146 := n2_; have BK147 := n3_; have HB := n4_; clear n0_ n1_ n2_ n3_ n4_))))
             replace HO_148005 := za.mk (Kd.R_drew HO_148005.out)
             replace BK145 := za.mk (zkc BK145.out)
             replace BK146 := za.mk (zkc BK146.out)
             replace BK147 := za.mk (zkc BK147.out)
             replace HB := za.mk (zy HB.out)
             refine zsf (n := 13) (S := fun w' => w'.cell? ⟨gb147, 0, none⟩ = some (.string ⟨#[]⟩) ∧ w'.cell? ⟨gb147, 1, none⟩ = some (.string ⟨#[]⟩) ∧ w'.cell? ⟨gb147, 2, none⟩ = some (.string ⟨#[]⟩) ∧ w'.cell? ⟨gb147, 3, none⟩ = some (.string ⟨#[]⟩) ∧ w'.cell? ⟨gb147, 4, none⟩ = some (.bool false) ∧ w'.cell? ⟨gb147, 5, none⟩ = some (u148005) ∧ w'.cell? ⟨gb147, 6, none⟩ = some (.slice none 0 0) ∧ w'.cell? ⟨gb147, 7, none⟩ = some (.bool false) ∧ w'.cell? ⟨gb147, 8, none⟩ = some (.bool false) ∧ w'.cell? ⟨gb147, 9, none⟩ = some (.string ⟨#[]⟩)) (ds := [12]) #[false, false, false, false, false, false, false, false, false, false, false, false, false] (by kernel_rfl) rfl rfl ⟨(zj BK147.out 0).trans rfl, (zj BK147.out 1).trans rfl, (zj BK147.out 2).trans rfl, (zj BK147.out 3).trans rfl, (zj BK147.out 4).trans rfl, (zj BK147.out 5).trans rfl, (zj BK147.out 6).trans rfl, (zj BK147.out 7).trans rfl, (zj BK147.out 8).trans rfl, (zj BK147.out 9).trans rfl⟩ (fun hHeld => ?_); refine zhf zb.tab11 zb.bits11 (fun HT_ HW_ => ?_)
             generalize wc.drew = w37 at HO_148005 BK145 BK146 BK147 HB hHeld ⊢
             refine pure_ (i := 0) (N := some 55) (v := ?_) (a' := ?_) #[true, false, false, false, false, false, false, false, false, false, false, false, false] rfl rfl (zpb HT_.out (by kernel_rfl)) (fun _ _ _ h => h) (Or.inl ⟨by rfl, ?_⟩) ?_ ?_
             rotate_left
             ·intro w'
              go_simp
              with_reducible rfl
             rotate_left
             ·simp only [Act.put, List.setIfInBounds_toArray, List.set_cons_zero, List.set_cons_succ, i64_w, i32_w]
              rfl
             refine pure_ (i := 2) (N := some 57) (v := ?_) (a' := ?_) #[true, false, true, false, false, false, false, false, false, false, false, false, false] rfl rfl (zpb HT_.out (by kernel_rfl)) (fun _ _ _ h => h) (Or.inl ⟨by rfl, ?_⟩) ?_ ?_
             rotate_left
             ·intro w'
              go_simp
              with_reducible rfl
             rotate_left
             ·simp only [Act.put, List.setIfInBounds_toArray, List.set_cons_zero, List.set_cons_succ, i64_w, i32_w]
              rfl
             refine pure_ (i := 4) (N := some 59) (v := ?_) (a' := ?_) #[true, false, true, false, true, false, false, false, false, false, false, false, false] rfl rfl (zpb HT_.out (by kernel_rfl)) (fun _ _ _ h => h) (Or.inl ⟨by rfl, ?_⟩) ?_ ?_
             rotate_left
             ·intro w'
              go_simp
              with_reducible rfl
             rotate_left
             ·simp only [Act.put, List.setIfInBounds_toArray, List.set_cons_zero, List.set_cons_succ, i64_w, i32_w]
              rfl
             refine pure_ (i := 7) (N := some 62) (v := ?_) (a' := ?_) #[true, false, true, false, true, false, false, true, false, false, false, false, false] rfl rfl (zpb HT_.out (by kernel_rfl)) (fun _ _ _ h => h) (Or.inl ⟨by rfl, ?_⟩) ?_ ?_
             rotate_left
             ·intro w'
              go_simp
              with_reducible rfl
             rotate_left
             ·simp only [Act.put, List.setIfInBounds_toArray, List.set_cons_zero, List.set_cons_succ, i64_w, i32_w]
              rfl
             refine take_ (i := 1) (N := some 56) (v := ?_) (a' := ?_) #[true, true, true, false, true, false, false, true, false, false, false, false, false] rfl rfl (take_ofW HT_.out HW_.out (by kernel_rfl)) (fun _ _ _ h => h) (Or.inl ⟨by rfl, ?_⟩) hHeld ?_ ?_
             rotate_left
             ·rintro w' ⟨s0, s1, s2, s3, s4, s5, s6, s7, s8, s9⟩
              go_simp
              with_reducible rfl
             rotate_left
             ·simp only [Act.put, List.setIfInBounds_toArray, List.set_cons_zero, List.set_cons_succ, i64_w, i32_w]
              rfl
             refine one_ (i := 3) (N := some 58) #[true, true, true, true, true, false, false, true, false, false, false, false, false] rfl rfl (zpd HT_.out (by kernel_rfl)) (by decide) (fun K hK => ?_)
             refine goes_ Tryd.func19 (by kernel_rfl) rfl #[.int .u16 (rd l0_0 x42_2)] (by rfl) rfl rfl (by (try simp only [List.map_toArray, List.map_cons, List.map_nil]); first | done | rfl | (simp only [List.length_drop, List.length_take]; rfl)) ?_
             with_reducible refine (zfb.calls kj27 (rd l0_0 x42_2) t150 _ A33.out).mono ?_
             rintro e w' ⟨rfl, ⟨nd, rfl⟩⟩
             refine ⟨_, rfl, ?_⟩
             refine hK.out _ _ ⟨(zj BK147.out 0).trans rfl, (zj BK147.out 1).trans rfl, (zj BK147.out 2).trans rfl, (zj BK147.out 3).trans rfl, (zj BK147.out 4).trans rfl, (zj BK147.out 5).trans rfl, (zj BK147.out 6).trans rfl, (zj BK147.out 7).trans rfl, (zj BK147.out 8).trans rfl, (zj BK147.out 9).trans rfl⟩ (fun hHeld => ?_)
             clear hK K
             refine norm_ (a' := ?_) ?_ ?_
             rotate_left
             ·show Act.put _ (some 58) _ = _
              simp only [Act.put, List.setIfInBounds_toArray, List.set_cons_zero, List.set_cons_succ, i64_w, i32_w]
              rfl
             refine one_ (i := 5) (N := some 60) #[true, true, true, true, true, true, false, true, false, false, false, false, false] rfl rfl (zpd HT_.out (by kernel_rfl)) (by decide) (fun K hK => ?_)
             refine goes_ Tryd.func19 (by kernel_rfl) rfl #[.int .u16 (rd l0_0 x42_2)] (by rfl) rfl rfl (by (try simp only [List.map_toArray, List.map_cons, List.map_nil]); first | done | rfl | (simp only [List.length_drop, List.length_take]; rfl)) ?_
             with_reducible refine (zfb.calls kj27 (rd l0_0 x42_2) t151 _ A34.out).mono ?_
             rintro e w' ⟨rfl, ⟨nd, rfl⟩⟩
             refine ⟨_, rfl, ?_⟩
             refine hK.out _ _ ⟨(zj BK147.out 0).trans rfl, (zj BK147.out 1).trans rfl, (zj BK147.out 2).trans rfl, (zj BK147.out 3).trans rfl, (zj BK147.out 4).trans rfl, (zj BK147.out 5).trans rfl, (zj BK147.out 6).trans rfl, (zj BK147.out 7).trans rfl, (zj BK147.out 8).trans rfl, (zj BK147.out 9).trans rfl⟩ (fun hHeld => ?_)
             clear hK K
             refine norm_ (a' := ?_) ?_ ?_
             rotate_left
             ·show Act.put _ (some 60) _ = _
              simp only [Act.put, List.setIfInBounds_toArray, List.set_cons_zero, List.set_cons_succ, i64_w, i32_w]
              rfl
             refine one_ (i := 6) (N := some 61) #[true, true, true, true, true, true, true, true, false, false, false, false, false] rfl rfl (zpd HT_.out (by kernel_rfl)) (by decide) (fun K hK => ?_)
             refine goes_ Tryd.func23 (by kernel_rfl) rfl #[.string t151] (by rfl) rfl rfl (by (try simp only [List.map_toArray, List.map_cons, List.map_nil]); first | done | rfl | (simp only [List.length_drop, List.length_take]; rfl)) ?_
             with_reducible refine (zlc.calls kj27 t151 t152 t153 _ A35.out).mono ?_
             rintro e w38 ⟨rfl, hb⟩
             refine ⟨_, rfl, ?_⟩
             replace HO_148005 := za.mk (Kd.R_below (by (with_reducible repeat (first | apply Kd.R_alloc | apply Kd.R_drewN | apply Kd.R_drew)); exact HO_148005.out) hb)
             replace BK145 := za.mk (zk (g := gb145) (o := .cells #[.slice (some ad148) l0_0.length c0_0, .int .u8 a0_1, .slice A0_2 l0_2.length c0_2, .slice A0_3 l0_3.length c0_3, .string a0_4, .bool a0_5, .int .u16 a0_6] 26 (0, 0)) (by (with_reducible (refine zz ?_ _; refine zz ?_ _)); exact BK145.out) hb)
             replace BK146 := za.mk (zk (g := gb146) (o := .cells #[.string ⟨#[]⟩, .string ⟨#[]⟩, .string ⟨#[]⟩, .string ⟨#[]⟩, .bool false, .slice none 0 0, .slice none 0 0, .bool false, .bool false, .string ⟨#[]⟩] 33 (0, 0)) (by (with_reducible (refine zz ?_ _; refine zz ?_ _)); exact BK146.out) hb)
             replace BK147 := za.mk (zk (g := gb147) (o := .cells #[.string ⟨#[]⟩, .string ⟨#[]⟩, .string ⟨#[]⟩, .string ⟨#[]⟩, .bool false, u148005, .slice none 0 0, .bool false, .bool false, .string ⟨#[]⟩] 33 (0, 0)) (by (with_reducible (refine zz ?_ _; refine zz ?_ _)); exact BK147.out) hb)
             replace HB := za.mk (zm (by (with_reducible apply ze; with_reducible apply ze; with_reducible exact HB.out)) hb)
             (try clear hb)
             (try clear hb2)
             (try clear hk)
             (try clear hi)
             refine hK.out _ _ ⟨(zj BK147.out 0).trans rfl, (zj BK147.out 1).trans rfl, (zj BK147.out 2).trans rfl, (zj BK147.out 3).trans rfl, (zj BK147.out 4).trans rfl, (zj BK147.out 5).trans rfl, (zj BK147.out 6).trans rfl, (zj BK147.out 7).trans rfl, (zj BK147.out 8).trans rfl, (zj BK147.out 9).trans rfl⟩ (fun hHeld => ?_)
             clear hK K
             refine norm_ (a' := ?_) ?_ ?_
             rotate_left
             ·show Act.put _ (some 61) _ = _
              simp only [Act.put, List.setIfInBounds_toArray, List.set_cons_zero, List.set_cons_succ, i64_w, i32_w]
              rfl
             refine pure_ (i := 8) (N := some 63) (v := ?_) (a' := ?_) #[true, true, true, true, true, true, true, true, true, false, false, false, false] rfl rfl (zpb HT_.out (by kernel_rfl)) (fun _ _ _ h => h) (Or.inl ⟨by rfl, ?_⟩) ?_ ?_
             rotate_left
             ·intro w'
              go_simp
              with_reducible rfl
             rotate_left
             ·simp only [Act.put, List.setIfInBounds_toArray, List.set_cons_zero, List.set_cons_succ, i64_w, i32_w]
              rfl
             refine one_ (i := 9) (N := some 64) #[true, true, true, true, true, true, true, true, true, true, false, false, false] rfl rfl (zpd HT_.out (by kernel_rfl)) (by decide) (fun K hK => ?_)
             refine value_ (w1 := ?_) (v := ?_) (by rfl) rfl ?_ ?_
             rotate_left 2
             ·go_simp
              constructor
              ·rfl
              ·rfl
             refine hK.out _ _ ⟨(zj (zub BK147.out _) 0).trans rfl, (zj (zub BK147.out _) 1).trans rfl, (zj (zub BK147.out _) 2).trans rfl, (zj (zub BK147.out _) 3).trans rfl, (zj (zub BK147.out _) 4).trans rfl, (zj (zub BK147.out _) 5).trans rfl, (zj (zub BK147.out _) 6).trans rfl, (zj (zub BK147.out _) 7).trans rfl, (zj (zub BK147.out _) 8).trans rfl, (zj (zub BK147.out _) 9).trans rfl⟩ (fun hHeld => ?_)
             clear hK K
             refine norm_ (a' := ?_) ?_ ?_
             rotate_left
             ·show Act.put _ (some 64) _ = _
              simp only [Act.put, List.setIfInBounds_toArray, List.set_cons_zero, List.set_cons_succ, i64_w, i32_w]
              rfl
             refine one_ (i := 10) (N := some 65) #[true, true, true, true, true, true, true, true, true, true, true, false, false] rfl rfl (zpd HT_.out (by kernel_rfl)) (by decide) (fun K hK => ?_)
             refine Kd.R_append_step k54 (w0 := w) w.heap.size (by rfl) (.tmp 56) (.tmp 64) 28 54 (.agg #[(.string ⟨#[]⟩), (.bool false), (.string ⟨#[]⟩), (.int .i64 0)]) 48 rfl Tryd.underlying28 info54 rfl (by decide) (by omega) u148005 x148005_2 (⟨t150, (⟨t152, t153⟩ : S31), x42_2⟩ : S54) [.string t150, .bool t152, .string t153, .int .i64 x42_2] (fun _ => True) (fun _ => False) rfl rfl ?aP (fun _ hk => hk.elim) ?aF ?aO ?aB ?aS ?aL ?_
             (case aP => exact k54_mkM _ _ _ (⟨t150, (⟨t152, t153⟩ : S31), x42_2⟩ : S54))
             (case aB => exact (by (with_reducible exact HB.out)))
             (case aF => exact (fun _ _ => trivial))
             (case aO => exact (by (with_reducible repeat (first | apply Kd.R_alloc | apply Kd.R_drewN | apply Kd.R_drew)); exact HO_148005.out))
             (case aS => exact (zl (by (with_reducible exact HB.out))))
             (case aL => have := LMc36.out; omega)
             intro v155 w39 ho hb hg hat
             rw [← Ny154.out] at ho
             replace BK145 := za.mk (zoc BK145.out hg (Kd.R_ne HO_148005.out BK145.out (by decide)))
             replace BK146 := za.mk (zoc BK146.out hg (Kd.R_ne HO_148005.out BK146.out (by decide)))
             replace BK147 := za.mk (zoc BK147.out hg (Kd.R_ne HO_148005.out BK147.out (by decide)))
             have HO156 := za.mk ho
             replace HB := za.mk hb
             clear HO_148005
             clear ho hb hg hat
             obtain ⟨Ao40, co40, eo40⟩ := Kd.R_slice HO156.out
             (first | subst eo40 | (injection eo40 with f1_ f2_ f3_; have f4_ := f1_.symm; have f5_ := f3_.symm; clear f1_ f2_ f3_; subst f4_; subst f5_))
             refine hK.out _ _ ⟨(zj BK147.out 0).trans rfl, (zj BK147.out 1).trans rfl, (zj BK147.out 2).trans rfl, (zj BK147.out 3).trans rfl, (zj BK147.out 4).trans rfl, (zj BK147.out 5).trans rfl, (zj BK147.out 6).trans rfl, (zj BK147.out 7).trans rfl, (zj BK147.out 8).trans rfl, (zj BK147.out 9).trans rfl⟩ (fun hHeld => ?_)
             clear hK K
             refine norm_ (a' := ?_) ?_ ?_
             rotate_left
             ·show Act.put _ (some 65) _ = _
              simp only [Act.put, List.setIfInBounds_toArray, List.set_cons_zero, List.set_cons_succ, i64_w, i32_w]
              rfl
             refine pure_ (i := 11) (N := some 66) (v := ?_) (a' := ?_) #[true, true, true, true, true, true, true, true, true, true, true, true, false] rfl rfl (zpb HT_.out (by kernel_rfl)) (fun _ _ _ h => h) (Or.inl ⟨by rfl, ?_⟩) ?_ ?_
             rotate_left
             ·intro w'
              go_simp
              with_reducible rfl
             rotate_left
             ·simp only [Act.put, List.setIfInBounds_toArray, List.set_cons_zero, List.set_cons_succ, i64_w, i32_w]
              rfl
             refine last_ (i := 12) (N := none) #[true, true, true, true, true, true, true, true, true, true, true, true, true] rfl rfl (zpd HT_.out (by kernel_rfl)) (by decide) (fun K hK => ?_)
             have hs41 : w39.cell? ⟨gb147, 5, none⟩ = some (u148005) := (zj BK147.out 5).trans rfl
             have hfs41 := zu BK147.out 5
             have hns41_0 := NB145_147.out
             have hns41_1 := NB146_147.out
             have hms41_0 := NB147_145.out
             have hms41_1 := NB147_146.out
             refine skip_ (w1 := ?_) (by rfl) rfl ?_ ?_
             rotate_left
             ·go_simp
              rfl
             refine hK.out _ _ ?_
             clear hK K
             refine done_ (ztg HT_.out (by kernel_rfl)) ?_
             try go_wp2
             go_roundg kj27
             case measure => have := HJ1.out; have := HK2.out; have := HJ27.out; omega
             case rel => exact ⟨(x6_27 ++ t149), (wrap64 (x42_2 + 1)), (y154), (.slice Ao40 y154.length co40), (by rfl), (by rfl), (by exact H'), ⟨by have := HJ1.out; have := HK2.out; have := HJ27.out; omega⟩, ⟨by (with_reducible repeat (first | apply Kd.R_alloc | apply Kd.R_drewN | apply Kd.R_drew)); exact Kd.R_mono (farC (Kd.R_types HO156.out BK147.out (by decide))) (fun _ hk => trivial)⟩, ⟨by refine zmb ?_ NB145_147.out _; exact BK145.out⟩, ⟨by refine zmb ?_ NB146_147.out _; exact BK146.out⟩, ⟨by refine zv (cs := #[.string ⟨#[]⟩, .string ⟨#[]⟩, .string ⟨#[]⟩, .string ⟨#[]⟩, .bool false, u148005, .slice none 0 0, .bool false, .bool false, .string ⟨#[]⟩]) ?_ 5 _ rfl; exact BK147.out⟩, ⟨by (with_reducible refine zi ?_ GE147.out; with_reducible exact HB.out)⟩⟩
            ·rw [if_neg c36] at H
             exact absurd H (by simp)
           ·rw [if_neg c32] at H
            exact absurd H (by simp)
        ·rw [if_neg c27] at H
         exact absurd H (by simp)
       ·rw [if_neg c26] at H
        exact absurd H (by simp)
      ·rw [if_neg c25] at H
       have c25b0 : decide (x42_2 < (l0_0.length : Int)) = false := decide_eq_false c25
       clear c25
       have HC42 := za.mk H
       clear H
       have hnb43 := NB145_146.out
       have hnc43 := NB146_145.out
       have hnb44 := NB145_147.out
       have hnc44 := NB147_145.out
       obtain ⟨hcz45_0, hcz45_1, hcz45_2, hcz45_3, hcz45_4, hcz45_5, hcz45_6, hfz45_0, hfz45_1, hfz45_2, hfz45_3, hfz45_4, hfz45_5, hfz45_6⟩ := cl7 BK145.out
       go_upto_if 72 with (fail)
       go_cut [6, 72] (fun v6 v72 wc => ∃ (kq : Nat) (x6_41 : ByteArray) (x148002_41 : ByteArray), v6 = .string x6_41 ∧ za (zb.j3 kq x6_41 l0_0 a0_1 l0_2 l0_3 a0_4 a0_5 a0_6 (⟨#[]⟩ : ByteArray) (⟨#[]⟩ : ByteArray) x148002_41 (⟨#[]⟩ : ByteArray) false x148005_2 false false (⟨#[]⟩ : ByteArray) = some (r1, r2, r3, r4, r5, r6, r7, r8, r9, r10, r11, r12)) ∧ za (kq ≤ k2) ∧ za (Kd.R k54 54 wc w.heap.size (fun _ => True) u148005 x148005_2) ∧ za (wc.heap[gb145]? = some (.cells #[(.slice A0_0 l0_0.length c0_0), .int .u8 a0_1, (.slice A0_2 l0_2.length c0_2), (.slice A0_3 l0_3.length c0_3), .string a0_4, .bool a0_5, .int .u16 a0_6] 26 (0, 0))) ∧ za (wc.heap[gb146]? = some (.cells #[.string ⟨#[]⟩, .string ⟨#[]⟩, .string ⟨#[]⟩, .string ⟨#[]⟩, .bool false, (.slice none 0 0), (.slice none 0 0), .bool false, .bool false, .string ⟨#[]⟩] 33 (0, 0))) ∧ za (wc.heap[gb147]? = some (.cells #[.string ⟨#[]⟩, .string ⟨#[]⟩, .string x148002_41, .string ⟨#[]⟩, .bool false, u148005, (.slice none 0 0), .bool false, .bool false, .string ⟨#[]⟩] 33 (0, 0))) ∧ za (Below w.heap.size w wc))
       case first =>
        have H := HC42.out
        clear HC42
        by_cases c46 : (Int.tmod a0_1 27) > 0
        ·rw [if_pos c46] at H
         have c46b0 : decide (0 < (Int.tmod a0_1 27)) = true := decide_eq_true c46
         clear c46
         (first | rw [c46b0] | (simp only [i64_w, i32_w]; rw [c46b0]) | skip)
         by_cases c47 : x6_2.size + (Utf8.encode ((97 + (Int.tmod a0_1 27) - 1) % 256)).size ≤ 9223372036854775807
         ·rw [if_pos c47] at H
          have c47b0 := eq_true c47
          have c47b1 : decide (x6_2.size + (Utf8.encode ((97 + (Int.tmod a0_1 27) - 1) % 256)).size ≤ 9223372036854775807) = true := decide_eq_true c47
          try have c47b2 : (9223372036854775807 < x6_2.size + (Utf8.encode ((97 + (Int.tmod a0_1 27) - 1) % 256)).size) = False := eq_false (Nat.not_lt.2 c47)
          have H' := za.mk H
          clear H
          have hcv48 := fun (W_ : World) => run_convert_int_string (P := Tryd.prog) W_ 21 9 .i32 ((97 + (Int.tmod a0_1 27) - 1) % 256) (by rw [Tryd.underlying21]; rfl) Tryd.underlying9
          have hnb49 := NB147_145.out
          have hnc49 := NB145_147.out
          have hnb50 := NB147_146.out
          have hnc50 := NB146_147.out
          obtain ⟨hcz51_0, hcz51_1, hcz51_2, hcz51_3, hcz51_4, hcz51_5, hcz51_6, hcz51_7, hcz51_8, hcz51_9, hfz51_0, hfz51_1, hfz51_2, hfz51_3, hfz51_4, hfz51_5, hfz51_6, hfz51_7, hfz51_8, hfz51_9⟩ := cl10 BK147.out
          go_wp2
          go_meet
          case rel => exact ⟨_, (x6_2 ++ (Utf8.encode ((97 + (Int.tmod a0_1 27) - 1) % 256))), (Utf8.encode ((97 + (Int.tmod a0_1 27) - 1) % 256)), (by rfl), (by exact H'), ⟨by have := HJ1.out; have := HK2.out; first | omega | exact Nat.le_refl _⟩, ⟨by (with_reducible repeat (first | apply Kd.R_alloc | apply Kd.R_drewN | apply Kd.R_drew)); exact Kd.R_mono (farC (Kd.R_types HO_148005.out BK147.out (by decide))) (fun _ hk => trivial)⟩, ⟨by refine zmb ?_ NB145_147.out _; exact BK145.out⟩, ⟨by refine zmb ?_ NB146_147.out _; exact BK146.out⟩, ⟨by refine zv (cs := #[.string ⟨#[]⟩, .string ⟨#[]⟩, .string ⟨#[]⟩, .string ⟨#[]⟩, .bool false, u148005, .slice none 0 0, .bool false, .bool false, .string ⟨#[]⟩]) ?_ 2 _ rfl; exact BK147.out⟩, ⟨by (with_reducible refine zi ?_ GE147.out; with_reducible exact HB.out)⟩⟩
         ·rw [if_neg c47] at H
          exact absurd H (by simp)
        ·rw [if_neg c46] at H
         have c46b0 : decide (0 < (Int.tmod a0_1 27)) = false := decide_eq_false c46
         clear c46
         (first | rw [c46b0] | (simp only [i64_w, i32_w]; rw [c46b0]) | skip)
         have H' := za.mk H
         clear H
         go_wp2
         go_meet
         case rel => exact ⟨_, (x6_2), ((⟨#[]⟩ : ByteArray)), (by rfl), (by exact H'), ⟨by have := HJ1.out; have := HK2.out; first | omega | exact Nat.le_refl _⟩, ⟨by (with_reducible repeat (first | apply Kd.R_alloc | apply Kd.R_drewN | apply Kd.R_drew)); exact HO_148005.out⟩, ⟨by exact BK145.out⟩, ⟨by exact BK146.out⟩, ⟨by exact BK147.out⟩, ⟨by (with_reducible exact HB.out)⟩⟩
       case rest =>
        clear HC42
        clear c25b0 hcz45_0 hcz45_1 hcz45_2 hcz45_3 hcz45_4 hcz45_5 hcz45_6 hfz45_0 hfz45_1 hfz45_2 hfz45_3 hfz45_4 hfz45_5 hfz45_6
        obtain ⟨kq, x6_41, x148002_41, rfl, HA, HJ41, HO_148005, BK145, BK146, BK147, HB⟩ := hcut
        cases kq with
        | zero => exact absurd HA.out (by simp [zb.j3])
        | succ kj41 =>
         have H := HA.out
         clear HA
         simp only [zb.j3] at H
         have H' := za.mk H
         clear H
         have hnb52 := NB145_146.out
         have hnc52 := NB146_145.out
         have hnb53 := NB145_147.out
         have hnc53 := NB147_145.out
         obtain ⟨hcz54_0, hcz54_1, hcz54_2, hcz54_3, hcz54_4, hcz54_5, hcz54_6, hfz54_0, hfz54_1, hfz54_2, hfz54_3, hfz54_4, hfz54_5, hfz54_6⟩ := cl7 BK145.out
         go_wp2
         (try simp only [Act.put, List.setIfInBounds_toArray, List.set_cons_zero, List.set_cons_succ])
         go_loopg [6, 86] kj41 (fun kq v6 v86 w' => ∃ (x6_4 : ByteArray) (x86_4 : Int) (x148006_4 : List (S58)) (u148006 : Value), v6 = .string x6_4 ∧ v86 = .int .i64 x86_4 ∧ za (zb.l1 kq x6_4 l0_2 (l0_2.length : Int) x86_4 l0_0 a0_1 l0_2 l0_3 a0_4 a0_5 a0_6 (⟨#[]⟩ : ByteArray) (⟨#[]⟩ : ByteArray) x148002_41 (⟨#[]⟩ : ByteArray) false x148005_2 x148006_4 false false (⟨#[]⟩ : ByteArray) = some (r1, r2, r3, r4, r5, r6, r7, r8, r9, r10, r11, r12)) ∧ za (kq ≤ kj41) ∧ za (Kd.R k54 54 w' w.heap.size (fun _ => True) u148005 x148005_2) ∧ za (Kd.R k58 58 w' w.heap.size (fun _ => True) u148006 x148006_4) ∧ za (w'.heap[gb145]? = some (.cells #[(.slice A0_0 l0_0.length c0_0), .int .u8 a0_1, (.slice A0_2 l0_2.length c0_2), (.slice A0_3 l0_3.length c0_3), .string a0_4, .bool a0_5, .int .u16 a0_6] 26 (0, 0))) ∧ za (w'.heap[gb146]? = some (.cells #[.string ⟨#[]⟩, .string ⟨#[]⟩, .string ⟨#[]⟩, .string ⟨#[]⟩, .bool false, (.slice none 0 0), (.slice none 0 0), .bool false, .bool false, .string ⟨#[]⟩] 33 (0, 0))) ∧ za (w'.heap[gb147]? = some (.cells #[.string ⟨#[]⟩, .string ⟨#[]⟩, .string x148002_41, .string ⟨#[]⟩, .bool false, u148005, u148006, .bool false, .bool false, .string ⟨#[]⟩] 33 (0, 0))) ∧ za (Below w.heap.size w w'))
         case atStart => exact ⟨(x6_41), (0), (([] : List (S58))), (.slice none 0 0), (by rfl), (by rfl), H', ⟨Nat.le_refl _⟩, ⟨by (with_reducible repeat (first | apply Kd.R_alloc | apply Kd.R_drewN | apply Kd.R_drew)); exact HO_148005.out⟩, ⟨by exact Kd.R_nil _ _ _ _ _⟩, ⟨by exact BK145.out⟩, ⟨by exact BK146.out⟩, ⟨by exact BK147.out⟩, ⟨by (with_reducible exact HB.out)⟩⟩
         case round =>
          clear H'
          clear hcz54_0 hcz54_1 hcz54_2 hcz54_3 hcz54_4 hcz54_5 hcz54_6 hfz54_0 hfz54_1 hfz54_2 hfz54_3 hfz54_4 hfz54_5 hfz54_6
          obtain ⟨x6_4, x86_4, x148006_4, u148006, rfl, rfl, HA, HK4, HO_148005, HO_148006, BK145, BK146, BK147, HB⟩ := hrel
          cases gk with
          | zero => exact absurd HA.out (by simp [zb.l1])
          | succ k4 =>
           have H := HA.out
           clear HA
           simp only [zb.l1] at H
           by_cases c55 : x86_4 < (l0_2.length : Int)
           ·rw [if_pos c55] at H
            have c55b0 : decide (x86_4 < (l0_2.length : Int)) = true := decide_eq_true c55
            clear c55
            by_cases c56 : 0 ≤ x86_4
            ·rw [if_pos c56] at H
             have c56b0 : decide (0 ≤ x86_4) = true := decide_eq_true c56
             clear c56
             by_cases c57 : x86_4 < (l0_2.length : Int)
             ·rw [if_pos c57] at H
              have c57b0 : decide (x86_4 < (l0_2.length : Int)) = true := decide_eq_true c57
              clear c57
              replace H := Option.bind_eq_some_iff.mp H
              obtain ⟨t158, A580, H⟩ := H
              replace H : (if 0 ≤ (Int.tmod (rd l0_2 x86_4) 9) then (if (Int.tmod (rd l0_2 x86_4) 9) < (t158.length : Int) then ((zbe.f).bind fun t163 => (if (Int.tmod (rd l0_2 x86_4) 9) < (t163.length : Int) then (if 1 + (rdOf ByteArray.empty t163 (Int.tmod (rd l0_2 x86_4) 9)).size ≤ 9223372036854775807 then (if x6_4.size + ((⟨#[95]⟩ : ByteArray) ++ (rdOf ByteArray.empty t163 (Int.tmod (rd l0_2 x86_4) 9))).size ≤ 9223372036854775807 then (if x86_4 < (l0_3.length : Int) then (zb.j5 k4 (x6_4 ++ ((⟨#[95]⟩ : ByteArray) ++ (rdOf ByteArray.empty t163 (Int.tmod (rd l0_2 x86_4) 9)))) x86_4 l0_2 (l0_2.length : Int) x86_4 (decide ((rd l0_3 x86_4) > 0)) l0_0 a0_1 l0_2 l0_3 a0_4 a0_5 a0_6 (⟨#[]⟩ : ByteArray) (⟨#[]⟩ : ByteArray) x148002_41 (⟨#[]⟩ : ByteArray) false x148005_2 x148006_4 false false (⟨#[]⟩ : ByteArray) (rd t158 (Int.tmod (rd l0_2 x86_4) 9)) false (⟨#[]⟩ : ByteArray)) else (zb.j5 k4 (x6_4 ++ ((⟨#[95]⟩ : ByteArray) ++ (rdOf ByteArray.empty t163 (Int.tmod (rd l0_2 x86_4) 9)))) x86_4 l0_2 (l0_2.length : Int) x86_4 false l0_0 a0_1 l0_2 l0_3 a0_4 a0_5 a0_6 (⟨#[]⟩ : ByteArray) (⟨#[]⟩ : ByteArray) x148002_41 (⟨#[]⟩ : ByteArray) false x148005_2 x148006_4 false false (⟨#[]⟩ : ByteArray) (rd t158 (Int.tmod (rd l0_2 x86_4) 9)) false (⟨#[]⟩ : ByteArray))) else (none)) else (none)) else (none))) else (none)) else (none)) = some (r1, r2, r3, r4, r5, r6, r7, r8, r9, r10, r11, r12) := H
              have A58 := za.mk A580
              clear A580
              obtain ⟨ji59, hji59⟩ : ∃ j_ : Int, (Int.tmod (rd l0_2 x86_4) 9) = j_ := ⟨_, rfl⟩
              replace H : (if 0 ≤ (ji59) then (if (ji59) < (t158.length : Int) then ((zbe.f).bind fun t163 => (if (ji59) < (t163.length : Int) then (if 1 + (rdOf ByteArray.empty t163 (ji59)).size ≤ 9223372036854775807 then (if x6_4.size + ((⟨#[95]⟩ : ByteArray) ++ (rdOf ByteArray.empty t163 (ji59))).size ≤ 9223372036854775807 then (if x86_4 < (l0_3.length : Int) then (zb.j5 k4 (x6_4 ++ ((⟨#[95]⟩ : ByteArray) ++ (rdOf ByteArray.empty t163 (ji59)))) x86_4 l0_2 (l0_2.length : Int) x86_4 (decide ((rd l0_3 x86_4) > 0)) l0_0 a0_1 l0_2 l0_3 a0_4 a0_5 a0_6 (⟨#[]⟩ : ByteArray) (⟨#[]⟩ : ByteArray) x148002_41 (⟨#[]⟩ : ByteArray) false x148005_2 x148006_4 false false (⟨#[]⟩ : ByteArray) (rd t158 (ji59)) false (⟨#[]⟩ : ByteArray)) else (zb.j5 k4 (x6_4 ++ ((⟨#[95]⟩ : ByteArray) ++ (rdOf ByteArray.empty t163 (ji59)))) x86_4 l0_2 (l0_2.length : Int) x86_4 false l0_0 a0_1 l0_2 l0_3 a0_4 a0_5 a0_6 (⟨#[]⟩ : ByteArray) (⟨#[]⟩ : ByteArray) x148002_41 (⟨#[]⟩ : ByteArray) false x148005_2 x148006_4 false false (⟨#[]⟩ : ByteArray) (rd t158 (ji59)) false (⟨#[]⟩ : ByteArray))) else (none)) else (none)) else (none))) else (none)) else (none)) = some (r1, r2, r3, r4, r5, r6, r7, r8, r9, r10, r11, r12) := by (rw [hji59] at H; exact H)
              (try rw [hji59] at A58)
              by_cases c60 : 0 ≤ (ji59)
              ·rw [if_pos c60] at H
               have c60b0 : decide (0 ≤ (ji59)) = true := decide_eq_true c60
               clear c60
               by_cases c61 : (ji59) < (t158.length : Int)
               ·rw [if_pos c61] at H
                have c61b0 : decide ((ji59) < (t158.length : Int)) = true := decide_eq_true c61
                clear c61
                replace H := Option.bind_eq_some_iff.mp H
                obtain ⟨t163, A620, H⟩ := H
                replace H : (if (ji59) < (t163.length : Int) then (if 1 + (rdOf ByteArray.empty t163 (ji59)).size ≤ 9223372036854775807 then (if x6_4.size + ((⟨#[95]⟩ : ByteArray) ++ (rdOf ByteArray.empty t163 (ji59))).size ≤ 9223372036854775807 then (if x86_4 < (l0_3.length : Int) then (zb.j5 k4 (x6_4 ++ ((⟨#[95]⟩ : ByteArray) ++ (rdOf ByteArray.empty t163 (ji59)))) x86_4 l0_2 (l0_2.length : Int) x86_4 (decide ((rd l0_3 x86_4) > 0)) l0_0 a0_1 l0_2 l0_3 a0_4 a0_5 a0_6 (⟨#[]⟩ : ByteArray) (⟨#[]⟩ : ByteArray) x148002_41 (⟨#[]⟩ : ByteArray) false x148005_2 x148006_4 false false (⟨#[]⟩ : ByteArray) (rd t158 (ji59)) false (⟨#[]⟩ : ByteArray)) else (zb.j5 k4 (x6_4 ++ ((⟨#[95]⟩ : ByteArray) ++ (rdOf ByteArray.empty t163 (ji59)))) x86_4 l0_2 (l0_2.length : Int) x86_4 false l0_0 a0_1 l0_2 l0_3 a0_4 a0_5 a0_6 (⟨#[]⟩ : ByteArray) (⟨#[]⟩ : ByteArray) x148002_41 (⟨#[]⟩ : ByteArray) false x148005_2 x148006_4 false false (⟨#[]⟩ : ByteArray) (rd t158 (ji59)) false (⟨#[]⟩ : ByteArray))) else (none)) else (none)) else (none)) = some (r1, r2, r3, r4, r5, r6, r7, r8, r9, r10, r11, r12) := H
                have A62 := za.mk A620
                clear A620
                by_cases c63 : (ji59) < (t163.length : Int)
                ·rw [if_pos c63] at H
                 have c63b0 : decide ((ji59) < (t163.length : Int)) = true := decide_eq_true c63
                 clear c63
                 by_cases c64 : 1 + (rdOf ByteArray.empty t163 (ji59)).size ≤ 9223372036854775807
                 ·rw [if_pos c64] at H
                  have c64b0 := eq_true c64
                  have c64b1 : decide (1 + (rdOf ByteArray.empty t163 (ji59)).size ≤ 9223372036854775807) = true := decide_eq_true c64
                  try have c64b2 : (9223372036854775807 < 1 + (rdOf ByteArray.empty t163 (ji59)).size) = False := eq_false (Nat.not_lt.2 c64)
                  by_cases c65 : x6_4.size + ((⟨#[95]⟩ : ByteArray) ++ (rdOf ByteArray.empty t163 (ji59))).size ≤ 9223372036854775807
                  ·rw [if_pos c65] at H
                   have c65b0 := eq_true c65
                   have c65b1 : decide (x6_4.size + ((⟨#[95]⟩ : ByteArray) ++ (rdOf ByteArray.empty t163 (ji59))).size ≤ 9223372036854775807) = true := decide_eq_true c65
                   try have c65b2 : (9223372036854775807 < x6_4.size + ((⟨#[95]⟩ : ByteArray) ++ (rdOf ByteArray.empty t163 (ji59))).size) = False := eq_false (Nat.not_lt.2 c65)
                   try have c65b3 : (9223372036854775807 < x6_4.size + (1 + (rdOf ByteArray.empty t163 (ji59)).size)) = False := eq_false (by have h_ := c65; simp only [ByteArray.size_append] at h_; have e0_ : (⟨#[95]⟩ : ByteArray).size = 1 := rfl; omega)
                   try have c65b4 : (x6_4.size + (1 + (rdOf ByteArray.empty t163 (ji59)).size) ≤ 9223372036854775807) = True := eq_true (by have h_ := c65; simp only [ByteArray.size_append] at h_; have e0_ : (⟨#[95]⟩ : ByteArray).size = 1 := rfl; omega)
                   have HC66 := za.mk H
                   clear H
                   have p157 : 0 ≤ (x86_4 : Int) := of_decide_eq_true (by (with_reducible assumption))
                   have q157 : x86_4 < (l0_2.length : Int) := of_decide_eq_true (by (with_reducible assumption))
                   obtain ⟨ad157, e157, hx157_0⟩ := Kd.at_int HR0_2.out x86_4 p157 q157
                   cases e157
                   replace hx157_0 := (HB.out.cell (World.block_lt_of_cell? w _ hx157_0)).trans hx157_0
                   replace p157 := eq_true p157
                   replace q157 := eq_true q157
                   go_upto_region 22 with (first | ((with_reducible refine zab (f := 24) rfl ?_); refine zjc (some 91) rfl rfl Tryd.func24 (by kernel_rfl) rfl #[] rfl (by (try simp only [List.map_toArray, List.map_cons, List.map_nil]); first | done | rfl | (simp only [List.length_drop, List.length_take]; rfl)) ?_; (with_reducible refine (zuf.calls  t158 _ A58.out).mono ?_); rintro e w67 ⟨v159, rfl, ho0, hb⟩; refine ⟨_, rfl, ?_⟩; replace HO_148005 := za.mk (Kd.R_below (by (with_reducible repeat (first | apply Kd.R_alloc | apply Kd.R_drewN | apply Kd.R_drew)); exact HO_148005.out) hb); replace HO_148006 := za.mk (Kd.R_below (by (with_reducible repeat (first | apply Kd.R_alloc | apply Kd.R_drewN | apply Kd.R_drew)); exact HO_148006.out) hb); have HO160 := za.mk (Kd.R_lower ho0 (zl (by (with_reducible exact HB.out)))); replace BK145 := za.mk (zk BK145.out hb); replace BK146 := za.mk (zk BK146.out hb); replace BK147 := za.mk (zk BK147.out hb); replace HB := za.mk (zm (by (with_reducible exact HB.out)) hb); (try clear hb); (try clear hb2); (try clear hk); (try clear hi); (try clear ho0); obtain ⟨Ao68, co68, eo68⟩ := Kd.R_slice HO160.out; subst eo68; have p161 : 0 ≤ ((ji59) : Int) := of_decide_eq_true (by (with_reducible assumption)); have q161 : (ji59) < (t158.length : Int) := of_decide_eq_true (by (with_reducible assumption)); obtain ⟨ad161, e161, hx161_0⟩ := Kd.at_int (Kd.R_reads' HO160.out).2.2 (ji59) p161 q161; cases e161; replace p161 := eq_true p161; replace q161 := eq_true q161) | ((with_reducible refine zjb (N := 12) rfl ?_); (try (refine zyb (by rfl) ?_; dsimp only)); refine zec ?hg (N := 12) ?hd (cs := #[.int .i64 0, .bool false, .string ⟨#[]⟩]) (t := 58) ?hr ?_; (case hd => rfl); (case hg => rfl); (case hr => first | (go_simp; done) | (go_simp; rfl)); intro gb162 hg w69 hbox hb; have n0_ := za.mk (Kd.R_below (by (with_reducible repeat (first | apply Kd.R_alloc | apply Kd.R_drewN | apply Kd.R_drew)); exact HO_148005.out) hb); have n1_ := za.mk (Kd.R_below (Kd.R_elderB (by (with_reducible repeat (first | apply Kd.R_alloc | apply Kd.R_drewN | apply Kd.R_drew)); exact HO_148006.out) gb162 (Nat.le_of_eq hg.symm)) hb); have n2_ := za.mk (Kd.R_below (by (with_reducible repeat (first | apply Kd.R_alloc | apply Kd.R_drewN | apply Kd.R_drew)); exact HO160.out) hb); have n3_ := za.mk (zk BK145.out hb); have n4_ := za.mk (zk BK146.out hb); have n5_ := za.mk (zk BK147.out hb); have n6_ := za.mk (zm (by (with_reducible exact HB.out)) hb); have n7_ := za.mk hbox; have n8_ := za.mk ((by rw [hg]; exact (zl (by (with_reducible exact HB.out))) : w.heap.size ≤ gb162)); have n9_ := za.mk ((by rw [hg]; exact (zl (by (with_reducible exact HB.out))) : w.heap.size ≤ gb162)); have n10_ := za.mk ((by rw [hg]; exact Nat.ne_of_lt (zac BK145.out) : gb145 ≠ gb162)); have n11_ := za.mk ((by rw [hg]; exact Nat.ne_of_gt (zac BK145.out) : gb162 ≠ gb145)); have n12_ := za.mk ((by rw [hg]; exact Nat.ne_of_lt (zac BK146.out) : gb146 ≠ gb162)); have n13_ := za.mk ((by rw [hg]; exact Nat.ne_of_gt (zac BK146.out) : gb162 ≠ gb146)); have n14_ := za.mk ((by rw [hg]; exact Nat.ne_of_lt (zac BK147.out) : gb147 ≠ gb162)); have n15_ := za.mk ((by rw [hg]; exact Nat.ne_of_gt (zac BK147.out) : gb162 ≠ gb147)); clear HO_148005; clear HO_148006; clear HO160; clear BK145; clear BK146; clear BK147; clear HB; have HO_148005 := n0_; have HO_148006 := n1_; have HO160 := n2_; have BK145 := n3_; have BK146 := n4_; have BK147 := n5_; have HB := n6_; have BK162 := n7_; have GW162 := n8_; have GE162 := n9_; have NB145_162 := n10_; have NB162_145 := n11_; have NB146_162 := n12_; have NB162_146 := n13_; have NB147_162 := n14_; have NB162_147 := n15_; clear n0_ n1_ n2_ n3_ n4_ n5_ n6_ n7_ n8_ n9_ n10_ n11_ n12_ n13_ n14_ n15_; clear hb hbox hg; have hnb70 := NB162_145.out; have hnc70 := NB145_162.out; have hnb71 := NB162_146.out; have hnc71 := NB146_162.out; have hnb72 := NB162_147.out; have hnc72 := NB147_162.out; obtain ⟨hcz73_0, hcz73_1, hcz73_2, hfz73_0, hfz73_1, hfz73_2⟩ := cl3 BK162.out) | ((with_reducible refine zab (f := 17) rfl ?_); refine zjc (some 98) rfl rfl Tryd.func17 (by kernel_rfl) rfl #[] rfl (by (try simp only [List.map_toArray, List.map_cons, List.map_nil]); first | done | rfl | (simp only [List.length_drop, List.length_take]; rfl)) ?_; (with_reducible refine (zbe.calls  t163 _ A62.out).mono ?_); rintro e w74 ⟨v164, rfl, ho0, hb⟩; refine ⟨_, rfl, ?_⟩; replace HO_148005 := za.mk (Kd.R_below (by (with_reducible repeat (first | apply Kd.R_alloc | apply Kd.R_drewN | apply Kd.R_drew)); exact (Kd.R_mono (farC (farC (farC (Kd.R_types HO_148005.out BK162.out (by decide))))) (fun _ h_ => h_.1))) hb); replace HO_148006 := za.mk (Kd.R_below (by (with_reducible repeat (first | apply Kd.R_alloc | apply Kd.R_drewN | apply Kd.R_drew)); exact (Kd.R_mono (farC (farC (farC (Kd.R_mono HO_148006.out (fun k_ hk => (⟨hk, hk.2⟩ : _ ∧ k_ ≠ gb162)))))) (fun _ h_ => h_.1))) hb); replace HO160 := za.mk (Kd.R_below (by (with_reducible repeat (first | apply Kd.R_alloc | apply Kd.R_drewN | apply Kd.R_drew)); exact (Kd.R_mono (farC (farC (farC (Kd.R_types HO160.out BK162.out (by decide))))) (fun _ h_ => h_.1))) hb); have HO165 := za.mk (Kd.R_lower ho0 (zl (by (with_reducible refine zi ?_ GE162.out; with_reducible refine zi ?_ GE162.out; with_reducible refine zi ?_ GE162.out; with_reducible exact HB.out)))); replace BK145 := za.mk (zk (g := gb145) (o := .cells #[.slice A0_0 l0_0.length c0_0, .int .u8 a0_1, .slice (some ad157) l0_2.length c0_2, .slice A0_3 l0_3.length c0_3, .string a0_4, .bool a0_5, .int .u16 a0_6] 26 (0, 0)) (by (iterate 3 refine zmb ?_ NB145_162.out _); exact BK145.out) hb); replace BK146 := za.mk (zk (g := gb146) (o := .cells #[.string ⟨#[]⟩, .string ⟨#[]⟩, .string ⟨#[]⟩, .string ⟨#[]⟩, .bool false, .slice none 0 0, .slice none 0 0, .bool false, .bool false, .string ⟨#[]⟩] 33 (0, 0)) (by (iterate 3 refine zmb ?_ NB146_162.out _); exact BK146.out) hb); replace BK147 := za.mk (zk (g := gb147) (o := .cells #[.string ⟨#[]⟩, .string ⟨#[]⟩, .string x148002_41, .string ⟨#[]⟩, .bool false, u148005, u148006, .bool false, .bool false, .string ⟨#[]⟩] 33 (0, 0)) (by (iterate 3 refine zmb ?_ NB147_162.out _); exact BK147.out) hb); replace BK162 := za.mk (zk (g := gb162) (o := .cells #[.int .i64 (rd t158 (ji59)), .bool false, .string ⟨#[]⟩] 58 (0, 0)) (by exact put3 BK162.out) hb); replace HB := za.mk (zm (by (with_reducible refine zi ?_ GE162.out; with_reducible refine zi ?_ GE162.out; with_reducible refine zi ?_ GE162.out; with_reducible exact HB.out)) hb); (try clear hb); (try clear hb2); (try clear hk); (try clear hi); (try clear ho0); obtain ⟨Ao75, co75, eo75⟩ := Kd.R_slice HO165.out; subst eo75; have p166 : 0 ≤ ((ji59) : Int) := of_decide_eq_true (by (with_reducible assumption)); have q166 : (ji59) < (t163.length : Int) := of_decide_eq_true (by (with_reducible assumption)); obtain ⟨ad166, e166, hx166_0⟩ := Kd.at_string (Kd.R_reads' HO165.out).2.2 (ji59) p166 q166; cases e166; replace p166 := eq_true p166; replace q166 := eq_true q166))
                   (try simp only [Act.put, List.setIfInBounds_toArray, List.set_cons_zero, List.set_cons_succ])
                   go_cut [117] (fun v117 wc => ∃ (kq : Nat) (x117_65 : Bool), v117 = .bool x117_65 ∧ za (zb.j5 kq (x6_4 ++ ((⟨#[95]⟩ : ByteArray) ++ (rdOf ByteArray.empty t163 (ji59)))) x86_4 l0_2 (l0_2.length : Int) x86_4 x117_65 l0_0 a0_1 l0_2 l0_3 a0_4 a0_5 a0_6 (⟨#[]⟩ : ByteArray) (⟨#[]⟩ : ByteArray) x148002_41 (⟨#[]⟩ : ByteArray) false x148005_2 x148006_4 false false (⟨#[]⟩ : ByteArray) (rd t158 (ji59)) false (⟨#[]⟩ : ByteArray) = some (r1, r2, r3, r4, r5, r6, r7, r8, r9, r10, r11, r12)) ∧ za (kq ≤ k4) ∧ za (Kd.R k54 54 wc w.heap.size (fun _ => True) u148005 x148005_2) ∧ za (Kd.R k58 58 wc w.heap.size (fun k_ => k_ ≠ gb162) u148006 x148006_4) ∧ za (wc.heap[gb145]? = some (.cells #[(.slice A0_0 l0_0.length c0_0), .int .u8 a0_1, (.slice (some ad157) l0_2.length c0_2), (.slice A0_3 l0_3.length c0_3), .string a0_4, .bool a0_5, .int .u16 a0_6] 26 (0, 0))) ∧ za (wc.heap[gb146]? = some (.cells #[.string ⟨#[]⟩, .string ⟨#[]⟩, .string ⟨#[]⟩, .string ⟨#[]⟩, .bool false, (.slice none 0 0), (.slice none 0 0), .bool false, .bool false, .string ⟨#[]⟩] 33 (0, 0))) ∧ za (wc.heap[gb147]? = some (.cells #[.string ⟨#[]⟩, .string ⟨#[]⟩, .string x148002_41, .string ⟨#[]⟩, .bool false, u148005, u148006, .bool false, .bool false, .string ⟨#[]⟩] 33 (0, 0))) ∧ za (wc.heap[gb162]? = some (.cells #[.int .i64 (rd t158 (ji59)), .bool false, .string ⟨#[]⟩] 58 (0, 0))) ∧ za (Below w.heap.size w wc))
                   case first =>
                    have H := HC66.out
                    clear HC66
                    by_cases c76 : x86_4 < (l0_3.length : Int)
                    ·rw [if_pos c76] at H
                     have c76b0 : decide (x86_4 < (l0_3.length : Int)) = true := decide_eq_true c76
                     clear c76
                     (first | rw [c76b0] | (simp only [i64_w, i32_w]; rw [c76b0]) | skip)
                     have H' := za.mk H
                     clear H
                     have hnb77 := NB145_146.out
                     have hnc77 := NB146_145.out
                     have hnb78 := NB145_147.out
                     have hnc78 := NB147_145.out
                     have hnb79 := NB145_162.out
                     have hnc79 := NB162_145.out
                     obtain ⟨hcz80_0, hcz80_1, hcz80_2, hcz80_3, hcz80_4, hcz80_5, hcz80_6, hfz80_0, hfz80_1, hfz80_2, hfz80_3, hfz80_4, hfz80_5, hfz80_6⟩ := cl7 BK145.out
                     have p167 : 0 ≤ (x86_4 : Int) := of_decide_eq_true (by (with_reducible assumption))
                     have q167 : x86_4 < (l0_3.length : Int) := of_decide_eq_true (by (with_reducible assumption))
                     obtain ⟨ad167, e167, hx167_0⟩ := Kd.at_int HR0_3.out x86_4 p167 q167
                     cases e167
                     replace hx167_0 := (HB.out.cell (World.block_lt_of_cell? w _ hx167_0)).trans hx167_0
                     replace p167 := eq_true p167
                     replace q167 := eq_true q167
                     go_wp2
                     go_meet
                     case rel => exact ⟨_, (decide ((rd l0_3 x86_4) > 0)), (by rfl), (by exact H'), ⟨by have := HJ1.out; have := HK2.out; have := HJ41.out; have := HK4.out; first | omega | exact Nat.le_refl _⟩, ⟨by (with_reducible repeat (first | apply Kd.R_alloc | apply Kd.R_drewN | apply Kd.R_drew)); exact HO_148005.out⟩, ⟨by (with_reducible repeat (first | apply Kd.R_alloc | apply Kd.R_drewN | apply Kd.R_drew)); exact Kd.R_mono HO_148006.out (fun _ hk => hk.2)⟩, ⟨by exact BK145.out⟩, ⟨by exact BK146.out⟩, ⟨by exact BK147.out⟩, ⟨by exact BK162.out⟩, ⟨by (with_reducible exact HB.out)⟩⟩
                    ·rw [if_neg c76] at H
                     have c76b0 : decide (x86_4 < (l0_3.length : Int)) = false := decide_eq_false c76
                     clear c76
                     (first | rw [c76b0] | (simp only [i64_w, i32_w]; rw [c76b0]) | skip)
                     have H' := za.mk H
                     clear H
                     have hnb81 := NB145_146.out
                     have hnc81 := NB146_145.out
                     have hnb82 := NB145_147.out
                     have hnc82 := NB147_145.out
                     have hnb83 := NB145_162.out
                     have hnc83 := NB162_145.out
                     obtain ⟨hcz84_0, hcz84_1, hcz84_2, hcz84_3, hcz84_4, hcz84_5, hcz84_6, hfz84_0, hfz84_1, hfz84_2, hfz84_3, hfz84_4, hfz84_5, hfz84_6⟩ := cl7 BK145.out
                     go_wp2
                     go_meet
                     case rel => exact ⟨_, (false), (by rfl), (by exact H'), ⟨by have := HJ1.out; have := HK2.out; have := HJ41.out; have := HK4.out; first | omega | exact Nat.le_refl _⟩, ⟨by (with_reducible repeat (first | apply Kd.R_alloc | apply Kd.R_drewN | apply Kd.R_drew)); exact HO_148005.out⟩, ⟨by (with_reducible repeat (first | apply Kd.R_alloc | apply Kd.R_drewN | apply Kd.R_drew)); exact Kd.R_mono HO_148006.out (fun _ hk => hk.2)⟩, ⟨by exact BK145.out⟩, ⟨by exact BK146.out⟩, ⟨by exact BK147.out⟩, ⟨by exact BK162.out⟩, ⟨by (with_reducible exact HB.out)⟩⟩
                   case rest => as_aux_lemma =>
                    clear HC66
                    clear c55b0 c56b0 c57b0 c60b0 c61b0 c63b0 c64 c64b0 c64b1 c64b2 c65 c65b0 c65b1 c65b2 hcz73_0 hcz73_1 hcz73_2 hfz73_0 hfz73_1 hfz73_2 hx157_0 hx161_0 hx166_0 p157 p161 p166 q157 q161 q166
                    obtain ⟨kq, x117_65, rfl, HA, HJ65, HO_148005, HO_148006, BK145, BK146, BK147, BK162, HB⟩ := hcut
                    cases kq with
                    | zero => exact absurd HA.out (by simp [zb.j5])
                    | succ kj65 =>
                     have H := HA.out
                     clear HA
                     simp only [zb.j5] at H
                     by_cases c85 : x117_65 = true
                     ·subst c85
                      have H1 : (if 0 ≤ x86_4 then (if x86_4 < (l0_3.length : Int) then ((zfb.f kj65 (rd l0_3 x86_4)).bind fun t169 => ((zlc.f kj65 t169).bind fun bt170 => ((zfb.f kj65 (rd l0_3 x86_4)).bind fun t173 => (if (x6_4 ++ ((⟨#[95]⟩ : ByteArray) ++ (rdOf ByteArray.empty t163 (ji59)))).size + t173.size ≤ 9223372036854775807 then (if x148006_4.length < 4398046511104 then (zb.l1 kj65 ((x6_4 ++ ((⟨#[95]⟩ : ByteArray) ++ (rdOf ByteArray.empty t163 (ji59)))) ++ t173) l0_2 (l0_2.length : Int) (wrap64 (x86_4 + 1)) l0_0 a0_1 l0_2 l0_3 a0_4 a0_5 a0_6 (⟨#[]⟩ : ByteArray) (⟨#[]⟩ : ByteArray) x148002_41 (⟨#[]⟩ : ByteArray) false x148005_2 (x148006_4 ++ [(⟨(rd t158 (ji59)), (⟨bt170.1, bt170.2⟩ : S31)⟩ : S58)]) false false (⟨#[]⟩ : ByteArray)) else (none)) else (none))))) else (none)) else (none)) = some (r1, r2, r3, r4, r5, r6, r7, r8, r9, r10, r11, r12) := by rw [if_pos rfl] at H; exact H
                      clear H
                      have H := H1
                      clear H1
                      by_cases c86 : 0 ≤ x86_4
                      ·rw [if_pos c86] at H
                       have c86b0 : decide (0 ≤ x86_4) = true := decide_eq_true c86
                       clear c86
                       by_cases c87 : x86_4 < (l0_3.length : Int)
                       ·rw [if_pos c87] at H
                        have c87b0 : decide (x86_4 < (l0_3.length : Int)) = true := decide_eq_true c87
                        clear c87
                        replace H := Option.bind_eq_some_iff.mp H
                        obtain ⟨t169, A880, H⟩ := H
                        replace H : ((zlc.f kj65 t169).bind fun bt170 => ((zfb.f kj65 (rd l0_3 x86_4)).bind fun t173 => (if (x6_4 ++ ((⟨#[95]⟩ : ByteArray) ++ (rdOf ByteArray.empty t163 (ji59)))).size + t173.size ≤ 9223372036854775807 then (if x148006_4.length < 4398046511104 then (zb.l1 kj65 ((x6_4 ++ ((⟨#[95]⟩ : ByteArray) ++ (rdOf ByteArray.empty t163 (ji59)))) ++ t173) l0_2 (l0_2.length : Int) (wrap64 (x86_4 + 1)) l0_0 a0_1 l0_2 l0_3 a0_4 a0_5 a0_6 (⟨#[]⟩ : ByteArray) (⟨#[]⟩ : ByteArray) x148002_41 (⟨#[]⟩ : ByteArray) false x148005_2 (x148006_4 ++ [(⟨(rd t158 (ji59)), (⟨bt170.1, bt170.2⟩ : S31)⟩ : S58)]) false false (⟨#[]⟩ : ByteArray)) else (none)) else (none)))) = some (r1, r2, r3, r4, r5, r6, r7, r8, r9, r10, r11, r12) := H
                        have A88 := za.mk A880
                        clear A880
                        replace H := Option.bind_eq_some_iff.mp H
                        obtain ⟨⟨t170, t171⟩, A890, H⟩ := H
                        replace H : ((zfb.f kj65 (rd l0_3 x86_4)).bind fun t173 => (if (x6_4 ++ ((⟨#[95]⟩ : ByteArray) ++ (rdOf ByteArray.empty t163 (ji59)))).size + t173.size ≤ 9223372036854775807 then (if x148006_4.length < 4398046511104 then (zb.l1 kj65 ((x6_4 ++ ((⟨#[95]⟩ : ByteArray) ++ (rdOf ByteArray.empty t163 (ji59)))) ++ t173) l0_2 (l0_2.length : Int) (wrap64 (x86_4 + 1)) l0_0 a0_1 l0_2 l0_3 a0_4 a0_5 a0_6 (⟨#[]⟩ : ByteArray) (⟨#[]⟩ : ByteArray) x148002_41 (⟨#[]⟩ : ByteArray) false x148005_2 (x148006_4 ++ [(⟨(rd t158 (ji59)), (⟨t170, t171⟩ : S31)⟩ : S58)]) false false (⟨#[]⟩ : ByteArray)) else (none)) else (none))) = some (r1, r2, r3, r4, r5, r6, r7, r8, r9, r10, r11, r12) := H
                        have A89 := za.mk A890
                        clear A890
                        replace H := Option.bind_eq_some_iff.mp H
                        obtain ⟨t173, A900, H⟩ := H
                        replace H : (if (x6_4 ++ ((⟨#[95]⟩ : ByteArray) ++ (rdOf ByteArray.empty t163 (ji59)))).size + t173.size ≤ 9223372036854775807 then (if x148006_4.length < 4398046511104 then (zb.l1 kj65 ((x6_4 ++ ((⟨#[95]⟩ : ByteArray) ++ (rdOf ByteArray.empty t163 (ji59)))) ++ t173) l0_2 (l0_2.length : Int) (wrap64 (x86_4 + 1)) l0_0 a0_1 l0_2 l0_3 a0_4 a0_5 a0_6 (⟨#[]⟩ : ByteArray) (⟨#[]⟩ : ByteArray) x148002_41 (⟨#[]⟩ : ByteArray) false x148005_2 (x148006_4 ++ [(⟨(rd t158 (ji59)), (⟨t170, t171⟩ : S31)⟩ : S58)]) false false (⟨#[]⟩ : ByteArray)) else (none)) else (none)) = some (r1, r2, r3, r4, r5, r6, r7, r8, r9, r10, r11, r12) := H
                        have A90 := za.mk A900
                        clear A900
                        by_cases c91 : (x6_4 ++ ((⟨#[95]⟩ : ByteArray) ++ (rdOf ByteArray.empty t163 (ji59)))).size + t173.size ≤ 9223372036854775807
                        ·rw [if_pos c91] at H
                         have c91b0 := eq_true c91
                         have c91b1 : decide ((x6_4 ++ ((⟨#[95]⟩ : ByteArray) ++ (rdOf ByteArray.empty t163 (ji59)))).size + t173.size ≤ 9223372036854775807) = true := decide_eq_true c91
                         try have c91b2 : (9223372036854775807 < (x6_4 ++ ((⟨#[95]⟩ : ByteArray) ++ (rdOf ByteArray.empty t163 (ji59)))).size + t173.size) = False := eq_false (Nat.not_lt.2 c91)
                         try have c91b3 : (9223372036854775807 < x6_4.size + (1 + (rdOf ByteArray.empty t163 (ji59)).size) + t173.size) = False := eq_false (by have h_ := c91; simp only [ByteArray.size_append] at h_; have e0_ : (⟨#[95]⟩ : ByteArray).size = 1 := rfl; omega)
                         try have c91b4 : (x6_4.size + (1 + (rdOf ByteArray.empty t163 (ji59)).size) + t173.size ≤ 9223372036854775807) = True := eq_true (by have h_ := c91; simp only [ByteArray.size_append] at h_; have e0_ : (⟨#[95]⟩ : ByteArray).size = 1 := rfl; omega)
                         by_cases c92 : x148006_4.length < 4398046511104
                         ·rw [if_pos c92] at H
                          have LMc92 := za.mk c92
                          clear c92
                          obtain ⟨y174, hy174⟩ : ∃ y_ : List (S58), y_ = (x148006_4 ++ [(⟨(rd t158 (ji59)), (⟨t170, t171⟩ : S31)⟩ : S58)]) := ⟨_, rfl⟩
                          replace H : (zb.l1 kj65 ((x6_4 ++ ((⟨#[95]⟩ : ByteArray) ++ (rdOf ByteArray.empty t163 (ji59)))) ++ t173) l0_2 (l0_2.length : Int) (wrap64 (x86_4 + 1)) l0_0 a0_1 l0_2 l0_3 a0_4 a0_5 a0_6 (⟨#[]⟩ : ByteArray) (⟨#[]⟩ : ByteArray) x148002_41 (⟨#[]⟩ : ByteArray) false x148005_2 y174 false false (⟨#[]⟩ : ByteArray)) = some (r1, r2, r3, r4, r5, r6, r7, r8, r9, r10, r11, r12) := by (rw [hy174]; with_reducible exact H)
                          have Ny174 := za.mk hy174
                          clear hy174
                          have H' := za.mk H
                          clear H
                          have hnb93 := NB145_146.out
                          have hnc93 := NB146_145.out
                          have hnb94 := NB145_147.out
                          have hnc94 := NB147_145.out
                          have hnb95 := NB145_162.out
                          have hnc95 := NB162_145.out
                          obtain ⟨hcz96_0, hcz96_1, hcz96_2, hcz96_3, hcz96_4, hcz96_5, hcz96_6, hfz96_0, hfz96_1, hfz96_2, hfz96_3, hfz96_4, hfz96_5, hfz96_6⟩ := cl7 BK145.out
                          have p168 : 0 ≤ (x86_4 : Int) := of_decide_eq_true (by (with_reducible assumption))
                          have q168 : x86_4 < (l0_3.length : Int) := of_decide_eq_true (by (with_reducible assumption))
                          obtain ⟨ad168, e168, hx168_0⟩ := Kd.at_int HR0_3.out x86_4 p168 q168
                          cases e168
                          replace hx168_0 := (HB.out.cell (World.block_lt_of_cell? w _ hx168_0)).trans hx168_0
                          replace p168 := eq_true p168
                          replace q168 := eq_true q168
                          go_wp2_with (first | ((with_reducible refine zab (f := 19) rfl ?_); refine zjc (some 123) rfl rfl Tryd.func19 (by kernel_rfl) rfl #[.int .u16 (rd l0_3 x86_4)] rfl (by (try simp only [List.map_toArray, List.map_cons, List.map_nil]); first | done | rfl | (simp only [List.length_drop, List.length_take]; rfl)) ?_; (with_reducible refine (zfb.calls kj65 (rd l0_3 x86_4) t169 _ A88.out).mono ?_); rintro e w' ⟨rfl, ⟨nd, rfl⟩⟩; refine ⟨_, rfl, ?_⟩; (try (rw [zsd wc]; generalize hq_ : World.drewN wc _ = wc; have n0_ : za (Kd.R k54 54 wc w.heap.size (fun _ => True) u148005 x148005_2) := ⟨by rw [← hq_]; exact (by (with_reducible repeat (first | apply Kd.R_alloc | apply Kd.R_drewN | apply Kd.R_drew)); exact HO_148005.out)⟩; have n1_ : za (Kd.R k58 58 wc w.heap.size (fun k_ => k_ ≠ gb162) u148006 x148006_4) := ⟨by rw [← hq_]; exact (by (with_reducible repeat (first | apply Kd.R_alloc | apply Kd.R_drewN | apply Kd.R_drew)); exact HO_148006.out)⟩; have n2_ : za (wc.heap[gb145]? = some (.cells #[.slice A0_0 l0_0.length c0_0, .int .u8 a0_1, .slice (some ad157) l0_2.length c0_2, .slice (some ad168) l0_3.length c0_3, .string a0_4, .bool a0_5, .int .u16 a0_6] 26 (0, 0))) := ⟨by rw [← hq_]; exact (by (with_reducible (refine zz ?_ _)); exact BK145.out)⟩; have n3_ : za (wc.heap[gb146]? = some (.cells #[.string ⟨#[]⟩, .string ⟨#[]⟩, .string ⟨#[]⟩, .string ⟨#[]⟩, .bool false, .slice none 0 0, .slice none 0 0, .bool false, .bool false, .string ⟨#[]⟩] 33 (0, 0))) := ⟨by rw [← hq_]; exact (by (with_reducible (refine zz ?_ _)); exact BK146.out)⟩; have n4_ : za (wc.heap[gb147]? = some (.cells #[.string ⟨#[]⟩, .string ⟨#[]⟩, .string x148002_41, .string ⟨#[]⟩, .bool false, u148005, u148006, .bool false, .bool false, .string ⟨#[]⟩] 33 (0, 0))) := ⟨by rw [← hq_]; exact (by (with_reducible (refine zz ?_ _)); exact BK147.out)⟩; have n5_ : za (wc.heap[gb162]? = some (.cells #[.int .i64 (rd t158 (ji59)), .bool false, .string ⟨#[]⟩] 58 (0, 0))) := ⟨by rw [← hq_]; exact (by (with_reducible (refine zz ?_ _)); exact BK162.out)⟩; have n6_ : za (Below w.heap.size w wc) := ⟨by rw [← hq_]; exact (by (with_reducible apply ze; with_reducible exact HB.out))⟩; clear HO_148005 HO_148006 BK145 BK146 BK147 BK162 HB hq_; have HO_148005 := n0_; have HO_148006 := n1_; have BK145 := n2_; have BK146 := n3_; have BK147 := n4_; have BK162 := n5_; have HB := n6_; clear n0_ n1_ n2_ n3_ n4_ n5_ n6_))) | ((with_reducible refine zab (f := 23) rfl ?_); refine zjc (some 124) rfl rfl Tryd.func23 (by kernel_rfl) rfl #[.string t169] rfl (by (try simp only [List.map_toArray, List.map_cons, List.map_nil]); first | done | rfl | (simp only [List.length_drop, List.length_take]; rfl)) ?_; (with_reducible refine (zlc.calls kj65 t169 t170 t171 _ A89.out).mono ?_); rintro e w97 ⟨rfl, hb⟩; refine ⟨_, rfl, ?_⟩; replace HO_148005 := za.mk (Kd.R_below (by (with_reducible repeat (first | apply Kd.R_alloc | apply Kd.R_drewN | apply Kd.R_drew)); exact HO_148005.out) hb); replace HO_148006 := za.mk (Kd.R_below (by (with_reducible repeat (first | apply Kd.R_alloc | apply Kd.R_drewN | apply Kd.R_drew)); exact HO_148006.out) hb); replace BK145 := za.mk (zk BK145.out hb); replace BK146 := za.mk (zk BK146.out hb); replace BK147 := za.mk (zk BK147.out hb); replace BK162 := za.mk (zk BK162.out hb); replace HB := za.mk (zm (by (with_reducible exact HB.out)) hb); (try clear hb); (try clear hb2); (try clear hk); (try clear hi); have hnb98 := NB162_146.out; have hnc98 := NB146_162.out; have hnb99 := NB162_147.out; have hnc99 := NB147_162.out; obtain ⟨hcz100_0, hcz100_1, hcz100_2, hfz100_0, hfz100_1, hfz100_2⟩ := cl3 BK162.out; obtain ⟨hcz101_0, hcz101_1, hcz101_2, hcz101_3, hcz101_4, hcz101_5, hcz101_6, hfz101_0, hfz101_1, hfz101_2, hfz101_3, hfz101_4, hfz101_5, hfz101_6⟩ := cl7 BK145.out; have p172 : 0 ≤ (x86_4 : Int) := of_decide_eq_true (by (with_reducible assumption)); have q172 : x86_4 < (l0_3.length : Int) := of_decide_eq_true (by (with_reducible assumption)); obtain ⟨ad172, e172, hx172_0⟩ := Kd.at_int HR0_3.out x86_4 p172 q172; obtain rfl : ad168 = ad172 := (by injection e172); have hn172_0 : ad168.block ≠ gb162 := Nat.ne_of_lt (Nat.lt_of_lt_of_le (by have := World.block_lt_of_cell? _ _ hx172_0; first | rwa [add_block] at this | exact this) GW162.out); have hn172_1 : ad168.block ≠ gb162 := Nat.ne_of_lt (Nat.lt_of_lt_of_le (by have := World.block_lt_of_cell? _ _ hx172_0; first | rwa [add_block] at this | exact this) GW162.out); replace hx172_0 := (HB.out.cell (World.block_lt_of_cell? w _ hx172_0)).trans hx172_0; replace hx172_0 := (cell_far (p := ⟨gb162, 1, none⟩) (by (rw [add_block]; exact hn172_0)) (.bool t170)).trans hx172_0; replace hx172_0 := (cell_far (p := ⟨gb162, 2, none⟩) (by (rw [add_block]; exact hn172_1)) (.string t171)).trans hx172_0; clear hn172_0; clear hn172_1; replace p172 := eq_true p172; replace q172 := eq_true q172) | ((with_reducible refine zab (f := 19) rfl ?_); refine zjc (some 132) rfl rfl Tryd.func19 (by kernel_rfl) rfl #[.int .u16 (rd l0_3 x86_4)] rfl (by (try simp only [List.map_toArray, List.map_cons, List.map_nil]); first | done | rfl | (simp only [List.length_drop, List.length_take]; rfl)) ?_; (with_reducible refine (zfb.calls kj65 (rd l0_3 x86_4) t173 _ A90.out).mono ?_); rintro e w' ⟨rfl, ⟨nd, rfl⟩⟩; refine ⟨_, rfl, ?_⟩; have hnb102 := NB147_146.out; have hnc102 := NB146_147.out; obtain ⟨hcz103_0, hcz103_1, hcz103_2, hcz103_3, hcz103_4, hcz103_5, hcz103_6, hcz103_7, hcz103_8, hcz103_9, hfz103_0, hfz103_1, hfz103_2, hfz103_3, hfz103_4, hfz103_5, hfz103_6, hfz103_7, hfz103_8, hfz103_9⟩ := cl10 BK147.out) | ((with_reducible refine zqd (b := .append) (xs := #[.tmp 135, .tmp 137]) rfl ?_); (try (refine zyb (by rfl) ?_; dsimp only)); at_builtin; refine Kd.R_append k58 (w0 := w) w.heap.size rfl (.tmp 135) (.tmp 137) 29 58 (.agg #[(.int .i64 0), (.bool false), (.string ⟨#[]⟩)]) 32 rfl Tryd.underlying29 info58 rfl (by decide) (by omega) u148006 x148006_4 (⟨(rd t158 (ji59)), (⟨t170, t171⟩ : S31)⟩ : S58) [.int .i64 (rd t158 (ji59)), .bool t170, .string t171] (fun k_ => k_ ≠ gb162) (fun _ => False) rfl (by (go_simp; done)) ?aP (fun _ hk => hk.elim) ?aF ?aO ?aB ?aS ?aL ?_; (case aP => exact k58_mkM _ _ _ (⟨(rd t158 (ji59)), (⟨t170, t171⟩ : S31)⟩ : S58)); (case aB => exact (by (with_reducible apply ze; with_reducible refine zi ?_ GE162.out; with_reducible refine zi ?_ GE162.out; with_reducible exact HB.out))); (case aF => exact (fun k_ hk => Kd.freshB (g := gb162) (o := .cells #[.int .i64 (rd t158 (ji59)), .bool t170, .string t171] 58 (0, 0)) (by (with_reducible (refine zz ?_ _)); refine zv (cs := #[.int .i64 (rd t158 (ji59)), .bool t170, .string ⟨#[]⟩]) ?_ 2 _ rfl; refine zv (cs := #[.int .i64 (rd t158 (ji59)), .bool false, .string ⟨#[]⟩]) ?_ 1 _ rfl; exact BK162.out) k_ hk)); (case aO => exact (by (with_reducible repeat (first | apply Kd.R_alloc | apply Kd.R_drewN | apply Kd.R_drew)); exact Kd.R_mono (farC (farC (Kd.R_mono HO_148006.out (fun k_ hk => (⟨hk, hk⟩ : _ ∧ k_ ≠ gb162))))) (fun _ hk => hk.1))); (case aS => exact (zl (by (with_reducible apply ze; with_reducible refine zi ?_ GE162.out; with_reducible refine zi ?_ GE162.out; with_reducible exact HB.out)))); (case aL => have := LMc92.out; omega); intro v175 w104 ho hb hg hat; rw [← Ny174.out] at ho; replace HO_148005 := za.mk (Kd.R_over' (by (with_reducible repeat (first | apply Kd.R_alloc | apply Kd.R_drewN | apply Kd.R_drew)); exact (Kd.R_mono (farC (farC (Kd.R_types HO_148005.out BK162.out (by decide)))) (fun _ h_ => h_.1))) (Kd.R_typed (by (with_reducible repeat (first | apply Kd.R_alloc | apply Kd.R_drewN | apply Kd.R_drew)); exact (Kd.R_mono (farC (farC (Kd.R_mono HO_148006.out (fun k_ hk => (⟨hk, hk⟩ : _ ∧ k_ ≠ gb162))))) (fun _ h_ => h_.1)))) (by decide) hg); replace BK145 := za.mk (zoc (g := gb145) (o := .cells #[.slice A0_0 l0_0.length c0_0, .int .u8 a0_1, .slice (some ad157) l0_2.length c0_2, .slice (some ad168) l0_3.length c0_3, .string a0_4, .bool a0_5, .int .u16 a0_6] 26 (0, 0)) (by (with_reducible (refine zz ?_ _)); refine zmb ?_ NB145_162.out _; refine zmb ?_ NB145_162.out _; exact BK145.out) hg (Kd.R_ne HO_148006.out BK145.out (by decide))); replace BK146 := za.mk (zoc (g := gb146) (o := .cells #[.string ⟨#[]⟩, .string ⟨#[]⟩, .string ⟨#[]⟩, .string ⟨#[]⟩, .bool false, .slice none 0 0, .slice none 0 0, .bool false, .bool false, .string ⟨#[]⟩] 33 (0, 0)) (by (with_reducible (refine zz ?_ _)); refine zmb ?_ NB146_162.out _; refine zmb ?_ NB146_162.out _; exact BK146.out) hg (Kd.R_ne HO_148006.out BK146.out (by decide))); replace BK147 := za.mk (zoc (g := gb147) (o := .cells #[.string ⟨#[]⟩, .string ⟨#[]⟩, .string x148002_41, .string ⟨#[]⟩, .bool false, u148005, u148006, .bool false, .bool false, .string ⟨#[]⟩] 33 (0, 0)) (by (with_reducible (refine zz ?_ _)); refine zmb ?_ NB147_162.out _; refine zmb ?_ NB147_162.out _; exact BK147.out) hg (Kd.R_ne HO_148006.out BK147.out (by decide))); replace BK162 := za.mk (zoc (g := gb162) (o := .cells #[.int .i64 (rd t158 (ji59)), .bool t170, .string t171] 58 (0, 0)) (by (with_reducible (refine zz ?_ _)); refine zv (cs := #[.int .i64 (rd t158 (ji59)), .bool t170, .string ⟨#[]⟩]) ?_ 2 _ rfl; refine zv (cs := #[.int .i64 (rd t158 (ji59)), .bool false, .string ⟨#[]⟩]) ?_ 1 _ rfl; exact BK162.out) hg (Kd.R_away HO_148006.out (fun _ hk => hk))); have HO176 := za.mk ho; replace HB := za.mk hb; clear HO_148006; clear ho hb hg hat; obtain ⟨Ao105, co105, eo105⟩ := Kd.R_slice HO176.out; subst eo105; obtain ⟨hcz106_0, hcz106_1, hcz106_2, hcz106_3, hcz106_4, hcz106_5, hcz106_6, hcz106_7, hcz106_8, hcz106_9, hfz106_0, hfz106_1, hfz106_2, hfz106_3, hfz106_4, hfz106_5, hfz106_6, hfz106_7, hfz106_8, hfz106_9⟩ := cl10 BK147.out))
                          go_roundg kj65
                          case measure => have := HJ1.out; have := HK2.out; have := HJ41.out; have := HK4.out; have := HJ65.out; omega
                          case rel => exact ⟨((x6_4 ++ ((⟨#[95]⟩ : ByteArray) ++ (rdOf ByteArray.empty t163 (ji59)))) ++ t173), (wrap64 (x86_4 + 1)), (y174), (.slice Ao105 y174.length co105), (by rfl), (by rfl), (by exact H'), ⟨by have := HJ1.out; have := HK2.out; have := HJ41.out; have := HK4.out; have := HJ65.out; omega⟩, ⟨by (with_reducible repeat (first | apply Kd.R_alloc | apply Kd.R_drewN | apply Kd.R_drew)); exact Kd.R_mono (farC (Kd.R_types HO_148005.out BK147.out (by decide))) (fun _ hk => trivial)⟩, ⟨by (with_reducible repeat (first | apply Kd.R_alloc | apply Kd.R_drewN | apply Kd.R_drew)); exact Kd.R_mono (farC (Kd.R_types HO176.out BK147.out (by decide))) (fun _ hk => trivial)⟩, ⟨by refine zmb ?_ NB145_147.out _; exact BK145.out⟩, ⟨by refine zmb ?_ NB146_147.out _; exact BK146.out⟩, ⟨by refine zv (cs := #[.string ⟨#[]⟩, .string ⟨#[]⟩, .string x148002_41, .string ⟨#[]⟩, .bool false, u148005, u148006, .bool false, .bool false, .string ⟨#[]⟩]) ?_ 6 _ rfl; exact BK147.out⟩, ⟨by (with_reducible refine zi ?_ GE147.out; with_reducible exact HB.out)⟩⟩
                         ·rw [if_neg c92] at H
                          exact absurd H (by simp)
                        ·rw [if_neg c91] at H
                         exact absurd H (by simp)
                       ·rw [if_neg c87] at H
                        exact absurd H (by simp)
                      ·rw [if_neg c86] at H
                       exact absurd H (by simp)
                     ·replace c85 := Bool.eq_false_iff.mpr c85
                      subst c85
                      have H1 : (if x148006_4.length < 4398046511104 then (zb.l1 kj65 (x6_4 ++ ((⟨#[95]⟩ : ByteArray) ++ (rdOf ByteArray.empty t163 (ji59)))) l0_2 (l0_2.length : Int) (wrap64 (x86_4 + 1)) l0_0 a0_1 l0_2 l0_3 a0_4 a0_5 a0_6 (⟨#[]⟩ : ByteArray) (⟨#[]⟩ : ByteArray) x148002_41 (⟨#[]⟩ : ByteArray) false x148005_2 (x148006_4 ++ [(⟨(rd t158 (ji59)), (⟨false, (⟨#[]⟩ : ByteArray)⟩ : S31)⟩ : S58)]) false false (⟨#[]⟩ : ByteArray)) else (none)) = some (r1, r2, r3, r4, r5, r6, r7, r8, r9, r10, r11, r12) := by rw [if_neg (show ¬ (false = true) by decide)] at H; exact H
                      clear H
                      have H := H1
                      clear H1
                      by_cases c107 : x148006_4.length < 4398046511104
                      ·rw [if_pos c107] at H
                       have LMc107 := za.mk c107
                       clear c107
                       obtain ⟨y177, hy177⟩ : ∃ y_ : List (S58), y_ = (x148006_4 ++ [(⟨(rd t158 (ji59)), (⟨false, (⟨#[]⟩ : ByteArray)⟩ : S31)⟩ : S58)]) := ⟨_, rfl⟩
                       replace H : (zb.l1 kj65 (x6_4 ++ ((⟨#[95]⟩ : ByteArray) ++ (rdOf ByteArray.empty t163 (ji59)))) l0_2 (l0_2.length : Int) (wrap64 (x86_4 + 1)) l0_0 a0_1 l0_2 l0_3 a0_4 a0_5 a0_6 (⟨#[]⟩ : ByteArray) (⟨#[]⟩ : ByteArray) x148002_41 (⟨#[]⟩ : ByteArray) false x148005_2 y177 false false (⟨#[]⟩ : ByteArray)) = some (r1, r2, r3, r4, r5, r6, r7, r8, r9, r10, r11, r12) := by (rw [hy177]; with_reducible exact H)
                       have Ny177 := za.mk hy177
                       clear hy177
                       have H' := za.mk H
                       clear H
                       have hnb108 := NB147_145.out
                       have hnc108 := NB145_147.out
                       have hnb109 := NB147_146.out
                       have hnc109 := NB146_147.out
                       have hnb110 := NB147_162.out
                       have hnc110 := NB162_147.out
                       obtain ⟨hcz111_0, hcz111_1, hcz111_2, hcz111_3, hcz111_4, hcz111_5, hcz111_6, hcz111_7, hcz111_8, hcz111_9, hfz111_0, hfz111_1, hfz111_2, hfz111_3, hfz111_4, hfz111_5, hfz111_6, hfz111_7, hfz111_8, hfz111_9⟩ := cl10 BK147.out
                       have hnb112 := NB162_145.out
                       have hnc112 := NB145_162.out
                       have hnb113 := NB162_146.out
                       have hnc113 := NB146_162.out
                       obtain ⟨hcz114_0, hcz114_1, hcz114_2, hfz114_0, hfz114_1, hfz114_2⟩ := cl3 BK162.out
                       go_wp2_with (((with_reducible refine zqd (b := .append) (xs := #[.tmp 135, .tmp 137]) rfl ?_); (try (refine zyb (by rfl) ?_; dsimp only)); at_builtin; refine Kd.R_append k58 (w0 := w) w.heap.size rfl (.tmp 135) (.tmp 137) 29 58 (.agg #[(.int .i64 0), (.bool false), (.string ⟨#[]⟩)]) 32 rfl Tryd.underlying29 info58 rfl (by decide) (by omega) u148006 x148006_4 (⟨(rd t158 (ji59)), (⟨false, (⟨#[]⟩ : ByteArray)⟩ : S31)⟩ : S58) [.int .i64 (rd t158 (ji59)), .bool false, .string ⟨#[]⟩] (fun k_ => k_ ≠ gb162) (fun _ => False) rfl rfl ?aP (fun _ hk => hk.elim) ?aF ?aO ?aB ?aS ?aL ?_; (case aP => exact k58_mkM _ _ _ (⟨(rd t158 (ji59)), (⟨false, (⟨#[]⟩ : ByteArray)⟩ : S31)⟩ : S58)); (case aB => exact (by (with_reducible exact HB.out))); (case aF => exact (fun k_ hk => Kd.freshB (g := gb162) (o := .cells #[.int .i64 (rd t158 (ji59)), .bool false, .string ⟨#[]⟩] 58 (0, 0)) (by exact BK162.out) k_ hk)); (case aO => exact (by (with_reducible repeat (first | apply Kd.R_alloc | apply Kd.R_drewN | apply Kd.R_drew)); exact HO_148006.out)); (case aS => exact (zl (by (with_reducible exact HB.out)))); (case aL => have := LMc107.out; omega); intro v178 w115 ho hb hg hat; rw [← Ny177.out] at ho; replace HO_148005 := za.mk (Kd.R_over' (by (with_reducible repeat (first | apply Kd.R_alloc | apply Kd.R_drewN | apply Kd.R_drew)); exact HO_148005.out) (Kd.R_typed (by (with_reducible repeat (first | apply Kd.R_alloc | apply Kd.R_drewN | apply Kd.R_drew)); exact HO_148006.out)) (by decide) hg); replace BK145 := za.mk (zoc BK145.out hg (Kd.R_ne HO_148006.out BK145.out (by decide))); replace BK146 := za.mk (zoc BK146.out hg (Kd.R_ne HO_148006.out BK146.out (by decide))); replace BK147 := za.mk (zoc BK147.out hg (Kd.R_ne HO_148006.out BK147.out (by decide))); replace BK162 := za.mk (zoc BK162.out hg (Kd.R_away HO_148006.out (fun _ hk => hk))); have HO179 := za.mk ho; replace HB := za.mk hb; clear HO_148006; clear ho hb hg hat; obtain ⟨Ao116, co116, eo116⟩ := Kd.R_slice HO179.out; subst eo116; obtain ⟨hcz117_0, hcz117_1, hcz117_2, hcz117_3, hcz117_4, hcz117_5, hcz117_6, hcz117_7, hcz117_8, hcz117_9, hfz117_0, hfz117_1, hfz117_2, hfz117_3, hfz117_4, hfz117_5, hfz117_6, hfz117_7, hfz117_8, hfz117_9⟩ := cl10 BK147.out))
                       go_roundg kj65
                       case measure => have := HJ1.out; have := HK2.out; have := HJ41.out; have := HK4.out; have := HJ65.out; omega
                       case rel => exact ⟨((x6_4 ++ ((⟨#[95]⟩ : ByteArray) ++ (rdOf ByteArray.empty t163 (ji59))))), (wrap64 (x86_4 + 1)), (y177), (.slice Ao116 y177.length co116), (by rfl), (by rfl), (by exact H'), ⟨by have := HJ1.out; have := HK2.out; have := HJ41.out; have := HK4.out; have := HJ65.out; omega⟩, ⟨by (with_reducible repeat (first | apply Kd.R_alloc | apply Kd.R_drewN | apply Kd.R_drew)); exact Kd.R_mono (farC (Kd.R_types HO_148005.out BK147.out (by decide))) (fun _ hk => trivial)⟩, ⟨by (with_reducible repeat (first | apply Kd.R_alloc | apply Kd.R_drewN | apply Kd.R_drew)); exact Kd.R_mono (farC (Kd.R_types HO179.out BK147.out (by decide))) (fun _ hk => trivial)⟩, ⟨by refine zmb ?_ NB145_147.out _; exact BK145.out⟩, ⟨by refine zmb ?_ NB146_147.out _; exact BK146.out⟩, ⟨by refine zv (cs := #[.string ⟨#[]⟩, .string ⟨#[]⟩, .string x148002_41, .string ⟨#[]⟩, .bool false, u148005, u148006, .bool false, .bool false, .string ⟨#[]⟩]) ?_ 6 _ rfl; exact BK147.out⟩, ⟨by (with_reducible refine zi ?_ GE147.out; with_reducible exact HB.out)⟩⟩
                      ·rw [if_neg c107] at H
                       exact absurd H (by simp)
                  ·rw [if_neg c65] at H
                   exact absurd H (by simp)
                 ·rw [if_neg c64] at H
                  exact absurd H (by simp)
                ·rw [if_neg c63] at H
                 exact absurd H (by simp)
               ·rw [if_neg c61] at H
                exact absurd H (by simp)
              ·rw [if_neg c60] at H
               exact absurd H (by simp)
             ·rw [if_neg c57] at H
              exact absurd H (by simp)
            ·rw [if_neg c56] at H
             exact absurd H (by simp)
           ·rw [if_neg c55] at H
            have c55b0 : decide (x86_4 < (l0_2.length : Int)) = false := decide_eq_false c55
            clear c55
            have H' := za.mk H
            clear H
            go_wp2
            (try simp only [Act.put, List.setIfInBounds_toArray, List.set_cons_zero, List.set_cons_succ])
            go_loopg [13] k4 (fun kq v13 w' => ∃ (x13_5 : Int) (x147000_5 : ByteArray) (x147001_5 : ByteArray) (x147002_5 : ByteArray) (x147003_5 : ByteArray) (x147004_5 : Bool) (x147007_5 : Bool) (x147008_5 : Bool) (x147009_5 : ByteArray), v13 = .int .i64 x13_5 ∧ za (zb.l2 kq x6_4 x13_5 l0_0 a0_1 l0_2 l0_3 a0_4 a0_5 a0_6 (⟨#[]⟩ : ByteArray) (⟨#[]⟩ : ByteArray) x148002_41 (⟨#[]⟩ : ByteArray) false x148005_2 x148006_4 false false (⟨#[]⟩ : ByteArray) = some (r1, r2, r3, r4, r5, r6, r7, r8, r9, r10, r11, r12)) ∧ za (kq ≤ k4) ∧ za (Kd.R k54 54 w' w.heap.size (fun _ => True) u148005 x148005_2) ∧ za (Kd.R k58 58 w' w.heap.size (fun _ => True) u148006 x148006_4) ∧ za (w'.heap[gb145]? = some (.cells #[(.slice A0_0 l0_0.length c0_0), .int .u8 a0_1, (.slice A0_2 l0_2.length c0_2), (.slice A0_3 l0_3.length c0_3), .string a0_4, .bool a0_5, .int .u16 a0_6] 26 (0, 0))) ∧ za (w'.heap[gb146]? = some (.cells #[.string x147000_5, .string x147001_5, .string x147002_5, .string x147003_5, .bool x147004_5, (.slice none 0 0), (.slice none 0 0), .bool x147007_5, .bool x147008_5, .string x147009_5] 33 (0, 0))) ∧ za (w'.heap[gb147]? = some (.cells #[.string ⟨#[]⟩, .string ⟨#[]⟩, .string x148002_41, .string ⟨#[]⟩, .bool false, u148005, u148006, .bool false, .bool false, .string ⟨#[]⟩] 33 (0, 0))) ∧ za (Below w.heap.size w w'))
            case atStart => exact ⟨(0), ((⟨#[]⟩ : ByteArray)), ((⟨#[]⟩ : ByteArray)), ((⟨#[]⟩ : ByteArray)), ((⟨#[]⟩ : ByteArray)), (false), (false), (false), ((⟨#[]⟩ : ByteArray)), (by rfl), H', ⟨Nat.le_refl _⟩, ⟨by (with_reducible repeat (first | apply Kd.R_alloc | apply Kd.R_drewN | apply Kd.R_drew)); exact HO_148005.out⟩, ⟨by (with_reducible repeat (first | apply Kd.R_alloc | apply Kd.R_drewN | apply Kd.R_drew)); exact HO_148006.out⟩, ⟨by exact BK145.out⟩, ⟨by exact BK146.out⟩, ⟨by exact BK147.out⟩, ⟨by (with_reducible exact HB.out)⟩⟩
            case round =>
             clear H'
             clear c55b0
             obtain ⟨x13_5, x147000_5, x147001_5, x147002_5, x147003_5, x147004_5, x147007_5, x147008_5, x147009_5, rfl, HA, HK5, HO_148005, HO_148006, BK145, BK146, BK147, HB⟩ := hrel
             cases gk with
             | zero => exact absurd HA.out (by simp [zb.l2])
             | succ k5 =>
              have H := HA.out
              clear HA
              simp only [zb.l2] at H
              by_cases c118 : x13_5 < (a0_4.size : Int)
              ·rw [if_pos c118] at H
               have c118b0 : decide (x13_5 < (a0_4.size : Int)) = true := decide_eq_true c118
               clear c118
               by_cases c119 : 0 ≤ x13_5
               ·rw [if_pos c119] at H
                have c119b0 : decide (0 ≤ x13_5) = true := decide_eq_true c119
                clear c119
                by_cases c121 : (bt a0_4 x13_5) ≥ 48
                ·rw [if_pos c121] at H
                 have c121b0 : decide (48 ≤ (bt a0_4 x13_5)) = true := decide_eq_true c121
                 clear c121
                 by_cases c122 : (bt a0_4 x13_5) ≤ 57
                 ·rw [if_pos c122] at H
                  have c122b0 : decide ((bt a0_4 x13_5) ≤ 57) = true := decide_eq_true c122
                  clear c122
                  have H' := za.mk H
                  clear H
                  have hnb123 := NB145_146.out
                  have hnc123 := NB146_145.out
                  have hnb124 := NB145_147.out
                  have hnc124 := NB147_145.out
                  obtain ⟨hcz125_0, hcz125_1, hcz125_2, hcz125_3, hcz125_4, hcz125_5, hcz125_6, hfz125_0, hfz125_1, hfz125_2, hfz125_3, hfz125_4, hfz125_5, hfz125_6⟩ := cl7 BK145.out
                  have p120 : 0 ≤ (x13_5 : Int) := of_decide_eq_true (by (with_reducible assumption))
                  have q120 : x13_5 < (a0_4.size : Int) := of_decide_eq_true (by (with_reducible assumption))
                  have hx120 := bt_at a0_4 x13_5
                  replace p120 := eq_true p120
                  replace q120 := eq_true q120
                  go_wp2
                  go_roundg k5
                  case measure => have := HJ1.out; have := HK2.out; have := HJ41.out; have := HK4.out; have := HK5.out; omega
                  case rel => exact ⟨(wrap64 (x13_5 + 1)), (x147000_5), (x147001_5), (x147002_5), (x147003_5), (x147004_5), (x147007_5), (x147008_5), (x147009_5), (by rfl), (by exact H'), ⟨by have := HJ1.out; have := HK2.out; have := HJ41.out; have := HK4.out; have := HK5.out; omega⟩, ⟨by (with_reducible repeat (first | apply Kd.R_alloc | apply Kd.R_drewN | apply Kd.R_drew)); exact HO_148005.out⟩, ⟨by (with_reducible repeat (first | apply Kd.R_alloc | apply Kd.R_drewN | apply Kd.R_drew)); exact HO_148006.out⟩, ⟨by exact BK145.out⟩, ⟨by exact BK146.out⟩, ⟨by exact BK147.out⟩, ⟨by (with_reducible exact HB.out)⟩⟩
                 ·rw [if_neg c122] at H
                  have c122b0 : decide ((bt a0_4 x13_5) ≤ 57) = false := decide_eq_false c122
                  clear c122
                  by_cases c126 : (bt a0_4 x13_5) ≥ 97
                  ·rw [if_pos c126] at H
                   have c126b0 : decide (97 ≤ (bt a0_4 x13_5)) = true := decide_eq_true c126
                   clear c126
                   by_cases c127 : ((bt a0_4 x13_5) ≤ 102)
                   ·rw [if_pos c127] at H
                    have c127b0 : decide ((bt a0_4 x13_5) ≤ 102) = true := decide_eq_true c127
                    clear c127
                    have H' := za.mk H
                    clear H
                    have hnb128 := NB145_146.out
                    have hnc128 := NB146_145.out
                    have hnb129 := NB145_147.out
                    have hnc129 := NB147_145.out
                    obtain ⟨hcz130_0, hcz130_1, hcz130_2, hcz130_3, hcz130_4, hcz130_5, hcz130_6, hfz130_0, hfz130_1, hfz130_2, hfz130_3, hfz130_4, hfz130_5, hfz130_6⟩ := cl7 BK145.out
                    have p120 : 0 ≤ (x13_5 : Int) := of_decide_eq_true (by (with_reducible assumption))
                    have q120 : x13_5 < (a0_4.size : Int) := of_decide_eq_true (by (with_reducible assumption))
                    have hx120 := bt_at a0_4 x13_5
                    replace p120 := eq_true p120
                    replace q120 := eq_true q120
                    go_wp2
                    go_roundg k5
                    case measure => have := HJ1.out; have := HK2.out; have := HJ41.out; have := HK4.out; have := HK5.out; omega
                    case rel => exact ⟨(wrap64 (x13_5 + 1)), (x147000_5), (x147001_5), (x147002_5), (x147003_5), (x147004_5), (x147007_5), (x147008_5), (x147009_5), (by rfl), (by exact H'), ⟨by have := HJ1.out; have := HK2.out; have := HJ41.out; have := HK4.out; have := HK5.out; omega⟩, ⟨by (with_reducible repeat (first | apply Kd.R_alloc | apply Kd.R_drewN | apply Kd.R_drew)); exact HO_148005.out⟩, ⟨by (with_reducible repeat (first | apply Kd.R_alloc | apply Kd.R_drewN | apply Kd.R_drew)); exact HO_148006.out⟩, ⟨by exact BK145.out⟩, ⟨by exact BK146.out⟩, ⟨by exact BK147.out⟩, ⟨by (with_reducible exact HB.out)⟩⟩
                   ·rw [if_neg c127] at H
                    have c127b0 : decide ((bt a0_4 x13_5) ≤ 102) = false := decide_eq_false c127
                    clear c127
                    simp only [Option.some.injEq, Prod.mk.injEq] at H
                    obtain ⟨rfl, rfl, rfl, rfl, rfl, rfl, rfl, rfl, rfl, rfl, rfl, rfl⟩ := H
                    have hnb131 := NB145_146.out
                    have hnc131 := NB146_145.out
                    have hnb132 := NB145_147.out
                    have hnc132 := NB147_145.out
                    obtain ⟨hcz133_0, hcz133_1, hcz133_2, hcz133_3, hcz133_4, hcz133_5, hcz133_6, hfz133_0, hfz133_1, hfz133_2, hfz133_3, hfz133_4, hfz133_5, hfz133_6⟩ := cl7 BK145.out
                    have p120 : 0 ≤ (x13_5 : Int) := of_decide_eq_true (by (with_reducible assumption))
                    have q120 : x13_5 < (a0_4.size : Int) := of_decide_eq_true (by (with_reducible assumption))
                    have hx120 := bt_at a0_4 x13_5
                    replace p120 := eq_true p120
                    replace q120 := eq_true q120
                    have hnb134 := NB146_147.out
                    have hnc134 := NB147_146.out
                    obtain ⟨hcz135_0, hcz135_1, hcz135_2, hcz135_3, hcz135_4, hcz135_5, hcz135_6, hcz135_7, hcz135_8, hcz135_9, hfz135_0, hfz135_1, hfz135_2, hfz135_3, hfz135_4, hfz135_5, hfz135_6, hfz135_7, hfz135_8, hfz135_9⟩ := cl10 BK146.out
                    go_wp2
                    refine bodyPost_ret (zae (rs := [.tmp 2, .cell 3 33, .tmp 4]) rfl (by simp) (.tmp (.cell gb146 33 #[.string ⟨#[]⟩, .string ⟨#[]⟩, .string ⟨#[]⟩, .string ⟨#[]⟩, .bool false, .slice none 0 0, .slice none 0 0, .bool false, .bool false, .string ⟨#[]⟩] (0, 0) _ rfl (by exact put10 BK146.out) Tryd.underlying33 rfl (by kernel_rfl) (.tmp .nil)))) rfl ?_
                    exact ⟨_, _, by rfl, by exact Kd.R_nil _ _ _ _ _, by exact Kd.R_nil _ _ _ _ _, by repeat (first | (with_reducible first | exact HB.out | apply zo | apply ze | apply zy | refine zi ?_ GE145.out | refine zi ?_ GE146.out | refine zi ?_ GE147.out) | exact HB.out)⟩
                  ·rw [if_neg c126] at H
                   have c126b0 : decide (97 ≤ (bt a0_4 x13_5)) = false := decide_eq_false c126
                   clear c126
                   simp only [Option.some.injEq, Prod.mk.injEq] at H
                   obtain ⟨rfl, rfl, rfl, rfl, rfl, rfl, rfl, rfl, rfl, rfl, rfl, rfl⟩ := H
                   have hnb136 := NB145_146.out
                   have hnc136 := NB146_145.out
                   have hnb137 := NB145_147.out
                   have hnc137 := NB147_145.out
                   obtain ⟨hcz138_0, hcz138_1, hcz138_2, hcz138_3, hcz138_4, hcz138_5, hcz138_6, hfz138_0, hfz138_1, hfz138_2, hfz138_3, hfz138_4, hfz138_5, hfz138_6⟩ := cl7 BK145.out
                   have p120 : 0 ≤ (x13_5 : Int) := of_decide_eq_true (by (with_reducible assumption))
                   have q120 : x13_5 < (a0_4.size : Int) := of_decide_eq_true (by (with_reducible assumption))
                   have hx120 := bt_at a0_4 x13_5
                   replace p120 := eq_true p120
                   replace q120 := eq_true q120
                   have hnb139 := NB146_147.out
                   have hnc139 := NB147_146.out
                   obtain ⟨hcz140_0, hcz140_1, hcz140_2, hcz140_3, hcz140_4, hcz140_5, hcz140_6, hcz140_7, hcz140_8, hcz140_9, hfz140_0, hfz140_1, hfz140_2, hfz140_3, hfz140_4, hfz140_5, hfz140_6, hfz140_7, hfz140_8, hfz140_9⟩ := cl10 BK146.out
                   go_wp2
                   refine bodyPost_ret (zae (rs := [.tmp 2, .cell 3 33, .tmp 4]) rfl (by simp) (.tmp (.cell gb146 33 #[.string ⟨#[]⟩, .string ⟨#[]⟩, .string ⟨#[]⟩, .string ⟨#[]⟩, .bool false, .slice none 0 0, .slice none 0 0, .bool false, .bool false, .string ⟨#[]⟩] (0, 0) _ rfl (by exact put10 BK146.out) Tryd.underlying33 rfl (by kernel_rfl) (.tmp .nil)))) rfl ?_
                   exact ⟨_, _, by rfl, by exact Kd.R_nil _ _ _ _ _, by exact Kd.R_nil _ _ _ _ _, by repeat (first | (with_reducible first | exact HB.out | apply zo | apply ze | apply zy | refine zi ?_ GE145.out | refine zi ?_ GE146.out | refine zi ?_ GE147.out) | exact HB.out)⟩
                ·rw [if_neg c121] at H
                 have c121b0 : decide (48 ≤ (bt a0_4 x13_5)) = false := decide_eq_false c121
                 clear c121
                 by_cases c141 : (bt a0_4 x13_5) ≥ 97
                 ·rw [if_pos c141] at H
                  have c141b0 : decide (97 ≤ (bt a0_4 x13_5)) = true := decide_eq_true c141
                  clear c141
                  by_cases c142 : ((bt a0_4 x13_5) ≤ 102)
                  ·rw [if_pos c142] at H
                   have c142b0 : decide ((bt a0_4 x13_5) ≤ 102) = true := decide_eq_true c142
                   clear c142
                   have H' := za.mk H
                   clear H
                   have hnb143 := NB145_146.out
                   have hnc143 := NB146_145.out
                   have hnb144 := NB145_147.out
                   have hnc144 := NB147_145.out
                   obtain ⟨hcz145_0, hcz145_1, hcz145_2, hcz145_3, hcz145_4, hcz145_5, hcz145_6, hfz145_0, hfz145_1, hfz145_2, hfz145_3, hfz145_4, hfz145_5, hfz145_6⟩ := cl7 BK145.out
                   have p120 : 0 ≤ (x13_5 : Int) := of_decide_eq_true (by (with_reducible assumption))
                   have q120 : x13_5 < (a0_4.size : Int) := of_decide_eq_true (by (with_reducible assumption))
                   have hx120 := bt_at a0_4 x13_5
                   replace p120 := eq_true p120
                   replace q120 := eq_true q120
                   go_wp2
                   go_roundg k5
                   case measure => have := HJ1.out; have := HK2.out; have := HJ41.out; have := HK4.out; have := HK5.out; omega
                   case rel => exact ⟨(wrap64 (x13_5 + 1)), (x147000_5), (x147001_5), (x147002_5), (x147003_5), (x147004_5), (x147007_5), (x147008_5), (x147009_5), (by rfl), (by exact H'), ⟨by have := HJ1.out; have := HK2.out; have := HJ41.out; have := HK4.out; have := HK5.out; omega⟩, ⟨by (with_reducible repeat (first | apply Kd.R_alloc | apply Kd.R_drewN | apply Kd.R_drew)); exact HO_148005.out⟩, ⟨by (with_reducible repeat (first | apply Kd.R_alloc | apply Kd.R_drewN | apply Kd.R_drew)); exact HO_148006.out⟩, ⟨by exact BK145.out⟩, ⟨by exact BK146.out⟩, ⟨by exact BK147.out⟩, ⟨by (with_reducible exact HB.out)⟩⟩
                  ·rw [if_neg c142] at H
                   have c142b0 : decide ((bt a0_4 x13_5) ≤ 102) = false := decide_eq_false c142
                   clear c142
                   simp only [Option.some.injEq, Prod.mk.injEq] at H
                   obtain ⟨rfl, rfl, rfl, rfl, rfl, rfl, rfl, rfl, rfl, rfl, rfl, rfl⟩ := H
                   have hnb146 := NB145_146.out
                   have hnc146 := NB146_145.out
                   have hnb147 := NB145_147.out
                   have hnc147 := NB147_145.out
                   obtain ⟨hcz148_0, hcz148_1, hcz148_2, hcz148_3, hcz148_4, hcz148_5, hcz148_6, hfz148_0, hfz148_1, hfz148_2, hfz148_3, hfz148_4, hfz148_5, hfz148_6⟩ := cl7 BK145.out
                   have p120 : 0 ≤ (x13_5 : Int) := of_decide_eq_true (by (with_reducible assumption))
                   have q120 : x13_5 < (a0_4.size : Int) := of_decide_eq_true (by (with_reducible assumption))
                   have hx120 := bt_at a0_4 x13_5
                   replace p120 := eq_true p120
                   replace q120 := eq_true q120
                   have hnb149 := NB146_147.out
                   have hnc149 := NB147_146.out
                   obtain ⟨hcz150_0, hcz150_1, hcz150_2, hcz150_3, hcz150_4, hcz150_5, hcz150_6, hcz150_7, hcz150_8, hcz150_9, hfz150_0, hfz150_1, hfz150_2, hfz150_3, hfz150_4, hfz150_5, hfz150_6, hfz150_7, hfz150_8, hfz150_9⟩ := cl10 BK146.out
                   go_wp2
                   refine bodyPost_ret (zae (rs := [.tmp 2, .cell 3 33, .tmp 4]) rfl (by simp) (.tmp (.cell gb146 33 #[.string ⟨#[]⟩, .string ⟨#[]⟩, .string ⟨#[]⟩, .string ⟨#[]⟩, .bool false, .slice none 0 0, .slice none 0 0, .bool false, .bool false, .string ⟨#[]⟩] (0, 0) _ rfl (by exact put10 BK146.out) Tryd.underlying33 rfl (by kernel_rfl) (.tmp .nil)))) rfl ?_
                   exact ⟨_, _, by rfl, by exact Kd.R_nil _ _ _ _ _, by exact Kd.R_nil _ _ _ _ _, by repeat (first | (with_reducible first | exact HB.out | apply zo | apply ze | apply zy | refine zi ?_ GE145.out | refine zi ?_ GE146.out | refine zi ?_ GE147.out) | exact HB.out)⟩
                 ·rw [if_neg c141] at H
                  have c141b0 : decide (97 ≤ (bt a0_4 x13_5)) = false := decide_eq_false c141
                  clear c141
                  simp only [Option.some.injEq, Prod.mk.injEq] at H
                  obtain ⟨rfl, rfl, rfl, rfl, rfl, rfl, rfl, rfl, rfl, rfl, rfl, rfl⟩ := H
                  have hnb151 := NB145_146.out
                  have hnc151 := NB146_145.out
                  have hnb152 := NB145_147.out
                  have hnc152 := NB147_145.out
                  obtain ⟨hcz153_0, hcz153_1, hcz153_2, hcz153_3, hcz153_4, hcz153_5, hcz153_6, hfz153_0, hfz153_1, hfz153_2, hfz153_3, hfz153_4, hfz153_5, hfz153_6⟩ := cl7 BK145.out
                  have p120 : 0 ≤ (x13_5 : Int) := of_decide_eq_true (by (with_reducible assumption))
                  have q120 : x13_5 < (a0_4.size : Int) := of_decide_eq_true (by (with_reducible assumption))
                  have hx120 := bt_at a0_4 x13_5
                  replace p120 := eq_true p120
                  replace q120 := eq_true q120
                  have hnb154 := NB146_147.out
                  have hnc154 := NB147_146.out
                  obtain ⟨hcz155_0, hcz155_1, hcz155_2, hcz155_3, hcz155_4, hcz155_5, hcz155_6, hcz155_7, hcz155_8, hcz155_9, hfz155_0, hfz155_1, hfz155_2, hfz155_3, hfz155_4, hfz155_5, hfz155_6, hfz155_7, hfz155_8, hfz155_9⟩ := cl10 BK146.out
                  go_wp2
                  refine bodyPost_ret (zae (rs := [.tmp 2, .cell 3 33, .tmp 4]) rfl (by simp) (.tmp (.cell gb146 33 #[.string ⟨#[]⟩, .string ⟨#[]⟩, .string ⟨#[]⟩, .string ⟨#[]⟩, .bool false, .slice none 0 0, .slice none 0 0, .bool false, .bool false, .string ⟨#[]⟩] (0, 0) _ rfl (by exact put10 BK146.out) Tryd.underlying33 rfl (by kernel_rfl) (.tmp .nil)))) rfl ?_
                  exact ⟨_, _, by rfl, by exact Kd.R_nil _ _ _ _ _, by exact Kd.R_nil _ _ _ _ _, by repeat (first | (with_reducible first | exact HB.out | apply zo | apply ze | apply zy | refine zi ?_ GE145.out | refine zi ?_ GE146.out | refine zi ?_ GE147.out) | exact HB.out)⟩
               ·rw [if_neg c119] at H
                exact absurd H (by simp)
              ·rw [if_neg c118] at H
               have c118b0 : decide (x13_5 < (a0_4.size : Int)) = false := decide_eq_false c118
               clear c118
               have HC156 := za.mk H
               clear H
               have hnb157 := NB145_146.out
               have hnc157 := NB146_145.out
               have hnb158 := NB145_147.out
               have hnc158 := NB147_145.out
               obtain ⟨hcz159_0, hcz159_1, hcz159_2, hcz159_3, hcz159_4, hcz159_5, hcz159_6, hfz159_0, hfz159_1, hfz159_2, hfz159_3, hfz159_4, hfz159_5, hfz159_6⟩ := cl7 BK145.out
               go_upto_if 170 with (fail)
               go_cut [6, 170] (fun v6 v170 wc => ∃ (kq : Nat) (x6_155 : ByteArray) (x148003_155 : ByteArray), v6 = .string x6_155 ∧ za (zb.j7 kq x6_155 l0_0 a0_1 l0_2 l0_3 a0_4 a0_5 a0_6 (⟨#[]⟩ : ByteArray) (⟨#[]⟩ : ByteArray) x148002_41 x148003_155 false x148005_2 x148006_4 false false (⟨#[]⟩ : ByteArray) = some (r1, r2, r3, r4, r5, r6, r7, r8, r9, r10, r11, r12)) ∧ za (kq ≤ k5) ∧ za (Kd.R k54 54 wc w.heap.size (fun _ => True) u148005 x148005_2) ∧ za (Kd.R k58 58 wc w.heap.size (fun _ => True) u148006 x148006_4) ∧ za (wc.heap[gb145]? = some (.cells #[(.slice A0_0 l0_0.length c0_0), .int .u8 a0_1, (.slice A0_2 l0_2.length c0_2), (.slice A0_3 l0_3.length c0_3), .string a0_4, .bool a0_5, .int .u16 a0_6] 26 (0, 0))) ∧ za (wc.heap[gb146]? = some (.cells #[.string x147000_5, .string x147001_5, .string x147002_5, .string x147003_5, .bool x147004_5, (.slice none 0 0), (.slice none 0 0), .bool x147007_5, .bool x147008_5, .string x147009_5] 33 (0, 0))) ∧ za (wc.heap[gb147]? = some (.cells #[.string ⟨#[]⟩, .string ⟨#[]⟩, .string x148002_41, .string x148003_155, .bool false, u148005, u148006, .bool false, .bool false, .string ⟨#[]⟩] 33 (0, 0))) ∧ za (Below w.heap.size w wc))
               case first =>
                have H := HC156.out
                clear HC156
                by_cases c160 : a0_4.toList = ([] : List UInt8)
                ·rw [if_pos c160] at H
                 have c160b0 : (a0_4.toList == ([] : List UInt8)) = true := beq_iff_eq.mpr c160
                 have c160b1 : (a0_4.toList != ([] : List UInt8)) = false := bne_eq_false_iff_eq.mpr c160
                 try have c160b9 : a0_4.toList.isEmpty = true := by simpa using c160b0
                 clear c160
                 (first | rw [c160b0] | (simp only [i64_w, i32_w]; rw [c160b0]) | rw [c160b9] | skip)
                 have H' := za.mk H
                 clear H
                 go_wp2
                 go_meet
                 case rel => exact ⟨_, (x6_4), ((⟨#[]⟩ : ByteArray)), (by rfl), (by exact H'), ⟨by have := HJ1.out; have := HK2.out; have := HJ41.out; have := HK4.out; have := HK5.out; first | omega | exact Nat.le_refl _⟩, ⟨by (with_reducible repeat (first | apply Kd.R_alloc | apply Kd.R_drewN | apply Kd.R_drew)); exact HO_148005.out⟩, ⟨by (with_reducible repeat (first | apply Kd.R_alloc | apply Kd.R_drewN | apply Kd.R_drew)); exact HO_148006.out⟩, ⟨by exact BK145.out⟩, ⟨by exact BK146.out⟩, ⟨by exact BK147.out⟩, ⟨by (with_reducible exact HB.out)⟩⟩
                ·rw [if_neg c160] at H
                 have c160b0 : (a0_4.toList == ([] : List UInt8)) = false := beq_eq_false_iff_ne.mpr c160
                 have c160b1 : (a0_4.toList != ([] : List UInt8)) = true := bne_iff_ne.mpr c160
                 try have c160b9 : a0_4.toList.isEmpty = false := by simpa using c160b0
                 (first | rw [c160b0] | (simp only [i64_w, i32_w]; rw [c160b0]) | rw [c160b9] | skip)
                 by_cases c161 : 1 + a0_4.size ≤ 9223372036854775807
                 ·rw [if_pos c161] at H
                  have c161b0 := eq_true c161
                  have c161b1 : decide (1 + a0_4.size ≤ 9223372036854775807) = true := decide_eq_true c161
                  try have c161b2 : (9223372036854775807 < 1 + a0_4.size) = False := eq_false (Nat.not_lt.2 c161)
                  by_cases c162 : x6_4.size + ((⟨#[126]⟩ : ByteArray) ++ a0_4).size ≤ 9223372036854775807
                  ·rw [if_pos c162] at H
                   have c162b0 := eq_true c162
                   have c162b1 : decide (x6_4.size + ((⟨#[126]⟩ : ByteArray) ++ a0_4).size ≤ 9223372036854775807) = true := decide_eq_true c162
                   try have c162b2 : (9223372036854775807 < x6_4.size + ((⟨#[126]⟩ : ByteArray) ++ a0_4).size) = False := eq_false (Nat.not_lt.2 c162)
                   try have c162b3 : (9223372036854775807 < x6_4.size + (1 + a0_4.size)) = False := eq_false (by have h_ := c162; simp only [ByteArray.size_append] at h_; have e0_ : (⟨#[126]⟩ : ByteArray).size = 1 := rfl; omega)
                   try have c162b4 : (x6_4.size + (1 + a0_4.size) ≤ 9223372036854775807) = True := eq_true (by have h_ := c162; simp only [ByteArray.size_append] at h_; have e0_ : (⟨#[126]⟩ : ByteArray).size = 1 := rfl; omega)
                   have H' := za.mk H
                   clear H
                   have hnb163 := NB145_146.out
                   have hnc163 := NB146_145.out
                   have hnb164 := NB145_147.out
                   have hnc164 := NB147_145.out
                   obtain ⟨hcz165_0, hcz165_1, hcz165_2, hcz165_3, hcz165_4, hcz165_5, hcz165_6, hfz165_0, hfz165_1, hfz165_2, hfz165_3, hfz165_4, hfz165_5, hfz165_6⟩ := cl7 BK145.out
                   have hnb166 := NB147_146.out
                   have hnc166 := NB146_147.out
                   obtain ⟨hcz167_0, hcz167_1, hcz167_2, hcz167_3, hcz167_4, hcz167_5, hcz167_6, hcz167_7, hcz167_8, hcz167_9, hfz167_0, hfz167_1, hfz167_2, hfz167_3, hfz167_4, hfz167_5, hfz167_6, hfz167_7, hfz167_8, hfz167_9⟩ := cl10 BK147.out
                   go_wp2
                   go_meet
                   case rel => exact ⟨_, (x6_4 ++ ((⟨#[126]⟩ : ByteArray) ++ a0_4)), ((⟨#[126]⟩ : ByteArray) ++ a0_4), (by rfl), (by exact H'), ⟨by have := HJ1.out; have := HK2.out; have := HJ41.out; have := HK4.out; have := HK5.out; first | omega | exact Nat.le_refl _⟩, ⟨by (with_reducible repeat (first | apply Kd.R_alloc | apply Kd.R_drewN | apply Kd.R_drew)); exact Kd.R_mono (farC (Kd.R_types HO_148005.out BK147.out (by decide))) (fun _ hk => trivial)⟩, ⟨by (with_reducible repeat (first | apply Kd.R_alloc | apply Kd.R_drewN | apply Kd.R_drew)); exact Kd.R_mono (farC (Kd.R_types HO_148006.out BK147.out (by decide))) (fun _ hk => trivial)⟩, ⟨by refine zmb ?_ NB145_147.out _; exact BK145.out⟩, ⟨by refine zmb ?_ NB146_147.out _; exact BK146.out⟩, ⟨by refine zv (cs := #[.string ⟨#[]⟩, .string ⟨#[]⟩, .string x148002_41, .string ⟨#[]⟩, .bool false, u148005, u148006, .bool false, .bool false, .string ⟨#[]⟩]) ?_ 3 _ rfl; exact BK147.out⟩, ⟨by (with_reducible refine zi ?_ GE147.out; with_reducible exact HB.out)⟩⟩
                  ·rw [if_neg c162] at H
                   exact absurd H (by simp)
                 ·rw [if_neg c161] at H
                  exact absurd H (by simp)
               case rest =>
                clear HC156
                clear c118b0 hcz159_0 hcz159_1 hcz159_2 hcz159_3 hcz159_4 hcz159_5 hcz159_6 hfz159_0 hfz159_1 hfz159_2 hfz159_3 hfz159_4 hfz159_5 hfz159_6
                obtain ⟨kq, x6_155, x148003_155, rfl, HA, HJ155, HO_148005, HO_148006, BK145, BK146, BK147, HB⟩ := hcut
                cases kq with
                | zero => exact absurd HA.out (by simp [zb.j7])
                | succ kj155 =>
                 have H := HA.out
                 clear HA
                 simp only [zb.j7] at H
                 by_cases c168 : a0_5 = true
                 ·subst c168
                  have H1 : ((zfb.f kj155 a0_6).bind fun t180 => ((zlc.f kj155 t180).bind fun bt181 => ((zfb.f kj155 a0_6).bind fun t183 => (if 2 + t183.size ≤ 9223372036854775807 then (if x6_155.size + ((⟨#[45, 114]⟩ : ByteArray) ++ t183).size ≤ 9223372036854775807 then (some (x6_155 ++ ((⟨#[45, 114]⟩ : ByteArray) ++ t183), x6_155 ++ ((⟨#[45, 114]⟩ : ByteArray) ++ t183), (⟨#[]⟩ : ByteArray), x148002_41, x148003_155, false, x148005_2, x148006_4, true, bt181.1, bt181.2, true)) else (none)) else (none))))) = some (r1, r2, r3, r4, r5, r6, r7, r8, r9, r10, r11, r12) := by rw [if_pos rfl] at H; exact H
                  clear H
                  have H := H1
                  clear H1
                  replace H := Option.bind_eq_some_iff.mp H
                  obtain ⟨t180, A1690, H⟩ := H
                  replace H : ((zlc.f kj155 t180).bind fun bt181 => ((zfb.f kj155 a0_6).bind fun t183 => (if 2 + t183.size ≤ 9223372036854775807 then (if x6_155.size + ((⟨#[45, 114]⟩ : ByteArray) ++ t183).size ≤ 9223372036854775807 then (some (x6_155 ++ ((⟨#[45, 114]⟩ : ByteArray) ++ t183), x6_155 ++ ((⟨#[45, 114]⟩ : ByteArray) ++ t183), (⟨#[]⟩ : ByteArray), x148002_41, x148003_155, false, x148005_2, x148006_4, true, bt181.1, bt181.2, true)) else (none)) else (none)))) = some (r1, r2, r3, r4, r5, r6, r7, r8, r9, r10, r11, r12) := H
                  have A169 := za.mk A1690
                  clear A1690
                  replace H := Option.bind_eq_some_iff.mp H
                  obtain ⟨⟨t181, t182⟩, A1700, H⟩ := H
                  replace H : ((zfb.f kj155 a0_6).bind fun t183 => (if 2 + t183.size ≤ 9223372036854775807 then (if x6_155.size + ((⟨#[45, 114]⟩ : ByteArray) ++ t183).size ≤ 9223372036854775807 then (some (x6_155 ++ ((⟨#[45, 114]⟩ : ByteArray) ++ t183), x6_155 ++ ((⟨#[45, 114]⟩ : ByteArray) ++ t183), (⟨#[]⟩ : ByteArray), x148002_41, x148003_155, false, x148005_2, x148006_4, true, t181, t182, true)) else (none)) else (none))) = some (r1, r2, r3, r4, r5, r6, r7, r8, r9, r10, r11, r12) := H
                  have A170 := za.mk A1700
                  clear A1700
                  replace H := Option.bind_eq_some_iff.mp H
                  obtain ⟨t183, A1710, H⟩ := H
                  replace H : (if 2 + t183.size ≤ 9223372036854775807 then (if x6_155.size + ((⟨#[45, 114]⟩ : ByteArray) ++ t183).size ≤ 9223372036854775807 then (some (x6_155 ++ ((⟨#[45, 114]⟩ : ByteArray) ++ t183), x6_155 ++ ((⟨#[45, 114]⟩ : ByteArray) ++ t183), (⟨#[]⟩ : ByteArray), x148002_41, x148003_155, false, x148005_2, x148006_4, true, t181, t182, true)) else (none)) else (none)) = some (r1, r2, r3, r4, r5, r6, r7, r8, r9, r10, r11, r12) := H
                  have A171 := za.mk A1710
                  clear A1710
                  by_cases c172 : 2 + t183.size ≤ 9223372036854775807
                  ·rw [if_pos c172] at H
                   have c172b0 := eq_true c172
                   have c172b1 : decide (2 + t183.size ≤ 9223372036854775807) = true := decide_eq_true c172
                   try have c172b2 : (9223372036854775807 < 2 + t183.size) = False := eq_false (Nat.not_lt.2 c172)
                   by_cases c173 : x6_155.size + ((⟨#[45, 114]⟩ : ByteArray) ++ t183).size ≤ 9223372036854775807
                   ·rw [if_pos c173] at H
                    have c173b0 := eq_true c173
                    have c173b1 : decide (x6_155.size + ((⟨#[45, 114]⟩ : ByteArray) ++ t183).size ≤ 9223372036854775807) = true := decide_eq_true c173
                    try have c173b2 : (9223372036854775807 < x6_155.size + ((⟨#[45, 114]⟩ : ByteArray) ++ t183).size) = False := eq_false (Nat.not_lt.2 c173)
                    try have c173b3 : (9223372036854775807 < x6_155.size + (2 + t183.size)) = False := eq_false (by have h_ := c173; simp only [ByteArray.size_append] at h_; have e0_ : (⟨#[45, 114]⟩ : ByteArray).size = 2 := rfl; omega)
                    try have c173b4 : (x6_155.size + (2 + t183.size) ≤ 9223372036854775807) = True := eq_true (by have h_ := c173; simp only [ByteArray.size_append] at h_; have e0_ : (⟨#[45, 114]⟩ : ByteArray).size = 2 := rfl; omega)
                    simp only [Option.some.injEq, Prod.mk.injEq] at H
                    obtain ⟨rfl, rfl, rfl, rfl, rfl, rfl, rfl, rfl, rfl, rfl, rfl, rfl⟩ := H
                    have hnb174 := NB147_145.out
                    have hnc174 := NB145_147.out
                    have hnb175 := NB147_146.out
                    have hnc175 := NB146_147.out
                    obtain ⟨hcz176_0, hcz176_1, hcz176_2, hcz176_3, hcz176_4, hcz176_5, hcz176_6, hcz176_7, hcz176_8, hcz176_9, hfz176_0, hfz176_1, hfz176_2, hfz176_3, hfz176_4, hfz176_5, hfz176_6, hfz176_7, hfz176_8, hfz176_9⟩ := cl10 BK147.out
                    have hnb177 := NB145_146.out
                    have hnc177 := NB146_145.out
                    obtain ⟨hcz178_0, hcz178_1, hcz178_2, hcz178_3, hcz178_4, hcz178_5, hcz178_6, hfz178_0, hfz178_1, hfz178_2, hfz178_3, hfz178_4, hfz178_5, hfz178_6⟩ := cl7 BK145.out
                    try go_wp2_with (first | ((with_reducible refine zab (f := 19) rfl ?_); refine zjc (some 184) rfl rfl Tryd.func19 (by kernel_rfl) rfl #[.int .u16 a0_6] rfl (by (try simp only [List.map_toArray, List.map_cons, List.map_nil]); first | done | rfl | (simp only [List.length_drop, List.length_take]; rfl)) ?_; (with_reducible refine (zfb.calls kj155 a0_6 t180 _ A169.out).mono ?_); rintro e w' ⟨rfl, ⟨nd, rfl⟩⟩; refine ⟨_, rfl, ?_⟩) | ((with_reducible refine zab (f := 23) rfl ?_); refine zjc (some 185) rfl rfl Tryd.func23 (by kernel_rfl) rfl #[.string t180] rfl (by (try simp only [List.map_toArray, List.map_cons, List.map_nil]); first | done | rfl | (simp only [List.length_drop, List.length_take]; rfl)) ?_; (with_reducible refine (zlc.calls kj155 t180 t181 t182 _ A170.out).mono ?_); rintro e w179 ⟨rfl, hb⟩; refine ⟨_, rfl, ?_⟩; replace HO_148005 := za.mk (Kd.R_below (by (with_reducible repeat (first | apply Kd.R_alloc | apply Kd.R_drewN | apply Kd.R_drew)); exact (Kd.R_mono (farC (Kd.R_types HO_148005.out BK147.out (by decide))) (fun _ h_ => h_.1))) hb); replace HO_148006 := za.mk (Kd.R_below (by (with_reducible repeat (first | apply Kd.R_alloc | apply Kd.R_drewN | apply Kd.R_drew)); exact (Kd.R_mono (farC (Kd.R_types HO_148006.out BK147.out (by decide))) (fun _ h_ => h_.1))) hb); replace BK145 := za.mk (zk (g := gb145) (o := .cells #[.slice A0_0 l0_0.length c0_0, .int .u8 a0_1, .slice A0_2 l0_2.length c0_2, .slice A0_3 l0_3.length c0_3, .string a0_4, .bool true, .int .u16 a0_6] 26 (0, 0)) (by (with_reducible (refine zz ?_ _)); refine zmb ?_ NB145_147.out _; exact BK145.out) hb); replace BK146 := za.mk (zk (g := gb146) (o := .cells #[.string x147000_5, .string x147001_5, .string x147002_5, .string x147003_5, .bool x147004_5, .slice none 0 0, .slice none 0 0, .bool x147007_5, .bool x147008_5, .string x147009_5] 33 (0, 0)) (by (with_reducible (refine zz ?_ _)); refine zmb ?_ NB146_147.out _; exact BK146.out) hb); replace BK147 := za.mk (zk (g := gb147) (o := .cells #[.string ⟨#[]⟩, .string ⟨#[]⟩, .string x148002_41, .string x148003_155, .bool false, u148005, u148006, .bool true, .bool false, .string ⟨#[]⟩] 33 (0, 0)) (by (with_reducible (refine zz ?_ _)); refine zv (cs := #[.string ⟨#[]⟩, .string ⟨#[]⟩, .string x148002_41, .string x148003_155, .bool false, u148005, u148006, .bool false, .bool false, .string ⟨#[]⟩]) ?_ 7 _ rfl; exact BK147.out) hb); replace HB := za.mk (zm (by (with_reducible apply ze; with_reducible refine zi ?_ GE147.out; with_reducible exact HB.out)) hb); (try clear hb); (try clear hb2); (try clear hk); (try clear hi); obtain ⟨hcz180_0, hcz180_1, hcz180_2, hcz180_3, hcz180_4, hcz180_5, hcz180_6, hcz180_7, hcz180_8, hcz180_9, hfz180_0, hfz180_1, hfz180_2, hfz180_3, hfz180_4, hfz180_5, hfz180_6, hfz180_7, hfz180_8, hfz180_9⟩ := cl10 BK147.out; obtain ⟨hcz181_0, hcz181_1, hcz181_2, hcz181_3, hcz181_4, hcz181_5, hcz181_6, hfz181_0, hfz181_1, hfz181_2, hfz181_3, hfz181_4, hfz181_5, hfz181_6⟩ := cl7 BK145.out) | ((with_reducible refine zab (f := 19) rfl ?_); refine zjc (some 190) rfl rfl Tryd.func19 (by kernel_rfl) rfl #[.int .u16 a0_6] rfl (by (try simp only [List.map_toArray, List.map_cons, List.map_nil]); first | done | rfl | (simp only [List.length_drop, List.length_take]; rfl)) ?_; (with_reducible refine (zfb.calls kj155 a0_6 t183 _ A171.out).mono ?_); rintro e w' ⟨rfl, ⟨nd, rfl⟩⟩; refine ⟨_, rfl, ?_⟩))
                    (try repeat rw [zwh])
                    have n0_ : za (Kd.R k54 54 (((w179.setCell ⟨gb147, 8, none⟩ (.bool t181)).setCell ⟨gb147, 9, none⟩ (.string t182)).setCell ⟨gb147, 0, none⟩ (.string (x6_155 ++ ((⟨#[45, 114]⟩ : ByteArray) ++ t183)))) w.heap.size (fun _ => True) u148005 x148005_2) := ⟨by (with_reducible repeat (first | apply Kd.R_alloc | apply Kd.R_drewN | apply Kd.R_drew)); exact Kd.R_mono (farC (farC (farC (Kd.R_types HO_148005.out BK147.out (by decide))))) (fun _ hk => trivial)⟩
                    have n1_ : za (Kd.R k58 58 (((w179.setCell ⟨gb147, 8, none⟩ (.bool t181)).setCell ⟨gb147, 9, none⟩ (.string t182)).setCell ⟨gb147, 0, none⟩ (.string (x6_155 ++ ((⟨#[45, 114]⟩ : ByteArray) ++ t183)))) w.heap.size (fun _ => True) u148006 x148006_4) := ⟨by (with_reducible repeat (first | apply Kd.R_alloc | apply Kd.R_drewN | apply Kd.R_drew)); exact Kd.R_mono (farC (farC (farC (Kd.R_types HO_148006.out BK147.out (by decide))))) (fun _ hk => trivial)⟩
                    have n2_ : za ((((w179.setCell ⟨gb147, 8, none⟩ (.bool t181)).setCell ⟨gb147, 9, none⟩ (.string t182)).setCell ⟨gb147, 0, none⟩ (.string (x6_155 ++ ((⟨#[45, 114]⟩ : ByteArray) ++ t183)))).heap[gb145]? = some (.cells #[.slice A0_0 l0_0.length c0_0, .int .u8 a0_1, .slice A0_2 l0_2.length c0_2, .slice A0_3 l0_3.length c0_3, .string a0_4, .bool true, .int .u16 a0_6] 26 (0, 0))) := ⟨by (iterate 3 refine zmb ?_ NB145_147.out _); exact BK145.out⟩
                    have n3_ : za ((((w179.setCell ⟨gb147, 8, none⟩ (.bool t181)).setCell ⟨gb147, 9, none⟩ (.string t182)).setCell ⟨gb147, 0, none⟩ (.string (x6_155 ++ ((⟨#[45, 114]⟩ : ByteArray) ++ t183)))).heap[gb146]? = some (.cells #[.string x147000_5, .string x147001_5, .string x147002_5, .string x147003_5, .bool x147004_5, .slice none 0 0, .slice none 0 0, .bool x147007_5, .bool x147008_5, .string x147009_5] 33 (0, 0))) := ⟨by (iterate 3 refine zmb ?_ NB146_147.out _); exact BK146.out⟩
                    have n4_ : za ((((w179.setCell ⟨gb147, 8, none⟩ (.bool t181)).setCell ⟨gb147, 9, none⟩ (.string t182)).setCell ⟨gb147, 0, none⟩ (.string (x6_155 ++ ((⟨#[45, 114]⟩ : ByteArray) ++ t183)))).heap[gb147]? = some (.cells #[.string (x6_155 ++ ((⟨#[45, 114]⟩ : ByteArray) ++ t183)), .string ⟨#[]⟩, .string x148002_41, .string x148003_155, .bool false, u148005, u148006, .bool true, .bool t181, .string t182] 33 (0, 0))) := ⟨by refine zv (cs := #[.string ⟨#[]⟩, .string ⟨#[]⟩, .string x148002_41, .string x148003_155, .bool false, u148005, u148006, .bool true, .bool t181, .string t182]) ?_ 0 _ rfl; refine zv (cs := #[.string ⟨#[]⟩, .string ⟨#[]⟩, .string x148002_41, .string x148003_155, .bool false, u148005, u148006, .bool true, .bool t181, .string ⟨#[]⟩]) ?_ 9 _ rfl; refine zv (cs := #[.string ⟨#[]⟩, .string ⟨#[]⟩, .string x148002_41, .string x148003_155, .bool false, u148005, u148006, .bool true, .bool false, .string ⟨#[]⟩]) ?_ 8 _ rfl; exact BK147.out⟩
                    have n5_ : za (Below w.heap.size w (((w179.setCell ⟨gb147, 8, none⟩ (.bool t181)).setCell ⟨gb147, 9, none⟩ (.string t182)).setCell ⟨gb147, 0, none⟩ (.string (x6_155 ++ ((⟨#[45, 114]⟩ : ByteArray) ++ t183))))) := ⟨by (with_reducible refine zi ?_ GE147.out; with_reducible refine zi ?_ GE147.out; with_reducible refine zi ?_ GE147.out; with_reducible exact HB.out)⟩
                    (try clear HO_148005)
                    (try clear HO_148006)
                    (try clear BK145)
                    (try clear BK146)
                    (try clear BK147)
                    (try clear HB)
                    generalize (((w179.setCell ⟨gb147, 8, none⟩ (.bool t181)).setCell ⟨gb147, 9, none⟩ (.string t182)).setCell ⟨gb147, 0, none⟩ (.string (x6_155 ++ ((⟨#[45, 114]⟩ : ByteArray) ++ t183)))) = w182 at n0_ n1_ n2_ n3_ n4_ n5_ ⊢
                    have HO_148005 := n0_
                    have HO_148006 := n1_
                    have BK145 := n2_
                    have BK146 := n3_
                    have BK147 := n4_
                    have HB := n5_
                    clear n0_ n1_ n2_ n3_ n4_ n5_
                    (try (rw [zsd w182]; generalize hq_ : World.drewN w182 _ = w182; have n0_ : za (Kd.R k54 54 w182 w.heap.size (fun _ => True) u148005 x148005_2) := ⟨by rw [← hq_]; exact (by (with_reducible repeat (first | apply Kd.R_alloc | apply Kd.R_drewN | apply Kd.R_drew)); exact HO_148005.out)⟩; have n1_ : za (Kd.R k58 58 w182 w.heap.size (fun _ => True) u148006 x148006_4) := ⟨by rw [← hq_]; exact (by (with_reducible repeat (first | apply Kd.R_alloc | apply Kd.R_drewN | apply Kd.R_drew)); exact HO_148006.out)⟩; have n2_ : za (w182.heap[gb145]? = some (.cells #[.slice A0_0 l0_0.length c0_0, .int .u8 a0_1, .slice A0_2 l0_2.length c0_2, .slice A0_3 l0_3.length c0_3, .string a0_4, .bool true, .int .u16 a0_6] 26 (0, 0))) := ⟨by rw [← hq_]; exact (by (with_reducible (refine zz ?_ _)); exact BK145.out)⟩; have n3_ : za (w182.heap[gb146]? = some (.cells #[.string x147000_5, .string x147001_5, .string x147002_5, .string x147003_5, .bool x147004_5, .slice none 0 0, .slice none 0 0, .bool x147007_5, .bool x147008_5, .string x147009_5] 33 (0, 0))) := ⟨by rw [← hq_]; exact (by (with_reducible (refine zz ?_ _)); exact BK146.out)⟩; have n4_ : za (w182.heap[gb147]? = some (.cells #[.string (x6_155 ++ ((⟨#[45, 114]⟩ : ByteArray) ++ t183)), .string ⟨#[]⟩, .string x148002_41, .string x148003_155, .bool false, u148005, u148006, .bool true, .bool t181, .string t182] 33 (0, 0))) := ⟨by rw [← hq_]; exact (by (with_reducible (refine zz ?_ _)); exact BK147.out)⟩; have n5_ : za (Below w.heap.size w w182) := ⟨by rw [← hq_]; exact (by (with_reducible apply ze; with_reducible exact HB.out))⟩; clear HO_148005 HO_148006 BK145 BK146 BK147 HB hq_; have HO_148005 := n0_; have HO_148006 := n1_; have BK145 := n2_; have BK146 := n3_; have BK147 := n4_; have HB := n5_; clear n0_ n1_ n2_ n3_ n4_ n5_))
                    replace HO_148005 := za.mk (Kd.R_drew HO_148005.out)
                    replace HO_148006 := za.mk (Kd.R_drew HO_148006.out)
                    replace BK145 := za.mk (zkc BK145.out)
                    replace BK146 := za.mk (zkc BK146.out)
                    replace BK147 := za.mk (zkc BK147.out)
                    replace HB := za.mk (zy HB.out)
                    obtain ⟨Ao189, co189, eo189⟩ := Kd.R_slice HO_148005.out
                    (first | subst eo189 | (injection eo189 with f1_ f2_ f3_; have f4_ := f1_.symm; have f5_ := f3_.symm; clear f1_ f2_ f3_; subst f4_; subst f5_))
                    obtain ⟨Ao191, co191, eo191⟩ := Kd.R_slice HO_148006.out
                    (first | subst eo191 | (injection eo191 with f1_ f2_ f3_; have f4_ := f1_.symm; have f5_ := f3_.symm; clear f1_ f2_ f3_; subst f4_; subst f5_))
                    refine zsf (n := 5) (S := fun w' => w'.cell? ⟨gb147, 0, none⟩ = some (.string (x6_155 ++ ((⟨#[45, 114]⟩ : ByteArray) ++ t183))) ∧ w'.cell? ⟨gb147, 1, none⟩ = some (.string ⟨#[]⟩) ∧ w'.cell? ⟨gb147, 2, none⟩ = some (.string x148002_41) ∧ w'.cell? ⟨gb147, 3, none⟩ = some (.string x148003_155) ∧ w'.cell? ⟨gb147, 4, none⟩ = some (.bool false) ∧ w'.cell? ⟨gb147, 5, none⟩ = some (.slice Ao189 x148005_2.length co189) ∧ w'.cell? ⟨gb147, 6, none⟩ = some (.slice Ao191 x148006_4.length co191) ∧ w'.cell? ⟨gb147, 7, none⟩ = some (.bool true) ∧ w'.cell? ⟨gb147, 8, none⟩ = some (.bool t181) ∧ w'.cell? ⟨gb147, 9, none⟩ = some (.string t182)) (ds := []) #[false, false, false, false, false] (by kernel_rfl) rfl rfl ⟨(zj BK147.out 0).trans rfl, (zj BK147.out 1).trans rfl, (zj BK147.out 2).trans rfl, (zj BK147.out 3).trans rfl, (zj BK147.out 4).trans rfl, (zj BK147.out 5).trans rfl, (zj BK147.out 6).trans rfl, (zj BK147.out 7).trans rfl, (zj BK147.out 8).trans rfl, (zj BK147.out 9).trans rfl⟩ (fun hHeld => ?_)
                    generalize w182.drew = w183 at HO_148005 HO_148006 BK145 BK146 BK147 HB hHeld ⊢
                    refine pure_ (i := 0) (N := some 195) (v := ?_) (a' := ?_) #[true, false, false, false, false] rfl rfl (by kernel_rfl) (fun _ _ _ h => h) (Or.inl ⟨by rfl, ?_⟩) ?_ ?_
                    rotate_left
                    ·intro w'
                     go_simp
                     with_reducible rfl
                    rotate_left
                    ·simp only [Act.put, List.setIfInBounds_toArray, List.set_cons_zero, List.set_cons_succ, i64_w, i32_w]
                     rfl
                    refine pure_ (i := 2) (N := some 2) (v := ?_) (a' := ?_) #[true, false, true, false, false] rfl rfl (by kernel_rfl) (fun _ _ _ h => h) (Or.inl ⟨by rfl, ?_⟩) ?_ ?_
                    rotate_left
                    ·intro w'
                     go_simp
                     with_reducible rfl
                    rotate_left
                    ·simp only [Act.put, List.setIfInBounds_toArray, List.set_cons_zero, List.set_cons_succ, i64_w, i32_w]
                     rfl
                    refine take_ (i := 1) (N := some 196) (v := ?_) (a' := ?_) #[true, true, true, false, false] rfl rfl (by kernel_rfl) (fun _ _ _ h => h) (Or.inl ⟨by rfl, ?_⟩) hHeld ?_ ?_
                    rotate_left
                    ·rintro w' ⟨s0, s1, s2, s3, s4, s5, s6, s7, s8, s9⟩
                     go_simp
                     with_reducible rfl
                    rotate_left
                    ·simp only [Act.put, List.setIfInBounds_toArray, List.set_cons_zero, List.set_cons_succ, i64_w, i32_w]
                     rfl
                    refine one_ (i := 3) (N := none) #[true, true, true, true, false] rfl rfl (by kernel_rfl) (by decide) (fun K hK => ?_)
                    have hs184 : w183.cell? ⟨gb146, 0, none⟩ = some (.string x147000_5) := (zj BK146.out 0).trans rfl
                    have hfs184 := zu BK146.out 0
                    have hns184_0 := NB145_146.out
                    have hns184_2 := NB147_146.out
                    have hms184_0 := NB146_145.out
                    have hms184_2 := NB146_147.out
                    have hs185 : w183.cell? ⟨gb146, 1, none⟩ = some (.string x147001_5) := (zj BK146.out 1).trans rfl
                    have hfs185 := zu BK146.out 1
                    have hns185_0 := NB145_146.out
                    have hns185_2 := NB147_146.out
                    have hms185_0 := NB146_145.out
                    have hms185_2 := NB146_147.out
                    have hs186 : w183.cell? ⟨gb146, 2, none⟩ = some (.string x147002_5) := (zj BK146.out 2).trans rfl
                    have hfs186 := zu BK146.out 2
                    have hns186_0 := NB145_146.out
                    have hns186_2 := NB147_146.out
                    have hms186_0 := NB146_145.out
                    have hms186_2 := NB146_147.out
                    have hs187 : w183.cell? ⟨gb146, 3, none⟩ = some (.string x147003_5) := (zj BK146.out 3).trans rfl
                    have hfs187 := zu BK146.out 3
                    have hns187_0 := NB145_146.out
                    have hns187_2 := NB147_146.out
                    have hms187_0 := NB146_145.out
                    have hms187_2 := NB146_147.out
                    have hs188 : w183.cell? ⟨gb146, 4, none⟩ = some (.bool x147004_5) := (zj BK146.out 4).trans rfl
                    have hfs188 := zu BK146.out 4
                    have hns188_0 := NB145_146.out
                    have hns188_2 := NB147_146.out
                    have hms188_0 := NB146_145.out
                    have hms188_2 := NB146_147.out
                    have hs190 : w183.cell? ⟨gb146, 5, none⟩ = some (.slice none 0 0) := (zj BK146.out 5).trans rfl
                    have hfs190 := zu BK146.out 5
                    have hns190_0 := NB145_146.out
                    have hns190_2 := NB147_146.out
                    have hms190_0 := NB146_145.out
                    have hms190_2 := NB146_147.out
                    have hs192 : w183.cell? ⟨gb146, 6, none⟩ = some (.slice none 0 0) := (zj BK146.out 6).trans rfl
                    have hfs192 := zu BK146.out 6
                    have hns192_0 := NB145_146.out
                    have hns192_2 := NB147_146.out
                    have hms192_0 := NB146_145.out
                    have hms192_2 := NB146_147.out
                    have hs193 : w183.cell? ⟨gb146, 7, none⟩ = some (.bool x147007_5) := (zj BK146.out 7).trans rfl
                    have hfs193 := zu BK146.out 7
                    have hns193_0 := NB145_146.out
                    have hns193_2 := NB147_146.out
                    have hms193_0 := NB146_145.out
                    have hms193_2 := NB146_147.out
                    have hs194 : w183.cell? ⟨gb146, 8, none⟩ = some (.bool x147008_5) := (zj BK146.out 8).trans rfl
                    have hfs194 := zu BK146.out 8
                    have hns194_0 := NB145_146.out
                    have hns194_2 := NB147_146.out
                    have hms194_0 := NB146_145.out
                    have hms194_2 := NB146_147.out
                    have hs195 : w183.cell? ⟨gb146, 9, none⟩ = some (.string x147009_5) := (zj BK146.out 9).trans rfl
                    have hfs195 := zu BK146.out 9
                    have hns195_0 := NB145_146.out
                    have hns195_2 := NB147_146.out
                    have hms195_0 := NB146_145.out
                    have hms195_2 := NB146_147.out
                    refine skip_ (w1 := ?_) (by rfl) rfl ?_ ?_
                    rotate_left
                    ·go_simp
                     rfl
                    refine hK.out _ _ ⟨((zoe NB147_146.out).trans (hHeld.1)), ((zoe NB147_146.out).trans (hHeld.2.1)), ((zoe NB147_146.out).trans (hHeld.2.2.1)), ((zoe NB147_146.out).trans (hHeld.2.2.2.1)), ((zoe NB147_146.out).trans (hHeld.2.2.2.2.1)), ((zoe NB147_146.out).trans (hHeld.2.2.2.2.2.1)), ((zoe NB147_146.out).trans (hHeld.2.2.2.2.2.2.1)), ((zoe NB147_146.out).trans (hHeld.2.2.2.2.2.2.2.1)), ((zoe NB147_146.out).trans (hHeld.2.2.2.2.2.2.2.2.1)), ((zoe NB147_146.out).trans (hHeld.2.2.2.2.2.2.2.2.2))⟩ (fun hHeld => ?_)
                    clear hK K
                    refine pure_ (i := 4) (N := some 4) (v := ?_) (a' := ?_) #[true, true, true, true, true] rfl rfl (by kernel_rfl) (fun _ _ _ h => h) (Or.inl ⟨by rfl, ?_⟩) ?_ ?_
                    rotate_left
                    ·intro w'
                     go_simp
                     with_reducible rfl
                    rotate_left
                    ·simp only [Act.put, List.setIfInBounds_toArray, List.set_cons_zero, List.set_cons_succ, i64_w, i32_w]
                     rfl
                    refine done_ (by kernel_rfl) ?_
                    try go_wp2
                    refine bodyPost_ret (zae (rs := [.tmp 2, .cell 3 33, .tmp 4]) rfl (by simp) (.tmp (.cell gb146 33 #[.string (x6_155 ++ ((⟨#[45, 114]⟩ : ByteArray) ++ t183)), .string ⟨#[]⟩, .string x148002_41, .string x148003_155, .bool false, .slice Ao189 x148005_2.length co189, .slice Ao191 x148006_4.length co191, .bool true, .bool t181, .string t182] (0, 0) _ rfl (by exact put10 BK146.out) Tryd.underlying33 rfl (by kernel_rfl) (.tmp .nil)))) rfl ?_
                    exact ⟨_, _, by rfl, by (with_reducible repeat (first | apply Kd.R_alloc | apply Kd.R_drewN | apply Kd.R_drew)); exact Kd.R_mono (farC (farC (farC (farC (farC (farC (farC (farC (farC (farC (Kd.R_types HO_148005.out BK146.out (by decide)))))))))))) (fun _ hk => trivial), by (with_reducible repeat (first | apply Kd.R_alloc | apply Kd.R_drewN | apply Kd.R_drew)); exact Kd.R_mono (farC (farC (farC (farC (farC (farC (farC (farC (farC (farC (Kd.R_types HO_148006.out BK146.out (by decide)))))))))))) (fun _ hk => trivial), by repeat (first | (with_reducible first | exact HB.out | apply zo | apply ze | apply zy | refine zi ?_ GE145.out | refine zi ?_ GE146.out | refine zi ?_ GE147.out) | exact HB.out)⟩
                   ·rw [if_neg c173] at H
                    exact absurd H (by simp)
                  ·rw [if_neg c172] at H
                   exact absurd H (by simp)
                 ·replace c168 := Bool.eq_false_iff.mpr c168
                  subst c168
                  have H1 : (some (x6_155, x6_155, (⟨#[]⟩ : ByteArray), x148002_41, x148003_155, false, x148005_2, x148006_4, true, false, (⟨#[]⟩ : ByteArray), true)) = some (r1, r2, r3, r4, r5, r6, r7, r8, r9, r10, r11, r12) := by rw [if_neg (show ¬ (false = true) by decide)] at H; exact H
                  clear H
                  have H := H1
                  clear H1
                  simp only [Option.some.injEq, Prod.mk.injEq] at H
                  obtain ⟨rfl, rfl, rfl, rfl, rfl, rfl, rfl, rfl, rfl, rfl, rfl, rfl⟩ := H
                  have hnb196 := NB147_145.out
                  have hnc196 := NB145_147.out
                  have hnb197 := NB147_146.out
                  have hnc197 := NB146_147.out
                  obtain ⟨hcz198_0, hcz198_1, hcz198_2, hcz198_3, hcz198_4, hcz198_5, hcz198_6, hcz198_7, hcz198_8, hcz198_9, hfz198_0, hfz198_1, hfz198_2, hfz198_3, hfz198_4, hfz198_5, hfz198_6, hfz198_7, hfz198_8, hfz198_9⟩ := cl10 BK147.out
                  have hnb199 := NB145_146.out
                  have hnc199 := NB146_145.out
                  obtain ⟨hcz200_0, hcz200_1, hcz200_2, hcz200_3, hcz200_4, hcz200_5, hcz200_6, hfz200_0, hfz200_1, hfz200_2, hfz200_3, hfz200_4, hfz200_5, hfz200_6⟩ := cl7 BK145.out
                  try go_wp2
                  (try repeat rw [zwh])
                  have n0_ : za (Kd.R k54 54 ((wc.setCell ⟨gb147, 7, none⟩ (.bool true)).setCell ⟨gb147, 0, none⟩ (.string x6_155)) w.heap.size (fun _ => True) u148005 x148005_2) := ⟨by (with_reducible repeat (first | apply Kd.R_alloc | apply Kd.R_drewN | apply Kd.R_drew)); exact Kd.R_mono (farC (farC (Kd.R_types HO_148005.out BK147.out (by decide)))) (fun _ hk => trivial)⟩
                  have n1_ : za (Kd.R k58 58 ((wc.setCell ⟨gb147, 7, none⟩ (.bool true)).setCell ⟨gb147, 0, none⟩ (.string x6_155)) w.heap.size (fun _ => True) u148006 x148006_4) := ⟨by (with_reducible repeat (first | apply Kd.R_alloc | apply Kd.R_drewN | apply Kd.R_drew)); exact Kd.R_mono (farC (farC (Kd.R_types HO_148006.out BK147.out (by decide)))) (fun _ hk => trivial)⟩
                  have n2_ : za (((wc.setCell ⟨gb147, 7, none⟩ (.bool true)).setCell ⟨gb147, 0, none⟩ (.string x6_155)).heap[gb145]? = some (.cells #[.slice A0_0 l0_0.length c0_0, .int .u8 a0_1, .slice A0_2 l0_2.length c0_2, .slice A0_3 l0_3.length c0_3, .string a0_4, .bool false, .int .u16 a0_6] 26 (0, 0))) := ⟨by refine zmb ?_ NB145_147.out _; refine zmb ?_ NB145_147.out _; exact BK145.out⟩
                  have n3_ : za (((wc.setCell ⟨gb147, 7, none⟩ (.bool true)).setCell ⟨gb147, 0, none⟩ (.string x6_155)).heap[gb146]? = some (.cells #[.string x147000_5, .string x147001_5, .string x147002_5, .string x147003_5, .bool x147004_5, .slice none 0 0, .slice none 0 0, .bool x147007_5, .bool x147008_5, .string x147009_5] 33 (0, 0))) := ⟨by refine zmb ?_ NB146_147.out _; refine zmb ?_ NB146_147.out _; exact BK146.out⟩
                  have n4_ : za (((wc.setCell ⟨gb147, 7, none⟩ (.bool true)).setCell ⟨gb147, 0, none⟩ (.string x6_155)).heap[gb147]? = some (.cells #[.string x6_155, .string ⟨#[]⟩, .string x148002_41, .string x148003_155, .bool false, u148005, u148006, .bool true, .bool false, .string ⟨#[]⟩] 33 (0, 0))) := ⟨by refine zv (cs := #[.string ⟨#[]⟩, .string ⟨#[]⟩, .string x148002_41, .string x148003_155, .bool false, u148005, u148006, .bool true, .bool false, .string ⟨#[]⟩]) ?_ 0 _ rfl; refine zv (cs := #[.string ⟨#[]⟩, .string ⟨#[]⟩, .string x148002_41, .string x148003_155, .bool false, u148005, u148006, .bool false, .bool false, .string ⟨#[]⟩]) ?_ 7 _ rfl; exact BK147.out⟩
                  have n5_ : za (Below w.heap.size w ((wc.setCell ⟨gb147, 7, none⟩ (.bool true)).setCell ⟨gb147, 0, none⟩ (.string x6_155))) := ⟨by (with_reducible refine zi ?_ GE147.out; with_reducible refine zi ?_ GE147.out; with_reducible exact HB.out)⟩
                  (try clear HO_148005)
                  (try clear HO_148006)
                  (try clear BK145)
                  (try clear BK146)
                  (try clear BK147)
                  (try clear HB)
                  generalize ((wc.setCell ⟨gb147, 7, none⟩ (.bool true)).setCell ⟨gb147, 0, none⟩ (.string x6_155)) = w201 at n0_ n1_ n2_ n3_ n4_ n5_ ⊢
                  have HO_148005 := n0_
                  have HO_148006 := n1_
                  have BK145 := n2_
                  have BK146 := n3_
                  have BK147 := n4_
                  have HB := n5_
                  clear n0_ n1_ n2_ n3_ n4_ n5_
                  replace HO_148005 := za.mk (Kd.R_drew HO_148005.out)
                  replace HO_148006 := za.mk (Kd.R_drew HO_148006.out)
                  replace BK145 := za.mk (zkc BK145.out)
                  replace BK146 := za.mk (zkc BK146.out)
                  replace BK147 := za.mk (zkc BK147.out)
                  replace HB := za.mk (zy HB.out)
                  obtain ⟨Ao208, co208, eo208⟩ := Kd.R_slice HO_148005.out
                  (first | subst eo208 | (injection eo208 with f1_ f2_ f3_; have f4_ := f1_.symm; have f5_ := f3_.symm; clear f1_ f2_ f3_; subst f4_; subst f5_))
                  obtain ⟨Ao210, co210, eo210⟩ := Kd.R_slice HO_148006.out
                  (first | subst eo210 | (injection eo210 with f1_ f2_ f3_; have f4_ := f1_.symm; have f5_ := f3_.symm; clear f1_ f2_ f3_; subst f4_; subst f5_))
                  refine zsf (n := 5) (S := fun w' => w'.cell? ⟨gb147, 0, none⟩ = some (.string x6_155) ∧ w'.cell? ⟨gb147, 1, none⟩ = some (.string ⟨#[]⟩) ∧ w'.cell? ⟨gb147, 2, none⟩ = some (.string x148002_41) ∧ w'.cell? ⟨gb147, 3, none⟩ = some (.string x148003_155) ∧ w'.cell? ⟨gb147, 4, none⟩ = some (.bool false) ∧ w'.cell? ⟨gb147, 5, none⟩ = some (.slice Ao208 x148005_2.length co208) ∧ w'.cell? ⟨gb147, 6, none⟩ = some (.slice Ao210 x148006_4.length co210) ∧ w'.cell? ⟨gb147, 7, none⟩ = some (.bool true) ∧ w'.cell? ⟨gb147, 8, none⟩ = some (.bool false) ∧ w'.cell? ⟨gb147, 9, none⟩ = some (.string ⟨#[]⟩)) (ds := []) #[false, false, false, false, false] (by kernel_rfl) rfl rfl ⟨(zj BK147.out 0).trans rfl, (zj BK147.out 1).trans rfl, (zj BK147.out 2).trans rfl, (zj BK147.out 3).trans rfl, (zj BK147.out 4).trans rfl, (zj BK147.out 5).trans rfl, (zj BK147.out 6).trans rfl, (zj BK147.out 7).trans rfl, (zj BK147.out 8).trans rfl, (zj BK147.out 9).trans rfl⟩ (fun hHeld => ?_)
                  generalize w201.drew = w202 at HO_148005 HO_148006 BK145 BK146 BK147 HB hHeld ⊢
                  refine pure_ (i := 0) (N := some 195) (v := ?_) (a' := ?_) #[true, false, false, false, false] rfl rfl (by kernel_rfl) (fun _ _ _ h => h) (Or.inl ⟨by rfl, ?_⟩) ?_ ?_
                  rotate_left
                  ·intro w'
                   go_simp
                   with_reducible rfl
                  rotate_left
                  ·simp only [Act.put, List.setIfInBounds_toArray, List.set_cons_zero, List.set_cons_succ, i64_w, i32_w]
                   rfl
                  refine pure_ (i := 2) (N := some 2) (v := ?_) (a' := ?_) #[true, false, true, false, false] rfl rfl (by kernel_rfl) (fun _ _ _ h => h) (Or.inl ⟨by rfl, ?_⟩) ?_ ?_
                  rotate_left
                  ·intro w'
                   go_simp
                   with_reducible rfl
                  rotate_left
                  ·simp only [Act.put, List.setIfInBounds_toArray, List.set_cons_zero, List.set_cons_succ, i64_w, i32_w]
                   rfl
                  refine take_ (i := 1) (N := some 196) (v := ?_) (a' := ?_) #[true, true, true, false, false] rfl rfl (by kernel_rfl) (fun _ _ _ h => h) (Or.inl ⟨by rfl, ?_⟩) hHeld ?_ ?_
                  rotate_left
                  ·rintro w' ⟨s0, s1, s2, s3, s4, s5, s6, s7, s8, s9⟩
                   go_simp
                   with_reducible rfl
                  rotate_left
                  ·simp only [Act.put, List.setIfInBounds_toArray, List.set_cons_zero, List.set_cons_succ, i64_w, i32_w]
                   rfl
                  refine one_ (i := 3) (N := none) #[true, true, true, true, false] rfl rfl (by kernel_rfl) (by decide) (fun K hK => ?_)
                  have hs203 : w202.cell? ⟨gb146, 0, none⟩ = some (.string x147000_5) := (zj BK146.out 0).trans rfl
                  have hfs203 := zu BK146.out 0
                  have hns203_0 := NB145_146.out
                  have hns203_2 := NB147_146.out
                  have hms203_0 := NB146_145.out
                  have hms203_2 := NB146_147.out
                  have hs204 : w202.cell? ⟨gb146, 1, none⟩ = some (.string x147001_5) := (zj BK146.out 1).trans rfl
                  have hfs204 := zu BK146.out 1
                  have hns204_0 := NB145_146.out
                  have hns204_2 := NB147_146.out
                  have hms204_0 := NB146_145.out
                  have hms204_2 := NB146_147.out
                  have hs205 : w202.cell? ⟨gb146, 2, none⟩ = some (.string x147002_5) := (zj BK146.out 2).trans rfl
                  have hfs205 := zu BK146.out 2
                  have hns205_0 := NB145_146.out
                  have hns205_2 := NB147_146.out
                  have hms205_0 := NB146_145.out
                  have hms205_2 := NB146_147.out
                  have hs206 : w202.cell? ⟨gb146, 3, none⟩ = some (.string x147003_5) := (zj BK146.out 3).trans rfl
                  have hfs206 := zu BK146.out 3
                  have hns206_0 := NB145_146.out
                  have hns206_2 := NB147_146.out
                  have hms206_0 := NB146_145.out
                  have hms206_2 := NB146_147.out
                  have hs207 : w202.cell? ⟨gb146, 4, none⟩ = some (.bool x147004_5) := (zj BK146.out 4).trans rfl
                  have hfs207 := zu BK146.out 4
                  have hns207_0 := NB145_146.out
                  have hns207_2 := NB147_146.out
                  have hms207_0 := NB146_145.out
                  have hms207_2 := NB146_147.out
                  have hs209 : w202.cell? ⟨gb146, 5, none⟩ = some (.slice none 0 0) := (zj BK146.out 5).trans rfl
                  have hfs209 := zu BK146.out 5
                  have hns209_0 := NB145_146.out
                  have hns209_2 := NB147_146.out
                  have hms209_0 := NB146_145.out
                  have hms209_2 := NB146_147.out
                  have hs211 : w202.cell? ⟨gb146, 6, none⟩ = some (.slice none 0 0) := (zj BK146.out 6).trans rfl
                  have hfs211 := zu BK146.out 6
                  have hns211_0 := NB145_146.out
                  have hns211_2 := NB147_146.out
                  have hms211_0 := NB146_145.out
                  have hms211_2 := NB146_147.out
                  have hs212 : w202.cell? ⟨gb146, 7, none⟩ = some (.bool x147007_5) := (zj BK146.out 7).trans rfl
                  have hfs212 := zu BK146.out 7
                  have hns212_0 := NB145_146.out
                  have hns212_2 := NB147_146.out
                  have hms212_0 := NB146_145.out
                  have hms212_2 := NB146_147.out
                  have hs213 : w202.cell? ⟨gb146, 8, none⟩ = some (.bool x147008_5) := (zj BK146.out 8).trans rfl
                  have hfs213 := zu BK146.out 8
                  have hns213_0 := NB145_146.out
                  have hns213_2 := NB147_146.out
                  have hms213_0 := NB146_145.out
                  have hms213_2 := NB146_147.out
                  have hs214 : w202.cell? ⟨gb146, 9, none⟩ = some (.string x147009_5) := (zj BK146.out 9).trans rfl
                  have hfs214 := zu BK146.out 9
                  have hns214_0 := NB145_146.out
                  have hns214_2 := NB147_146.out
                  have hms214_0 := NB146_145.out
                  have hms214_2 := NB146_147.out
                  refine skip_ (w1 := ?_) (by rfl) rfl ?_ ?_
                  rotate_left
                  ·go_simp
                   rfl
                  refine hK.out _ _ ⟨((zoe NB147_146.out).trans (hHeld.1)), ((zoe NB147_146.out).trans (hHeld.2.1)), ((zoe NB147_146.out).trans (hHeld.2.2.1)), ((zoe NB147_146.out).trans (hHeld.2.2.2.1)), ((zoe NB147_146.out).trans (hHeld.2.2.2.2.1)), ((zoe NB147_146.out).trans (hHeld.2.2.2.2.2.1)), ((zoe NB147_146.out).trans (hHeld.2.2.2.2.2.2.1)), ((zoe NB147_146.out).trans (hHeld.2.2.2.2.2.2.2.1)), ((zoe NB147_146.out).trans (hHeld.2.2.2.2.2.2.2.2.1)), ((zoe NB147_146.out).trans (hHeld.2.2.2.2.2.2.2.2.2))⟩ (fun hHeld => ?_)
                  clear hK K
                  refine pure_ (i := 4) (N := some 4) (v := ?_) (a' := ?_) #[true, true, true, true, true] rfl rfl (by kernel_rfl) (fun _ _ _ h => h) (Or.inl ⟨by rfl, ?_⟩) ?_ ?_
                  rotate_left
                  ·intro w'
                   go_simp
                   with_reducible rfl
                  rotate_left
                  ·simp only [Act.put, List.setIfInBounds_toArray, List.set_cons_zero, List.set_cons_succ, i64_w, i32_w]
                   rfl
                  refine done_ (by kernel_rfl) ?_
                  try go_wp2
                  refine bodyPost_ret (zae (rs := [.tmp 2, .cell 3 33, .tmp 4]) rfl (by simp) (.tmp (.cell gb146 33 #[.string x6_155, .string ⟨#[]⟩, .string x148002_41, .string x148003_155, .bool false, .slice Ao208 x148005_2.length co208, .slice Ao210 x148006_4.length co210, .bool true, .bool false, .string ⟨#[]⟩] (0, 0) _ rfl (by exact put10 BK146.out) Tryd.underlying33 rfl (by kernel_rfl) (.tmp .nil)))) rfl ?_
                  exact ⟨_, _, by rfl, by (with_reducible repeat (first | apply Kd.R_alloc | apply Kd.R_drewN | apply Kd.R_drew)); exact Kd.R_mono (farC (farC (farC (farC (farC (farC (farC (farC (farC (farC (Kd.R_types HO_148005.out BK146.out (by decide)))))))))))) (fun _ hk => trivial), by (with_reducible repeat (first | apply Kd.R_alloc | apply Kd.R_drewN | apply Kd.R_drew)); exact Kd.R_mono (farC (farC (farC (farC (farC (farC (farC (farC (farC (farC (Kd.R_types HO_148006.out BK146.out (by decide)))))))))))) (fun _ hk => trivial), by repeat (first | (with_reducible first | exact HB.out | apply zo | apply ze | apply zy | refine zi ?_ GE145.out | refine zi ?_ GE146.out | refine zi ?_ GE147.out) | exact HB.out)⟩
end Go.Proofs.YtapaijpglfmfgaaDoor.Q
end
section
namespace Go.Proofs.YtapaijpglfmfgaaDoor.Q
open Go.RowKit YtapaijpglfmfgaaDoorH YtapaijpglfmfgaaDoorG YtapaijpglfmfgaaDoorW.PrintWords YtapaijpglfmfgaaDoorW.PrintLast YtapaijpglfmfgaaDoorW.PrintMore YtapaijpglfmfgaaDoorC
attribute [local go_sem] zsc zrc zbd zad zic zhc zqc ztc
def laws_want.f (a0 : Int) (a1 : Int) : Option (Int) := if a0 < a1 then (some (-1)) else (if a0 > a1 then (some 1) else (some 0))
def zhd.f (l0_0 : List Int) (a0_1 : Int) (l0_2 : List Int) (l0_3 : List Int) (a0_4 : ByteArray) (a0_5 : Bool) (a0_6 : Int) : Option (Bool) := if (l0_0.length : Int) > 2147483647 then (some false) else (if (l0_2.length : Int) > 2147483647 then (some false) else (if (l0_3.length : Int) > 2147483647 then (some false) else (if (a0_4.size : Int) > 2147483647 then (some false) else (some true))))
theorem zhd.calls (A0_0 : Option Addr) (c0_0 : Nat) (l0_0 : List Int) (a0_1 : Int) (A0_2 : Option Addr) (c0_2 : Nat) (l0_2 : List Int) (A0_3 : Option Addr) (c0_3 : Nat) (l0_3 : List Int) (a0_4 : ByteArray) (a0_5 : Bool) (a0_6 : Int) (r : Bool) (w : World) (hr0_0 : Kd.C (Kd.int .u16) w A0_0 l0_0.length l0_0) (hc0_0 : l0_0.length ≤ c0_0) (hr0_2 : Kd.C (Kd.int .u8) w A0_2 l0_2.length l0_2) (hc0_2 : l0_2.length ≤ c0_2) (hr0_3 : Kd.C (Kd.int .u16) w A0_3 l0_3.length l0_3) (hc0_3 : l0_3.length ≤ c0_3) (h : zhd.f l0_0 a0_1 l0_2 l0_3 a0_4 a0_5 a0_6 = some r) :
  Calls Tryd.prog 9 #[.agg #[.slice A0_0 l0_0.length c0_0, .int .u8 a0_1, .slice A0_2 l0_2.length c0_2, .slice A0_3 l0_3.length c0_3, .string a0_4, .bool a0_5, .int .u16 a0_6]] w fun e w' => e = .returned (.bool r) ∧ Below w.heap.size w w' := by
 have hu26 := Tryd.underlying26
 have HR0_0 := za.mk hr0_0
 have HC0_0 := za.mk hc0_0
 clear hr0_0 hc0_0
 have HR0_2 := za.mk hr0_2
 have HC0_2 := za.mk hc0_2
 clear hr0_2 hc0_2
 have HR0_3 := za.mk hr0_3
 have HC0_3 := za.mk hc0_3
 clear hr0_3 hc0_3
 have HB := za.mk (Below.refl w.heap.size w)
 have H : (if (l0_0.length : Int) > 2147483647 then (some false) else (if (l0_2.length : Int) > 2147483647 then (some false) else (if (l0_3.length : Int) > 2147483647 then (some false) else (if (a0_4.size : Int) > 2147483647 then (some false) else (some true))))) = some r := h
 clear h
 by_cases c2 : (l0_0.length : Int) > 2147483647
 ·rw [if_pos c2] at H
  have c2b0 : decide (2147483647 < (l0_0.length : Int)) = true := decide_eq_true c2
  have c2b1 : decide (2147483647 < l0_0.length) = true := decide_eq_true (by omega)
  clear c2
  obtain rfl := Option.some.inj H
  go_enter Tryd.func9, Tryd.ntmps9
  go_wp2_with (((with_reducible refine zjb (N := 1) rfl ?_); refine zec ?hg (N := 1) ?hd (cs := #[.slice A0_0 l0_0.length c0_0, .int .u8 a0_1, .slice A0_2 l0_2.length c0_2, .slice A0_3 l0_3.length c0_3, .string a0_4, .bool a0_5, .int .u16 a0_6]) (t := 26) ?hr ?_; (case hd => rfl); (case hg => rfl); (case hr => first | (go_simp; done) | (go_simp; rfl)); intro gb256 hg w3 hbox hb; have BK256 := za.mk hbox; have GW256 := za.mk ((by rw [hg]; exact (zl (by (with_reducible exact HB.out))) : w.heap.size ≤ gb256)); have GE256 := za.mk ((by rw [hg]; exact (zl (by (with_reducible exact HB.out))) : w.heap.size ≤ gb256)); replace HB := za.mk (zm (by (with_reducible exact HB.out)) hb); clear hb hbox hg; obtain ⟨hcz4_0, hcz4_1, hcz4_2, hcz4_3, hcz4_4, hcz4_5, hcz4_6, _⟩ := cl7 BK256.out))
  go_ret
  exact ⟨by rfl, by (with_reducible exact HB.out)⟩
 ·rw [if_neg c2] at H
  have c2b0 : decide (2147483647 < (l0_0.length : Int)) = false := decide_eq_false c2
  have c2b1 : decide (2147483647 < l0_0.length) = false := decide_eq_false (by omega)
  clear c2
  by_cases c5 : (l0_2.length : Int) > 2147483647
  ·rw [if_pos c5] at H
   have c5b0 : decide (2147483647 < (l0_2.length : Int)) = true := decide_eq_true c5
   have c5b1 : decide (2147483647 < l0_2.length) = true := decide_eq_true (by omega)
   clear c5
   obtain rfl := Option.some.inj H
   go_enter Tryd.func9, Tryd.ntmps9
   go_wp2_with (((with_reducible refine zjb (N := 1) rfl ?_); refine zec ?hg (N := 1) ?hd (cs := #[.slice A0_0 l0_0.length c0_0, .int .u8 a0_1, .slice A0_2 l0_2.length c0_2, .slice A0_3 l0_3.length c0_3, .string a0_4, .bool a0_5, .int .u16 a0_6]) (t := 26) ?hr ?_; (case hd => rfl); (case hg => rfl); (case hr => first | (go_simp; done) | (go_simp; rfl)); intro gb256 hg w6 hbox hb; have BK256 := za.mk hbox; have GW256 := za.mk ((by rw [hg]; exact (zl (by (with_reducible exact HB.out))) : w.heap.size ≤ gb256)); have GE256 := za.mk ((by rw [hg]; exact (zl (by (with_reducible exact HB.out))) : w.heap.size ≤ gb256)); replace HB := za.mk (zm (by (with_reducible exact HB.out)) hb); clear hb hbox hg; obtain ⟨hcz7_0, hcz7_1, hcz7_2, hcz7_3, hcz7_4, hcz7_5, hcz7_6, _⟩ := cl7 BK256.out))
   go_ret
   exact ⟨by rfl, by (with_reducible exact HB.out)⟩
  ·rw [if_neg c5] at H
   have c5b0 : decide (2147483647 < (l0_2.length : Int)) = false := decide_eq_false c5
   have c5b1 : decide (2147483647 < l0_2.length) = false := decide_eq_false (by omega)
   clear c5
   by_cases c8 : (l0_3.length : Int) > 2147483647
   ·rw [if_pos c8] at H
    have c8b0 : decide (2147483647 < (l0_3.length : Int)) = true := decide_eq_true c8
    have c8b1 : decide (2147483647 < l0_3.length) = true := decide_eq_true (by omega)
    clear c8
    obtain rfl := Option.some.inj H
    go_enter Tryd.func9, Tryd.ntmps9
    go_wp2_with (((with_reducible refine zjb (N := 1) rfl ?_); refine zec ?hg (N := 1) ?hd (cs := #[.slice A0_0 l0_0.length c0_0, .int .u8 a0_1, .slice A0_2 l0_2.length c0_2, .slice A0_3 l0_3.length c0_3, .string a0_4, .bool a0_5, .int .u16 a0_6]) (t := 26) ?hr ?_; (case hd => rfl); (case hg => rfl); (case hr => first | (go_simp; done) | (go_simp; rfl)); intro gb256 hg w9 hbox hb; have BK256 := za.mk hbox; have GW256 := za.mk ((by rw [hg]; exact (zl (by (with_reducible exact HB.out))) : w.heap.size ≤ gb256)); have GE256 := za.mk ((by rw [hg]; exact (zl (by (with_reducible exact HB.out))) : w.heap.size ≤ gb256)); replace HB := za.mk (zm (by (with_reducible exact HB.out)) hb); clear hb hbox hg; obtain ⟨hcz10_0, hcz10_1, hcz10_2, hcz10_3, hcz10_4, hcz10_5, hcz10_6, _⟩ := cl7 BK256.out))
    go_ret
    exact ⟨by rfl, by (with_reducible exact HB.out)⟩
   ·rw [if_neg c8] at H
    have c8b0 : decide (2147483647 < (l0_3.length : Int)) = false := decide_eq_false c8
    have c8b1 : decide (2147483647 < l0_3.length) = false := decide_eq_false (by omega)
    clear c8
    by_cases c11 : (a0_4.size : Int) > 2147483647
    ·rw [if_pos c11] at H
     have c11b0 : decide (2147483647 < (a0_4.size : Int)) = true := decide_eq_true c11
     have c11b1 : decide (2147483647 < a0_4.size) = true := decide_eq_true (by omega)
     clear c11
     obtain rfl := Option.some.inj H
     go_enter Tryd.func9, Tryd.ntmps9
     go_wp2_with (((with_reducible refine zjb (N := 1) rfl ?_); refine zec ?hg (N := 1) ?hd (cs := #[.slice A0_0 l0_0.length c0_0, .int .u8 a0_1, .slice A0_2 l0_2.length c0_2, .slice A0_3 l0_3.length c0_3, .string a0_4, .bool a0_5, .int .u16 a0_6]) (t := 26) ?hr ?_; (case hd => rfl); (case hg => rfl); (case hr => first | (go_simp; done) | (go_simp; rfl)); intro gb256 hg w12 hbox hb; have BK256 := za.mk hbox; have GW256 := za.mk ((by rw [hg]; exact (zl (by (with_reducible exact HB.out))) : w.heap.size ≤ gb256)); have GE256 := za.mk ((by rw [hg]; exact (zl (by (with_reducible exact HB.out))) : w.heap.size ≤ gb256)); replace HB := za.mk (zm (by (with_reducible exact HB.out)) hb); clear hb hbox hg; obtain ⟨hcz13_0, hcz13_1, hcz13_2, hcz13_3, hcz13_4, hcz13_5, hcz13_6, _⟩ := cl7 BK256.out))
     go_ret
     exact ⟨by rfl, by (with_reducible exact HB.out)⟩
    ·rw [if_neg c11] at H
     have c11b0 : decide (2147483647 < (a0_4.size : Int)) = false := decide_eq_false c11
     have c11b1 : decide (2147483647 < a0_4.size) = false := decide_eq_false (by omega)
     clear c11
     obtain rfl := Option.some.inj H
     go_enter Tryd.func9, Tryd.ntmps9
     go_wp2_with (((with_reducible refine zjb (N := 1) rfl ?_); refine zec ?hg (N := 1) ?hd (cs := #[.slice A0_0 l0_0.length c0_0, .int .u8 a0_1, .slice A0_2 l0_2.length c0_2, .slice A0_3 l0_3.length c0_3, .string a0_4, .bool a0_5, .int .u16 a0_6]) (t := 26) ?hr ?_; (case hd => rfl); (case hg => rfl); (case hr => first | (go_simp; done) | (go_simp; rfl)); intro gb256 hg w14 hbox hb; have BK256 := za.mk hbox; have GW256 := za.mk ((by rw [hg]; exact (zl (by (with_reducible exact HB.out))) : w.heap.size ≤ gb256)); have GE256 := za.mk ((by rw [hg]; exact (zl (by (with_reducible exact HB.out))) : w.heap.size ≤ gb256)); replace HB := za.mk (zm (by (with_reducible exact HB.out)) hb); clear hb hbox hg; obtain ⟨hcz15_0, hcz15_1, hcz15_2, hcz15_3, hcz15_4, hcz15_5, hcz15_6, _⟩ := cl7 BK256.out))
     go_ret
     exact ⟨by rfl, by (with_reducible exact HB.out)⟩
def zqe.l0 : Nat → List (S54) → Int → Option (Bool)
 | 0, _, _ => none
 | k + 1, x0, x3 => if x3 < (x0.length : Int) then (if 0 ≤ x3 then (if ((zxc x0 x3).f0).toList = ([] : List UInt8) then (some false) else (zqe.l0 k x0 (wrap64 (x3 + 1)))) else (none)) else (some true)
def zqe.f (k : Nat) (l0 : List (S54)) : Option (Bool) := zqe.l0 k l0 0
def zfe.l0 : Nat → List (S58) → Int → Option (Bool)
 | 0, _, _ => none
 | k + 1, x0, x5 => if x5 < (x0.length : Int) then (if 0 ≤ x5 then (if ((zkd x0 x5).f0) = 4 then (some false) else (if ((zkd x0 x5).f0) = 5 then (some false) else (zfe.l0 k x0 (wrap64 (x5 + 1))))) else (none)) else (some true)
def zfe.f (k : Nat) (l0 : List (S58)) (a1 : Int) : Option (Bool) := zfe.l0 k l0 a1
def spec_AlpineKnown.f (k : Nat) (a0_0 : ByteArray) (a0_1 : ByteArray) (a0_2 : ByteArray) (a0_3 : ByteArray) (a0_4 : Bool) (l0_5 : List (S54)) (l0_6 : List (S58)) (a0_7 : Bool) (a0_8 : Bool) (a0_9 : ByteArray) (a1_0 : ByteArray) (a1_1 : ByteArray) (a1_2 : ByteArray) (a1_3 : ByteArray) (a1_4 : Bool) (l1_5 : List (S54)) (l1_6 : List (S58)) (a1_7 : Bool) (a1_8 : Bool) (a1_9 : ByteArray) : Option (Bool) := if (a0_4 == a1_4) = true then ((zqe.f k l0_5).bind fun t262 => (if t262 = true then ((zqe.f k l1_5).bind fun t263 => (if t263 = true then ((zfe.f k l0_6 (l1_6.length : Int)).bind fun t264 => (if t264 = true then ((zfe.f k l1_6 (l0_6.length : Int)).bind fun t265 => (some t265)) else (some false))) else (some false))) else (some false))) else (some false)
end Go.Proofs.YtapaijpglfmfgaaDoor.Q
end
section
namespace Go.Proofs.YtapaijpglfmfgaaDoor.Q
open Go.RowKit YtapaijpglfmfgaaDoorH YtapaijpglfmfgaaDoorG YtapaijpglfmfgaaDoorW.PrintWords YtapaijpglfmfgaaDoorW.PrintLast YtapaijpglfmfgaaDoorW.PrintMore
attribute [local go_sem] zsc zrc zbd zad zic zhc zqc ztc
def zuc.l0 : Nat → ByteArray → Int → Option (Bool)
 | 0, _, _ => none
 | k + 1, x0, x3 => if x3 < (x0.size : Int) then (if 0 ≤ x3 then (if (bt x0 x3) > 127 then (some false) else (zuc.l0 k x0 (wrap64 (x3 + 1)))) else (none)) else (some true)
def zuc.f (k : Nat) (a0 : ByteArray) : Option (Bool) := zuc.l0 k a0 0
theorem zuc.calls (k : Nat) (a0 : ByteArray) (r : Bool) (w : World) (h : zuc.f k a0 = some r) :
  Calls Tryd.prog 25 #[.string a0] w fun e w' => e = .returned (.bool r) ∧ zt w w' := by
 have H : (zuc.l0 k a0 0) = some r := h
 clear h
 have H' := za.mk H
 clear H
 go_enter Tryd.func25, Tryd.ntmps25
 go_wp2
 (try simp only [Act.put, List.setIfInBounds_toArray, List.set_cons_zero, List.set_cons_succ])
 go_loopg [3] k (fun kq v3 w' => ∃ (x3_1 : Int), v3 = .int .i64 x3_1 ∧ za (zuc.l0 kq a0 x3_1 = some r) ∧ za (kq ≤ k) ∧ zt w w')
 case atStart => exact ⟨(0), (by rfl), H', ⟨Nat.le_refl _⟩, by repeat (first | exact zt.refl _ | apply zt.step)⟩
 case round =>
  clear H'
  obtain ⟨x3_1, rfl, HA, HK1, ⟨m1, rfl⟩⟩ := hrel
  cases gk with
  | zero => exact absurd HA.out (by simp [zuc.l0])
  | succ k1 =>
   have H := HA.out
   clear HA
   simp only [zuc.l0] at H
   by_cases c2 : x3_1 < (a0.size : Int)
   ·rw [if_pos c2] at H
    have c2b0 : decide (x3_1 < (a0.size : Int)) = true := decide_eq_true c2
    clear c2
    by_cases c3 : 0 ≤ x3_1
    ·rw [if_pos c3] at H
     have c3b0 : decide (0 ≤ x3_1) = true := decide_eq_true c3
     clear c3
     by_cases c5 : (bt a0 x3_1) > 127
     ·rw [if_pos c5] at H
      have c5b0 : decide (127 < (bt a0 x3_1)) = true := decide_eq_true c5
      clear c5
      obtain rfl := Option.some.inj H
      have p4 : 0 ≤ (x3_1 : Int) := of_decide_eq_true (by (with_reducible assumption))
      have q4 : x3_1 < (a0.size : Int) := of_decide_eq_true (by (with_reducible assumption))
      have hx4 := bt_at a0 x3_1
      replace p4 := eq_true p4
      replace q4 := eq_true q4
      go_wp2
      go_ret
      exact ⟨by rfl, by repeat (first | exact zt.refl _ | apply zt.step)⟩
     ·rw [if_neg c5] at H
      have c5b0 : decide (127 < (bt a0 x3_1)) = false := decide_eq_false c5
      clear c5
      have H' := za.mk H
      clear H
      have p4 : 0 ≤ (x3_1 : Int) := of_decide_eq_true (by (with_reducible assumption))
      have q4 : x3_1 < (a0.size : Int) := of_decide_eq_true (by (with_reducible assumption))
      have hx4 := bt_at a0 x3_1
      replace p4 := eq_true p4
      replace q4 := eq_true q4
      go_wp2
      go_roundg k1
      case measure => have := HK1.out; omega
      case rel => exact ⟨(wrap64 (x3_1 + 1)), (by rfl), H', ⟨by have := HK1.out; omega⟩, by repeat (first | exact zt.refl _ | apply zt.step)⟩
    ·rw [if_neg c3] at H
     exact absurd H (by simp)
   ·rw [if_neg c2] at H
    have c2b0 : decide (x3_1 < (a0.size : Int)) = false := decide_eq_false c2
    clear c2
    obtain rfl := Option.some.inj H
    go_wp2
    go_ret
    exact ⟨by rfl, by repeat (first | exact zt.refl _ | apply zt.step)⟩
def zn.l0 : Nat → ByteArray → List (S54) → Option ((List (S54)) × ByteArray)
 | 0, _, _ => none
 | k + 1, x0, x2 => (E1.zcb.f k x0).bind fun t333 => (if t333 = 0 then (some (x2, x0)) else (if 0 ≤ t333 then (if t333 ≤ (x0.size : Int) then ((zbb.f k (x0.extract 0 (t333 : Int).toNat)).bind fun bt334 => (if x2.length < 2932031007402 then ((some (x2 ++ [(⟨x0.extract 0 (t333 : Int).toNat, (⟨bt334.1, bt334.2⟩ : S31), (x2.length : Int)⟩ : S54)] : List (S54))).bind fun y336 => ((some (x0.extract (t333 : Int).toNat x0.size : ByteArray)).bind fun y339 => (if y339.toList = ([] : List UInt8) then (some (y336, y339)) else (if 0 < (y339.size : Int) then (if (bt y339 0) = 46 then (if 1 ≤ (y339.size : Int) then (zn.l0 k (y339.extract 1 y339.size) y336) else (none)) else (some (y336, y339))) else (none))))) else (none))) else (none)) else (none)))
def zn.f (k : Nat) (a0 : ByteArray) : Option ((List (S54)) × ByteArray) := zn.l0 k a0 ([] : List (S54))
def zn.T4 : Bool × List (List Nat × List Nat) := (true, [([], []), ([], []), ([], []), ([1, 2], [1, 2]), ([], []), ([], []), ([4, 5], [4, 5]), ([6], [6]), ([], []), ([8], [8]), ([3, 7, 9], [3, 7, 9]), ([10], [10]), ([0, 11, 7], [0, 11]), ([12, 12, 0, 1, 2, 3, 4, 5, 6, 7, 8, 9, 10, 11, 12], [0, 8, 12])])
def zn.B4 : List Nat := [0, 0, 0, 6, 0, 0, 48, 112, 0, 256, 1022, 2046, 4095, 8191]
theorem zn.tab4 : rtab .any (opsOf Tryd.f26 4) = zn.T4 := by kernel_rfl
theorem zn.bits4 : zfg zn.T4.2 zn.B4 = true := by kernel_rfl
theorem zn.calls (k : Nat) (a0 : ByteArray) (r1 : List (S54)) (r2 : ByteArray) (w : World) (h : zn.f k a0 = some (r1, r2)) :
  Calls Tryd.prog 26 #[.string a0] w fun e w' => ∃ v0_ : Value, e = .returned (.tuple #[v0_, .string r2]) ∧ Kd.R k54 54 w' w.heap.size (fun _ => True) v0_ r1 ∧ Below w.heap.size w w' := by
 have hu54 := Tryd.underlying54
 have HB := za.mk (Below.refl w.heap.size w)
 have H : (zn.l0 k a0 ([] : List (S54))) = some (r1, r2) := h
 clear h
 have H' := za.mk H
 clear H
 go_enter Tryd.func26, Tryd.ntmps26
 go_wp2
 (try simp only [Act.put, List.setIfInBounds_toArray, List.set_cons_zero, List.set_cons_succ])
 go_loopg [0, 2] k (fun kq v0 v2 w' => ∃ (x0_1 : ByteArray) (x2_1 : List (S54)), v0 = .string x0_1 ∧ za (zn.l0 kq x0_1 x2_1 = some (r1, r2)) ∧ za (kq ≤ k) ∧ za (Kd.R k54 54 w' w.heap.size (fun _ => True) v2 x2_1) ∧ za (Below w.heap.size w w'))
 case atStart => exact ⟨(a0), (([] : List (S54))), (by rfl), H', ⟨Nat.le_refl _⟩, ⟨by exact Kd.R_nil _ _ _ _ _⟩, ⟨by (with_reducible exact HB.out)⟩⟩
 case round =>
  clear H'
  obtain ⟨x0_1, x2_1, rfl, HA, HK1, HO_2, HB⟩ := hrel
  cases gk with
  | zero => exact absurd HA.out (by simp [zn.l0])
  | succ k1 =>
   have H := HA.out
   clear HA
   simp only [zn.l0] at H
   replace H := Option.bind_eq_some_iff.mp H
   obtain ⟨t333, A20, H⟩ := H
   replace H : (if t333 = 0 then (some (x2_1, x0_1)) else (if 0 ≤ t333 then (if t333 ≤ (x0_1.size : Int) then ((zbb.f k1 (x0_1.extract 0 (t333 : Int).toNat)).bind fun bt334 => (if x2_1.length < 2932031007402 then ((some (x2_1 ++ [(⟨x0_1.extract 0 (t333 : Int).toNat, (⟨bt334.1, bt334.2⟩ : S31), (x2_1.length : Int)⟩ : S54)] : List (S54))).bind fun y336 => ((some (x0_1.extract (t333 : Int).toNat x0_1.size : ByteArray)).bind fun y339 => (if y339.toList = ([] : List UInt8) then (some (y336, y339)) else (if 0 < (y339.size : Int) then (if (bt y339 0) = 46 then (if 1 ≤ (y339.size : Int) then (zn.l0 k1 (y339.extract 1 y339.size) y336) else (none)) else (some (y336, y339))) else (none))))) else (none))) else (none)) else (none))) = some (r1, r2) := H
   have A2 := za.mk A20
   clear A20
   by_cases c3 : t333 = 0
   ·rw [if_pos c3] at H
    have c3b0 : (t333 == 0) = true := beq_iff_eq.mpr c3
    have c3b1 : (t333 != 0) = false := bne_eq_false_iff_eq.mpr c3
    clear c3
    simp only [Option.some.injEq, Prod.mk.injEq] at H
    obtain ⟨rfl, rfl⟩ := H
    go_wp2_with (((with_reducible refine zab (f := 33) rfl ?_); refine zjc (some 6) rfl rfl Tryd.func33 (by kernel_rfl) rfl #[.string x0_1, .func (.func 34) #[] #[]] rfl (by (try simp only [List.map_toArray, List.map_cons, List.map_nil]); first | done | rfl | (simp only [List.length_drop, List.length_take]; rfl)) ?_; (with_reducible refine (E1.zcb.calls k1 x0_1 t333 _ A2.out).mono ?_); rintro e w' ⟨rfl, ⟨nd, rfl⟩⟩; refine ⟨_, rfl, ?_⟩))
    go_ret2
    exact ⟨_, by rfl, by (with_reducible repeat (first | apply Kd.R_alloc | apply Kd.R_drewN | apply Kd.R_drew)); exact HO_2.out, by (with_reducible apply ze; with_reducible exact HB.out)⟩
   ·rw [if_neg c3] at H
    have c3b0 : (t333 == 0) = false := beq_eq_false_iff_ne.mpr c3
    have c3b1 : (t333 != 0) = true := bne_iff_ne.mpr c3
    by_cases c4 : 0 ≤ t333
    ·rw [if_pos c4] at H
     have c4b0 := eq_true c4
     have c4b1 : decide (0 ≤ t333) = true := decide_eq_true c4
     clear c4
     by_cases c5 : t333 ≤ (x0_1.size : Int)
     ·rw [if_pos c5] at H
      have c5b0 := eq_true c5
      have c5b1 : decide (t333 ≤ (x0_1.size : Int)) = true := decide_eq_true c5
      clear c5
      have c6b0 := eq_true (of_decide_eq_true (by (with_reducible assumption)) : 0 ≤ t333)
      have c7b0 := eq_true (of_decide_eq_true (by (with_reducible assumption)) : t333 ≤ (x0_1.size : Int))
      replace H := Option.bind_eq_some_iff.mp H
      obtain ⟨⟨t334, t335⟩, A80, H⟩ := H
      replace H : (if x2_1.length < 2932031007402 then ((some (x2_1 ++ [(⟨x0_1.extract 0 (t333 : Int).toNat, (⟨t334, t335⟩ : S31), (x2_1.length : Int)⟩ : S54)] : List (S54))).bind fun y336 => ((some (x0_1.extract (t333 : Int).toNat x0_1.size : ByteArray)).bind fun y339 => (if y339.toList = ([] : List UInt8) then (some (y336, y339)) else (if 0 < (y339.size : Int) then (if (bt y339 0) = 46 then (if 1 ≤ (y339.size : Int) then (zn.l0 k1 (y339.extract 1 y339.size) y336) else (none)) else (some (y336, y339))) else (none))))) else (none)) = some (r1, r2) := H
      have A8 := za.mk A80
      clear A80
      by_cases c9 : x2_1.length < 2932031007402
      ·rw [if_pos c9] at H
       have LMc9 := za.mk c9
       clear c9
       obtain ⟨y336, hy336⟩ : ∃ y_ : List (S54), y_ = (x2_1 ++ [(⟨x0_1.extract 0 (t333 : Int).toNat, (⟨t334, t335⟩ : S31), (x2_1.length : Int)⟩ : S54)]) := ⟨_, rfl⟩
       replace H : ((some (x0_1.extract (t333 : Int).toNat x0_1.size : ByteArray)).bind fun y339 => (if y339.toList = ([] : List UInt8) then (some (y336, y339)) else (if 0 < (y339.size : Int) then (if (bt y339 0) = 46 then (if 1 ≤ (y339.size : Int) then (zn.l0 k1 (y339.extract 1 y339.size) y336) else (none)) else (some (y336, y339))) else (none)))) = some (r1, r2) := by (have H2_ := (Option.bind_some _ _).symm.trans H; rw [hy336]; with_reducible exact H2_)
       have Ny336 := za.mk hy336
       clear hy336
       have c10b0 := eq_true (of_decide_eq_true (by (with_reducible assumption)) : 0 ≤ t333)
       have c11b0 := eq_true (of_decide_eq_true (by (with_reducible assumption)) : t333 ≤ (x0_1.size : Int))
       obtain ⟨y339, hy339⟩ : ∃ y_ : ByteArray, y_ = (x0_1.extract (t333 : Int).toNat x0_1.size) := ⟨_, rfl⟩
       replace H : (if y339.toList = ([] : List UInt8) then (some (y336, y339)) else (if 0 < (y339.size : Int) then (if (bt y339 0) = 46 then (if 1 ≤ (y339.size : Int) then (zn.l0 k1 (y339.extract 1 y339.size) y336) else (none)) else (some (y336, y339))) else (none))) = some (r1, r2) := by (have H2_ := (Option.bind_some _ _).symm.trans H; rw [hy339]; with_reducible exact H2_)
       have Ny339 := za.mk hy339
       clear hy339
       by_cases c12 : y339.toList = ([] : List UInt8)
       ·rw [if_pos c12] at H
        have c12b0 : (y339.toList == ([] : List UInt8)) = true := beq_iff_eq.mpr c12
        have c12b1 : (y339.toList != ([] : List UInt8)) = false := bne_eq_false_iff_eq.mpr c12
        try have c12b9 : y339.toList.isEmpty = true := by simpa using c12b0
        clear c12
        simp only [Option.some.injEq, Prod.mk.injEq] at H
        obtain ⟨rfl, rfl⟩ := H
        try go_wp2_with (((with_reducible refine zab (f := 33) rfl ?_); refine zjc (some 6) rfl rfl Tryd.func33 (by kernel_rfl) rfl #[.string x0_1, .func (.func 34) #[] #[]] rfl (by (try simp only [List.map_toArray, List.map_cons, List.map_nil]); first | done | rfl | (simp only [List.length_drop, List.length_take]; rfl)) ?_; (with_reducible refine (E1.zcb.calls k1 x0_1 t333 _ A2.out).mono ?_); rintro e w' ⟨rfl, ⟨nd, rfl⟩⟩; refine ⟨_, rfl, ?_⟩))
        (try (rw [zsd wr]; generalize hq_ : World.drewN wr _ = wr; have n0_ : za (Kd.R k54 54 wr w.heap.size (fun _ => True) u2 x2_1) := ⟨by rw [← hq_]; exact (by (with_reducible repeat (first | apply Kd.R_alloc | apply Kd.R_drewN | apply Kd.R_drew)); exact HO_2.out)⟩; have n1_ : za (Below w.heap.size w wr) := ⟨by rw [← hq_]; exact (by (with_reducible apply ze; with_reducible exact HB.out))⟩; clear HO_2 HB hq_; have HO_2 := n0_; have HB := n1_; clear n0_ n1_))
        replace HO_2 := za.mk (Kd.R_drew HO_2.out)
        replace HB := za.mk (zy HB.out)
        obtain ⟨Ao14, co14, eo14⟩ := Kd.R_slice HO_2.out
        (first | subst eo14 | (injection eo14 with f1_ f2_ f3_; have f4_ := f1_.symm; have f5_ := f3_.symm; clear f1_ f2_ f3_; subst f4_; subst f5_))
        refine zsf (n := 14) (S := fun w' => True) (ds := []) #[false, false, false, false, false, false, false, false, false, false, false, false, false, false] (by kernel_rfl) rfl rfl trivial (fun hHeld => ?_); refine zhf zn.tab4 zn.bits4 (fun HT_ HW_ => ?_)
        generalize wr.drew = w13 at HO_2 HB hHeld ⊢
        refine pure_ (i := 0) (N := some 11) (v := ?_) (a' := ?_) #[true, false, false, false, false, false, false, false, false, false, false, false, false, false] rfl rfl (zpb HT_.out (by kernel_rfl)) (fun _ _ _ h => h) (Or.inl ⟨by rfl, ?_⟩) ?_ ?_
        rotate_left
        ·intro w'
         go_simp
         with_reducible rfl
        rotate_left
        ·simp only [Act.put, List.setIfInBounds_toArray, List.set_cons_zero, List.set_cons_succ, i64_w, i32_w]
         rfl
        refine pure_ (i := 1) (N := some 12) (v := ?_) (a' := ?_) #[true, true, false, false, false, false, false, false, false, false, false, false, false, false] rfl rfl (zpb HT_.out (by kernel_rfl)) (fun _ _ _ h => h) (Or.inl ⟨by rfl, ?_⟩) ?_ ?_
        rotate_left
        ·intro w'
         go_simp
         with_reducible rfl
        rotate_left
        ·simp only [Act.put, List.setIfInBounds_toArray, List.set_cons_zero, List.set_cons_succ, i64_w, i32_w]
         rfl
        refine pure_ (i := 2) (N := some 13) (v := ?_) (a' := ?_) #[true, true, true, false, false, false, false, false, false, false, false, false, false, false] rfl rfl (zpb HT_.out (by kernel_rfl)) (fun _ _ _ h => h) (Or.inl ⟨by rfl, ?_⟩) ?_ ?_
        rotate_left
        ·intro w'
         go_simp
         with_reducible rfl
        rotate_left
        ·simp only [Act.put, List.setIfInBounds_toArray, List.set_cons_zero, List.set_cons_succ, i64_w, i32_w]
         rfl
        refine pure_ (i := 3) (N := some 14) (v := ?_) (a' := ?_) #[true, true, true, true, false, false, false, false, false, false, false, false, false, false] rfl rfl (zpb HT_.out (by kernel_rfl)) (fun _ _ _ h => h) (Or.inl ⟨by rfl, ?_⟩) ?_ ?_
        rotate_left
        ·intro w'
         go_simp
         with_reducible rfl
        rotate_left
        ·simp only [Act.put, List.setIfInBounds_toArray, List.set_cons_zero, List.set_cons_succ, i64_w, i32_w]
         rfl
        refine pure_ (i := 4) (N := some 15) (v := ?_) (a' := ?_) #[true, true, true, true, true, false, false, false, false, false, false, false, false, false] rfl rfl (zpb HT_.out (by kernel_rfl)) (fun _ _ _ h => h) (Or.inl ⟨by rfl, ?_⟩) ?_ ?_
        rotate_left
        ·intro w'
         go_simp
         with_reducible rfl
        rotate_left
        ·simp only [Act.put, List.setIfInBounds_toArray, List.set_cons_zero, List.set_cons_succ, i64_w, i32_w]
         rfl
        refine pure_ (i := 5) (N := some 16) (v := ?_) (a' := ?_) #[true, true, true, true, true, true, false, false, false, false, false, false, false, false] rfl rfl (zpb HT_.out (by kernel_rfl)) (fun _ _ _ h => h) (Or.inl ⟨by rfl, ?_⟩) ?_ ?_
        rotate_left
        ·intro w'
         go_simp
         with_reducible rfl
        rotate_left
        ·simp only [Act.put, List.setIfInBounds_toArray, List.set_cons_zero, List.set_cons_succ, i64_w, i32_w]
         rfl
        refine pure_ (i := 6) (N := some 17) (v := ?_) (a' := ?_) #[true, true, true, true, true, true, true, false, false, false, false, false, false, false] rfl rfl (zpb HT_.out (by kernel_rfl)) (fun _ _ _ h => h) (Or.inl ⟨by rfl, ?_⟩) ?_ ?_
        rotate_left
        ·intro w'
         go_simp
         with_reducible rfl
        rotate_left
        ·simp only [Act.put, List.setIfInBounds_toArray, List.set_cons_zero, List.set_cons_succ, i64_w, i32_w]
         rfl
        refine pure_ (i := 8) (N := some 19) (v := ?_) (a' := ?_) #[true, true, true, true, true, true, true, false, true, false, false, false, false, false] rfl rfl (zpb HT_.out (by kernel_rfl)) (fun _ _ _ h => h) (Or.inl ⟨by rfl, ?_⟩) ?_ ?_
        rotate_left
        ·intro w'
         go_simp
         with_reducible rfl
        rotate_left
        ·simp only [Act.put, List.setIfInBounds_toArray, List.set_cons_zero, List.set_cons_succ, i64_w, i32_w]
         rfl
        refine pure_ (i := 9) (N := some 20) (v := ?_) (a' := ?_) #[true, true, true, true, true, true, true, false, true, true, false, false, false, false] rfl rfl (zpb HT_.out (by kernel_rfl)) (fun _ _ _ h => h) (Or.inl ⟨by rfl, ?_⟩) ?_ ?_
        rotate_left
        ·intro w'
         go_simp
         with_reducible rfl
        rotate_left
        ·simp only [Act.put, List.setIfInBounds_toArray, List.set_cons_zero, List.set_cons_succ, i64_w, i32_w]
         rfl
        refine one_ (i := 7) (N := some 18) #[true, true, true, true, true, true, true, true, true, true, false, false, false, false] rfl rfl (zpd HT_.out (by kernel_rfl)) (by decide) (fun K hK => ?_)
        refine goes_ Tryd.func35 (by kernel_rfl) rfl #[.string (x0_1.extract 0 (t333 : Int).toNat)] (by rfl) rfl rfl (by (try simp only [List.map_toArray, List.map_cons, List.map_nil]); first | done | rfl | (simp only [List.length_drop, List.length_take]; rfl)) ?_
        with_reducible refine (zbb.calls k1 (x0_1.extract 0 (t333 : Int).toNat) t334 t335 _ A8.out).mono ?_
        rintro e w15 ⟨rfl, hb⟩
        refine ⟨_, rfl, ?_⟩
        replace HO_2 := za.mk (Kd.R_below (by (with_reducible repeat (first | apply Kd.R_alloc | apply Kd.R_drewN | apply Kd.R_drew)); exact HO_2.out) hb)
        replace HB := za.mk (zm (by (with_reducible exact HB.out)) hb)
        (try clear hb)
        (try clear hb2)
        (try clear hk)
        (try clear hi)
        refine hK.out _ _ trivial (fun hHeld => ?_)
        clear hK K
        refine norm_ (a' := ?_) ?_ ?_
        rotate_left
        ·show Act.put _ (some 18) _ = _
         simp only [Act.put, List.setIfInBounds_toArray, List.set_cons_zero, List.set_cons_succ, i64_w, i32_w]
         rfl
        refine pure_ (i := 10) (N := some 21) (v := ?_) (a' := ?_) #[true, true, true, true, true, true, true, true, true, true, true, false, false, false] rfl rfl (zpb HT_.out (by kernel_rfl)) (fun _ _ _ h => h) (Or.inl ⟨by rfl, ?_⟩) ?_ ?_
        rotate_left
        ·intro w'
         go_simp
         with_reducible rfl
        rotate_left
        ·simp only [Act.put, List.setIfInBounds_toArray, List.set_cons_zero, List.set_cons_succ, i64_w, i32_w]
         rfl
        refine one_ (i := 11) (N := some 22) #[true, true, true, true, true, true, true, true, true, true, true, true, false, false] rfl rfl (zpd HT_.out (by kernel_rfl)) (by decide) (fun K hK => ?_)
        refine value_ (w1 := ?_) (v := ?_) (by rfl) rfl ?_ ?_
        rotate_left 2
        ·go_simp
         constructor
         ·rfl
         ·rfl
        refine hK.out _ _ trivial (fun hHeld => ?_)
        clear hK K
        refine norm_ (a' := ?_) ?_ ?_
        rotate_left
        ·show Act.put _ (some 22) _ = _
         simp only [Act.put, List.setIfInBounds_toArray, List.set_cons_zero, List.set_cons_succ, i64_w, i32_w]
         rfl
        refine one_ (i := 12) (N := some 23) #[true, true, true, true, true, true, true, true, true, true, true, true, true, false] rfl rfl (zpd HT_.out (by kernel_rfl)) (by decide) (fun K hK => ?_)
        refine Kd.R_append_step k54 (w0 := w) w.heap.size (by rfl) (.tmp 11) (.tmp 22) 28 54 (.agg #[(.string ⟨#[]⟩), (.bool false), (.string ⟨#[]⟩), (.int .i64 0)]) 48 rfl Tryd.underlying28 info54 rfl (by decide) (by omega) (.slice Ao14 x2_1.length co14) x2_1 (⟨x0_1.extract 0 (t333 : Int).toNat, (⟨t334, t335⟩ : S31), (x2_1.length : Int)⟩ : S54) [.string (x0_1.extract 0 (t333 : Int).toNat), .bool t334, .string t335, .int .i64 (x2_1.length : Int)] (fun _ => True) (fun _ => False) rfl rfl ?aP (fun _ hk => hk.elim) ?aF ?aO ?aB ?aS ?aL ?_
        (case aP => exact k54_mkM _ _ _ (⟨x0_1.extract 0 (t333 : Int).toNat, (⟨t334, t335⟩ : S31), (x2_1.length : Int)⟩ : S54))
        (case aB => exact (by (with_reducible exact HB.out)))
        (case aF => exact (fun _ _ => trivial))
        (case aO => exact (by (with_reducible repeat (first | apply Kd.R_alloc | apply Kd.R_drewN | apply Kd.R_drew)); exact HO_2.out))
        (case aS => exact (zl (by (with_reducible exact HB.out))))
        (case aL => have := LMc9.out; omega)
        intro v337 w16 ho hb hg hat
        rw [← Ny336.out] at ho
        have HO338 := za.mk ho
        replace HB := za.mk hb
        clear HO_2
        clear ho hb hg hat
        refine hK.out _ _ trivial (fun hHeld => ?_)
        clear hK K
        refine norm_ (a' := ?_) ?_ ?_
        rotate_left
        ·show Act.put _ (some 23) _ = _
         simp only [Act.put, List.setIfInBounds_toArray, List.set_cons_zero, List.set_cons_succ, i64_w, i32_w]
         rfl
        refine pure_ (i := 13) (N := some 2) (v := ?_) (a' := ?_) #[true, true, true, true, true, true, true, true, true, true, true, true, true, true] rfl rfl (zpb HT_.out (by kernel_rfl)) (fun _ _ _ h => h) (Or.inl ⟨by rfl, ?_⟩) ?_ ?_
        rotate_left
        ·intro w'
         go_simp
         with_reducible rfl
        rotate_left
        ·simp only [Act.put, List.setIfInBounds_toArray, List.set_cons_zero, List.set_cons_succ, i64_w, i32_w]
         rfl
        refine done_ (ztg HT_.out (by kernel_rfl)) ?_
        try go_wp2_with (((with_reducible refine zjb (N := 26) rfl ?_); refine zrd ?hg (N := 26) ?hd (v := .string (x0_1.extract (t333 : Int).toNat x0_1.size)) (v' := .string y339) ?hr (congrArg Value.string Ny339.out.symm) ?_; (case hd => rfl); (case hg => rfl); (case hr => first | (go_simp; done) | (go_simp; rfl))))
        go_ret2
        exact ⟨_, by rfl, by (with_reducible repeat (first | apply Kd.R_alloc | apply Kd.R_drewN | apply Kd.R_drew)); exact HO338.out, by (with_reducible exact HB.out)⟩
       ·rw [if_neg c12] at H
        have c12b0 : (y339.toList == ([] : List UInt8)) = false := beq_eq_false_iff_ne.mpr c12
        have c12b1 : (y339.toList != ([] : List UInt8)) = true := bne_iff_ne.mpr c12
        try have c12b9 : y339.toList.isEmpty = false := by simpa using c12b0
        by_cases c17 : 0 < (y339.size : Int)
        ·rw [if_pos c17] at H
         have c17b0 : decide (0 < (y339.size : Int)) = true := decide_eq_true c17
         have c17b1 : decide (0 < y339.size) = true := decide_eq_true (by omega)
         clear c17
         by_cases c19 : (bt y339 0) = 46
         ·rw [if_pos c19] at H
          have c19b0 : ((bt y339 0) == 46) = true := beq_iff_eq.mpr c19
          have c19b1 : ((bt y339 0) != 46) = false := bne_eq_false_iff_eq.mpr c19
          clear c19
          by_cases c20 : 1 ≤ (y339.size : Int)
          ·rw [if_pos c20] at H
           have c20b0 := eq_true c20
           have c20b1 : decide (1 ≤ (y339.size : Int)) = true := decide_eq_true c20
           clear c20
           obtain ⟨y340, hy340⟩ : ∃ y_ : ByteArray, y_ = (y339.extract 1 y339.size) := ⟨_, rfl⟩
           replace H : (zn.l0 k1 y340 y336) = some (r1, r2) := by (rw [hy340]; with_reducible exact H)
           have Ny340 := za.mk hy340
           clear hy340
           have H' := za.mk H
           clear H
           try go_wp2_with (((with_reducible refine zab (f := 33) rfl ?_); refine zjc (some 6) rfl rfl Tryd.func33 (by kernel_rfl) rfl #[.string x0_1, .func (.func 34) #[] #[]] rfl (by (try simp only [List.map_toArray, List.map_cons, List.map_nil]); first | done | rfl | (simp only [List.length_drop, List.length_take]; rfl)) ?_; (with_reducible refine (E1.zcb.calls k1 x0_1 t333 _ A2.out).mono ?_); rintro e w' ⟨rfl, ⟨nd, rfl⟩⟩; refine ⟨_, rfl, ?_⟩))
           (try (rw [zsd wr]; generalize hq_ : World.drewN wr _ = wr; have n0_ : za (Kd.R k54 54 wr w.heap.size (fun _ => True) u2 x2_1) := ⟨by rw [← hq_]; exact (by (with_reducible repeat (first | apply Kd.R_alloc | apply Kd.R_drewN | apply Kd.R_drew)); exact HO_2.out)⟩; have n1_ : za (Below w.heap.size w wr) := ⟨by rw [← hq_]; exact (by (with_reducible apply ze; with_reducible exact HB.out))⟩; clear HO_2 HB hq_; have HO_2 := n0_; have HB := n1_; clear n0_ n1_))
           replace HO_2 := za.mk (Kd.R_drew HO_2.out)
           replace HB := za.mk (zy HB.out)
           obtain ⟨Ao22, co22, eo22⟩ := Kd.R_slice HO_2.out
           (first | subst eo22 | (injection eo22 with f1_ f2_ f3_; have f4_ := f1_.symm; have f5_ := f3_.symm; clear f1_ f2_ f3_; subst f4_; subst f5_))
           refine zsf (n := 14) (S := fun w' => True) (ds := []) #[false, false, false, false, false, false, false, false, false, false, false, false, false, false] (by kernel_rfl) rfl rfl trivial (fun hHeld => ?_); refine zhf zn.tab4 zn.bits4 (fun HT_ HW_ => ?_)
           generalize wr.drew = w21 at HO_2 HB hHeld ⊢
           refine pure_ (i := 0) (N := some 11) (v := ?_) (a' := ?_) #[true, false, false, false, false, false, false, false, false, false, false, false, false, false] rfl rfl (zpb HT_.out (by kernel_rfl)) (fun _ _ _ h => h) (Or.inl ⟨by rfl, ?_⟩) ?_ ?_
           rotate_left
           ·intro w'
            go_simp
            with_reducible rfl
           rotate_left
           ·simp only [Act.put, List.setIfInBounds_toArray, List.set_cons_zero, List.set_cons_succ, i64_w, i32_w]
            rfl
           refine pure_ (i := 1) (N := some 12) (v := ?_) (a' := ?_) #[true, true, false, false, false, false, false, false, false, false, false, false, false, false] rfl rfl (zpb HT_.out (by kernel_rfl)) (fun _ _ _ h => h) (Or.inl ⟨by rfl, ?_⟩) ?_ ?_
           rotate_left
           ·intro w'
            go_simp
            with_reducible rfl
           rotate_left
           ·simp only [Act.put, List.setIfInBounds_toArray, List.set_cons_zero, List.set_cons_succ, i64_w, i32_w]
            rfl
           refine pure_ (i := 2) (N := some 13) (v := ?_) (a' := ?_) #[true, true, true, false, false, false, false, false, false, false, false, false, false, false] rfl rfl (zpb HT_.out (by kernel_rfl)) (fun _ _ _ h => h) (Or.inl ⟨by rfl, ?_⟩) ?_ ?_
           rotate_left
           ·intro w'
            go_simp
            with_reducible rfl
           rotate_left
           ·simp only [Act.put, List.setIfInBounds_toArray, List.set_cons_zero, List.set_cons_succ, i64_w, i32_w]
            rfl
           refine pure_ (i := 3) (N := some 14) (v := ?_) (a' := ?_) #[true, true, true, true, false, false, false, false, false, false, false, false, false, false] rfl rfl (zpb HT_.out (by kernel_rfl)) (fun _ _ _ h => h) (Or.inl ⟨by rfl, ?_⟩) ?_ ?_
           rotate_left
           ·intro w'
            go_simp
            with_reducible rfl
           rotate_left
           ·simp only [Act.put, List.setIfInBounds_toArray, List.set_cons_zero, List.set_cons_succ, i64_w, i32_w]
            rfl
           refine pure_ (i := 4) (N := some 15) (v := ?_) (a' := ?_) #[true, true, true, true, true, false, false, false, false, false, false, false, false, false] rfl rfl (zpb HT_.out (by kernel_rfl)) (fun _ _ _ h => h) (Or.inl ⟨by rfl, ?_⟩) ?_ ?_
           rotate_left
           ·intro w'
            go_simp
            with_reducible rfl
           rotate_left
           ·simp only [Act.put, List.setIfInBounds_toArray, List.set_cons_zero, List.set_cons_succ, i64_w, i32_w]
            rfl
           refine pure_ (i := 5) (N := some 16) (v := ?_) (a' := ?_) #[true, true, true, true, true, true, false, false, false, false, false, false, false, false] rfl rfl (zpb HT_.out (by kernel_rfl)) (fun _ _ _ h => h) (Or.inl ⟨by rfl, ?_⟩) ?_ ?_
           rotate_left
           ·intro w'
            go_simp
            with_reducible rfl
           rotate_left
           ·simp only [Act.put, List.setIfInBounds_toArray, List.set_cons_zero, List.set_cons_succ, i64_w, i32_w]
            rfl
           refine pure_ (i := 6) (N := some 17) (v := ?_) (a' := ?_) #[true, true, true, true, true, true, true, false, false, false, false, false, false, false] rfl rfl (zpb HT_.out (by kernel_rfl)) (fun _ _ _ h => h) (Or.inl ⟨by rfl, ?_⟩) ?_ ?_
           rotate_left
           ·intro w'
            go_simp
            with_reducible rfl
           rotate_left
           ·simp only [Act.put, List.setIfInBounds_toArray, List.set_cons_zero, List.set_cons_succ, i64_w, i32_w]
            rfl
           refine pure_ (i := 8) (N := some 19) (v := ?_) (a' := ?_) #[true, true, true, true, true, true, true, false, true, false, false, false, false, false] rfl rfl (zpb HT_.out (by kernel_rfl)) (fun _ _ _ h => h) (Or.inl ⟨by rfl, ?_⟩) ?_ ?_
           rotate_left
           ·intro w'
            go_simp
            with_reducible rfl
           rotate_left
           ·simp only [Act.put, List.setIfInBounds_toArray, List.set_cons_zero, List.set_cons_succ, i64_w, i32_w]
            rfl
           refine pure_ (i := 9) (N := some 20) (v := ?_) (a' := ?_) #[true, true, true, true, true, true, true, false, true, true, false, false, false, false] rfl rfl (zpb HT_.out (by kernel_rfl)) (fun _ _ _ h => h) (Or.inl ⟨by rfl, ?_⟩) ?_ ?_
           rotate_left
           ·intro w'
            go_simp
            with_reducible rfl
           rotate_left
           ·simp only [Act.put, List.setIfInBounds_toArray, List.set_cons_zero, List.set_cons_succ, i64_w, i32_w]
            rfl
           refine one_ (i := 7) (N := some 18) #[true, true, true, true, true, true, true, true, true, true, false, false, false, false] rfl rfl (zpd HT_.out (by kernel_rfl)) (by decide) (fun K hK => ?_)
           refine goes_ Tryd.func35 (by kernel_rfl) rfl #[.string (x0_1.extract 0 (t333 : Int).toNat)] (by rfl) rfl rfl (by (try simp only [List.map_toArray, List.map_cons, List.map_nil]); first | done | rfl | (simp only [List.length_drop, List.length_take]; rfl)) ?_
           with_reducible refine (zbb.calls k1 (x0_1.extract 0 (t333 : Int).toNat) t334 t335 _ A8.out).mono ?_
           rintro e w23 ⟨rfl, hb⟩
           refine ⟨_, rfl, ?_⟩
           replace HO_2 := za.mk (Kd.R_below (by (with_reducible repeat (first | apply Kd.R_alloc | apply Kd.R_drewN | apply Kd.R_drew)); exact HO_2.out) hb)
           replace HB := za.mk (zm (by (with_reducible exact HB.out)) hb)
           (try clear hb)
           (try clear hb2)
           (try clear hk)
           (try clear hi)
           refine hK.out _ _ trivial (fun hHeld => ?_)
           clear hK K
           refine norm_ (a' := ?_) ?_ ?_
           rotate_left
           ·show Act.put _ (some 18) _ = _
            simp only [Act.put, List.setIfInBounds_toArray, List.set_cons_zero, List.set_cons_succ, i64_w, i32_w]
            rfl
           refine pure_ (i := 10) (N := some 21) (v := ?_) (a' := ?_) #[true, true, true, true, true, true, true, true, true, true, true, false, false, false] rfl rfl (zpb HT_.out (by kernel_rfl)) (fun _ _ _ h => h) (Or.inl ⟨by rfl, ?_⟩) ?_ ?_
           rotate_left
           ·intro w'
            go_simp
            with_reducible rfl
           rotate_left
           ·simp only [Act.put, List.setIfInBounds_toArray, List.set_cons_zero, List.set_cons_succ, i64_w, i32_w]
            rfl
           refine one_ (i := 11) (N := some 22) #[true, true, true, true, true, true, true, true, true, true, true, true, false, false] rfl rfl (zpd HT_.out (by kernel_rfl)) (by decide) (fun K hK => ?_)
           refine value_ (w1 := ?_) (v := ?_) (by rfl) rfl ?_ ?_
           rotate_left 2
           ·go_simp
            constructor
            ·rfl
            ·rfl
           refine hK.out _ _ trivial (fun hHeld => ?_)
           clear hK K
           refine norm_ (a' := ?_) ?_ ?_
           rotate_left
           ·show Act.put _ (some 22) _ = _
            simp only [Act.put, List.setIfInBounds_toArray, List.set_cons_zero, List.set_cons_succ, i64_w, i32_w]
            rfl
           refine one_ (i := 12) (N := some 23) #[true, true, true, true, true, true, true, true, true, true, true, true, true, false] rfl rfl (zpd HT_.out (by kernel_rfl)) (by decide) (fun K hK => ?_)
           refine Kd.R_append_step k54 (w0 := w) w.heap.size (by rfl) (.tmp 11) (.tmp 22) 28 54 (.agg #[(.string ⟨#[]⟩), (.bool false), (.string ⟨#[]⟩), (.int .i64 0)]) 48 rfl Tryd.underlying28 info54 rfl (by decide) (by omega) (.slice Ao22 x2_1.length co22) x2_1 (⟨x0_1.extract 0 (t333 : Int).toNat, (⟨t334, t335⟩ : S31), (x2_1.length : Int)⟩ : S54) [.string (x0_1.extract 0 (t333 : Int).toNat), .bool t334, .string t335, .int .i64 (x2_1.length : Int)] (fun _ => True) (fun _ => False) rfl rfl ?aP (fun _ hk => hk.elim) ?aF ?aO ?aB ?aS ?aL ?_
           (case aP => exact k54_mkM _ _ _ (⟨x0_1.extract 0 (t333 : Int).toNat, (⟨t334, t335⟩ : S31), (x2_1.length : Int)⟩ : S54))
           (case aB => exact (by (with_reducible exact HB.out)))
           (case aF => exact (fun _ _ => trivial))
           (case aO => exact (by (with_reducible repeat (first | apply Kd.R_alloc | apply Kd.R_drewN | apply Kd.R_drew)); exact HO_2.out))
           (case aS => exact (zl (by (with_reducible exact HB.out))))
           (case aL => have := LMc9.out; omega)
           intro v337 w24 ho hb hg hat
           rw [← Ny336.out] at ho
           have HO338 := za.mk ho
           replace HB := za.mk hb
           clear HO_2
           clear ho hb hg hat
           refine hK.out _ _ trivial (fun hHeld => ?_)
           clear hK K
           refine norm_ (a' := ?_) ?_ ?_
           rotate_left
           ·show Act.put _ (some 23) _ = _
            simp only [Act.put, List.setIfInBounds_toArray, List.set_cons_zero, List.set_cons_succ, i64_w, i32_w]
            rfl
           refine pure_ (i := 13) (N := some 2) (v := ?_) (a' := ?_) #[true, true, true, true, true, true, true, true, true, true, true, true, true, true] rfl rfl (zpb HT_.out (by kernel_rfl)) (fun _ _ _ h => h) (Or.inl ⟨by rfl, ?_⟩) ?_ ?_
           rotate_left
           ·intro w'
            go_simp
            with_reducible rfl
           rotate_left
           ·simp only [Act.put, List.setIfInBounds_toArray, List.set_cons_zero, List.set_cons_succ, i64_w, i32_w]
            rfl
           refine done_ (ztg HT_.out (by kernel_rfl)) ?_
           try go_wp2_with (first | ((with_reducible refine zjb (N := 26) rfl ?_); refine zrd ?hg (N := 26) ?hd (v := .string (x0_1.extract (t333 : Int).toNat x0_1.size)) (v' := .string y339) ?hr (congrArg Value.string Ny339.out.symm) ?_; (case hd => rfl); (case hg => rfl); (case hr => first | (go_simp; done) | (go_simp; rfl)); have p18 : 0 ≤ (0 : Int) := (by omega); have q18 : 0 < y339.size := (by have : (0 : Int) < (y339.size : Int) := of_decide_eq_true (by (with_reducible assumption)); omega); have hx18 : ∀ h : 0 < y339.size, ((y339[0]'h).toNat : Int) = bt y339 0 := bt_at y339 0; clear p18; have qi18 : (0 < (y339.size : Int)) = True := eq_true (of_decide_eq_true (by (with_reducible assumption))); replace q18 := eq_true q18) | ((with_reducible refine zjb (N := 37) rfl ?_); refine zrd ?hg (N := 37) ?hd (v := .string (y339.extract 1 y339.size)) (v' := .string y340) ?hr (congrArg Value.string Ny340.out.symm) ?_; (case hd => rfl); (case hg => rfl); (case hr => first | (go_simp; done) | (go_simp; rfl))))
           go_roundg k1
           case measure => have := HK1.out; omega
           case rel => exact ⟨(y340), (y336), (by rfl), H', ⟨by have := HK1.out; omega⟩, ⟨by (with_reducible repeat (first | apply Kd.R_alloc | apply Kd.R_drewN | apply Kd.R_drew)); exact HO338.out⟩, ⟨by (with_reducible exact HB.out)⟩⟩
          ·rw [if_neg c20] at H
           exact absurd H (by simp)
         ·rw [if_neg c19] at H
          have c19b0 : ((bt y339 0) == 46) = false := beq_eq_false_iff_ne.mpr c19
          have c19b1 : ((bt y339 0) != 46) = true := bne_iff_ne.mpr c19
          simp only [Option.some.injEq, Prod.mk.injEq] at H
          obtain ⟨rfl, rfl⟩ := H
          try go_wp2_with (((with_reducible refine zab (f := 33) rfl ?_); refine zjc (some 6) rfl rfl Tryd.func33 (by kernel_rfl) rfl #[.string x0_1, .func (.func 34) #[] #[]] rfl (by (try simp only [List.map_toArray, List.map_cons, List.map_nil]); first | done | rfl | (simp only [List.length_drop, List.length_take]; rfl)) ?_; (with_reducible refine (E1.zcb.calls k1 x0_1 t333 _ A2.out).mono ?_); rintro e w' ⟨rfl, ⟨nd, rfl⟩⟩; refine ⟨_, rfl, ?_⟩))
          (try (rw [zsd wr]; generalize hq_ : World.drewN wr _ = wr; have n0_ : za (Kd.R k54 54 wr w.heap.size (fun _ => True) u2 x2_1) := ⟨by rw [← hq_]; exact (by (with_reducible repeat (first | apply Kd.R_alloc | apply Kd.R_drewN | apply Kd.R_drew)); exact HO_2.out)⟩; have n1_ : za (Below w.heap.size w wr) := ⟨by rw [← hq_]; exact (by (with_reducible apply ze; with_reducible exact HB.out))⟩; clear HO_2 HB hq_; have HO_2 := n0_; have HB := n1_; clear n0_ n1_))
          replace HO_2 := za.mk (Kd.R_drew HO_2.out)
          replace HB := za.mk (zy HB.out)
          obtain ⟨Ao26, co26, eo26⟩ := Kd.R_slice HO_2.out
          (first | subst eo26 | (injection eo26 with f1_ f2_ f3_; have f4_ := f1_.symm; have f5_ := f3_.symm; clear f1_ f2_ f3_; subst f4_; subst f5_))
          refine zsf (n := 14) (S := fun w' => True) (ds := []) #[false, false, false, false, false, false, false, false, false, false, false, false, false, false] (by kernel_rfl) rfl rfl trivial (fun hHeld => ?_); refine zhf zn.tab4 zn.bits4 (fun HT_ HW_ => ?_)
          generalize wr.drew = w25 at HO_2 HB hHeld ⊢
          refine pure_ (i := 0) (N := some 11) (v := ?_) (a' := ?_) #[true, false, false, false, false, false, false, false, false, false, false, false, false, false] rfl rfl (zpb HT_.out (by kernel_rfl)) (fun _ _ _ h => h) (Or.inl ⟨by rfl, ?_⟩) ?_ ?_
          rotate_left
          ·intro w'
           go_simp
           with_reducible rfl
          rotate_left
          ·simp only [Act.put, List.setIfInBounds_toArray, List.set_cons_zero, List.set_cons_succ, i64_w, i32_w]
           rfl
          refine pure_ (i := 1) (N := some 12) (v := ?_) (a' := ?_) #[true, true, false, false, false, false, false, false, false, false, false, false, false, false] rfl rfl (zpb HT_.out (by kernel_rfl)) (fun _ _ _ h => h) (Or.inl ⟨by rfl, ?_⟩) ?_ ?_
          rotate_left
          ·intro w'
           go_simp
           with_reducible rfl
          rotate_left
          ·simp only [Act.put, List.setIfInBounds_toArray, List.set_cons_zero, List.set_cons_succ, i64_w, i32_w]
           rfl
          refine pure_ (i := 2) (N := some 13) (v := ?_) (a' := ?_) #[true, true, true, false, false, false, false, false, false, false, false, false, false, false] rfl rfl (zpb HT_.out (by kernel_rfl)) (fun _ _ _ h => h) (Or.inl ⟨by rfl, ?_⟩) ?_ ?_
          rotate_left
          ·intro w'
           go_simp
           with_reducible rfl
          rotate_left
          ·simp only [Act.put, List.setIfInBounds_toArray, List.set_cons_zero, List.set_cons_succ, i64_w, i32_w]
           rfl
          refine pure_ (i := 3) (N := some 14) (v := ?_) (a' := ?_) #[true, true, true, true, false, false, false, false, false, false, false, false, false, false] rfl rfl (zpb HT_.out (by kernel_rfl)) (fun _ _ _ h => h) (Or.inl ⟨by rfl, ?_⟩) ?_ ?_
          rotate_left
          ·intro w'
           go_simp
           with_reducible rfl
          rotate_left
          ·simp only [Act.put, List.setIfInBounds_toArray, List.set_cons_zero, List.set_cons_succ, i64_w, i32_w]
           rfl
          refine pure_ (i := 4) (N := some 15) (v := ?_) (a' := ?_) #[true, true, true, true, true, false, false, false, false, false, false, false, false, false] rfl rfl (zpb HT_.out (by kernel_rfl)) (fun _ _ _ h => h) (Or.inl ⟨by rfl, ?_⟩) ?_ ?_
          rotate_left
          ·intro w'
           go_simp
           with_reducible rfl
          rotate_left
          ·simp only [Act.put, List.setIfInBounds_toArray, List.set_cons_zero, List.set_cons_succ, i64_w, i32_w]
           rfl
          refine pure_ (i := 5) (N := some 16) (v := ?_) (a' := ?_) #[true, true, true, true, true, true, false, false, false, false, false, false, false, false] rfl rfl (zpb HT_.out (by kernel_rfl)) (fun _ _ _ h => h) (Or.inl ⟨by rfl, ?_⟩) ?_ ?_
          rotate_left
          ·intro w'
           go_simp
           with_reducible rfl
          rotate_left
          ·simp only [Act.put, List.setIfInBounds_toArray, List.set_cons_zero, List.set_cons_succ, i64_w, i32_w]
           rfl
          refine pure_ (i := 6) (N := some 17) (v := ?_) (a' := ?_) #[true, true, true, true, true, true, true, false, false, false, false, false, false, false] rfl rfl (zpb HT_.out (by kernel_rfl)) (fun _ _ _ h => h) (Or.inl ⟨by rfl, ?_⟩) ?_ ?_
          rotate_left
          ·intro w'
           go_simp
           with_reducible rfl
          rotate_left
          ·simp only [Act.put, List.setIfInBounds_toArray, List.set_cons_zero, List.set_cons_succ, i64_w, i32_w]
           rfl
          refine pure_ (i := 8) (N := some 19) (v := ?_) (a' := ?_) #[true, true, true, true, true, true, true, false, true, false, false, false, false, false] rfl rfl (zpb HT_.out (by kernel_rfl)) (fun _ _ _ h => h) (Or.inl ⟨by rfl, ?_⟩) ?_ ?_
          rotate_left
          ·intro w'
           go_simp
           with_reducible rfl
          rotate_left
          ·simp only [Act.put, List.setIfInBounds_toArray, List.set_cons_zero, List.set_cons_succ, i64_w, i32_w]
           rfl
          refine pure_ (i := 9) (N := some 20) (v := ?_) (a' := ?_) #[true, true, true, true, true, true, true, false, true, true, false, false, false, false] rfl rfl (zpb HT_.out (by kernel_rfl)) (fun _ _ _ h => h) (Or.inl ⟨by rfl, ?_⟩) ?_ ?_
          rotate_left
          ·intro w'
           go_simp
           with_reducible rfl
          rotate_left
          ·simp only [Act.put, List.setIfInBounds_toArray, List.set_cons_zero, List.set_cons_succ, i64_w, i32_w]
           rfl
          refine one_ (i := 7) (N := some 18) #[true, true, true, true, true, true, true, true, true, true, false, false, false, false] rfl rfl (zpd HT_.out (by kernel_rfl)) (by decide) (fun K hK => ?_)
          refine goes_ Tryd.func35 (by kernel_rfl) rfl #[.string (x0_1.extract 0 (t333 : Int).toNat)] (by rfl) rfl rfl (by (try simp only [List.map_toArray, List.map_cons, List.map_nil]); first | done | rfl | (simp only [List.length_drop, List.length_take]; rfl)) ?_
          with_reducible refine (zbb.calls k1 (x0_1.extract 0 (t333 : Int).toNat) t334 t335 _ A8.out).mono ?_
          rintro e w27 ⟨rfl, hb⟩
          refine ⟨_, rfl, ?_⟩
          replace HO_2 := za.mk (Kd.R_below (by (with_reducible repeat (first | apply Kd.R_alloc | apply Kd.R_drewN | apply Kd.R_drew)); exact HO_2.out) hb)
          replace HB := za.mk (zm (by (with_reducible exact HB.out)) hb)
          (try clear hb)
          (try clear hb2)
          (try clear hk)
          (try clear hi)
          refine hK.out _ _ trivial (fun hHeld => ?_)
          clear hK K
          refine norm_ (a' := ?_) ?_ ?_
          rotate_left
          ·show Act.put _ (some 18) _ = _
           simp only [Act.put, List.setIfInBounds_toArray, List.set_cons_zero, List.set_cons_succ, i64_w, i32_w]
           rfl
          refine pure_ (i := 10) (N := some 21) (v := ?_) (a' := ?_) #[true, true, true, true, true, true, true, true, true, true, true, false, false, false] rfl rfl (zpb HT_.out (by kernel_rfl)) (fun _ _ _ h => h) (Or.inl ⟨by rfl, ?_⟩) ?_ ?_
          rotate_left
          ·intro w'
           go_simp
           with_reducible rfl
          rotate_left
          ·simp only [Act.put, List.setIfInBounds_toArray, List.set_cons_zero, List.set_cons_succ, i64_w, i32_w]
           rfl
          refine one_ (i := 11) (N := some 22) #[true, true, true, true, true, true, true, true, true, true, true, true, false, false] rfl rfl (zpd HT_.out (by kernel_rfl)) (by decide) (fun K hK => ?_)
          refine value_ (w1 := ?_) (v := ?_) (by rfl) rfl ?_ ?_
          rotate_left 2
          ·go_simp
           constructor
           ·rfl
           ·rfl
          refine hK.out _ _ trivial (fun hHeld => ?_)
          clear hK K
          refine norm_ (a' := ?_) ?_ ?_
          rotate_left
          ·show Act.put _ (some 22) _ = _
           simp only [Act.put, List.setIfInBounds_toArray, List.set_cons_zero, List.set_cons_succ, i64_w, i32_w]
           rfl
          refine one_ (i := 12) (N := some 23) #[true, true, true, true, true, true, true, true, true, true, true, true, true, false] rfl rfl (zpd HT_.out (by kernel_rfl)) (by decide) (fun K hK => ?_)
          refine Kd.R_append_step k54 (w0 := w) w.heap.size (by rfl) (.tmp 11) (.tmp 22) 28 54 (.agg #[(.string ⟨#[]⟩), (.bool false), (.string ⟨#[]⟩), (.int .i64 0)]) 48 rfl Tryd.underlying28 info54 rfl (by decide) (by omega) (.slice Ao26 x2_1.length co26) x2_1 (⟨x0_1.extract 0 (t333 : Int).toNat, (⟨t334, t335⟩ : S31), (x2_1.length : Int)⟩ : S54) [.string (x0_1.extract 0 (t333 : Int).toNat), .bool t334, .string t335, .int .i64 (x2_1.length : Int)] (fun _ => True) (fun _ => False) rfl rfl ?aP (fun _ hk => hk.elim) ?aF ?aO ?aB ?aS ?aL ?_
          (case aP => exact k54_mkM _ _ _ (⟨x0_1.extract 0 (t333 : Int).toNat, (⟨t334, t335⟩ : S31), (x2_1.length : Int)⟩ : S54))
          (case aB => exact (by (with_reducible exact HB.out)))
          (case aF => exact (fun _ _ => trivial))
          (case aO => exact (by (with_reducible repeat (first | apply Kd.R_alloc | apply Kd.R_drewN | apply Kd.R_drew)); exact HO_2.out))
          (case aS => exact (zl (by (with_reducible exact HB.out))))
          (case aL => have := LMc9.out; omega)
          intro v337 w28 ho hb hg hat
          rw [← Ny336.out] at ho
          have HO338 := za.mk ho
          replace HB := za.mk hb
          clear HO_2
          clear ho hb hg hat
          refine hK.out _ _ trivial (fun hHeld => ?_)
          clear hK K
          refine norm_ (a' := ?_) ?_ ?_
          rotate_left
          ·show Act.put _ (some 23) _ = _
           simp only [Act.put, List.setIfInBounds_toArray, List.set_cons_zero, List.set_cons_succ, i64_w, i32_w]
           rfl
          refine pure_ (i := 13) (N := some 2) (v := ?_) (a' := ?_) #[true, true, true, true, true, true, true, true, true, true, true, true, true, true] rfl rfl (zpb HT_.out (by kernel_rfl)) (fun _ _ _ h => h) (Or.inl ⟨by rfl, ?_⟩) ?_ ?_
          rotate_left
          ·intro w'
           go_simp
           with_reducible rfl
          rotate_left
          ·simp only [Act.put, List.setIfInBounds_toArray, List.set_cons_zero, List.set_cons_succ, i64_w, i32_w]
           rfl
          refine done_ (ztg HT_.out (by kernel_rfl)) ?_
          try go_wp2_with (((with_reducible refine zjb (N := 26) rfl ?_); refine zrd ?hg (N := 26) ?hd (v := .string (x0_1.extract (t333 : Int).toNat x0_1.size)) (v' := .string y339) ?hr (congrArg Value.string Ny339.out.symm) ?_; (case hd => rfl); (case hg => rfl); (case hr => first | (go_simp; done) | (go_simp; rfl)); have p18 : 0 ≤ (0 : Int) := (by omega); have q18 : 0 < y339.size := (by have : (0 : Int) < (y339.size : Int) := of_decide_eq_true (by (with_reducible assumption)); omega); have hx18 : ∀ h : 0 < y339.size, ((y339[0]'h).toNat : Int) = bt y339 0 := bt_at y339 0; clear p18; have qi18 : (0 < (y339.size : Int)) = True := eq_true (of_decide_eq_true (by (with_reducible assumption))); replace q18 := eq_true q18))
          go_ret2
          exact ⟨_, by rfl, by (with_reducible repeat (first | apply Kd.R_alloc | apply Kd.R_drewN | apply Kd.R_drew)); exact HO338.out, by (with_reducible exact HB.out)⟩
        ·rw [if_neg c17] at H
         exact absurd H (by simp)
      ·rw [if_neg c9] at H
       exact absurd H (by simp)
     ·rw [if_neg c5] at H
      exact absurd H (by simp)
    ·rw [if_neg c4] at H
     exact absurd H (by simp)
def zpe.f  : Option (List ByteArray) := some (([(⟨#[97, 108, 112, 104, 97]⟩ : ByteArray), (⟨#[98, 101, 116, 97]⟩ : ByteArray), (⟨#[112, 114, 101]⟩ : ByteArray), (⟨#[114, 99]⟩ : ByteArray), (⟨#[99, 118, 115]⟩ : ByteArray), (⟨#[115, 118, 110]⟩ : ByteArray), (⟨#[103, 105, 116]⟩ : ByteArray), (⟨#[104, 103]⟩ : ByteArray), (⟨#[112]⟩ : ByteArray)] : List ByteArray))
theorem zpe.calls  (r : List ByteArray) (w : World) (h : zpe.f  = some r) :
  Calls Tryd.prog 41 #[] w fun e w' => ∃ v0_ : Value, e = .returned (v0_) ∧ Kd.R Kd.string 9 w' w.heap.size (fun _ => True) v0_ r ∧ Below w.heap.size w w' := by
 have HB := za.mk (Below.refl w.heap.size w)
 have H : (some (([(⟨#[97, 108, 112, 104, 97]⟩ : ByteArray), (⟨#[98, 101, 116, 97]⟩ : ByteArray), (⟨#[112, 114, 101]⟩ : ByteArray), (⟨#[114, 99]⟩ : ByteArray), (⟨#[99, 118, 115]⟩ : ByteArray), (⟨#[115, 118, 110]⟩ : ByteArray), (⟨#[103, 105, 116]⟩ : ByteArray), (⟨#[104, 103]⟩ : ByteArray), (⟨#[112]⟩ : ByteArray)] : List ByteArray))) = some r := h
 clear h
 obtain ⟨y341, hy341⟩ : ∃ y_ : List ByteArray, y_ = (([(⟨#[97, 108, 112, 104, 97]⟩ : ByteArray), (⟨#[98, 101, 116, 97]⟩ : ByteArray), (⟨#[112, 114, 101]⟩ : ByteArray), (⟨#[114, 99]⟩ : ByteArray), (⟨#[99, 118, 115]⟩ : ByteArray), (⟨#[115, 118, 110]⟩ : ByteArray), (⟨#[103, 105, 116]⟩ : ByteArray), (⟨#[104, 103]⟩ : ByteArray), (⟨#[112]⟩ : ByteArray)] : List ByteArray)) := ⟨_, rfl⟩
 replace H : (some y341) = some r := by (rw [hy341]; with_reducible exact H)
 have Ny341 := za.mk hy341
 clear hy341
 obtain rfl := Option.some.inj H
 go_enter Tryd.func41, Tryd.ntmps41
 go_wp2_with (((with_reducible refine zjb (N := 1) rfl ?_); refine Kd.R_lit Kd.string _ 9 ?hg (N := 1) ?hd (xs := ([(⟨#[97, 108, 112, 104, 97]⟩ : ByteArray), (⟨#[98, 101, 116, 97]⟩ : ByteArray), (⟨#[112, 114, 101]⟩ : ByteArray), (⟨#[114, 99]⟩ : ByteArray), (⟨#[99, 118, 115]⟩ : ByteArray), (⟨#[115, 118, 110]⟩ : ByteArray), (⟨#[103, 105, 116]⟩ : ByteArray), (⟨#[104, 103]⟩ : ByteArray), (⟨#[112]⟩ : ByteArray)] : List ByteArray)) (inner := [.string (⟨#[97, 108, 112, 104, 97]⟩ : ByteArray), .string (⟨#[98, 101, 116, 97]⟩ : ByteArray), .string (⟨#[112, 114, 101]⟩ : ByteArray), .string (⟨#[114, 99]⟩ : ByteArray), .string (⟨#[99, 118, 115]⟩ : ByteArray), .string (⟨#[115, 118, 110]⟩ : ByteArray), .string (⟨#[103, 105, 116]⟩ : ByteArray), .string (⟨#[104, 103]⟩ : ByteArray), .string (⟨#[112]⟩ : ByteArray)]) (ok := fun _ => True) (okp := fun _ => True) ?hr ?hp (fun _ hk => hk) trivial (Below.refl _ _) (Nat.le_refl _) (by simp) ?_; (case hd => rfl); (case hg => rfl); (case hr => first | (go_simp; done) | (go_simp; rfl)); (case hp => exact (Reps.one (show Kd.M Kd.string _ _ _ (⟨#[97, 108, 112, 104, 97]⟩ : ByteArray) [.string (⟨#[97, 108, 112, 104, 97]⟩ : ByteArray)] from rfl) (Reps.one (show Kd.M Kd.string _ _ _ (⟨#[98, 101, 116, 97]⟩ : ByteArray) [.string (⟨#[98, 101, 116, 97]⟩ : ByteArray)] from rfl) (Reps.one (show Kd.M Kd.string _ _ _ (⟨#[112, 114, 101]⟩ : ByteArray) [.string (⟨#[112, 114, 101]⟩ : ByteArray)] from rfl) (Reps.one (show Kd.M Kd.string _ _ _ (⟨#[114, 99]⟩ : ByteArray) [.string (⟨#[114, 99]⟩ : ByteArray)] from rfl) (Reps.one (show Kd.M Kd.string _ _ _ (⟨#[99, 118, 115]⟩ : ByteArray) [.string (⟨#[99, 118, 115]⟩ : ByteArray)] from rfl) (Reps.one (show Kd.M Kd.string _ _ _ (⟨#[115, 118, 110]⟩ : ByteArray) [.string (⟨#[115, 118, 110]⟩ : ByteArray)] from rfl) (Reps.one (show Kd.M Kd.string _ _ _ (⟨#[103, 105, 116]⟩ : ByteArray) [.string (⟨#[103, 105, 116]⟩ : ByteArray)] from rfl) (Reps.one (show Kd.M Kd.string _ _ _ (⟨#[104, 103]⟩ : ByteArray) [.string (⟨#[104, 103]⟩ : ByteArray)] from rfl) (Reps.one (show Kd.M Kd.string _ _ _ (⟨#[112]⟩ : ByteArray) [.string (⟨#[112]⟩ : ByteArray)] from rfl) (Reps.none _ _))))))))))); intro v342 w1 ho2 hb hg_ hnew_; clear hg_ hnew_; (first | rw [← Ny341.out] at ho2 | (simp only [Int.reduceToNat] at ho2; rw [← Ny341.out] at ho2)); have HO343 := za.mk (Kd.R_lower ho2 (zl (by (with_reducible exact HB.out)))); replace HB := za.mk (zm (by (with_reducible exact HB.out)) hb); clear hb ho2))
 go_ret
 exact ⟨_, by rfl, by (with_reducible repeat (first | apply Kd.R_alloc | apply Kd.R_drewN | apply Kd.R_drew)); exact HO343.out, by (with_reducible exact HB.out)⟩
end Go.Proofs.YtapaijpglfmfgaaDoor.Q
end
section
namespace Go.Proofs.YtapaijpglfmfgaaDoor.Q
open Go.RowKit YtapaijpglfmfgaaDoorH YtapaijpglfmfgaaDoorG YtapaijpglfmfgaaDoorW.PrintWords YtapaijpglfmfgaaDoorW.PrintLast YtapaijpglfmfgaaDoorW.PrintMore
attribute [local go_sem] zsc zrc zbd zad zic zhc zqc ztc
def zqb.l0 : Nat → ByteArray → List ByteArray → Int → Option (ByteArray)
 | 0, _, _, _ => none
 | k + 1, x0, x3, x4 => if x4 < (x3.length : Int) then (if 0 ≤ x4 then (if (x0.size : Int) > ((rdOf ByteArray.empty x3 x4).size : Int) then (if 0 < (x0.size : Int) then (if (bt x0 0) = 95 then (if 1 ≤ (wrap64 (((rdOf ByteArray.empty x3 x4).size : Int) + 1)) then (if (wrap64 (((rdOf ByteArray.empty x3 x4).size : Int) + 1)) ≤ (x0.size : Int) then (if (x0.extract 1 ((wrap64 (((rdOf ByteArray.empty x3 x4).size : Int) + 1)) : Int).toNat).toList = (rdOf ByteArray.empty x3 x4).toList then (some (rdOf ByteArray.empty x3 x4)) else (zqb.l0 k x0 x3 (wrap64 (x4 + 1)))) else (none)) else (none)) else (zqb.l0 k x0 x3 (wrap64 (x4 + 1)))) else (none)) else (zqb.l0 k x0 x3 (wrap64 (x4 + 1)))) else (none)) else (some (⟨#[]⟩ : ByteArray))
def zqb.f (k : Nat) (a0 : ByteArray) : Option (ByteArray) := (zpe.f).bind fun t344 => (zqb.l0 k a0 t344 0)
theorem zqb.calls (k : Nat) (a0 : ByteArray) (r : ByteArray) (w : World) (h : zqb.f k a0 = some r) :
  Calls Tryd.prog 28 #[.string a0] w fun e w' => e = .returned (.string r) ∧ Below w.heap.size w w' := by
 have HB := za.mk (Below.refl w.heap.size w)
 have H : ((zpe.f).bind fun t344 => (zqb.l0 k a0 t344 0)) = some r := h
 clear h
 replace H := Option.bind_eq_some_iff.mp H
 obtain ⟨t344, A20, H⟩ := H
 replace H : (zqb.l0 k a0 t344 0) = some r := H
 have A2 := za.mk A20
 clear A20
 have H' := za.mk H
 clear H
 go_enter Tryd.func28, Tryd.ntmps28
 go_wp2_with ((go_at_call 41; (with_reducible refine (zpe.calls  t344 _ A2.out).mono ?_); rintro e w3 ⟨v345, rfl, ho0, hb⟩; have HO346 := za.mk (Kd.R_lower ho0 (zl (by (with_reducible exact HB.out)))); replace HB := za.mk (zm (by (with_reducible exact HB.out)) hb); (try clear hb); (try clear hb2); (try clear hk); (try clear hi); (try clear ho0)))
 repeat (go_quiet (fail); try go_wp2_with (fail))
 (try simp only [Act.put, List.setIfInBounds_toArray, List.set_cons_zero, List.set_cons_succ])
 go_loopg [4] k (fun kq v4 w' => ∃ (x4_1 : Int), v4 = .int .i64 x4_1 ∧ za (zqb.l0 kq a0 t344 x4_1 = some r) ∧ za (kq ≤ k) ∧ za (Kd.R Kd.string 9 w' w.heap.size (fun _ => True) v345 t344) ∧ za (Below w.heap.size w w'))
 case atStart => exact ⟨(0), (by rfl), H', ⟨Nat.le_refl _⟩, ⟨by (with_reducible repeat (first | apply Kd.R_alloc | apply Kd.R_drewN | apply Kd.R_drew)); exact HO346.out⟩, ⟨by (with_reducible exact HB.out)⟩⟩
 case round =>
  clear H'
  obtain ⟨x4_1, rfl, HA, HK1, HO_3, HB⟩ := hrel
  cases gk with
  | zero => exact absurd HA.out (by simp [zqb.l0])
  | succ k1 =>
   have H := HA.out
   clear HA
   simp only [zqb.l0] at H
   by_cases c4 : x4_1 < (t344.length : Int)
   ·rw [if_pos c4] at H
    have c4b0 : decide (x4_1 < (t344.length : Int)) = true := decide_eq_true c4
    clear c4
    by_cases c5 : 0 ≤ x4_1
    ·rw [if_pos c5] at H
     have c5b0 : decide (0 ≤ x4_1) = true := decide_eq_true c5
     clear c5
     by_cases c6 : (a0.size : Int) > ((rdOf ByteArray.empty t344 x4_1).size : Int)
     ·rw [if_pos c6] at H
      have c6b0 : decide (((rdOf ByteArray.empty t344 x4_1).size : Int) < (a0.size : Int)) = true := decide_eq_true c6
      have c6b1 : decide ((rdOf ByteArray.empty t344 x4_1).size < a0.size) = true := decide_eq_true (Int.ofNat_lt.mp c6)
      clear c6
      by_cases c7 : 0 < (a0.size : Int)
      ·rw [if_pos c7] at H
       have c7b0 : decide (0 < (a0.size : Int)) = true := decide_eq_true c7
       have c7b1 : decide (0 < a0.size) = true := decide_eq_true (by omega)
       clear c7
       by_cases c9 : (bt a0 0) = 95
       ·rw [if_pos c9] at H
        have c9b0 : ((bt a0 0) == 95) = true := beq_iff_eq.mpr c9
        have c9b1 : ((bt a0 0) != 95) = false := bne_eq_false_iff_eq.mpr c9
        clear c9
        by_cases c10 : 1 ≤ (wrap64 (((rdOf ByteArray.empty t344 x4_1).size : Int) + 1))
        ·rw [if_pos c10] at H
         have c10b0 := eq_true c10
         have c10b1 : decide (1 ≤ (wrap64 (((rdOf ByteArray.empty t344 x4_1).size : Int) + 1))) = true := decide_eq_true c10
         by_cases c11 : (wrap64 (((rdOf ByteArray.empty t344 x4_1).size : Int) + 1)) ≤ (a0.size : Int)
         ·rw [if_pos c11] at H
          have c11b0 := eq_true c11
          have c11b1 : decide ((wrap64 (((rdOf ByteArray.empty t344 x4_1).size : Int) + 1)) ≤ (a0.size : Int)) = true := decide_eq_true c11
          by_cases c12 : (a0.extract 1 ((wrap64 (((rdOf ByteArray.empty t344 x4_1).size : Int) + 1)) : Int).toNat).toList = (rdOf ByteArray.empty t344 x4_1).toList
          ·rw [if_pos c12] at H
           have c12b0 : ((a0.extract 1 ((wrap64 (((rdOf ByteArray.empty t344 x4_1).size : Int) + 1)) : Int).toNat).toList == (rdOf ByteArray.empty t344 x4_1).toList) = true := beq_iff_eq.mpr c12
           have c12b1 : ((a0.extract 1 ((wrap64 (((rdOf ByteArray.empty t344 x4_1).size : Int) + 1)) : Int).toNat).toList != (rdOf ByteArray.empty t344 x4_1).toList) = false := bne_eq_false_iff_eq.mpr c12
           clear c12
           obtain rfl := Option.some.inj H
           obtain ⟨Ao13, co13, eo13⟩ := Kd.R_slice HO_3.out
           subst eo13
           have p347 : 0 ≤ (x4_1 : Int) := of_decide_eq_true (by (with_reducible assumption))
           have q347 : x4_1 < (t344.length : Int) := of_decide_eq_true (by (with_reducible assumption))
           obtain ⟨ad347, e347, hx347_0⟩ := Kd.at_string (Kd.R_reads' HO_3.out).2.2 x4_1 p347 q347
           cases e347
           replace p347 := eq_true p347
           replace q347 := eq_true q347
           have p8 : 0 ≤ (0 : Int) := (by omega)
           have q8 : 0 < a0.size := (by have : (0 : Int) < (a0.size : Int) := of_decide_eq_true (by (with_reducible assumption)); omega)
           have hx8 : ∀ h : 0 < a0.size, ((a0[0]'h).toNat : Int) = bt a0 0 := bt_at a0 0
           clear p8
           have qi8 : (0 < (a0.size : Int)) = True := eq_true (of_decide_eq_true (by (with_reducible assumption)))
           replace q8 := eq_true q8
           have p348 : 0 ≤ (x4_1 : Int) := of_decide_eq_true (by (with_reducible assumption))
           have q348 : x4_1 < (t344.length : Int) := of_decide_eq_true (by (with_reducible assumption))
           obtain ⟨ad348, e348, hx348_0⟩ := Kd.at_string (Kd.R_reads' HO_3.out).2.2 x4_1 p348 q348
           obtain rfl : ad347 = ad348 := (by injection e348)
           replace p348 := eq_true p348
           replace q348 := eq_true q348
           have p349 : 0 ≤ (x4_1 : Int) := of_decide_eq_true (by (with_reducible assumption))
           have q349 : x4_1 < (t344.length : Int) := of_decide_eq_true (by (with_reducible assumption))
           obtain ⟨ad349, e349, hx349_0⟩ := Kd.at_string (Kd.R_reads' HO_3.out).2.2 x4_1 p349 q349
           obtain rfl : ad347 = ad349 := (by injection e349)
           replace p349 := eq_true p349
           replace q349 := eq_true q349
           have p350 : 0 ≤ (x4_1 : Int) := of_decide_eq_true (by (with_reducible assumption))
           have q350 : x4_1 < (t344.length : Int) := of_decide_eq_true (by (with_reducible assumption))
           obtain ⟨ad350, e350, hx350_0⟩ := Kd.at_string (Kd.R_reads' HO_3.out).2.2 x4_1 p350 q350
           obtain rfl : ad347 = ad350 := (by injection e350)
           replace p350 := eq_true p350
           replace q350 := eq_true q350
           go_wp2
           repeat (go_quiet (fail); try go_wp2)
           go_ret
           exact ⟨by rfl, by (with_reducible apply ze; with_reducible exact HB.out)⟩
          ·rw [if_neg c12] at H
           have c12b0 : ((a0.extract 1 ((wrap64 (((rdOf ByteArray.empty t344 x4_1).size : Int) + 1)) : Int).toNat).toList == (rdOf ByteArray.empty t344 x4_1).toList) = false := beq_eq_false_iff_ne.mpr c12
           have c12b1 : ((a0.extract 1 ((wrap64 (((rdOf ByteArray.empty t344 x4_1).size : Int) + 1)) : Int).toNat).toList != (rdOf ByteArray.empty t344 x4_1).toList) = true := bne_iff_ne.mpr c12
           have H' := za.mk H
           clear H
           obtain ⟨Ao14, co14, eo14⟩ := Kd.R_slice HO_3.out
           subst eo14
           have p347 : 0 ≤ (x4_1 : Int) := of_decide_eq_true (by (with_reducible assumption))
           have q347 : x4_1 < (t344.length : Int) := of_decide_eq_true (by (with_reducible assumption))
           obtain ⟨ad347, e347, hx347_0⟩ := Kd.at_string (Kd.R_reads' HO_3.out).2.2 x4_1 p347 q347
           cases e347
           replace p347 := eq_true p347
           replace q347 := eq_true q347
           have p8 : 0 ≤ (0 : Int) := (by omega)
           have q8 : 0 < a0.size := (by have : (0 : Int) < (a0.size : Int) := of_decide_eq_true (by (with_reducible assumption)); omega)
           have hx8 : ∀ h : 0 < a0.size, ((a0[0]'h).toNat : Int) = bt a0 0 := bt_at a0 0
           clear p8
           have qi8 : (0 < (a0.size : Int)) = True := eq_true (of_decide_eq_true (by (with_reducible assumption)))
           replace q8 := eq_true q8
           have p348 : 0 ≤ (x4_1 : Int) := of_decide_eq_true (by (with_reducible assumption))
           have q348 : x4_1 < (t344.length : Int) := of_decide_eq_true (by (with_reducible assumption))
           obtain ⟨ad348, e348, hx348_0⟩ := Kd.at_string (Kd.R_reads' HO_3.out).2.2 x4_1 p348 q348
           obtain rfl : ad347 = ad348 := (by injection e348)
           replace p348 := eq_true p348
           replace q348 := eq_true q348
           have p349 : 0 ≤ (x4_1 : Int) := of_decide_eq_true (by (with_reducible assumption))
           have q349 : x4_1 < (t344.length : Int) := of_decide_eq_true (by (with_reducible assumption))
           obtain ⟨ad349, e349, hx349_0⟩ := Kd.at_string (Kd.R_reads' HO_3.out).2.2 x4_1 p349 q349
           obtain rfl : ad347 = ad349 := (by injection e349)
           replace p349 := eq_true p349
           replace q349 := eq_true q349
           go_wp2
           repeat (go_quiet (fail); try go_wp2)
           go_roundg k1
           case measure => have := HK1.out; omega
           case rel => exact ⟨(wrap64 (x4_1 + 1)), (by rfl), H', ⟨by have := HK1.out; omega⟩, ⟨by (with_reducible repeat (first | apply Kd.R_alloc | apply Kd.R_drewN | apply Kd.R_drew)); exact HO_3.out⟩, ⟨by (with_reducible apply ze; with_reducible exact HB.out)⟩⟩
         ·rw [if_neg c11] at H
          exact absurd H (by simp)
        ·rw [if_neg c10] at H
         exact absurd H (by simp)
       ·rw [if_neg c9] at H
        have c9b0 : ((bt a0 0) == 95) = false := beq_eq_false_iff_ne.mpr c9
        have c9b1 : ((bt a0 0) != 95) = true := bne_iff_ne.mpr c9
        have H' := za.mk H
        clear H
        obtain ⟨Ao15, co15, eo15⟩ := Kd.R_slice HO_3.out
        subst eo15
        have p347 : 0 ≤ (x4_1 : Int) := of_decide_eq_true (by (with_reducible assumption))
        have q347 : x4_1 < (t344.length : Int) := of_decide_eq_true (by (with_reducible assumption))
        obtain ⟨ad347, e347, hx347_0⟩ := Kd.at_string (Kd.R_reads' HO_3.out).2.2 x4_1 p347 q347
        cases e347
        replace p347 := eq_true p347
        replace q347 := eq_true q347
        have p8 : 0 ≤ (0 : Int) := (by omega)
        have q8 : 0 < a0.size := (by have : (0 : Int) < (a0.size : Int) := of_decide_eq_true (by (with_reducible assumption)); omega)
        have hx8 : ∀ h : 0 < a0.size, ((a0[0]'h).toNat : Int) = bt a0 0 := bt_at a0 0
        clear p8
        have qi8 : (0 < (a0.size : Int)) = True := eq_true (of_decide_eq_true (by (with_reducible assumption)))
        replace q8 := eq_true q8
        go_wp2
        repeat (go_quiet (fail); try go_wp2)
        go_roundg k1
        case measure => have := HK1.out; omega
        case rel => exact ⟨(wrap64 (x4_1 + 1)), (by rfl), H', ⟨by have := HK1.out; omega⟩, ⟨by (with_reducible repeat (first | apply Kd.R_alloc | apply Kd.R_drewN | apply Kd.R_drew)); exact HO_3.out⟩, ⟨by (with_reducible apply ze; with_reducible exact HB.out)⟩⟩
      ·rw [if_neg c7] at H
       exact absurd H (by simp)
     ·rw [if_neg c6] at H
      have c6b0 : decide (((rdOf ByteArray.empty t344 x4_1).size : Int) < (a0.size : Int)) = false := decide_eq_false c6
      have c6b1 : decide ((rdOf ByteArray.empty t344 x4_1).size < a0.size) = false := decide_eq_false (fun h => c6 (Int.ofNat_lt.mpr h))
      clear c6
      have H' := za.mk H
      clear H
      obtain ⟨Ao16, co16, eo16⟩ := Kd.R_slice HO_3.out
      subst eo16
      have p347 : 0 ≤ (x4_1 : Int) := of_decide_eq_true (by (with_reducible assumption))
      have q347 : x4_1 < (t344.length : Int) := of_decide_eq_true (by (with_reducible assumption))
      obtain ⟨ad347, e347, hx347_0⟩ := Kd.at_string (Kd.R_reads' HO_3.out).2.2 x4_1 p347 q347
      cases e347
      replace p347 := eq_true p347
      replace q347 := eq_true q347
      go_wp2
      repeat (go_quiet (fail); try go_wp2)
      go_roundg k1
      case measure => have := HK1.out; omega
      case rel => exact ⟨(wrap64 (x4_1 + 1)), (by rfl), H', ⟨by have := HK1.out; omega⟩, ⟨by (with_reducible repeat (first | apply Kd.R_alloc | apply Kd.R_drewN | apply Kd.R_drew)); exact HO_3.out⟩, ⟨by (with_reducible apply ze; with_reducible exact HB.out)⟩⟩
    ·rw [if_neg c5] at H
     exact absurd H (by simp)
   ·rw [if_neg c4] at H
    have c4b0 : decide (x4_1 < (t344.length : Int)) = false := decide_eq_false c4
    clear c4
    obtain rfl := Option.some.inj H
    obtain ⟨Ao17, co17, eo17⟩ := Kd.R_slice HO_3.out
    subst eo17
    go_wp2
    repeat (go_quiet (fail); try go_wp2)
    go_ret
    exact ⟨by rfl, by (with_reducible exact HB.out)⟩
def zhb.l0 : Nat → ByteArray → List ByteArray → Int → Option (Int)
 | 0, _, _, _ => none
 | k + 1, x0, x3, x4 => if x4 < (x3.length : Int) then (if 0 ≤ x4 then (if (rdOf ByteArray.empty x3 x4).toList = x0.toList then (some x4) else (zhb.l0 k x0 x3 (wrap64 (x4 + 1)))) else (none)) else (some (x3.length : Int))
def zhb.f (k : Nat) (a0 : ByteArray) : Option (Int) := zhb.l0 k a0 (([(⟨#[97, 108, 112, 104, 97]⟩ : ByteArray), (⟨#[98, 101, 116, 97]⟩ : ByteArray), (⟨#[112, 114, 101]⟩ : ByteArray), (⟨#[114, 99]⟩ : ByteArray), (⟨#[]⟩ : ByteArray), (⟨#[99, 118, 115]⟩ : ByteArray), (⟨#[115, 118, 110]⟩ : ByteArray), (⟨#[103, 105, 116]⟩ : ByteArray), (⟨#[104, 103]⟩ : ByteArray)] : List ByteArray)) 0
theorem zhb.calls (k : Nat) (a0 : ByteArray) (r : Int) (w : World) (h : zhb.f k a0 = some r) :
  Calls Tryd.prog 40 #[.string a0] w fun e w' => e = .returned (.int .i64 r) ∧ Below w.heap.size w w' := by
 have HB := za.mk (Below.refl w.heap.size w)
 have H : (zhb.l0 k a0 (([(⟨#[97, 108, 112, 104, 97]⟩ : ByteArray), (⟨#[98, 101, 116, 97]⟩ : ByteArray), (⟨#[112, 114, 101]⟩ : ByteArray), (⟨#[114, 99]⟩ : ByteArray), (⟨#[]⟩ : ByteArray), (⟨#[99, 118, 115]⟩ : ByteArray), (⟨#[115, 118, 110]⟩ : ByteArray), (⟨#[103, 105, 116]⟩ : ByteArray), (⟨#[104, 103]⟩ : ByteArray)] : List ByteArray)) 0) = some r := h
 clear h
 obtain ⟨y351, hy351⟩ : ∃ y_ : List ByteArray, y_ = (([(⟨#[97, 108, 112, 104, 97]⟩ : ByteArray), (⟨#[98, 101, 116, 97]⟩ : ByteArray), (⟨#[112, 114, 101]⟩ : ByteArray), (⟨#[114, 99]⟩ : ByteArray), (⟨#[]⟩ : ByteArray), (⟨#[99, 118, 115]⟩ : ByteArray), (⟨#[115, 118, 110]⟩ : ByteArray), (⟨#[103, 105, 116]⟩ : ByteArray), (⟨#[104, 103]⟩ : ByteArray)] : List ByteArray)) := ⟨_, rfl⟩
 replace H : (zhb.l0 k a0 y351 0) = some r := by (rw [hy351]; with_reducible exact H)
 have Ny351 := za.mk hy351
 clear hy351
 have H' := za.mk H
 clear H
 go_enter Tryd.func40, Tryd.ntmps40
 go_wp2_with (((with_reducible refine zjb (N := 5) rfl ?_); refine Kd.R_lit Kd.string _ 9 ?hg (N := 5) ?hd (xs := ([(⟨#[97, 108, 112, 104, 97]⟩ : ByteArray), (⟨#[98, 101, 116, 97]⟩ : ByteArray), (⟨#[112, 114, 101]⟩ : ByteArray), (⟨#[114, 99]⟩ : ByteArray), (⟨#[]⟩ : ByteArray), (⟨#[99, 118, 115]⟩ : ByteArray), (⟨#[115, 118, 110]⟩ : ByteArray), (⟨#[103, 105, 116]⟩ : ByteArray), (⟨#[104, 103]⟩ : ByteArray)] : List ByteArray)) (inner := [.string (⟨#[97, 108, 112, 104, 97]⟩ : ByteArray), .string (⟨#[98, 101, 116, 97]⟩ : ByteArray), .string (⟨#[112, 114, 101]⟩ : ByteArray), .string (⟨#[114, 99]⟩ : ByteArray), .string ⟨#[]⟩, .string (⟨#[99, 118, 115]⟩ : ByteArray), .string (⟨#[115, 118, 110]⟩ : ByteArray), .string (⟨#[103, 105, 116]⟩ : ByteArray), .string (⟨#[104, 103]⟩ : ByteArray)]) (ok := fun _ => True) (okp := fun _ => True) ?hr ?hp (fun _ hk => hk) trivial (Below.refl _ _) (Nat.le_refl _) (by simp) ?_; (case hd => rfl); (case hg => rfl); (case hr => first | (go_simp; done) | (go_simp; rfl)); (case hp => exact (Reps.one (show Kd.M Kd.string _ _ _ (⟨#[97, 108, 112, 104, 97]⟩ : ByteArray) [.string (⟨#[97, 108, 112, 104, 97]⟩ : ByteArray)] from rfl) (Reps.one (show Kd.M Kd.string _ _ _ (⟨#[98, 101, 116, 97]⟩ : ByteArray) [.string (⟨#[98, 101, 116, 97]⟩ : ByteArray)] from rfl) (Reps.one (show Kd.M Kd.string _ _ _ (⟨#[112, 114, 101]⟩ : ByteArray) [.string (⟨#[112, 114, 101]⟩ : ByteArray)] from rfl) (Reps.one (show Kd.M Kd.string _ _ _ (⟨#[114, 99]⟩ : ByteArray) [.string (⟨#[114, 99]⟩ : ByteArray)] from rfl) (Reps.one (show Kd.M Kd.string _ _ _ (⟨#[]⟩ : ByteArray) [.string ⟨#[]⟩] from rfl) (Reps.one (show Kd.M Kd.string _ _ _ (⟨#[99, 118, 115]⟩ : ByteArray) [.string (⟨#[99, 118, 115]⟩ : ByteArray)] from rfl) (Reps.one (show Kd.M Kd.string _ _ _ (⟨#[115, 118, 110]⟩ : ByteArray) [.string (⟨#[115, 118, 110]⟩ : ByteArray)] from rfl) (Reps.one (show Kd.M Kd.string _ _ _ (⟨#[103, 105, 116]⟩ : ByteArray) [.string (⟨#[103, 105, 116]⟩ : ByteArray)] from rfl) (Reps.one (show Kd.M Kd.string _ _ _ (⟨#[104, 103]⟩ : ByteArray) [.string (⟨#[104, 103]⟩ : ByteArray)] from rfl) (Reps.none _ _))))))))))); intro v352 w2 ho3 hb hg_ hnew_; clear hg_ hnew_; (first | rw [← Ny351.out] at ho3 | (simp only [Int.reduceToNat] at ho3; rw [← Ny351.out] at ho3)); have HO353 := za.mk (Kd.R_lower ho3 (zl (by (with_reducible exact HB.out)))); replace HB := za.mk (zm (by (with_reducible exact HB.out)) hb); clear hb ho3))
 (try simp only [Act.put, List.setIfInBounds_toArray, List.set_cons_zero, List.set_cons_succ])
 go_loopg [4] k (fun kq v4 w' => ∃ (x4_1 : Int), v4 = .int .i64 x4_1 ∧ za (zhb.l0 kq a0 y351 x4_1 = some r) ∧ za (kq ≤ k) ∧ za (Kd.R Kd.string 9 w' w.heap.size (fun _ => True) v352 y351) ∧ za (Below w.heap.size w w'))
 case atStart => exact ⟨(0), (by rfl), H', ⟨Nat.le_refl _⟩, ⟨by (with_reducible repeat (first | apply Kd.R_alloc | apply Kd.R_drewN | apply Kd.R_drew)); exact HO353.out⟩, ⟨by (with_reducible exact HB.out)⟩⟩
 case round =>
  clear H'
  obtain ⟨x4_1, rfl, HA, HK1, HO_3, HB⟩ := hrel
  cases gk with
  | zero => exact absurd HA.out (by simp [zhb.l0])
  | succ k1 =>
   have H := HA.out
   clear HA
   simp only [zhb.l0] at H
   by_cases c4 : x4_1 < (y351.length : Int)
   ·rw [if_pos c4] at H
    have c4b0 : decide (x4_1 < (y351.length : Int)) = true := decide_eq_true c4
    clear c4
    by_cases c5 : 0 ≤ x4_1
    ·rw [if_pos c5] at H
     have c5b0 : decide (0 ≤ x4_1) = true := decide_eq_true c5
     clear c5
     by_cases c6 : (rdOf ByteArray.empty y351 x4_1).toList = a0.toList
     ·rw [if_pos c6] at H
      have c6b0 : ((rdOf ByteArray.empty y351 x4_1).toList == a0.toList) = true := beq_iff_eq.mpr c6
      have c6b1 : ((rdOf ByteArray.empty y351 x4_1).toList != a0.toList) = false := bne_eq_false_iff_eq.mpr c6
      clear c6
      obtain rfl := Option.some.inj H
      obtain ⟨Ao7, co7, eo7⟩ := Kd.R_slice HO_3.out
      subst eo7
      have p354 : 0 ≤ (x4_1 : Int) := of_decide_eq_true (by (with_reducible assumption))
      have q354 : x4_1 < (y351.length : Int) := of_decide_eq_true (by (with_reducible assumption))
      obtain ⟨ad354, e354, hx354_0⟩ := Kd.at_string (Kd.R_reads' HO_3.out).2.2 x4_1 p354 q354
      cases e354
      replace p354 := eq_true p354
      replace q354 := eq_true q354
      go_wp2
      go_ret
      exact ⟨by rfl, by (with_reducible exact HB.out)⟩
     ·rw [if_neg c6] at H
      have c6b0 : ((rdOf ByteArray.empty y351 x4_1).toList == a0.toList) = false := beq_eq_false_iff_ne.mpr c6
      have c6b1 : ((rdOf ByteArray.empty y351 x4_1).toList != a0.toList) = true := bne_iff_ne.mpr c6
      have H' := za.mk H
      clear H
      obtain ⟨Ao8, co8, eo8⟩ := Kd.R_slice HO_3.out
      subst eo8
      have p354 : 0 ≤ (x4_1 : Int) := of_decide_eq_true (by (with_reducible assumption))
      have q354 : x4_1 < (y351.length : Int) := of_decide_eq_true (by (with_reducible assumption))
      obtain ⟨ad354, e354, hx354_0⟩ := Kd.at_string (Kd.R_reads' HO_3.out).2.2 x4_1 p354 q354
      cases e354
      replace p354 := eq_true p354
      replace q354 := eq_true q354
      go_wp2
      go_roundg k1
      case measure => have := HK1.out; omega
      case rel => exact ⟨(wrap64 (x4_1 + 1)), (by rfl), H', ⟨by have := HK1.out; omega⟩, ⟨by (with_reducible repeat (first | apply Kd.R_alloc | apply Kd.R_drewN | apply Kd.R_drew)); exact HO_3.out⟩, ⟨by (with_reducible exact HB.out)⟩⟩
    ·rw [if_neg c5] at H
     exact absurd H (by simp)
   ·rw [if_neg c4] at H
    have c4b0 : decide (x4_1 < (y351.length : Int)) = false := decide_eq_false c4
    clear c4
    obtain rfl := Option.some.inj H
    obtain ⟨Ao9, co9, eo9⟩ := Kd.R_slice HO_3.out
    subst eo9
    go_wp2
    go_ret
    exact ⟨by rfl, by (with_reducible exact HB.out)⟩
def zq.l0 : Nat → ByteArray → List (S58) → Option ((List (S58)) × ByteArray)
 | 0, _, _ => none
 | k + 1, x0, x2 => (zqb.f k x0).bind fun t355 => (if t355.toList = ([] : List UInt8) then (some (x2, x0)) else (if 0 ≤ (wrap64 ((t355.size : Int) + 1)) then (if (wrap64 ((t355.size : Int) + 1)) ≤ (x0.size : Int) then ((some (x0.extract ((wrap64 ((t355.size : Int) + 1)) : Int).toNat x0.size : ByteArray)).bind fun y356 => ((E1.zcb.f k y356).bind fun t357 => ((zhb.f k t355).bind fun t358 => (if 0 ≤ t357 then (if t357 ≤ (y356.size : Int) then ((zbb.f k (y356.extract 0 (t357 : Int).toNat)).bind fun bt359 => (if x2.length < 4398046511104 then (zq.l0 k (y356.extract (t357 : Int).toNat y356.size) (x2 ++ [(⟨t358, (⟨bt359.1, bt359.2⟩ : S31)⟩ : S58)])) else (none))) else (none)) else (none))))) else (none)) else (none)))
def zq.f (k : Nat) (a0 : ByteArray) : Option ((List (S58)) × ByteArray) := zq.l0 k a0 ([] : List (S58))
def zq.T6 : Bool × List (List Nat × List Nat) := (true, [([], []), ([], []), ([1], [1]), ([], []), ([], []), ([3, 4], [3, 4]), ([5, 2], [5]), ([2, 6], [2, 6]), ([7], [7]), ([0, 8, 6], [0, 8]), ([9, 9, 0, 1, 2, 3, 4, 5, 6, 7, 8, 9], [0, 9])])
def zq.B6 : List Nat := [0, 0, 2, 0, 0, 24, 62, 126, 254, 511, 1023]
theorem zq.tab6 : rtab .any (opsOf Tryd.f27 6) = zq.T6 := by kernel_rfl
theorem zq.bits6 : zfg zq.T6.2 zq.B6 = true := by kernel_rfl
theorem zq.calls (k : Nat) (a0 : ByteArray) (r1 : List (S58)) (r2 : ByteArray) (w : World) (h : zq.f k a0 = some (r1, r2)) :
  Calls Tryd.prog 27 #[.string a0] w fun e w' => ∃ v0_ : Value, e = .returned (.tuple #[v0_, .string r2]) ∧ Kd.R k58 58 w' w.heap.size (fun _ => True) v0_ r1 ∧ Below w.heap.size w w' := by
 have hu58 := Tryd.underlying58
 have HB := za.mk (Below.refl w.heap.size w)
 have H : (zq.l0 k a0 ([] : List (S58))) = some (r1, r2) := h
 clear h
 have H' := za.mk H
 clear H
 go_enter Tryd.func27, Tryd.ntmps27
 go_wp2
 (try simp only [Act.put, List.setIfInBounds_toArray, List.set_cons_zero, List.set_cons_succ])
 go_loopg [0, 2] k (fun kq v0 v2 w' => ∃ (x0_1 : ByteArray) (x2_1 : List (S58)), v0 = .string x0_1 ∧ za (zq.l0 kq x0_1 x2_1 = some (r1, r2)) ∧ za (kq ≤ k) ∧ za (Kd.R k58 58 w' w.heap.size (fun _ => True) v2 x2_1) ∧ za (Below w.heap.size w w'))
 case atStart => exact ⟨(a0), (([] : List (S58))), (by rfl), H', ⟨Nat.le_refl _⟩, ⟨by exact Kd.R_nil _ _ _ _ _⟩, ⟨by (with_reducible exact HB.out)⟩⟩
 case round =>
  clear H'
  obtain ⟨x0_1, x2_1, rfl, HA, HK1, HO_2, HB⟩ := hrel
  cases gk with
  | zero => exact absurd HA.out (by simp [zq.l0])
  | succ k1 =>
   have H := HA.out
   clear HA
   simp only [zq.l0] at H
   replace H := Option.bind_eq_some_iff.mp H
   obtain ⟨t355, A20, H⟩ := H
   replace H : (if t355.toList = ([] : List UInt8) then (some (x2_1, x0_1)) else (if 0 ≤ (wrap64 ((t355.size : Int) + 1)) then (if (wrap64 ((t355.size : Int) + 1)) ≤ (x0_1.size : Int) then ((some (x0_1.extract ((wrap64 ((t355.size : Int) + 1)) : Int).toNat x0_1.size : ByteArray)).bind fun y356 => ((E1.zcb.f k1 y356).bind fun t357 => ((zhb.f k1 t355).bind fun t358 => (if 0 ≤ t357 then (if t357 ≤ (y356.size : Int) then ((zbb.f k1 (y356.extract 0 (t357 : Int).toNat)).bind fun bt359 => (if x2_1.length < 4398046511104 then (zq.l0 k1 (y356.extract (t357 : Int).toNat y356.size) (x2_1 ++ [(⟨t358, (⟨bt359.1, bt359.2⟩ : S31)⟩ : S58)])) else (none))) else (none)) else (none))))) else (none)) else (none))) = some (r1, r2) := H
   have A2 := za.mk A20
   clear A20
   by_cases c3 : t355.toList = ([] : List UInt8)
   ·rw [if_pos c3] at H
    have c3b0 : (t355.toList == ([] : List UInt8)) = true := beq_iff_eq.mpr c3
    have c3b1 : (t355.toList != ([] : List UInt8)) = false := bne_eq_false_iff_eq.mpr c3
    try have c3b9 : t355.toList.isEmpty = true := by simpa using c3b0
    clear c3
    simp only [Option.some.injEq, Prod.mk.injEq] at H
    obtain ⟨rfl, rfl⟩ := H
    go_wp2_with (((with_reducible refine zab (f := 28) rfl ?_); refine zjc (some 7) rfl rfl Tryd.func28 (by kernel_rfl) rfl #[.string x0_1] rfl (by (try simp only [List.map_toArray, List.map_cons, List.map_nil]); first | done | rfl | (simp only [List.length_drop, List.length_take]; rfl)) ?_; (with_reducible refine (zqb.calls k1 x0_1 t355 _ A2.out).mono ?_); rintro e w4 ⟨rfl, hb⟩; refine ⟨_, rfl, ?_⟩; replace HO_2 := za.mk (Kd.R_below (by (with_reducible repeat (first | apply Kd.R_alloc | apply Kd.R_drewN | apply Kd.R_drew)); exact HO_2.out) hb); replace HB := za.mk (zm (by (with_reducible exact HB.out)) hb); (try clear hb); (try clear hb2); (try clear hk); (try clear hi)))
    go_ret2
    exact ⟨_, by rfl, by (with_reducible repeat (first | apply Kd.R_alloc | apply Kd.R_drewN | apply Kd.R_drew)); exact HO_2.out, by (with_reducible exact HB.out)⟩
   ·rw [if_neg c3] at H
    have c3b0 : (t355.toList == ([] : List UInt8)) = false := beq_eq_false_iff_ne.mpr c3
    have c3b1 : (t355.toList != ([] : List UInt8)) = true := bne_iff_ne.mpr c3
    try have c3b9 : t355.toList.isEmpty = false := by simpa using c3b0
    obtain ⟨ji5, hji5⟩ : ∃ j_ : Int, (wrap64 ((t355.size : Int) + 1)) = j_ := ⟨_, rfl⟩
    replace H : (if 0 ≤ (ji5) then (if (ji5) ≤ (x0_1.size : Int) then ((some (x0_1.extract ((ji5) : Int).toNat x0_1.size : ByteArray)).bind fun y356 => ((E1.zcb.f k1 y356).bind fun t357 => ((zhb.f k1 t355).bind fun t358 => (if 0 ≤ t357 then (if t357 ≤ (y356.size : Int) then ((zbb.f k1 (y356.extract 0 (t357 : Int).toNat)).bind fun bt359 => (if x2_1.length < 4398046511104 then (zq.l0 k1 (y356.extract (t357 : Int).toNat y356.size) (x2_1 ++ [(⟨t358, (⟨bt359.1, bt359.2⟩ : S31)⟩ : S58)])) else (none))) else (none)) else (none))))) else (none)) else (none)) = some (r1, r2) := by (rw [hji5] at H; exact H)
    (try rw [hji5] at A2)
    have hji5w : (IntKind.i64.wrap ((t355.size : Int) + 1)) = ji5 := (i64_w _).trans hji5
    by_cases c6 : 0 ≤ (ji5)
    ·rw [if_pos c6] at H
     have c6b0 := eq_true c6
     have c6b1 : decide (0 ≤ (ji5)) = true := decide_eq_true c6
     clear c6
     by_cases c7 : (ji5) ≤ (x0_1.size : Int)
     ·rw [if_pos c7] at H
      have c7b0 := eq_true c7
      have c7b1 : decide ((ji5) ≤ (x0_1.size : Int)) = true := decide_eq_true c7
      clear c7
      obtain ⟨y356, hy356⟩ : ∃ y_ : ByteArray, y_ = (x0_1.extract ((ji5) : Int).toNat x0_1.size) := ⟨_, rfl⟩
      replace H : ((E1.zcb.f k1 y356).bind fun t357 => ((zhb.f k1 t355).bind fun t358 => (if 0 ≤ t357 then (if t357 ≤ (y356.size : Int) then ((zbb.f k1 (y356.extract 0 (t357 : Int).toNat)).bind fun bt359 => (if x2_1.length < 4398046511104 then (zq.l0 k1 (y356.extract (t357 : Int).toNat y356.size) (x2_1 ++ [(⟨t358, (⟨bt359.1, bt359.2⟩ : S31)⟩ : S58)])) else (none))) else (none)) else (none)))) = some (r1, r2) := by (have H2_ := (Option.bind_some _ _).symm.trans H; rw [hy356]; with_reducible exact H2_)
      have Ny356 := za.mk hy356
      clear hy356
      replace H := Option.bind_eq_some_iff.mp H
      obtain ⟨t357, A80, H⟩ := H
      replace H : ((zhb.f k1 t355).bind fun t358 => (if 0 ≤ t357 then (if t357 ≤ (y356.size : Int) then ((zbb.f k1 (y356.extract 0 (t357 : Int).toNat)).bind fun bt359 => (if x2_1.length < 4398046511104 then (zq.l0 k1 (y356.extract (t357 : Int).toNat y356.size) (x2_1 ++ [(⟨t358, (⟨bt359.1, bt359.2⟩ : S31)⟩ : S58)])) else (none))) else (none)) else (none))) = some (r1, r2) := H
      have A8 := za.mk A80
      clear A80
      replace H := Option.bind_eq_some_iff.mp H
      obtain ⟨t358, A90, H⟩ := H
      replace H : (if 0 ≤ t357 then (if t357 ≤ (y356.size : Int) then ((zbb.f k1 (y356.extract 0 (t357 : Int).toNat)).bind fun bt359 => (if x2_1.length < 4398046511104 then (zq.l0 k1 (y356.extract (t357 : Int).toNat y356.size) (x2_1 ++ [(⟨t358, (⟨bt359.1, bt359.2⟩ : S31)⟩ : S58)])) else (none))) else (none)) else (none)) = some (r1, r2) := H
      have A9 := za.mk A90
      clear A90
      by_cases c10 : 0 ≤ t357
      ·rw [if_pos c10] at H
       have c10b0 := eq_true c10
       have c10b1 : decide (0 ≤ t357) = true := decide_eq_true c10
       clear c10
       by_cases c11 : t357 ≤ (y356.size : Int)
       ·rw [if_pos c11] at H
        have c11b0 := eq_true c11
        have c11b1 : decide (t357 ≤ (y356.size : Int)) = true := decide_eq_true c11
        clear c11
        replace H := Option.bind_eq_some_iff.mp H
        obtain ⟨⟨t359, t360⟩, A120, H⟩ := H
        replace H : (if x2_1.length < 4398046511104 then (zq.l0 k1 (y356.extract (t357 : Int).toNat y356.size) (x2_1 ++ [(⟨t358, (⟨t359, t360⟩ : S31)⟩ : S58)])) else (none)) = some (r1, r2) := H
        have A12 := za.mk A120
        clear A120
        by_cases c13 : x2_1.length < 4398046511104
        ·rw [if_pos c13] at H
         have LMc13 := za.mk c13
         clear c13
         obtain ⟨y361, hy361⟩ : ∃ y_ : List (S58), y_ = (x2_1 ++ [(⟨t358, (⟨t359, t360⟩ : S31)⟩ : S58)]) := ⟨_, rfl⟩
         replace H : (zq.l0 k1 (y356.extract (t357 : Int).toNat y356.size) y361) = some (r1, r2) := by (rw [hy361]; with_reducible exact H)
         have Ny361 := za.mk hy361
         clear hy361
         have c14b0 := eq_true (of_decide_eq_true (by (with_reducible assumption)) : 0 ≤ t357)
         have c15b0 := eq_true (of_decide_eq_true (by (with_reducible assumption)) : t357 ≤ (y356.size : Int))
         obtain ⟨y364, hy364⟩ : ∃ y_ : ByteArray, y_ = (y356.extract (t357 : Int).toNat y356.size) := ⟨_, rfl⟩
         replace H : (zq.l0 k1 y364 y361) = some (r1, r2) := by (rw [hy364]; with_reducible exact H)
         have Ny364 := za.mk hy364
         clear hy364
         have H' := za.mk H
         clear H
         try go_wp2_with (first | ((with_reducible refine zab (f := 28) rfl ?_); refine zjc (some 7) rfl rfl Tryd.func28 (by kernel_rfl) rfl #[.string x0_1] rfl (by (try simp only [List.map_toArray, List.map_cons, List.map_nil]); first | done | rfl | (simp only [List.length_drop, List.length_take]; rfl)) ?_; (with_reducible refine (zqb.calls k1 x0_1 t355 _ A2.out).mono ?_); rintro e w16 ⟨rfl, hb⟩; refine ⟨_, rfl, ?_⟩; replace HO_2 := za.mk (Kd.R_below (by (with_reducible repeat (first | apply Kd.R_alloc | apply Kd.R_drewN | apply Kd.R_drew)); exact HO_2.out) hb); replace HB := za.mk (zm (by (with_reducible exact HB.out)) hb); (try clear hb); (try clear hb2); (try clear hk); (try clear hi)) | ((with_reducible refine zjb (N := 16) rfl ?_); refine zrd ?hg (N := 16) ?hd (v := .string (x0_1.extract ((ji5) : Int).toNat x0_1.size)) (v' := .string y356) ?hr (congrArg Value.string Ny356.out.symm) ?_; (case hd => rfl); (case hg => rfl); (case hr => first | (go_simp; done) | (go_simp; rfl))) | ((with_reducible refine zab (f := 33) rfl ?_); refine zjc (some 18) rfl rfl Tryd.func33 (by kernel_rfl) rfl #[.string y356, .func (.func 34) #[] #[]] rfl (by (try simp only [List.map_toArray, List.map_cons, List.map_nil]); first | done | rfl | (simp only [List.length_drop, List.length_take]; rfl)) ?_; (with_reducible refine (E1.zcb.calls k1 y356 t357 _ A8.out).mono ?_); rintro e w' ⟨rfl, ⟨nd, rfl⟩⟩; refine ⟨_, rfl, ?_⟩))
         (try (rw [zsd w16]; generalize hq_ : World.drewN w16 _ = w16; have n0_ : za (Kd.R k58 58 w16 w.heap.size (fun _ => True) u2 x2_1) := ⟨by rw [← hq_]; exact (by (with_reducible repeat (first | apply Kd.R_alloc | apply Kd.R_drewN | apply Kd.R_drew)); exact HO_2.out)⟩; have n1_ : za (Below w.heap.size w w16) := ⟨by rw [← hq_]; exact (by (with_reducible apply ze; with_reducible exact HB.out))⟩; clear HO_2 HB hq_; have HO_2 := n0_; have HB := n1_; clear n0_ n1_))
         replace HO_2 := za.mk (Kd.R_drew HO_2.out)
         replace HB := za.mk (zy HB.out)
         refine zsf (n := 11) (S := fun w' => True) (ds := []) #[false, false, false, false, false, false, false, false, false, false, false] (by kernel_rfl) rfl rfl trivial (fun hHeld => ?_); refine zhf zq.tab6 zq.bits6 (fun HT_ HW_ => ?_)
         generalize w16.drew = w17 at HO_2 HB hHeld ⊢
         refine pure_ (i := 0) (N := some 19) (v := ?_) (a' := ?_) #[true, false, false, false, false, false, false, false, false, false, false] rfl rfl (zpb HT_.out (by kernel_rfl)) (fun _ _ _ h => h) (Or.inl ⟨by rfl, ?_⟩) ?_ ?_
         rotate_left
         ·intro w'
          go_simp
          with_reducible rfl
         rotate_left
         ·simp only [Act.put, List.setIfInBounds_toArray, List.set_cons_zero, List.set_cons_succ, i64_w, i32_w]
          rfl
         refine pure_ (i := 1) (N := some 20) (v := ?_) (a' := ?_) #[true, true, false, false, false, false, false, false, false, false, false] rfl rfl (zpb HT_.out (by kernel_rfl)) (fun _ _ _ h => h) (Or.inl ⟨by rfl, ?_⟩) ?_ ?_
         rotate_left
         ·intro w'
          go_simp
          with_reducible rfl
         rotate_left
         ·simp only [Act.put, List.setIfInBounds_toArray, List.set_cons_zero, List.set_cons_succ, i64_w, i32_w]
          rfl
         refine pure_ (i := 3) (N := some 22) (v := ?_) (a' := ?_) #[true, true, false, true, false, false, false, false, false, false, false] rfl rfl (zpb HT_.out (by kernel_rfl)) (fun _ _ _ h => h) (Or.inl ⟨by rfl, ?_⟩) ?_ ?_
         rotate_left
         ·intro w'
          go_simp
          with_reducible rfl
         rotate_left
         ·simp only [Act.put, List.setIfInBounds_toArray, List.set_cons_zero, List.set_cons_succ, i64_w, i32_w]
          rfl
         refine pure_ (i := 4) (N := some 23) (v := ?_) (a' := ?_) #[true, true, false, true, true, false, false, false, false, false, false] rfl rfl (zpb HT_.out (by kernel_rfl)) (fun _ _ _ h => h) (Or.inl ⟨by rfl, ?_⟩) ?_ ?_
         rotate_left
         ·intro w'
          go_simp
          with_reducible rfl
         rotate_left
         ·simp only [Act.put, List.setIfInBounds_toArray, List.set_cons_zero, List.set_cons_succ, i64_w, i32_w]
          rfl
         refine pure_ (i := 5) (N := some 24) (v := ?_) (a' := ?_) #[true, true, false, true, true, true, false, false, false, false, false] rfl rfl (zpb HT_.out (by kernel_rfl)) (fun _ _ _ h => h) (Or.inl ⟨by rfl, ?_⟩) ?_ ?_
         rotate_left
         ·intro w'
          go_simp
          with_reducible rfl
         rotate_left
         ·simp only [Act.put, List.setIfInBounds_toArray, List.set_cons_zero, List.set_cons_succ, i64_w, i32_w]
          rfl
         refine one_ (i := 2) (N := some 21) #[true, true, true, true, true, true, false, false, false, false, false] rfl rfl (zpd HT_.out (by kernel_rfl)) (by decide) (fun K hK => ?_)
         refine goes_ Tryd.func40 (by kernel_rfl) rfl #[.string t355] (by rfl) rfl rfl (by (try simp only [List.map_toArray, List.map_cons, List.map_nil]); first | done | rfl | (simp only [List.length_drop, List.length_take]; rfl)) ?_
         with_reducible refine (zhb.calls k1 t355 t358 _ A9.out).mono ?_
         rintro e w18 ⟨rfl, hb⟩
         refine ⟨_, rfl, ?_⟩
         replace HO_2 := za.mk (Kd.R_below (by (with_reducible repeat (first | apply Kd.R_alloc | apply Kd.R_drewN | apply Kd.R_drew)); exact HO_2.out) hb)
         replace HB := za.mk (zm (by (with_reducible exact HB.out)) hb)
         (try clear hb)
         (try clear hb2)
         (try clear hk)
         (try clear hi)
         refine hK.out _ _ trivial (fun hHeld => ?_)
         clear hK K
         refine norm_ (a' := ?_) ?_ ?_
         rotate_left
         ·show Act.put _ (some 21) _ = _
          simp only [Act.put, List.setIfInBounds_toArray, List.set_cons_zero, List.set_cons_succ, i64_w, i32_w]
          rfl
         refine one_ (i := 6) (N := some 25) #[true, true, true, true, true, true, true, false, false, false, false] rfl rfl (zpd HT_.out (by kernel_rfl)) (by decide) (fun K hK => ?_)
         refine goes_ Tryd.func35 (by kernel_rfl) rfl #[.string (y356.extract 0 (t357 : Int).toNat)] (by rfl) rfl rfl (by (try simp only [List.map_toArray, List.map_cons, List.map_nil]); first | done | rfl | (simp only [List.length_drop, List.length_take]; rfl)) ?_
         with_reducible refine (zbb.calls k1 (y356.extract 0 (t357 : Int).toNat) t359 t360 _ A12.out).mono ?_
         rintro e w19 ⟨rfl, hb⟩
         refine ⟨_, rfl, ?_⟩
         replace HO_2 := za.mk (Kd.R_below (by (with_reducible repeat (first | apply Kd.R_alloc | apply Kd.R_drewN | apply Kd.R_drew)); exact HO_2.out) hb)
         replace HB := za.mk (zm (by (with_reducible exact HB.out)) hb)
         (try clear hb)
         (try clear hb2)
         (try clear hk)
         (try clear hi)
         refine hK.out _ _ trivial (fun hHeld => ?_)
         clear hK K
         refine norm_ (a' := ?_) ?_ ?_
         rotate_left
         ·show Act.put _ (some 25) _ = _
          simp only [Act.put, List.setIfInBounds_toArray, List.set_cons_zero, List.set_cons_succ, i64_w, i32_w]
          rfl
         refine pure_ (i := 7) (N := some 26) (v := ?_) (a' := ?_) #[true, true, true, true, true, true, true, true, false, false, false] rfl rfl (zpb HT_.out (by kernel_rfl)) (fun _ _ _ h => h) (Or.inl ⟨by rfl, ?_⟩) ?_ ?_
         rotate_left
         ·intro w'
          go_simp
          with_reducible rfl
         rotate_left
         ·simp only [Act.put, List.setIfInBounds_toArray, List.set_cons_zero, List.set_cons_succ, i64_w, i32_w]
          rfl
         refine one_ (i := 8) (N := some 27) #[true, true, true, true, true, true, true, true, true, false, false] rfl rfl (zpd HT_.out (by kernel_rfl)) (by decide) (fun K hK => ?_)
         refine value_ (w1 := ?_) (v := ?_) (by rfl) rfl ?_ ?_
         rotate_left 2
         ·go_simp
          constructor
          ·rfl
          ·rfl
         refine hK.out _ _ trivial (fun hHeld => ?_)
         clear hK K
         refine norm_ (a' := ?_) ?_ ?_
         rotate_left
         ·show Act.put _ (some 27) _ = _
          simp only [Act.put, List.setIfInBounds_toArray, List.set_cons_zero, List.set_cons_succ, i64_w, i32_w]
          rfl
         refine one_ (i := 9) (N := some 28) #[true, true, true, true, true, true, true, true, true, true, false] rfl rfl (zpd HT_.out (by kernel_rfl)) (by decide) (fun K hK => ?_)
         refine Kd.R_append_step k58 (w0 := w) w.heap.size (by rfl) (.tmp 19) (.tmp 27) 29 58 (.agg #[(.int .i64 0), (.bool false), (.string ⟨#[]⟩)]) 32 rfl Tryd.underlying29 info58 rfl (by decide) (by omega) u2 x2_1 (⟨t358, (⟨t359, t360⟩ : S31)⟩ : S58) [.int .i64 t358, .bool t359, .string t360] (fun _ => True) (fun _ => False) rfl rfl ?aP (fun _ hk => hk.elim) ?aF ?aO ?aB ?aS ?aL ?_
         (case aP => exact k58_mkM _ _ _ (⟨t358, (⟨t359, t360⟩ : S31)⟩ : S58))
         (case aB => exact (by (with_reducible exact HB.out)))
         (case aF => exact (fun _ _ => trivial))
         (case aO => exact (by (with_reducible repeat (first | apply Kd.R_alloc | apply Kd.R_drewN | apply Kd.R_drew)); exact HO_2.out))
         (case aS => exact (zl (by (with_reducible exact HB.out))))
         (case aL => have := LMc13.out; omega)
         intro v362 w20 ho hb hg hat
         rw [← Ny361.out] at ho
         have HO363 := za.mk ho
         replace HB := za.mk hb
         clear HO_2
         clear ho hb hg hat
         refine hK.out _ _ trivial (fun hHeld => ?_)
         clear hK K
         refine norm_ (a' := ?_) ?_ ?_
         rotate_left
         ·show Act.put _ (some 28) _ = _
          simp only [Act.put, List.setIfInBounds_toArray, List.set_cons_zero, List.set_cons_succ, i64_w, i32_w]
          rfl
         refine pure_ (i := 10) (N := some 2) (v := ?_) (a' := ?_) #[true, true, true, true, true, true, true, true, true, true, true] rfl rfl (zpb HT_.out (by kernel_rfl)) (fun _ _ _ h => h) (Or.inl ⟨by rfl, ?_⟩) ?_ ?_
         rotate_left
         ·intro w'
          go_simp
          with_reducible rfl
         rotate_left
         ·simp only [Act.put, List.setIfInBounds_toArray, List.set_cons_zero, List.set_cons_succ, i64_w, i32_w]
          rfl
         refine done_ (ztg HT_.out (by kernel_rfl)) ?_
         try go_wp2_with (((with_reducible refine zjb (N := 31) rfl ?_); refine zrd ?hg (N := 31) ?hd (v := .string (y356.extract (t357 : Int).toNat y356.size)) (v' := .string y364) ?hr (congrArg Value.string Ny364.out.symm) ?_; (case hd => rfl); (case hg => rfl); (case hr => first | (go_simp; done) | (go_simp; rfl))))
         go_roundg k1
         case measure => have := HK1.out; omega
         case rel => exact ⟨(y364), (y361), (by rfl), H', ⟨by have := HK1.out; omega⟩, ⟨by (with_reducible repeat (first | apply Kd.R_alloc | apply Kd.R_drewN | apply Kd.R_drew)); exact HO363.out⟩, ⟨by (with_reducible exact HB.out)⟩⟩
        ·rw [if_neg c13] at H
         exact absurd H (by simp)
       ·rw [if_neg c11] at H
        exact absurd H (by simp)
      ·rw [if_neg c10] at H
       exact absurd H (by simp)
     ·rw [if_neg c7] at H
      exact absurd H (by simp)
    ·rw [if_neg c6] at H
     exact absurd H (by simp)
end Go.Proofs.YtapaijpglfmfgaaDoor.Q
end
