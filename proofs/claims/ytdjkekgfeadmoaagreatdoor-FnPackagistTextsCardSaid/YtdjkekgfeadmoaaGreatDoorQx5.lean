/- Proved here: each Go function that is named in this text, called as its theorem 'calls' says, returns what its Lean function 'f' tells, and of the memory that was there nothing is changed (a row of a law: the law returns true). Conditions: those that stand in each theorem; where 'f' tells none, nothing is said. Laid by a program of this seat's prover out of the translation; Lean checks it. -/
import Derived.Test.YtdjkekgfeadmoaaGreatDoorQx0
import Derived.Test.YtdjkekgfeadmoaaGreatDoorQx3
import Derived.Test.YtdjkekgfeadmoaaGreatDoorQx4
namespace Go.Proofs.YtdjkekgfeadmoaaGreatDoor.Q
open Go.RowKit Go.Proofs.YtdjkekgfeadmoaaGreatDoorH Go.Proofs.YtdjkekgfeadmoaaGreatDoorG Go.Proofs.YtdjkekgfeadmoaaGreatDoorW.PrintWords Go.Proofs.YtdjkekgfeadmoaaGreatDoorW.PrintLast Go.Proofs.YtdjkekgfeadmoaaGreatDoorW.PrintMore
attribute [local go_sem] max2_int min2_int max_two min_two max_three min_three max_four min_four   -- for this text's walks alone
set_option linter.unusedVariables false
set_option linter.unusedSimpArgs false

/-! ### semantic_ParsePackagistVersion: function 18 -/
def semantic_ParsePackagistVersion.f (k : Nat) (a0 : ByteArray) : Option (ByteArray × List ByteArray) := (semantic_canonicalizePackagistVersion.f k a0).bind fun t190 => ((semantic_zzSplit.f k t190 (⟨#[46]⟩ : ByteArray)).bind fun t191 => (some (a0, t191)))
theorem semantic_ParsePackagistVersion.mono : ∀ a0 k, LeO (semantic_ParsePackagistVersion.f k a0) (semantic_ParsePackagistVersion.f (k + 1) a0) := by
 intro a0 k
 unfold semantic_ParsePackagistVersion.f
 repeat' first
   | (with_reducible exact semantic_canonicalizePackagistVersion.mono _ _)
   | (with_reducible exact semantic_zzSplit.mono _ _ _)
   | (with_reducible exact LeO.refl _)
   | (with_reducible exact LeO.none _)
   | (with_reducible refine LeO.ite ?_ ?_)
   | (with_reducible refine LeO.bind ?_ (fun _ => ?_))
   | exact semantic_canonicalizePackagistVersion.mono _ _
   | exact semantic_zzSplit.mono _ _ _
   | exact LeO.none _
   | refine LeO.ite ?_ ?_
   | refine LeO.bind ?_ (fun _ => ?_)
set_option maxHeartbeats 8000000 in
set_option maxRecDepth 100000 in
theorem semantic_ParsePackagistVersion.calls (k : Nat) (a0 : ByteArray) (r1 : ByteArray) (r2 : List ByteArray) (w : World) (h : semantic_ParsePackagistVersion.f k a0 = some (r1, r2)) :
  Calls Tryz.prog 18 #[.string a0] w fun e w' => ∃ v1_ : Value, e = .returned (.agg #[.string r1, v1_]) ∧ Kd.R Kd.string 9 w' w.heap.size (fun _ => True) v1_ r2 ∧ Below w.heap.size w w' := by
 have hu39 := Tryz.underlying39
 have HB := Aside0.mk (Below.refl w.heap.size w)
 have H : ((semantic_canonicalizePackagistVersion.f k a0).bind fun t190 => ((semantic_zzSplit.f k t190 (⟨#[46]⟩ : ByteArray)).bind fun t191 => (some (a0, t191)))) = some (r1, r2) := h
 clear h
 replace H := Option.bind_eq_some_iff.mp H
 obtain ⟨t190, A20, H⟩ := H
 replace H : ((semantic_zzSplit.f k t190 (⟨#[46]⟩ : ByteArray)).bind fun t191 => (some (a0, t191))) = some (r1, r2) := H
 have A2 := Aside0.mk A20
 clear A20
 replace H := Option.bind_eq_some_iff.mp H
 obtain ⟨t191, A30, H⟩ := H
 replace H : (some (a0, t191)) = some (r1, r2) := H
 have A3 := Aside0.mk A30
 clear A30
 simp only [Option.some.injEq, Prod.mk.injEq] at H
 obtain ⟨rfl, rfl⟩ := H
 go_enter Tryz.func18, Tryz.ntmps18
 go_wp2_with (first | ((with_reducible refine gate_dst (N := 2) rfl ?_); refine box_event ?hg (N := 2) ?hd (cs := #[.string (⟨#[]⟩ : ByteArray), .slice none 0 0]) (t := 39) ?hr ?_; (case hd => rfl); (case hg => rfl); (case hr => first | (go_simp; done) | (go_simp; rfl)); intro gb189 hg w4 hbox hb; have n0_ := Aside0.mk (below_step (by repeat (first | (with_reducible first | exact HB.out | apply below_alloc | apply pw_below_drewN | apply below_drew1) | exact HB.out)) hb); have n1_ := Aside0.mk (hbox); have n2_ := Aside0.mk ((by rw [hg]; exact (below_size (by repeat (first | (with_reducible first | exact HB.out | apply below_alloc | apply pw_below_drewN | apply below_drew1) | exact HB.out))) : w.heap.size ≤ gb189)); have n3_ := Aside0.mk ((by rw [hg]; exact (below_size (by repeat (first | (with_reducible first | exact HB.out | apply below_alloc | apply pw_below_drewN | apply below_drew1) | exact HB.out))) : w.heap.size ≤ gb189)); clear HB; have HB := n0_; have BK189 := n1_; have GW189 := n2_; have GE189 := n3_; clear n0_ n1_ n2_ n3_; clear hb hbox hg) | ((with_reducible refine gate_callee (f := 26) rfl ?_); refine goesL_ (some 5) rfl rfl Tryz.func26 (by kernel_rfl) rfl #[.string a0] rfl (by (try simp only [List.map_toArray, List.map_cons, List.map_nil]); first | done | rfl | (simp only [List.length_drop, List.length_take]; rfl)) ?_; (with_reducible refine (semantic_canonicalizePackagistVersion.calls k a0 t190 _ A2.out).mono ?_); rintro e w5 ⟨rfl, hb⟩; refine ⟨_, rfl, ?_⟩; have n0_ := Aside0.mk (blk_below (g := gb189) (o := .cells #[.string (⟨#[]⟩ : ByteArray), .slice none 0 0] 39 (0, 0)) (by (with_reducible repeat (first | refine blk_drewN ?_ _ | refine blk_drew ?_ | refine blk_alloc ?_ _)); exact BK189.out) hb); have n1_ := Aside0.mk (below_step (by repeat (first | (with_reducible first | exact HB.out | apply below_alloc | apply pw_below_drewN | apply below_drew1 | refine below_set ?_ GE189.out) | exact HB.out)) hb); clear BK189; clear HB; have BK189 := n0_; have HB := n1_; clear n0_ n1_; (try clear hb); (try clear hb2); (try clear hk); (try clear hi)) | ((with_reducible refine gate_callee (f := 25) rfl ?_); refine goesL_ (some 6) rfl rfl Tryz.func25 (by kernel_rfl) rfl #[.string t190, .string (⟨#[46]⟩ : ByteArray)] rfl (by (try simp only [List.map_toArray, List.map_cons, List.map_nil]); first | done | rfl | (simp only [List.length_drop, List.length_take]; rfl)) ?_; (with_reducible refine (semantic_zzSplit.calls k t190 (⟨#[46]⟩ : ByteArray) t191 _ A3.out).mono ?_); rintro e w6 ⟨v192, rfl, ho0, hb⟩; refine ⟨_, rfl, ?_⟩; have n0_ := Aside0.mk (Kd.R_lower ho0 (below_size (by repeat (first | (with_reducible first | exact HB.out | apply below_alloc | apply pw_below_drewN | apply below_drew1 | refine below_set ?_ GE189.out) | exact HB.out)))); have n1_ := Aside0.mk (blk_below (g := gb189) (o := .cells #[.string (⟨#[]⟩ : ByteArray), .slice none 0 0] 39 (0, 0)) (by (with_reducible repeat (first | refine blk_drewN ?_ _ | refine blk_drew ?_ | refine blk_alloc ?_ _)); exact BK189.out) hb); have n2_ := Aside0.mk (below_step (by repeat (first | (with_reducible first | exact HB.out | apply below_alloc | apply pw_below_drewN | apply below_drew1 | refine below_set ?_ GE189.out) | exact HB.out)) hb); clear BK189; clear HB; have HO193 := n0_; have BK189 := n1_; have HB := n2_; clear n0_ n1_ n2_; (try clear hb); (try clear hb2); (try clear hk); (try clear hi); (try clear ho0); obtain ⟨Ao7, co7, eo7⟩ := Kd.R_slice HO193.out; subst eo7; have hcz8_0 : w6.cell? ⟨gb189, 0, none⟩ = some (.string (⟨#[]⟩ : ByteArray)) := (blk_cell BK189.out 0).trans rfl; have hcz8_1 : w6.cell? ⟨gb189, 1, none⟩ = some (.slice none 0 0) := (blk_cell BK189.out 1).trans rfl; have hfz8_0 := blk_frozen BK189.out 0; have hfz8_1 := blk_frozen BK189.out 1))
 refine bodyPost_ret (results_cell_row rfl _ _ gb189 39 #[.string a0, .slice Ao7 t191.length co7] (0, 0) _ rfl (by (with_reducible repeat (first | refine blk_drewN ?_ _ | refine blk_drew ?_ | refine blk_alloc ?_ _)); refine blk_put (cs := #[.string a0, .slice none 0 0]) ?_ 1 _ rfl; (with_reducible repeat (first | refine blk_drewN ?_ _ | refine blk_drew ?_ | refine blk_alloc ?_ _)); refine blk_put (cs := #[.string (⟨#[]⟩ : ByteArray), .slice none 0 0]) ?_ 0 _ rfl; (with_reducible repeat (first | refine blk_drewN ?_ _ | refine blk_drew ?_ | refine blk_alloc ?_ _)); exact BK189.out) Tryz.underlying39 rfl (by kernel_rfl)) rfl ?_
 exact ⟨_, by first | rfl | (simp [errW_none, errW_some] <;> rfl) | (simp [*, errW_none, errW_some] <;> rfl) | (simp [bne_nil_hyb]; done), by (with_reducible repeat (first | apply Kd.R_alloc | apply Kd.R_drewN | apply Kd.R_drew)); exact Kd.R_mono (Kd.R_far (p := ⟨gb189, 1, none⟩) (Kd.R_far (p := ⟨gb189, 0, none⟩) (Kd.R_types HO193.out BK189.out (by decide)) (fun _ hk => hk.2) (.string a0)) (fun _ hk => hk.2) (.slice Ao7 t191.length co7)) (fun _ hk => trivial), by repeat (first | (with_reducible first | exact HB.out | apply below_alloc | apply pw_below_drewN | apply below_drew1 | refine below_set ?_ GE189.out) | exact HB.out)⟩

-- LEFT OUT: function 65 (bigall_scanSign)

-- LEFT OUT: function 70 (bigall_maxPow)

-- LEFT OUT: function 74 (bigall_nat_norm)

-- LEFT OUT: function 78 (bigall_nat_make)

-- LEFT OUT: function 77 (bigall_nat_setWord)

-- LEFT OUT: function 100 (bits_Mul32)

-- LEFT OUT: function 101 (bits_Mul64)

-- LEFT OUT: function 98 (bits_Mul)

-- LEFT OUT: function 102 (bits_Add32)

-- LEFT OUT: function 103 (bits_Add64)

-- LEFT OUT: function 99 (bits_Add)

-- LEFT OUT: function 95 (bigall_mulAddWWW_g)

-- LEFT OUT: function 88 (bigall_mulAddVWW_g)

-- LEFT OUT: function 79 (bigall_mulAddVWW)

-- LEFT OUT: function 71 (bigall_nat_mulAddWW)

-- LEFT OUT: function 72 (bigall_pow)

-- LEFT OUT: function 73 (bigall_Word)

-- LEFT OUT: function 80 (bigall_same)

-- LEFT OUT: function 81 (bigall_alias)

-- LEFT OUT: function 82 (bigall_nat_set)

-- LEFT OUT: function 89 (bigall_rshVU_g)

-- LEFT OUT: function 83 (bigall_rshVU)

-- LEFT OUT: function 75 (bigall_nat_rsh)

-- LEFT OUT: function 66 (bigall_nat_scan)

-- LEFT OUT: function 60 (bigall_Int_scan)

-- LEFT OUT: function 52 (bigall_Int_setFromScanner)

-- LEFT OUT: function 53 (strings_NewReader)

-- LEFT OUT: function 45 (bigall_Int_SetString)

-- LEFT OUT: function 35 (semantic_convertToBigInt)

-- LEFT OUT: function 46 (bigall_nat_cmp)

-- LEFT OUT: function 36 (bigall_Int_Cmp)

-- LEFT OUT: function 54 (strings_HasPrefix)

-- LEFT OUT: function 47 (semantic_weighPackagistBuildCharacter)

-- LEFT OUT: function 37 (semantic_comparePackagistSpecialVersions)

-- LEFT OUT: function 67 (strconv_lower)

-- LEFT OUT: function 68 (strconv_underscoreOK)

-- LEFT OUT: function 61 (strconv_ParseUint)

-- LEFT OUT: function 55 (strconv_ParseInt)

-- LEFT OUT: function 48 (strconv_Atoi_48)

-- NOT PRINTED: function 62 (stringslite_Clone)

-- LEFT OUT: function 56 (strconv_syntaxError)

-- LEFT OUT: function 57 (strconv_rangeError)

-- LEFT OUT: function 63 (errors_New)

-- LEFT OUT: function 84 (strconv_small)

-- LEFT OUT: function 90 (strconv_log10Pow2)

-- LEFT OUT: function 91 (bits_Len64)

-- LEFT OUT: function 92 (strconv_bool2_int)

-- LEFT OUT: function 85 (strconv_numDigits)

-- LEFT OUT: function 86 (strconv_formatBase10)

-- LEFT OUT: function 93 (strconv_isPowerOfTwo)

-- LEFT OUT: function 96 (bits_TrailingZeros32)

-- LEFT OUT: function 97 (bits_TrailingZeros64)

-- LEFT OUT: function 94 (bits_TrailingZeros)

-- LEFT OUT: function 87 (strconv_formatBits)

-- LEFT OUT: function 76 (strconv_FormatInt)

-- LEFT OUT: function 69 (strconv_Itoa_69)

-- LEFT OUT: function 64 (strconv_Itoa_64)

-- LEFT OUT: function 58 (strconv_baseError)

-- LEFT OUT: function 59 (strconv_bitSizeError)

-- LEFT OUT: function 49 (strconv_toError)

-- LEFT OUT: function 38 (strconv_Atoi_38)

-- BY HAND: function 28 (semantic_comparePackagistComponents)

/-! ### semantic_PackagistVersion_compare: function 27 -/
def semantic_PackagistVersion_compare.f (a0_0 : ByteArray) (l0_1 : List ByteArray) (a1_0 : ByteArray) (l1_1 : List ByteArray) : Option (Int) := (semantic_comparePackagistComponents.f l0_1 l1_1).bind fun t199 => (some t199)
set_option maxHeartbeats 8000000 in
set_option maxRecDepth 100000 in
theorem semantic_PackagistVersion_compare.calls (a0_0 : ByteArray) (A0_1 : Option Addr) (c0_1 : Nat) (l0_1 : List ByteArray) (a1_0 : ByteArray) (A1_1 : Option Addr) (c1_1 : Nat) (l1_1 : List ByteArray) (r : Int) (w : World) (hr0_1 : Kd.C Kd.string w A0_1 l0_1.length l0_1) (hc0_1 : l0_1.length ≤ c0_1) (hr1_1 : Kd.C Kd.string w A1_1 l1_1.length l1_1) (hc1_1 : l1_1.length ≤ c1_1) (h : semantic_PackagistVersion_compare.f a0_0 l0_1 a1_0 l1_1 = some r) (hG : GL w) :
  Calls Tryz.prog 27 #[.agg #[.string a0_0, .slice A0_1 l0_1.length c0_1], .agg #[.string a1_0, .slice A1_1 l1_1.length c1_1]] w fun e w' => e = .returned (.int .i64 r) ∧ Below w.heap.size w w' := by
 have HG := Aside0.mk hG
 clear hG
 have hu39 := Tryz.underlying39
 have HR0_1 := Aside0.mk hr0_1
 have HC0_1 := Aside0.mk hc0_1
 clear hr0_1 hc0_1
 have HR1_1 := Aside0.mk hr1_1
 have HC1_1 := Aside0.mk hc1_1
 clear hr1_1 hc1_1
 have HB := Aside0.mk (Below.refl w.heap.size w)
 have H : ((semantic_comparePackagistComponents.f l0_1 l1_1).bind fun t199 => (some t199)) = some r := h
 clear h
 replace H := Option.bind_eq_some_iff.mp H
 obtain ⟨t199, A30, H⟩ := H
 replace H : (some t199) = some r := H
 have A3 := Aside0.mk A30
 clear A30
 obtain rfl := Option.some.inj H
 go_enter Tryz.func27, Tryz.ntmps27
 go_wp2_with (first | ((with_reducible refine gate_dst (N := 2) rfl ?_); refine box_event ?hg (N := 2) ?hd (cs := #[.string a0_0, .slice A0_1 l0_1.length c0_1]) (t := 39) ?hr ?_; (case hd => rfl); (case hg => rfl); (case hr => first | (go_simp; done) | (go_simp; rfl)); intro gb197 hg w4 hbox hb; have n0_ := Aside0.mk (below_step (by repeat (first | (with_reducible first | exact HB.out | apply below_alloc | apply pw_below_drewN | apply below_drew1) | exact HB.out)) hb); have n1_ := Aside0.mk (hbox); have n2_ := Aside0.mk ((by rw [hg]; exact (below_size (by repeat (first | (with_reducible first | exact HB.out | apply below_alloc | apply pw_below_drewN | apply below_drew1) | exact HB.out))) : w.heap.size ≤ gb197)); have n3_ := Aside0.mk ((by rw [hg]; exact (below_size (by repeat (first | (with_reducible first | exact HB.out | apply below_alloc | apply pw_below_drewN | apply below_drew1) | exact HB.out))) : w.heap.size ≤ gb197)); clear HB; have HB := n0_; have BK197 := n1_; have GW197 := n2_; have GE197 := n3_; clear n0_ n1_ n2_ n3_; clear hb hbox hg) | ((with_reducible refine gate_dst (N := 3) rfl ?_); refine box_event ?hg (N := 3) ?hd (cs := #[.string a1_0, .slice A1_1 l1_1.length c1_1]) (t := 39) ?hr ?_; (case hd => rfl); (case hg => rfl); (case hr => first | (go_simp; done) | (go_simp; rfl)); intro gb198 hg w5 hbox hb; have n0_ := Aside0.mk (blk_below (g := gb197) (o := .cells #[.string a0_0, .slice A0_1 l0_1.length c0_1] 39 (0, 0)) (by (with_reducible repeat (first | refine blk_drewN ?_ _ | refine blk_drew ?_ | refine blk_alloc ?_ _)); exact BK197.out) hb); have n1_ := Aside0.mk (below_step (by repeat (first | (with_reducible first | exact HB.out | apply below_alloc | apply pw_below_drewN | apply below_drew1 | refine below_set ?_ GE197.out) | exact HB.out)) hb); have n2_ := Aside0.mk (hbox); have n3_ := Aside0.mk ((by rw [hg]; exact (below_size (by repeat (first | (with_reducible first | exact HB.out | apply below_alloc | apply pw_below_drewN | apply below_drew1 | refine below_set ?_ GE197.out) | exact HB.out))) : w.heap.size ≤ gb198)); have n4_ := Aside0.mk ((by rw [hg]; exact (below_size (by repeat (first | (with_reducible first | exact HB.out | apply below_alloc | apply pw_below_drewN | apply below_drew1 | refine below_set ?_ GE197.out) | exact HB.out))) : w.heap.size ≤ gb198)); have n5_ := Aside0.mk ((by rw [hg]; exact Nat.ne_of_lt (blk_lt (g := gb197) (o := .cells #[.string a0_0, .slice A0_1 l0_1.length c0_1] 39 (0, 0)) (by (with_reducible repeat (first | refine blk_drewN ?_ _ | refine blk_drew ?_ | refine blk_alloc ?_ _)); exact BK197.out)) : gb197 ≠ gb198)); have n6_ := Aside0.mk ((by rw [hg]; exact Nat.ne_of_gt (blk_lt (g := gb197) (o := .cells #[.string a0_0, .slice A0_1 l0_1.length c0_1] 39 (0, 0)) (by (with_reducible repeat (first | refine blk_drewN ?_ _ | refine blk_drew ?_ | refine blk_alloc ?_ _)); exact BK197.out)) : gb198 ≠ gb197)); clear BK197; clear HB; have BK197 := n0_; have HB := n1_; have BK198 := n2_; have GW198 := n3_; have GE198 := n4_; have NB197_198 := n5_; have NB198_197 := n6_; clear n0_ n1_ n2_ n3_ n4_ n5_ n6_; clear hb hbox hg; have hnb6 := NB197_198.out; have hnc6 := NB198_197.out; have hcz7_0 : w5.cell? ⟨gb197, 0, none⟩ = some (.string a0_0) := (blk_cell BK197.out 0).trans rfl; have hcz7_1 : w5.cell? ⟨gb197, 1, none⟩ = some (.slice A0_1 l0_1.length c0_1) := (blk_cell BK197.out 1).trans rfl; have hfz7_0 := blk_frozen BK197.out 0; have hfz7_1 := blk_frozen BK197.out 1; have hcz8_0 : w5.cell? ⟨gb198, 0, none⟩ = some (.string a1_0) := (blk_cell BK198.out 0).trans rfl; have hcz8_1 : w5.cell? ⟨gb198, 1, none⟩ = some (.slice A1_1 l1_1.length c1_1) := (blk_cell BK198.out 1).trans rfl; have hfz8_0 := blk_frozen BK198.out 0; have hfz8_1 := blk_frozen BK198.out 1) | ((with_reducible refine gate_callee (f := 28) rfl ?_); refine goesL_ (some 9) rfl rfl Tryz.func28 (by kernel_rfl) rfl #[.slice A0_1 l0_1.length c0_1, .slice A1_1 l1_1.length c1_1] rfl (by (try simp only [List.map_toArray, List.map_cons, List.map_nil]); first | done | rfl | (simp only [List.length_drop, List.length_take]; rfl)) ?_; (with_reducible refine (semantic_comparePackagistComponents.calls _ _ l0_1 _ _ l1_1 t199 _ ?side1 ?side2 ?side3 ?side4 A3.out (by first | exact GL.at HG.out (by repeat (first | (with_reducible first | exact HB.out | apply below_alloc | apply pw_below_drewN | apply below_drew1) | exact HB.out)) | exact HG.out)).mono ?_); (case side1 => repeat (first | exact (Kd.C_below HR0_1.out HB.out) | (with_reducible refine Kd.C_alloc ?_ _) | (with_reducible refine Kd.C_drewN ?_ _) | (with_reducible refine Kd.C_drew ?_))); (case side2 => exact HC0_1.out); (case side3 => repeat (first | exact (Kd.C_below HR1_1.out HB.out) | (with_reducible refine Kd.C_alloc ?_ _) | (with_reducible refine Kd.C_drewN ?_ _) | (with_reducible refine Kd.C_drew ?_))); (case side4 => exact HC1_1.out); rintro e w9 ⟨rfl, hb⟩; refine ⟨_, rfl, ?_⟩; have n0_ := Aside0.mk (blk_below (g := gb197) (o := .cells #[.string a0_0, .slice A0_1 l0_1.length c0_1] 39 (0, 0)) (by (with_reducible repeat (first | refine blk_drewN ?_ _ | refine blk_drew ?_ | refine blk_alloc ?_ _)); exact BK197.out) hb); have n1_ := Aside0.mk (blk_below (g := gb198) (o := .cells #[.string a1_0, .slice A1_1 l1_1.length c1_1] 39 (0, 0)) (by (with_reducible repeat (first | refine blk_drewN ?_ _ | refine blk_drew ?_ | refine blk_alloc ?_ _)); exact BK198.out) hb); have n2_ := Aside0.mk (below_step (by repeat (first | (with_reducible first | exact HB.out | apply below_alloc | apply pw_below_drewN | apply below_drew1 | refine below_set ?_ GE197.out | refine below_set ?_ GE198.out) | exact HB.out)) hb); clear BK197; clear BK198; clear HB; have BK197 := n0_; have BK198 := n1_; have HB := n2_; clear n0_ n1_ n2_; (try clear hb); (try clear hb2); (try clear hk); (try clear hi)))
 go_ret
 exact ⟨by first | rfl | (simp [errW_none, errW_some] <;> rfl) | (simp [*, errW_none, errW_some] <;> rfl) | (simp [bne_nil_hyb]; done), by repeat (first | (with_reducible first | exact HB.out | apply below_alloc | apply pw_below_drewN | apply below_drew1 | refine below_set ?_ GE197.out | refine below_set ?_ GE198.out) | exact HB.out)⟩

/-! ### semantic_PackagistVersion_CompareStr: function 19 -/
def semantic_PackagistVersion_CompareStr.f (k : Nat) (a0_0 : ByteArray) (l0_1 : List ByteArray) (a1 : ByteArray) : Option (Int × Option Int) := (semantic_ParsePackagistVersion.f k a1).bind fun bt201 => ((semantic_PackagistVersion_compare.f a0_0 l0_1 bt201.1 bt201.2).bind fun t205 => (some (t205, none)))
theorem semantic_PackagistVersion_CompareStr.mono : ∀ a0 a1 a2 k, LeO (semantic_PackagistVersion_CompareStr.f k a0 a1 a2) (semantic_PackagistVersion_CompareStr.f (k + 1) a0 a1 a2) := by
 intro a0 a1 a2 k
 unfold semantic_PackagistVersion_CompareStr.f
 repeat' first
   | (with_reducible exact semantic_ParsePackagistVersion.mono _ _)
   | (with_reducible exact LeO.refl _)
   | (with_reducible exact LeO.none _)
   | (with_reducible refine LeO.ite ?_ ?_)
   | (with_reducible refine LeO.bind ?_ (fun _ => ?_))
   | exact semantic_ParsePackagistVersion.mono _ _
   | exact LeO.none _
   | refine LeO.ite ?_ ?_
   | refine LeO.bind ?_ (fun _ => ?_)
set_option maxHeartbeats 8000000 in
set_option maxRecDepth 100000 in
theorem semantic_PackagistVersion_CompareStr.calls (k : Nat) (a0_0 : ByteArray) (A0_1 : Option Addr) (c0_1 : Nat) (l0_1 : List ByteArray) (a1 : ByteArray) (r1 : Int) (r2 : Option Int) (w : World) (hr0_1 : Kd.C Kd.string w A0_1 l0_1.length l0_1) (hc0_1 : l0_1.length ≤ c0_1) (h : semantic_PackagistVersion_CompareStr.f k a0_0 l0_1 a1 = some (r1, r2)) (hG : GL w) :
  Calls Tryz.prog 19 #[.agg #[.string a0_0, .slice A0_1 l0_1.length c0_1], .string a1] w fun e w' => e = .returned (.tuple #[.int .i64 r1, errW r2]) ∧ Below w.heap.size w w' := by
 have HG := Aside0.mk hG
 clear hG
 have hu39 := Tryz.underlying39
 have HR0_1 := Aside0.mk hr0_1
 have HC0_1 := Aside0.mk hc0_1
 clear hr0_1 hc0_1
 have HB := Aside0.mk (Below.refl w.heap.size w)
 have H : ((semantic_ParsePackagistVersion.f k a1).bind fun bt201 => ((semantic_PackagistVersion_compare.f a0_0 l0_1 bt201.1 bt201.2).bind fun t205 => (some (t205, none)))) = some (r1, r2) := h
 clear h
 replace H := Option.bind_eq_some_iff.mp H
 obtain ⟨⟨t201, t202⟩, A30, H⟩ := H
 replace H : ((semantic_PackagistVersion_compare.f a0_0 l0_1 t201 t202).bind fun t205 => (some (t205, none))) = some (r1, r2) := H
 have A3 := Aside0.mk A30
 clear A30
 replace H := Option.bind_eq_some_iff.mp H
 obtain ⟨t205, A40, H⟩ := H
 replace H : (some (t205, none)) = some (r1, r2) := H
 have A4 := Aside0.mk A40
 clear A40
 simp only [Option.some.injEq, Prod.mk.injEq] at H
 obtain ⟨rfl, rfl⟩ := H
 go_enter Tryz.func19, Tryz.ntmps19
 try go_wp2_with (first | ((with_reducible refine gate_dst (N := 2) rfl ?_); refine box_event ?hg (N := 2) ?hd (cs := #[.string a0_0, .slice A0_1 l0_1.length c0_1]) (t := 39) ?hr ?_; (case hd => rfl); (case hg => rfl); (case hr => first | (go_simp; done) | (go_simp; rfl)); intro gb200 hg w5 hbox hb; have n0_ := Aside0.mk (below_step (by repeat (first | (with_reducible first | exact HB.out | apply below_alloc | apply pw_below_drewN | apply below_drew1) | exact HB.out)) hb); have n1_ := Aside0.mk (hbox); have n2_ := Aside0.mk ((by rw [hg]; exact (below_size (by repeat (first | (with_reducible first | exact HB.out | apply below_alloc | apply pw_below_drewN | apply below_drew1) | exact HB.out))) : w.heap.size ≤ gb200)); have n3_ := Aside0.mk ((by rw [hg]; exact (below_size (by repeat (first | (with_reducible first | exact HB.out | apply below_alloc | apply pw_below_drewN | apply below_drew1) | exact HB.out))) : w.heap.size ≤ gb200)); clear HB; have HB := n0_; have BK200 := n1_; have GW200 := n2_; have GE200 := n3_; clear n0_ n1_ n2_ n3_; clear hb hbox hg))
 have n0_ := Aside0.mk (blk_drew BK200.out)
 have n1_ := Aside0.mk (below_drew1 HB.out)
 clear BK200
 clear HB
 have BK200 := n0_
 have HB := n1_
 clear n0_ n1_
 refine start_ (n := 6) (S := fun w' => w'.cell? ⟨gb200, 0, none⟩ = some (.string a0_0) ∧ w'.cell? ⟨gb200, 1, none⟩ = some (.slice A0_1 l0_1.length c0_1)) (ds := []) #[false, false, false, false, false, false] (by kernel_rfl) rfl rfl ⟨(blk_cell BK200.out 0).trans rfl, (blk_cell BK200.out 1).trans rfl⟩ (fun hHeld => ?_)
 generalize w5.drew = w6 at BK200 HB hHeld ⊢
 refine pure_ (i := 1) (N := some 7) (v := ?_) (a' := ?_) #[false, true, false, false, false, false] rfl rfl (by kernel_rfl) (fun _ _ _ h => h) (Or.inl ⟨by rfl, ?_⟩) ?_ ?_
 rotate_left
 ·intro w'
  go_simp
  with_reducible rfl
 rotate_left
 ·simp only [Act.put, List.setIfInBounds_toArray, List.set_cons_zero, List.set_cons_succ, i64_w, i32_w]
  rfl
 refine take_ (i := 0) (N := some 6) (v := ?_) (a' := ?_) #[true, true, false, false, false, false] rfl rfl (by kernel_rfl) (fun _ _ _ h => h) (Or.inl ⟨by rfl, ?_⟩) hHeld ?_ ?_
 rotate_left
 ·rintro w' ⟨s0, s1⟩
  go_simp
  with_reducible rfl
 rotate_left
 ·simp only [Act.put, List.setIfInBounds_toArray, List.set_cons_zero, List.set_cons_succ, i64_w, i32_w]
  rfl
 refine one_ (i := 2) (N := some 8) #[true, true, true, false, false, false] rfl rfl (by kernel_rfl) (by decide) (fun K hK => ?_)
 refine goes_ Tryz.func18 (by kernel_rfl) rfl #[.string a1] (by rfl) rfl rfl (by (try simp only [List.map_toArray, List.map_cons, List.map_nil]); first | done | rfl | (simp only [List.length_drop, List.length_take]; rfl)) ?_
 with_reducible refine (semantic_ParsePackagistVersion.calls k a1 t201 t202 _ A3.out).mono ?_
 rintro e w7 ⟨v203, rfl, ho0, hb⟩
 refine ⟨_, rfl, ?_⟩
 have n0_ := Aside0.mk (Kd.R_lower ho0 (below_size (by repeat (first | (with_reducible first | exact HB.out | apply below_alloc | apply pw_below_drewN | apply below_drew1 | refine below_set ?_ GE200.out) | exact HB.out))))
 have n1_ := Aside0.mk (blk_below (g := gb200) (o := .cells #[.string a0_0, .slice A0_1 l0_1.length c0_1] 39 (0, 0)) (by (with_reducible repeat (first | refine blk_drewN ?_ _ | refine blk_drew ?_ | refine blk_alloc ?_ _)); exact BK200.out) hb)
 have n2_ := Aside0.mk (below_step (by repeat (first | (with_reducible first | exact HB.out | apply below_alloc | apply pw_below_drewN | apply below_drew1 | refine below_set ?_ GE200.out) | exact HB.out)) hb)
 clear BK200
 clear HB
 have HO204 := n0_
 have BK200 := n1_
 have HB := n2_
 clear n0_ n1_ n2_
 (try clear hb)
 (try clear hb2)
 (try clear hk)
 (try clear hi)
 (try clear ho0)
 obtain ⟨Ao8, co8, eo8⟩ := Kd.R_slice HO204.out
 (first | subst eo8 | (injection eo8 with f1_ f2_ f3_; have f4_ := f1_.symm; have f5_ := f3_.symm; clear f1_ f2_ f3_; subst f4_; subst f5_))
 refine hK.out _ _ ⟨(blk_cell BK200.out 0).trans rfl, (blk_cell BK200.out 1).trans rfl⟩ (fun hHeld => ?_)
 clear hK K
 refine norm_ (a' := ?_) ?_ ?_
 rotate_left
 ·show Act.put _ (some 8) _ = _
  simp only [Act.put, List.setIfInBounds_toArray, List.set_cons_zero, List.set_cons_succ, i64_w, i32_w]
  rfl
 refine one_ (i := 3) (N := some 9) #[true, true, true, true, false, false] rfl rfl (by kernel_rfl) (by decide) (fun K hK => ?_)
 refine goes_ Tryz.func27 (by kernel_rfl) rfl #[.agg #[.string a0_0, .slice A0_1 l0_1.length c0_1], .agg #[.string t201, .slice Ao8 t202.length co8]] (by rfl) rfl rfl (by (try simp only [List.map_toArray, List.map_cons, List.map_nil]); first | done | rfl | (simp only [List.length_drop, List.length_take]; rfl)) ?_
 with_reducible refine (semantic_PackagistVersion_compare.calls a0_0 _ _ l0_1 t201 _ _ t202 t205 _ ?side1 ?side2 ?side3 ?side4 A4.out (by first | exact GL.at HG.out (by repeat (first | (with_reducible first | exact HB.out | apply below_alloc | apply pw_below_drewN | apply below_drew1) | exact HB.out)) | exact HG.out)).mono ?_
 (case side1 => repeat (first | exact (Kd.C_below HR0_1.out HB.out) | (with_reducible refine Kd.C_alloc ?_ _) | (with_reducible refine Kd.C_drewN ?_ _) | (with_reducible refine Kd.C_drew ?_)))
 (case side2 => exact HC0_1.out)
 (case side3 => repeat (first | exact (Kd.R_reads' HO204.out).2.2 | (with_reducible refine Kd.C_alloc ?_ _) | (with_reducible refine Kd.C_drewN ?_ _) | (with_reducible refine Kd.C_drew ?_)))
 (case side4 => exact (Kd.R_reads' HO204.out).2.1)
 rintro e w9 ⟨rfl, hb⟩
 refine ⟨_, rfl, ?_⟩
 have n0_ := Aside0.mk (Kd.R_below (by (with_reducible repeat (first | apply Kd.R_alloc | apply Kd.R_drewN | apply Kd.R_drew)); exact HO204.out) hb)
 have n1_ := Aside0.mk (blk_below (g := gb200) (o := .cells #[.string a0_0, .slice A0_1 l0_1.length c0_1] 39 (0, 0)) (by (with_reducible repeat (first | refine blk_drewN ?_ _ | refine blk_drew ?_ | refine blk_alloc ?_ _)); exact BK200.out) hb)
 have n2_ := Aside0.mk (below_step (by repeat (first | (with_reducible first | exact HB.out | apply below_alloc | apply pw_below_drewN | apply below_drew1 | refine below_set ?_ GE200.out) | exact HB.out)) hb)
 clear HO204
 clear BK200
 clear HB
 have HO204 := n0_
 have BK200 := n1_
 have HB := n2_
 clear n0_ n1_ n2_
 (try clear hb)
 (try clear hb2)
 (try clear hk)
 (try clear hi)
 refine hK.out _ _ ⟨(blk_cell BK200.out 0).trans rfl, (blk_cell BK200.out 1).trans rfl⟩ (fun hHeld => ?_)
 clear hK K
 refine norm_ (a' := ?_) ?_ ?_
 rotate_left
 ·show Act.put _ (some 9) _ = _
  simp only [Act.put, List.setIfInBounds_toArray, List.set_cons_zero, List.set_cons_succ, i64_w, i32_w]
  rfl
 refine pure_ (i := 4) (N := some 4) (v := ?_) (a' := ?_) #[true, true, true, true, true, false] rfl rfl (by kernel_rfl) (fun _ _ _ h => h) (Or.inl ⟨by rfl, ?_⟩) ?_ ?_
 rotate_left
 ·intro w'
  go_simp
  with_reducible rfl
 rotate_left
 ·simp only [Act.put, List.setIfInBounds_toArray, List.set_cons_zero, List.set_cons_succ, i64_w, i32_w]
  rfl
 refine pure_ (i := 5) (N := some 5) (v := ?_) (a' := ?_) #[true, true, true, true, true, true] rfl rfl (by kernel_rfl) (fun _ _ _ h => h) (Or.inl ⟨by rfl, ?_⟩) ?_ ?_
 rotate_left
 ·intro w'
  go_simp
  with_reducible rfl
 rotate_left
 ·simp only [Act.put, List.setIfInBounds_toArray, List.set_cons_zero, List.set_cons_succ, i64_w, i32_w]
  rfl
 refine done_ (by kernel_rfl) ?_
 try go_wp2
 go_ret2
 exact ⟨by first | rfl | (simp [errW_none, errW_some] <;> rfl) | (simp [*, errW_none, errW_some] <;> rfl) | (simp [bne_nil_hyb]; done), by repeat (first | (with_reducible first | exact HB.out | apply below_alloc | apply pw_below_drewN | apply below_drew1 | refine below_set ?_ GE200.out) | exact HB.out)⟩

/-! ### impl_PackagistCompareText: function 8 -/
def impl_PackagistCompareText.f (k : Nat) (a0 : ByteArray) (a1 : ByteArray) : Option (Int × Bool) := (semantic_ParsePackagistVersion.f k a0).bind fun bt206 => ((semantic_PackagistVersion_CompareStr.f k bt206.1 bt206.2 a1).bind fun bt210 => (if bt210.2.isNone = true then (some (bt210.1, true)) else (some (bt210.1, false))))
theorem impl_PackagistCompareText.mono : ∀ a0 a1 k, LeO (impl_PackagistCompareText.f k a0 a1) (impl_PackagistCompareText.f (k + 1) a0 a1) := by
 intro a0 a1 k
 unfold impl_PackagistCompareText.f
 repeat' first
   | (with_reducible exact semantic_PackagistVersion_CompareStr.mono _ _ _ _)
   | (with_reducible exact semantic_ParsePackagistVersion.mono _ _)
   | (with_reducible exact LeO.refl _)
   | (with_reducible exact LeO.none _)
   | (with_reducible refine LeO.ite ?_ ?_)
   | (with_reducible refine LeO.bind ?_ (fun _ => ?_))
   | exact semantic_PackagistVersion_CompareStr.mono _ _ _ _
   | exact semantic_ParsePackagistVersion.mono _ _
   | exact LeO.none _
   | refine LeO.ite ?_ ?_
   | refine LeO.bind ?_ (fun _ => ?_)
set_option maxHeartbeats 8000000 in
set_option maxRecDepth 100000 in
theorem impl_PackagistCompareText.calls (k : Nat) (a0 : ByteArray) (a1 : ByteArray) (r1 : Int) (r2 : Bool) (w : World) (h : impl_PackagistCompareText.f k a0 a1 = some (r1, r2)) (hG : GL w) :
  Calls Tryz.prog 8 #[.string a0, .string a1] w fun e w' => e = .returned (.tuple #[.int .i64 r1, .bool r2]) ∧ Below w.heap.size w w' := by
 have HG := Aside0.mk hG
 clear hG
 have hu36 := Tryz.underlying36
 have HB := Aside0.mk (Below.refl w.heap.size w)
 have H : ((semantic_ParsePackagistVersion.f k a0).bind fun bt206 => ((semantic_PackagistVersion_CompareStr.f k bt206.1 bt206.2 a1).bind fun bt210 => (if bt210.2.isNone = true then (some (bt210.1, true)) else (some (bt210.1, false))))) = some (r1, r2) := h
 clear h
 replace H := Option.bind_eq_some_iff.mp H
 obtain ⟨⟨t206, t207⟩, A30, H⟩ := H
 replace H : ((semantic_PackagistVersion_CompareStr.f k t206 t207 a1).bind fun bt210 => (if bt210.2.isNone = true then (some (bt210.1, true)) else (some (bt210.1, false)))) = some (r1, r2) := H
 have A3 := Aside0.mk A30
 clear A30
 replace H := Option.bind_eq_some_iff.mp H
 obtain ⟨⟨t210, t211⟩, A40, H⟩ := H
 replace H : (if t211.isNone = true then (some (t210, true)) else (some (t210, false))) = some (r1, r2) := H
 have A4 := Aside0.mk A40
 clear A40
 rcases t211 with _ | q212
 ·have H1 : (some (t210, true)) = some (r1, r2) := by rw [if_pos (show (none : Option Int).isNone = true by rfl)] at H; exact H
  clear H
  have H := H1
  clear H1
  try simp only [errW_none, errW_some]
  simp only [Option.some.injEq, Prod.mk.injEq] at H
  obtain ⟨rfl, rfl⟩ := H
  go_enter Tryz.func8, Tryz.ntmps8
  go_wp2_with (first | (go_at_call 18; (with_reducible refine (semantic_ParsePackagistVersion.calls k a0 t206 t207 _ A3.out).mono ?_); rintro e w5 ⟨v208, rfl, ho0, hb⟩; have n0_ := Aside0.mk (Kd.R_lower ho0 (below_size (by repeat (first | (with_reducible first | exact HB.out | apply below_alloc | apply pw_below_drewN | apply below_drew1) | exact HB.out)))); have n1_ := Aside0.mk (below_step (by repeat (first | (with_reducible first | exact HB.out | apply below_alloc | apply pw_below_drewN | apply below_drew1) | exact HB.out)) hb); clear HB; have HO209 := n0_; have HB := n1_; clear n0_ n1_; (try clear hb); (try clear hb2); (try clear hk); (try clear hi); (try clear ho0); obtain ⟨Ao6, co6, eo6⟩ := Kd.R_slice HO209.out; subst eo6) | (go_at_call 19; (with_reducible refine (semantic_PackagistVersion_CompareStr.calls k t206 _ _ t207 a1 t210 none _ ?side1 ?side2 A4.out (by first | exact GL.at HG.out (by repeat (first | (with_reducible first | exact HB.out | apply below_alloc | apply pw_below_drewN | apply below_drew1) | exact HB.out)) | exact HG.out)).mono ?_); (case side1 => repeat (first | exact (Kd.R_reads' HO209.out).2.2 | (with_reducible refine Kd.C_alloc ?_ _) | (with_reducible refine Kd.C_drewN ?_ _) | (with_reducible refine Kd.C_drew ?_))); (case side2 => exact (Kd.R_reads' HO209.out).2.1); rintro e w7 ⟨rfl, hb⟩; have n0_ := Aside0.mk (Kd.R_below (by (with_reducible repeat (first | apply Kd.R_alloc | apply Kd.R_drewN | apply Kd.R_drew)); exact HO209.out) hb); have n1_ := Aside0.mk (below_step (by repeat (first | (with_reducible first | exact HB.out | apply below_alloc | apply pw_below_drewN | apply below_drew1) | exact HB.out)) hb); clear HO209; clear HB; have HO209 := n0_; have HB := n1_; clear n0_ n1_; (try clear hb); (try clear hb2); (try clear hk); (try clear hi); (try simp only [errW_none, errW_some])))
  repeat (go_quiet (first | (go_at_call 18; (with_reducible refine (semantic_ParsePackagistVersion.calls k a0 t206 t207 _ A3.out).mono ?_); rintro e w5 ⟨v208, rfl, ho0, hb⟩; have n0_ := Aside0.mk (Kd.R_lower ho0 (below_size (by repeat (first | (with_reducible first | exact HB.out | apply below_alloc | apply pw_below_drewN | apply below_drew1) | exact HB.out)))); have n1_ := Aside0.mk (below_step (by repeat (first | (with_reducible first | exact HB.out | apply below_alloc | apply pw_below_drewN | apply below_drew1) | exact HB.out)) hb); clear HB; have HO209 := n0_; have HB := n1_; clear n0_ n1_; (try clear hb); (try clear hb2); (try clear hk); (try clear hi); (try clear ho0); obtain ⟨Ao6, co6, eo6⟩ := Kd.R_slice HO209.out; subst eo6) | (go_at_call 19; (with_reducible refine (semantic_PackagistVersion_CompareStr.calls k t206 _ _ t207 a1 t210 none _ ?side1 ?side2 A4.out (by first | exact GL.at HG.out (by repeat (first | (with_reducible first | exact HB.out | apply below_alloc | apply pw_below_drewN | apply below_drew1) | exact HB.out)) | exact HG.out)).mono ?_); (case side1 => repeat (first | exact (Kd.R_reads' HO209.out).2.2 | (with_reducible refine Kd.C_alloc ?_ _) | (with_reducible refine Kd.C_drewN ?_ _) | (with_reducible refine Kd.C_drew ?_))); (case side2 => exact (Kd.R_reads' HO209.out).2.1); rintro e w7 ⟨rfl, hb⟩; have n0_ := Aside0.mk (Kd.R_below (by (with_reducible repeat (first | apply Kd.R_alloc | apply Kd.R_drewN | apply Kd.R_drew)); exact HO209.out) hb); have n1_ := Aside0.mk (below_step (by repeat (first | (with_reducible first | exact HB.out | apply below_alloc | apply pw_below_drewN | apply below_drew1) | exact HB.out)) hb); clear HO209; clear HB; have HO209 := n0_; have HB := n1_; clear n0_ n1_; (try clear hb); (try clear hb2); (try clear hk); (try clear hi); (try simp only [errW_none, errW_some]))); try go_wp2_with (first | (go_at_call 18; (with_reducible refine (semantic_ParsePackagistVersion.calls k a0 t206 t207 _ A3.out).mono ?_); rintro e w5 ⟨v208, rfl, ho0, hb⟩; have n0_ := Aside0.mk (Kd.R_lower ho0 (below_size (by repeat (first | (with_reducible first | exact HB.out | apply below_alloc | apply pw_below_drewN | apply below_drew1) | exact HB.out)))); have n1_ := Aside0.mk (below_step (by repeat (first | (with_reducible first | exact HB.out | apply below_alloc | apply pw_below_drewN | apply below_drew1) | exact HB.out)) hb); clear HB; have HO209 := n0_; have HB := n1_; clear n0_ n1_; (try clear hb); (try clear hb2); (try clear hk); (try clear hi); (try clear ho0); obtain ⟨Ao6, co6, eo6⟩ := Kd.R_slice HO209.out; subst eo6) | (go_at_call 19; (with_reducible refine (semantic_PackagistVersion_CompareStr.calls k t206 _ _ t207 a1 t210 none _ ?side1 ?side2 A4.out (by first | exact GL.at HG.out (by repeat (first | (with_reducible first | exact HB.out | apply below_alloc | apply pw_below_drewN | apply below_drew1) | exact HB.out)) | exact HG.out)).mono ?_); (case side1 => repeat (first | exact (Kd.R_reads' HO209.out).2.2 | (with_reducible refine Kd.C_alloc ?_ _) | (with_reducible refine Kd.C_drewN ?_ _) | (with_reducible refine Kd.C_drew ?_))); (case side2 => exact (Kd.R_reads' HO209.out).2.1); rintro e w7 ⟨rfl, hb⟩; have n0_ := Aside0.mk (Kd.R_below (by (with_reducible repeat (first | apply Kd.R_alloc | apply Kd.R_drewN | apply Kd.R_drew)); exact HO209.out) hb); have n1_ := Aside0.mk (below_step (by repeat (first | (with_reducible first | exact HB.out | apply below_alloc | apply pw_below_drewN | apply below_drew1) | exact HB.out)) hb); clear HO209; clear HB; have HO209 := n0_; have HB := n1_; clear n0_ n1_; (try clear hb); (try clear hb2); (try clear hk); (try clear hi); (try simp only [errW_none, errW_some]))))
  go_ret2
  exact ⟨by first | rfl | (simp [errW_none, errW_some] <;> rfl) | (simp [*, errW_none, errW_some] <;> rfl) | (simp [bne_nil_hyb]; done), by repeat (first | (with_reducible first | exact HB.out | apply below_alloc | apply pw_below_drewN | apply below_drew1) | exact HB.out)⟩
 ·have H1 : (some (t210, false)) = some (r1, r2) := by rw [if_neg (show ¬ (some q212).isNone = true by simp)] at H; exact H
  clear H
  have H := H1
  clear H1
  try simp only [errW_none, errW_some]
  simp only [Option.some.injEq, Prod.mk.injEq] at H
  obtain ⟨rfl, rfl⟩ := H
  go_enter Tryz.func8, Tryz.ntmps8
  go_wp2_with (first | (go_at_call 18; (with_reducible refine (semantic_ParsePackagistVersion.calls k a0 t206 t207 _ A3.out).mono ?_); rintro e w8 ⟨v208, rfl, ho0, hb⟩; have n0_ := Aside0.mk (Kd.R_lower ho0 (below_size (by repeat (first | (with_reducible first | exact HB.out | apply below_alloc | apply pw_below_drewN | apply below_drew1) | exact HB.out)))); have n1_ := Aside0.mk (below_step (by repeat (first | (with_reducible first | exact HB.out | apply below_alloc | apply pw_below_drewN | apply below_drew1) | exact HB.out)) hb); clear HB; have HO209 := n0_; have HB := n1_; clear n0_ n1_; (try clear hb); (try clear hb2); (try clear hk); (try clear hi); (try clear ho0); obtain ⟨Ao9, co9, eo9⟩ := Kd.R_slice HO209.out; subst eo9) | (go_at_call 19; (with_reducible refine (semantic_PackagistVersion_CompareStr.calls k t206 _ _ t207 a1 t210 (some q212) _ ?side1 ?side2 A4.out (by first | exact GL.at HG.out (by repeat (first | (with_reducible first | exact HB.out | apply below_alloc | apply pw_below_drewN | apply below_drew1) | exact HB.out)) | exact HG.out)).mono ?_); (case side1 => repeat (first | exact (Kd.R_reads' HO209.out).2.2 | (with_reducible refine Kd.C_alloc ?_ _) | (with_reducible refine Kd.C_drewN ?_ _) | (with_reducible refine Kd.C_drew ?_))); (case side2 => exact (Kd.R_reads' HO209.out).2.1); rintro e w10 ⟨rfl, hb⟩; have n0_ := Aside0.mk (Kd.R_below (by (with_reducible repeat (first | apply Kd.R_alloc | apply Kd.R_drewN | apply Kd.R_drew)); exact HO209.out) hb); have n1_ := Aside0.mk (below_step (by repeat (first | (with_reducible first | exact HB.out | apply below_alloc | apply pw_below_drewN | apply below_drew1) | exact HB.out)) hb); clear HO209; clear HB; have HO209 := n0_; have HB := n1_; clear n0_ n1_; (try clear hb); (try clear hb2); (try clear hk); (try clear hi); (try simp only [errW_none, errW_some])))
  repeat (go_quiet (first | (go_at_call 18; (with_reducible refine (semantic_ParsePackagistVersion.calls k a0 t206 t207 _ A3.out).mono ?_); rintro e w8 ⟨v208, rfl, ho0, hb⟩; have n0_ := Aside0.mk (Kd.R_lower ho0 (below_size (by repeat (first | (with_reducible first | exact HB.out | apply below_alloc | apply pw_below_drewN | apply below_drew1) | exact HB.out)))); have n1_ := Aside0.mk (below_step (by repeat (first | (with_reducible first | exact HB.out | apply below_alloc | apply pw_below_drewN | apply below_drew1) | exact HB.out)) hb); clear HB; have HO209 := n0_; have HB := n1_; clear n0_ n1_; (try clear hb); (try clear hb2); (try clear hk); (try clear hi); (try clear ho0); obtain ⟨Ao9, co9, eo9⟩ := Kd.R_slice HO209.out; subst eo9) | (go_at_call 19; (with_reducible refine (semantic_PackagistVersion_CompareStr.calls k t206 _ _ t207 a1 t210 (some q212) _ ?side1 ?side2 A4.out (by first | exact GL.at HG.out (by repeat (first | (with_reducible first | exact HB.out | apply below_alloc | apply pw_below_drewN | apply below_drew1) | exact HB.out)) | exact HG.out)).mono ?_); (case side1 => repeat (first | exact (Kd.R_reads' HO209.out).2.2 | (with_reducible refine Kd.C_alloc ?_ _) | (with_reducible refine Kd.C_drewN ?_ _) | (with_reducible refine Kd.C_drew ?_))); (case side2 => exact (Kd.R_reads' HO209.out).2.1); rintro e w10 ⟨rfl, hb⟩; have n0_ := Aside0.mk (Kd.R_below (by (with_reducible repeat (first | apply Kd.R_alloc | apply Kd.R_drewN | apply Kd.R_drew)); exact HO209.out) hb); have n1_ := Aside0.mk (below_step (by repeat (first | (with_reducible first | exact HB.out | apply below_alloc | apply pw_below_drewN | apply below_drew1) | exact HB.out)) hb); clear HO209; clear HB; have HO209 := n0_; have HB := n1_; clear n0_ n1_; (try clear hb); (try clear hb2); (try clear hk); (try clear hi); (try simp only [errW_none, errW_some]))); try go_wp2_with (first | (go_at_call 18; (with_reducible refine (semantic_ParsePackagistVersion.calls k a0 t206 t207 _ A3.out).mono ?_); rintro e w8 ⟨v208, rfl, ho0, hb⟩; have n0_ := Aside0.mk (Kd.R_lower ho0 (below_size (by repeat (first | (with_reducible first | exact HB.out | apply below_alloc | apply pw_below_drewN | apply below_drew1) | exact HB.out)))); have n1_ := Aside0.mk (below_step (by repeat (first | (with_reducible first | exact HB.out | apply below_alloc | apply pw_below_drewN | apply below_drew1) | exact HB.out)) hb); clear HB; have HO209 := n0_; have HB := n1_; clear n0_ n1_; (try clear hb); (try clear hb2); (try clear hk); (try clear hi); (try clear ho0); obtain ⟨Ao9, co9, eo9⟩ := Kd.R_slice HO209.out; subst eo9) | (go_at_call 19; (with_reducible refine (semantic_PackagistVersion_CompareStr.calls k t206 _ _ t207 a1 t210 (some q212) _ ?side1 ?side2 A4.out (by first | exact GL.at HG.out (by repeat (first | (with_reducible first | exact HB.out | apply below_alloc | apply pw_below_drewN | apply below_drew1) | exact HB.out)) | exact HG.out)).mono ?_); (case side1 => repeat (first | exact (Kd.R_reads' HO209.out).2.2 | (with_reducible refine Kd.C_alloc ?_ _) | (with_reducible refine Kd.C_drewN ?_ _) | (with_reducible refine Kd.C_drew ?_))); (case side2 => exact (Kd.R_reads' HO209.out).2.1); rintro e w10 ⟨rfl, hb⟩; have n0_ := Aside0.mk (Kd.R_below (by (with_reducible repeat (first | apply Kd.R_alloc | apply Kd.R_drewN | apply Kd.R_drew)); exact HO209.out) hb); have n1_ := Aside0.mk (below_step (by repeat (first | (with_reducible first | exact HB.out | apply below_alloc | apply pw_below_drewN | apply below_drew1) | exact HB.out)) hb); clear HO209; clear HB; have HO209 := n0_; have HB := n1_; clear n0_ n1_; (try clear hb); (try clear hb2); (try clear hk); (try clear hi); (try simp only [errW_none, errW_some]))))
  go_ret2
  exact ⟨by first | rfl | (simp [errW_none, errW_some] <;> rfl) | (simp [*, errW_none, errW_some] <;> rfl) | (simp [bne_nil_hyb]; done), by repeat (first | (with_reducible first | exact HB.out | apply below_alloc | apply pw_below_drewN | apply below_drew1) | exact HB.out)⟩

/-! ### semantic_ZZPackagist: function 20 -/
def semantic_ZZPackagist.f (l0 : List ByteArray) (l1 : List ByteArray) : Option (Int) := (semantic_comparePackagistComponents.f l0 l1).bind fun t213 => (some t213)
set_option maxHeartbeats 8000000 in
set_option maxRecDepth 100000 in
theorem semantic_ZZPackagist.calls (A0 : Option Addr) (c0 : Nat) (l0 : List ByteArray) (A1 : Option Addr) (c1 : Nat) (l1 : List ByteArray) (r : Int) (w : World) (hr0 : Kd.C Kd.string w A0 l0.length l0) (hc0 : l0.length ≤ c0) (hr1 : Kd.C Kd.string w A1 l1.length l1) (hc1 : l1.length ≤ c1) (h : semantic_ZZPackagist.f l0 l1 = some r) (hG : GL w) :
  Calls Tryz.prog 20 #[.slice A0 l0.length c0, .slice A1 l1.length c1] w fun e w' => e = .returned (.int .i64 r) ∧ Below w.heap.size w w' := by
 have HG := Aside0.mk hG
 clear hG
 have HR0 := Aside0.mk hr0
 have HC0 := Aside0.mk hc0
 clear hr0 hc0
 have HR1 := Aside0.mk hr1
 have HC1 := Aside0.mk hc1
 clear hr1 hc1
 have HB := Aside0.mk (Below.refl w.heap.size w)
 have H : ((semantic_comparePackagistComponents.f l0 l1).bind fun t213 => (some t213)) = some r := h
 clear h
 replace H := Option.bind_eq_some_iff.mp H
 obtain ⟨t213, A30, H⟩ := H
 replace H : (some t213) = some r := H
 have A3 := Aside0.mk A30
 clear A30
 obtain rfl := Option.some.inj H
 go_enter Tryz.func20, Tryz.ntmps20
 go_wp2_with (first | ((with_reducible refine gate_callee (f := 28) rfl ?_); refine goesL_ (some 7) rfl rfl Tryz.func28 (by kernel_rfl) rfl #[.slice A0 l0.length c0, .slice A1 l1.length c1] rfl (by (try simp only [List.map_toArray, List.map_cons, List.map_nil]); first | done | rfl | (simp only [List.length_drop, List.length_take]; rfl)) ?_; (with_reducible refine (semantic_comparePackagistComponents.calls _ _ l0 _ _ l1 t213 _ ?side1 ?side2 ?side3 ?side4 A3.out (by first | exact GL.at HG.out (by repeat (first | (with_reducible first | exact HB.out | apply below_alloc | apply pw_below_drewN | apply below_drew1) | exact HB.out)) | exact HG.out)).mono ?_); (case side1 => repeat (first | exact HR0.out | (with_reducible refine Kd.C_alloc ?_ _) | (with_reducible refine Kd.C_drewN ?_ _) | (with_reducible refine Kd.C_drew ?_))); (case side2 => exact HC0.out); (case side3 => repeat (first | exact HR1.out | (with_reducible refine Kd.C_alloc ?_ _) | (with_reducible refine Kd.C_drewN ?_ _) | (with_reducible refine Kd.C_drew ?_))); (case side4 => exact HC1.out); rintro e w4 ⟨rfl, hb⟩; refine ⟨_, rfl, ?_⟩; have n0_ := Aside0.mk (below_step (by repeat (first | (with_reducible first | exact HB.out | apply below_alloc | apply pw_below_drewN | apply below_drew1) | exact HB.out)) hb); clear HB; have HB := n0_; clear n0_; (try clear hb); (try clear hb2); (try clear hk); (try clear hi)))
 go_ret
 exact ⟨by first | rfl | (simp [errW_none, errW_some] <;> rfl) | (simp [*, errW_none, errW_some] <;> rfl) | (simp [bne_nil_hyb]; done), by repeat (first | (with_reducible first | exact HB.out | apply below_alloc | apply pw_below_drewN | apply below_drew1) | exact HB.out)⟩

/-! ### impl_PackagistCompare: function 9 -/
def impl_PackagistCompare.f (l0 : List ByteArray) (l1 : List ByteArray) : Option (Int) := (semantic_ZZPackagist.f l0 l1).bind fun t214 => (some t214)
set_option maxHeartbeats 8000000 in
set_option maxRecDepth 100000 in
theorem impl_PackagistCompare.calls (A0 : Option Addr) (c0 : Nat) (l0 : List ByteArray) (A1 : Option Addr) (c1 : Nat) (l1 : List ByteArray) (r : Int) (w : World) (hr0 : Kd.C Kd.string w A0 l0.length l0) (hc0 : l0.length ≤ c0) (hr1 : Kd.C Kd.string w A1 l1.length l1) (hc1 : l1.length ≤ c1) (h : impl_PackagistCompare.f l0 l1 = some r) (hG : GL w) :
  Calls Tryz.prog 9 #[.slice A0 l0.length c0, .slice A1 l1.length c1] w fun e w' => e = .returned (.int .i64 r) ∧ Below w.heap.size w w' := by
 have HG := Aside0.mk hG
 clear hG
 have HR0 := Aside0.mk hr0
 have HC0 := Aside0.mk hc0
 clear hr0 hc0
 have HR1 := Aside0.mk hr1
 have HC1 := Aside0.mk hc1
 clear hr1 hc1
 have HB := Aside0.mk (Below.refl w.heap.size w)
 have H : ((semantic_ZZPackagist.f l0 l1).bind fun t214 => (some t214)) = some r := h
 clear h
 replace H := Option.bind_eq_some_iff.mp H
 obtain ⟨t214, A30, H⟩ := H
 replace H : (some t214) = some r := H
 have A3 := Aside0.mk A30
 clear A30
 obtain rfl := Option.some.inj H
 go_enter Tryz.func9, Tryz.ntmps9
 go_wp2_with (first | ((with_reducible refine gate_callee (f := 20) rfl ?_); refine goesL_ (some 7) rfl rfl Tryz.func20 (by kernel_rfl) rfl #[.slice A0 l0.length c0, .slice A1 l1.length c1] rfl (by (try simp only [List.map_toArray, List.map_cons, List.map_nil]); first | done | rfl | (simp only [List.length_drop, List.length_take]; rfl)) ?_; (with_reducible refine (semantic_ZZPackagist.calls _ _ l0 _ _ l1 t214 _ ?side1 ?side2 ?side3 ?side4 A3.out (by first | exact GL.at HG.out (by repeat (first | (with_reducible first | exact HB.out | apply below_alloc | apply pw_below_drewN | apply below_drew1) | exact HB.out)) | exact HG.out)).mono ?_); (case side1 => repeat (first | exact HR0.out | (with_reducible refine Kd.C_alloc ?_ _) | (with_reducible refine Kd.C_drewN ?_ _) | (with_reducible refine Kd.C_drew ?_))); (case side2 => exact HC0.out); (case side3 => repeat (first | exact HR1.out | (with_reducible refine Kd.C_alloc ?_ _) | (with_reducible refine Kd.C_drewN ?_ _) | (with_reducible refine Kd.C_drew ?_))); (case side4 => exact HC1.out); rintro e w4 ⟨rfl, hb⟩; refine ⟨_, rfl, ?_⟩; have n0_ := Aside0.mk (below_step (by repeat (first | (with_reducible first | exact HB.out | apply below_alloc | apply pw_below_drewN | apply below_drew1) | exact HB.out)) hb); clear HB; have HB := n0_; clear n0_; (try clear hb); (try clear hb2); (try clear hk); (try clear hi)))
 go_ret
 exact ⟨by first | rfl | (simp [errW_none, errW_some] <;> rfl) | (simp [*, errW_none, errW_some] <;> rfl) | (simp [bne_nil_hyb]; done), by repeat (first | (with_reducible first | exact HB.out | apply below_alloc | apply pw_below_drewN | apply below_drew1) | exact HB.out)⟩

/-! ### semantic_ZZPackagistTold: function 21 -/
def semantic_ZZPackagistTold.f (a0_0 : ByteArray) (l0_1 : List ByteArray) : Option (List ByteArray) := some l0_1
set_option maxHeartbeats 8000000 in
set_option maxRecDepth 100000 in
theorem semantic_ZZPackagistTold.calls (a0_0 : ByteArray) (P0_1_ : Nat → Prop) (u9000_ : Value) (l0_1 : List ByteArray) (r : List ByteArray) (w0 w : World) (hB : Below w0.heap.size w0 w) (ho0_1 : Kd.R Kd.string 9 w w0.heap.size P0_1_ u9000_ l0_1) (h : semantic_ZZPackagistTold.f a0_0 l0_1 = some r) :
  Calls Tryz.prog 21 #[.agg #[.string a0_0, u9000_]] w fun e w' => ∃ v0_ : Value, e = .returned (v0_) ∧ Kd.R Kd.string 9 w' w0.heap.size (fun k_ => (P0_1_ k_ ∨ w.heap.size ≤ k_)) v0_ r ∧ Below w0.heap.size w0 w' ∧ Kept w w' (fun k_ => P0_1_ k_) := by
 have hu39 := Tryz.underlying39
 have HO0_1 := Aside0.mk (show Kd.R Kd.string 9 w w0.heap.size (fun k_ => (P0_1_ k_ ∨ w.heap.size ≤ k_)) u9000_ l0_1 from Kd.R_mono ho0_1 (fun k_ hk => (.inl hk)))
 have HK := Aside0.mk (Kept.refl w (fun k_ => P0_1_ k_))
 have HW0 := Aside0.mk hB.size
 have HB := Aside0.mk hB
 clear hB
 have H : (some l0_1) = some r := h
 clear h
 obtain rfl := Option.some.inj H
 obtain ⟨Ao2, co2, eo2⟩ := Kd.R_slice HO0_1.out
 subst eo2
 go_enter Tryz.func21, Tryz.ntmps21
 go_wp2_with (first | ((with_reducible refine gate_dst (N := 1) rfl ?_); refine box_event ?hg (N := 1) ?hd (cs := #[.string a0_0, .slice Ao2 l0_1.length co2]) (t := 39) ?hr ?_; (case hd => rfl); (case hg => rfl); (case hr => first | (go_simp; done) | (go_simp; rfl)); intro gb215 hg w3 hbox hb; have n0_ := Aside0.mk (Kd.R_below (by (with_reducible repeat (first | apply Kd.R_alloc | apply Kd.R_drewN | apply Kd.R_drew)); exact HO0_1.out) hb); have n1_ := Aside0.mk (Kept.below (S := (fun k_ => P0_1_ k_)) (by repeat (first | (with_reducible first | exact HK.out | apply Kept.alloc | apply Kept.drewN | apply Kept.drew) | exact HK.out)) hb); have n2_ := Aside0.mk (below_step (by repeat (first | (with_reducible first | exact HB.out | apply below_alloc | apply pw_below_drewN | apply below_drew1) | exact HB.out)) hb); have n3_ := Aside0.mk (hbox); have n4_ := Aside0.mk ((by rw [hg]; exact (by first | exact HK.out.1 | exact (show Kept w _ (fun k_ => P0_1_ k_) from by repeat (first | (with_reducible first | exact HK.out | apply Kept.alloc | apply Kept.drewN | apply Kept.drew) | exact HK.out)).1) : w.heap.size ≤ gb215)); have n5_ := Aside0.mk ((by rw [hg]; exact (below_size (by repeat (first | (with_reducible first | exact HB.out | apply below_alloc | apply pw_below_drewN | apply below_drew1) | exact HB.out))) : w0.heap.size ≤ gb215)); clear HO0_1; clear HK; clear HB; have HO0_1 := n0_; have HK := n1_; have HB := n2_; have BK215 := n3_; have GW215 := n4_; have GE215 := n5_; clear n0_ n1_ n2_ n3_ n4_ n5_; clear hb hbox hg; have hcz4_0 : w3.cell? ⟨gb215, 0, none⟩ = some (.string a0_0) := (blk_cell BK215.out 0).trans rfl; have hcz4_1 : w3.cell? ⟨gb215, 1, none⟩ = some (.slice Ao2 l0_1.length co2) := (blk_cell BK215.out 1).trans rfl; have hfz4_0 := blk_frozen BK215.out 0; have hfz4_1 := blk_frozen BK215.out 1))
 go_ret
 exact ⟨_, by first | rfl | (simp [errW_none, errW_some] <;> rfl) | (simp [*, errW_none, errW_some] <;> rfl) | (simp [bne_nil_hyb]; done), by (with_reducible repeat (first | apply Kd.R_alloc | apply Kd.R_drewN | apply Kd.R_drew)); exact HO0_1.out, by repeat (first | (with_reducible first | exact HB.out | apply below_alloc | apply pw_below_drewN | apply below_drew1 | refine below_set ?_ GE215.out) | exact HB.out), by repeat (first | (with_reducible first | exact HK.out | apply Kept.alloc | apply Kept.drewN | apply Kept.drew | refine Kept.setCell ?_ (.inr GW215.out) _) | exact HK.out)⟩

/-! ### impl_PackagistParse: function 10 -/
def impl_PackagistParse.f (k : Nat) (a0 : ByteArray) : Option (List ByteArray) := (semantic_ParsePackagistVersion.f k a0).bind fun bt216 => ((semantic_ZZPackagistTold.f bt216.1 bt216.2).bind fun t220 => (if ([] : List ByteArray).length + t220.length < 8796093022208 then (some (([] : List ByteArray) ++ t220)) else (none)))
theorem impl_PackagistParse.mono : ∀ a0 k, LeO (impl_PackagistParse.f k a0) (impl_PackagistParse.f (k + 1) a0) := by
 intro a0 k
 unfold impl_PackagistParse.f
 repeat' first
   | (with_reducible exact semantic_ParsePackagistVersion.mono _ _)
   | (with_reducible exact LeO.refl _)
   | (with_reducible exact LeO.none _)
   | (with_reducible refine LeO.ite ?_ ?_)
   | (with_reducible refine LeO.bind ?_ (fun _ => ?_))
   | exact semantic_ParsePackagistVersion.mono _ _
   | exact LeO.none _
   | refine LeO.ite ?_ ?_
   | refine LeO.bind ?_ (fun _ => ?_)
set_option maxHeartbeats 8000000 in
set_option maxRecDepth 100000 in
theorem impl_PackagistParse.calls (k : Nat) (a0 : ByteArray) (r : List ByteArray) (w : World) (h : impl_PackagistParse.f k a0 = some r) :
  Calls Tryz.prog 10 #[.string a0] w fun e w' => ∃ v0_ : Value, e = .returned (v0_) ∧ Kd.R Kd.string 9 w' w.heap.size (fun _ => True) v0_ r ∧ Below w.heap.size w w' := by
 have HB := Aside0.mk (Below.refl w.heap.size w)
 have H : ((semantic_ParsePackagistVersion.f k a0).bind fun bt216 => ((semantic_ZZPackagistTold.f bt216.1 bt216.2).bind fun t220 => (if ([] : List ByteArray).length + t220.length < 8796093022208 then (some (([] : List ByteArray) ++ t220)) else (none)))) = some r := h
 clear h
 replace H := Option.bind_eq_some_iff.mp H
 obtain ⟨⟨t216, t217⟩, A20, H⟩ := H
 replace H : ((semantic_ZZPackagistTold.f t216 t217).bind fun t220 => (if ([] : List ByteArray).length + t220.length < 8796093022208 then (some (([] : List ByteArray) ++ t220)) else (none))) = some r := H
 have A2 := Aside0.mk A20
 clear A20
 replace H := Option.bind_eq_some_iff.mp H
 obtain ⟨t220, A30, H⟩ := H
 replace H : (if ([] : List ByteArray).length + t220.length < 8796093022208 then (some (([] : List ByteArray) ++ t220)) else (none)) = some r := H
 have A3 := Aside0.mk A30
 clear A30
 by_cases c4 : ([] : List ByteArray).length + t220.length < 8796093022208
 ·rw [if_pos c4] at H
  have LMc4 := Aside0.mk c4
  clear c4
  obtain ⟨y223, hy223⟩ : ∃ y_ : List ByteArray, y_ = (([] : List ByteArray) ++ t220) := ⟨_, rfl⟩
  replace H : (some y223) = some r := by first | (rw [hy223]; with_reducible exact H) | (have H2_ := (Option.bind_some _ _).symm.trans H; rw [hy223]; with_reducible exact H2_) | (have H2_ := (Option.bind_some _ _).symm.trans H; with_reducible exact H2_) | with_reducible exact H | (rw [hy223]; exact H) | exact H
  have Ny223 := Aside0.mk hy223
  clear hy223
  obtain rfl := Option.some.inj H
  go_enter Tryz.func10, Tryz.ntmps10
  go_wp2_with (first | ((with_reducible refine gate_callee (f := 18) rfl ?_); refine goesL_ (some 4) rfl rfl Tryz.func18 (by kernel_rfl) rfl #[.string a0] rfl (by (try simp only [List.map_toArray, List.map_cons, List.map_nil]); first | done | rfl | (simp only [List.length_drop, List.length_take]; rfl)) ?_; (with_reducible refine (semantic_ParsePackagistVersion.calls k a0 t216 t217 _ A2.out).mono ?_); rintro e w5 ⟨v218, rfl, ho0, hb⟩; refine ⟨_, rfl, ?_⟩; have n0_ := Aside0.mk (Kd.R_lower ho0 (below_size (by repeat (first | (with_reducible first | exact HB.out | apply below_alloc | apply pw_below_drewN | apply below_drew1) | exact HB.out)))); have n1_ := Aside0.mk (below_step (by repeat (first | (with_reducible first | exact HB.out | apply below_alloc | apply pw_below_drewN | apply below_drew1) | exact HB.out)) hb); clear HB; have HO219 := n0_; have HB := n1_; clear n0_ n1_; (try clear hb); (try clear hb2); (try clear hk); (try clear hi); (try clear ho0); obtain ⟨Ao6, co6, eo6⟩ := Kd.R_slice HO219.out; subst eo6) | ((with_reducible refine gate_callee (f := 21) rfl ?_); refine goesL_ (some 5) rfl rfl Tryz.func21 (by kernel_rfl) rfl #[.agg #[.string t216, .slice Ao6 t217.length co6]] rfl (by (try simp only [List.map_toArray, List.map_cons, List.map_nil]); first | done | rfl | (simp only [List.length_drop, List.length_take]; rfl)) ?_; (with_reducible refine (semantic_ZZPackagistTold.calls t216 (fun k_ => some k_ = (.slice Ao6 t217.length co6 : Value).ownBlock) (.slice Ao6 t217.length co6) t217 t220 w _ ?side1 ?side2 A3.out).mono ?_); (case side1 => repeat (first | (with_reducible first | exact HB.out | apply below_alloc | apply pw_below_drewN | apply below_drew1) | exact HB.out)); (case side2 => exact Kd.R_tight rfl HO219.out); rintro e w7 ⟨v221, rfl, ho0, hb, hkp⟩; refine ⟨_, rfl, ?_⟩; have n0_ := Aside0.mk (Kd.R_mono (ok' := fun k_ => True) ho0 (fun k_ hk_ => trivial)); have n1_ := Aside0.mk (hb); clear HB; clear HO219; have HO222 := n0_; have HB := n1_; clear n0_ n1_; (try clear hb); (try clear hkp); (try clear ho0); obtain ⟨Ao9, co9, eo9⟩ := Kd.R_slice HO222.out; subst eo9) | ((with_reducible refine gate_builtin (b := .append) (xs := #[.const (.slice none 0 0), .tmp 5]) rfl ?_); at_builtin; refine Kd.R_append_rows Kd.string (w0 := w) w.heap.size rfl (.const (.slice none 0 0)) (.tmp 5) 24 9 (.string ⟨#[]⟩) 16 rfl Tryz.underlying24 info9 rfl (by decide) (by omega) (.slice none 0 0) ([] : List ByteArray) t220 _ _ _ (fun k_ => some k_ ≠ (.slice Ao9 t220.length co9 : Value).ownBlock) (fun _ => False) rfl rfl ?aO ?aR (fun _ _ h => h) (fun _ h => h.elim) ?aF ?aB ?aS ?aL ?_; (case aR => repeat (first | exact (Kd.R_reads' HO222.out).2.2 | (with_reducible refine Kd.C_alloc ?_ _) | (with_reducible refine Kd.C_drewN ?_ _) | (with_reducible refine Kd.C_drew ?_))); (case aB => exact (by repeat (first | (with_reducible first | exact HB.out | apply below_alloc | apply pw_below_drewN | apply below_drew1) | exact HB.out))); (case aF => exact (fun k_ hk => Kd.fresh' (Kd.R_lt (by (with_reducible repeat (first | apply Kd.R_alloc | apply Kd.R_drewN | apply Kd.R_drew)); exact HO222.out)) k_ hk)); (case aO => exact ((Kd.R_nil _ _ _ _ (fun k_ => some k_ ≠ (.slice Ao9 t220.length co9 : Value).ownBlock)))); (case aS => exact (below_size (by repeat (first | (with_reducible first | exact HB.out | apply below_alloc | apply pw_below_drewN | apply below_drew1) | exact HB.out)))); (case aL => have := LMc4.out; omega); intro v224 w8 ho hb hg hat; rw [← Ny223.out] at ho; have n0_ := Aside0.mk (Kd.R_after (Kd.R_apart_nil (by (with_reducible repeat (first | apply Kd.R_alloc | apply Kd.R_drewN | apply Kd.R_drew)); exact HO222.out)) hg hat); have n1_ := Aside0.mk (hb); have n2_ := Aside0.mk (ho); clear HO222; clear HB; have HO222 := n0_; have HB := n1_; have HO225 := n2_; clear n0_ n1_ n2_; clear ho hb hg hat))
  go_ret
  exact ⟨_, by first | rfl | (simp [errW_none, errW_some] <;> rfl) | (simp [*, errW_none, errW_some] <;> rfl) | (simp [bne_nil_hyb]; done), by (with_reducible repeat (first | apply Kd.R_alloc | apply Kd.R_drewN | apply Kd.R_drew)); exact Kd.R_mono HO225.out (fun _ hk => trivial), by repeat (first | (with_reducible first | exact HB.out | apply below_alloc | apply pw_below_drewN | apply below_drew1) | exact HB.out)⟩
 ·rw [if_neg c4] at H
  exact absurd H (by simp)

/-! ### spec_orderInts: function 39 -/
def spec_orderInts.f (a0 : Int) (a1 : Int) : Option (Int) := if a0 < a1 then (some (-1)) else (if a0 > a1 then (some 1) else (some 0))
set_option maxHeartbeats 8000000 in
set_option maxRecDepth 100000 in
theorem spec_orderInts.calls (a0 : Int) (a1 : Int) (r : Int) (w : World) (h : spec_orderInts.f a0 a1 = some r) :
  Calls Tryz.prog 39 #[.int .i64 a0, .int .i64 a1] w fun e w' => e = .returned (.int .i64 r) ∧ Drawn0 w w' := by
 have H : (if a0 < a1 then (some (-1)) else (if a0 > a1 then (some 1) else (some 0))) = some r := h
 clear h
 by_cases c3 : a0 < a1
 ·rw [if_pos c3] at H
  have c3b0 : decide (a0 < a1) = true := decide_eq_true c3
  clear c3
  obtain rfl := Option.some.inj H
  go_enter Tryz.func39, Tryz.ntmps39
  go_wp2
  go_ret
  exact ⟨by first | rfl | (simp; done) | (simp [*]; done) | (simp [bne_nil_hyb]; done) | (simp [bne_nil_hyb, *]; done), by repeat (first | exact Drawn0.refl _ | apply Drawn0.step)⟩
 ·rw [if_neg c3] at H
  have c3b0 : decide (a0 < a1) = false := decide_eq_false c3
  clear c3
  by_cases c4 : a0 > a1
  ·rw [if_pos c4] at H
   have c4b0 : decide (a1 < a0) = true := decide_eq_true c4
   clear c4
   obtain rfl := Option.some.inj H
   go_enter Tryz.func39, Tryz.ntmps39
   go_wp2
   go_ret
   exact ⟨by first | rfl | (simp; done) | (simp [*]; done) | (simp [bne_nil_hyb]; done) | (simp [bne_nil_hyb, *]; done), by repeat (first | exact Drawn0.refl _ | apply Drawn0.step)⟩
  ·rw [if_neg c4] at H
   have c4b0 : decide (a1 < a0) = false := decide_eq_false c4
   clear c4
   obtain rfl := Option.some.inj H
   go_enter Tryz.func39, Tryz.ntmps39
   go_wp2
   go_ret
   exact ⟨by first | rfl | (simp; done) | (simp [*]; done) | (simp [bne_nil_hyb]; done) | (simp [bne_nil_hyb, *]; done), by repeat (first | exact Drawn0.refl _ | apply Drawn0.step)⟩

/-! ### spec_order: function 40 -/
def spec_order.f (a0 : ByteArray) (a1 : ByteArray) : Option (Int) := if (Op.bytesLess a0.toList a1.toList) = true then (some (-1)) else (if (Op.bytesLess a1.toList a0.toList) = true then (some 1) else (some 0))
set_option maxHeartbeats 8000000 in
set_option maxRecDepth 100000 in
theorem spec_order.calls (a0 : ByteArray) (a1 : ByteArray) (r : Int) (w : World) (h : spec_order.f a0 a1 = some r) :
  Calls Tryz.prog 40 #[.string a0, .string a1] w fun e w' => e = .returned (.int .i64 r) ∧ Drawn0 w w' := by
 have H : (if (Op.bytesLess a0.toList a1.toList) = true then (some (-1)) else (if (Op.bytesLess a1.toList a0.toList) = true then (some 1) else (some 0))) = some r := h
 clear h
 by_cases c3 : (Op.bytesLess a0.toList a1.toList) = true
 ·rw [if_pos c3] at H
  have c3b0 : (Op.bytesLess a0.toList a1.toList) = true := c3
  clear c3
  obtain rfl := Option.some.inj H
  have hgt_ := fun W_ : World => run_gtr_str (P := Tryz.prog) W_ 9 a0 a1
  go_enter Tryz.func40, Tryz.ntmps40
  go_wp2
  go_ret
  exact ⟨by first | rfl | (simp; done) | (simp [*]; done) | (simp [bne_nil_hyb]; done) | (simp [bne_nil_hyb, *]; done), by repeat (first | exact Drawn0.refl _ | apply Drawn0.step)⟩
 ·rw [if_neg c3] at H
  have c3b0 : (Op.bytesLess a0.toList a1.toList) = false := by simpa using c3
  clear c3
  by_cases c4 : (Op.bytesLess a1.toList a0.toList) = true
  ·rw [if_pos c4] at H
   have c4b0 : (Op.bytesLess a1.toList a0.toList) = true := c4
   clear c4
   obtain rfl := Option.some.inj H
   have hgt_ := fun W_ : World => run_gtr_str (P := Tryz.prog) W_ 9 a0 a1
   go_enter Tryz.func40, Tryz.ntmps40
   go_wp2
   go_ret
   exact ⟨by first | rfl | (simp; done) | (simp [*]; done) | (simp [bne_nil_hyb]; done) | (simp [bne_nil_hyb, *]; done), by repeat (first | exact Drawn0.refl _ | apply Drawn0.step)⟩
  ·rw [if_neg c4] at H
   have c4b0 : (Op.bytesLess a1.toList a0.toList) = false := by simpa using c4
   clear c4
   obtain rfl := Option.some.inj H
   have hgt_ := fun W_ : World => run_gtr_str (P := Tryz.prog) W_ 9 a0 a1
   go_enter Tryz.func40, Tryz.ntmps40
   go_wp2
   go_ret
   exact ⟨by first | rfl | (simp; done) | (simp [*]; done) | (simp [bne_nil_hyb]; done) | (simp [bne_nil_hyb, *]; done), by repeat (first | exact Drawn0.refl _ | apply Drawn0.step)⟩

end Go.Proofs.YtdjkekgfeadmoaaGreatDoor.Q
