/- Proved here: each Go function that is named in this text, called as its theorem 'calls' says, returns what its Lean function 'f' tells, and of the memory that was there nothing is changed (a row of a law: the law returns true). Conditions: those that stand in each theorem; where 'f' tells none, nothing is said. Laid by a program of this seat's prover out of the translation; Lean checks it. -/
import Derived.Test.YtdjkekgfeadmoaaDoorQx0
import Derived.Test.YtdjkekgfeadmoaaDoorQx1
import Derived.Test.YtdjkekgfeadmoaaDoorQx2
namespace Go.Proofs.YtdjkekgfeadmoaaDoor.Q
open Go.RowKit Go.Proofs.YtdjkekgfeadmoaaDoorH Go.Proofs.YtdjkekgfeadmoaaDoorG Go.Proofs.YtdjkekgfeadmoaaDoorW.PrintWords Go.Proofs.YtdjkekgfeadmoaaDoorW.PrintLast Go.Proofs.YtdjkekgfeadmoaaDoorW.PrintMore
attribute [local go_sem] max2_int min2_int max_two min_two max_three min_three max_four min_four   -- for this text's walks alone
set_option linter.unusedVariables false
set_option linter.unusedSimpArgs false

/-! ### semantic_canonicalizePackagistVersion: function 27 -/
def semantic_canonicalizePackagistVersion.f (k : Nat) (a0 : ByteArray) : Option (ByteArray) := (strings_TrimPrefix.f a0 (⟨#[118]⟩ : ByteArray)).bind fun t146 => ((strings_TrimPrefix.f t146 (⟨#[86]⟩ : ByteArray)).bind fun t147 => ((semantic_zzPointed.f t147).bind fun t148 => ((semantic_zzParted.f k t148 false).bind fun t149 => ((semantic_zzParted.f k t149 true).bind fun t150 => (some t150)))))
theorem semantic_canonicalizePackagistVersion.mono : ∀ a0 k, LeO (semantic_canonicalizePackagistVersion.f k a0) (semantic_canonicalizePackagistVersion.f (k + 1) a0) := by
 intro a0 k
 unfold semantic_canonicalizePackagistVersion.f
 repeat' first
   | (with_reducible exact semantic_zzParted.mono _ _ _)
   | (with_reducible exact LeO.refl _)
   | (with_reducible exact LeO.none _)
   | (with_reducible refine LeO.ite ?_ ?_)
   | (with_reducible refine LeO.bind ?_ (fun _ => ?_))
   | exact semantic_zzParted.mono _ _ _
   | exact LeO.none _
   | refine LeO.ite ?_ ?_
   | refine LeO.bind ?_ (fun _ => ?_)
set_option maxHeartbeats 8000000 in
set_option maxRecDepth 100000 in
theorem semantic_canonicalizePackagistVersion.calls (k : Nat) (a0 : ByteArray) (r : ByteArray) (w : World) (h : semantic_canonicalizePackagistVersion.f k a0 = some r) :
  Calls Tryd.prog 27 #[.string a0] w fun e w' => e = .returned (.string r) ∧ Below w.heap.size w w' := by
 have HB := Aside0.mk (Below.refl w.heap.size w)
 have H : ((strings_TrimPrefix.f a0 (⟨#[118]⟩ : ByteArray)).bind fun t146 => ((strings_TrimPrefix.f t146 (⟨#[86]⟩ : ByteArray)).bind fun t147 => ((semantic_zzPointed.f t147).bind fun t148 => ((semantic_zzParted.f k t148 false).bind fun t149 => ((semantic_zzParted.f k t149 true).bind fun t150 => (some t150)))))) = some r := h
 clear h
 replace H := Option.bind_eq_some_iff.mp H
 obtain ⟨t146, A20, H⟩ := H
 replace H : ((strings_TrimPrefix.f t146 (⟨#[86]⟩ : ByteArray)).bind fun t147 => ((semantic_zzPointed.f t147).bind fun t148 => ((semantic_zzParted.f k t148 false).bind fun t149 => ((semantic_zzParted.f k t149 true).bind fun t150 => (some t150))))) = some r := H
 have A2 := Aside0.mk A20
 clear A20
 replace H := Option.bind_eq_some_iff.mp H
 obtain ⟨t147, A30, H⟩ := H
 replace H : ((semantic_zzPointed.f t147).bind fun t148 => ((semantic_zzParted.f k t148 false).bind fun t149 => ((semantic_zzParted.f k t149 true).bind fun t150 => (some t150)))) = some r := H
 have A3 := Aside0.mk A30
 clear A30
 replace H := Option.bind_eq_some_iff.mp H
 obtain ⟨t148, A40, H⟩ := H
 replace H : ((semantic_zzParted.f k t148 false).bind fun t149 => ((semantic_zzParted.f k t149 true).bind fun t150 => (some t150))) = some r := H
 have A4 := Aside0.mk A40
 clear A40
 replace H := Option.bind_eq_some_iff.mp H
 obtain ⟨t149, A50, H⟩ := H
 replace H : ((semantic_zzParted.f k t149 true).bind fun t150 => (some t150)) = some r := H
 have A5 := Aside0.mk A50
 clear A50
 replace H := Option.bind_eq_some_iff.mp H
 obtain ⟨t150, A60, H⟩ := H
 replace H : (some t150) = some r := H
 have A6 := Aside0.mk A60
 clear A60
 obtain rfl := Option.some.inj H
 go_enter Tryd.func27, Tryd.ntmps27
 go_wp2_with (first | ((with_reducible refine gate_callee (f := 31) rfl ?_); refine goesL_ (some 4) rfl rfl Tryd.func31 (by kernel_rfl) rfl #[.string a0, .string (⟨#[118]⟩ : ByteArray)] rfl (by (try simp only [List.map_toArray, List.map_cons, List.map_nil]); first | done | rfl | (simp only [List.length_drop, List.length_take]; rfl)) ?_; (with_reducible refine (strings_TrimPrefix.calls a0 (⟨#[118]⟩ : ByteArray) t146 _ A2.out).mono ?_); rintro e w' ⟨rfl, ⟨nd, rfl⟩⟩; refine ⟨_, rfl, ?_⟩) | ((with_reducible refine gate_callee (f := 31) rfl ?_); refine goesL_ (some 5) rfl rfl Tryd.func31 (by kernel_rfl) rfl #[.string t146, .string (⟨#[86]⟩ : ByteArray)] rfl (by (try simp only [List.map_toArray, List.map_cons, List.map_nil]); first | done | rfl | (simp only [List.length_drop, List.length_take]; rfl)) ?_; (with_reducible refine (strings_TrimPrefix.calls t146 (⟨#[86]⟩ : ByteArray) t147 _ A3.out).mono ?_); rintro e w' ⟨rfl, ⟨nd, rfl⟩⟩; refine ⟨_, rfl, ?_⟩) | ((with_reducible refine gate_callee (f := 32) rfl ?_); refine goesL_ (some 7) rfl rfl Tryd.func32 (by kernel_rfl) rfl #[.string t147] rfl (by (try simp only [List.map_toArray, List.map_cons, List.map_nil]); first | done | rfl | (simp only [List.length_drop, List.length_take]; rfl)) ?_; (with_reducible refine (semantic_zzPointed.calls t147 t148 _ A4.out).mono ?_); rintro e w7 ⟨rfl, hb⟩; refine ⟨_, rfl, ?_⟩; have n0_ := Aside0.mk (below_step (by repeat (first | (with_reducible first | exact HB.out | apply below_alloc | apply pw_below_drewN | apply below_drew1) | exact HB.out)) hb); clear HB; have HB := n0_; clear n0_; (try clear hb); (try clear hb2); (try clear hk); (try clear hi)) | ((with_reducible refine gate_callee (f := 33) rfl ?_); refine goesL_ (some 9) rfl rfl Tryd.func33 (by kernel_rfl) rfl #[.string t148, .bool false] rfl (by (try simp only [List.map_toArray, List.map_cons, List.map_nil]); first | done | rfl | (simp only [List.length_drop, List.length_take]; rfl)) ?_; (with_reducible refine (semantic_zzParted.calls k t148 false t149 _ A5.out).mono ?_); rintro e w8 ⟨rfl, hb⟩; refine ⟨_, rfl, ?_⟩; have n0_ := Aside0.mk (below_step (by repeat (first | (with_reducible first | exact HB.out | apply below_alloc | apply pw_below_drewN | apply below_drew1) | exact HB.out)) hb); clear HB; have HB := n0_; clear n0_; (try clear hb); (try clear hb2); (try clear hk); (try clear hi)) | ((with_reducible refine gate_callee (f := 33) rfl ?_); refine goesL_ (some 11) rfl rfl Tryd.func33 (by kernel_rfl) rfl #[.string t149, .bool true] rfl (by (try simp only [List.map_toArray, List.map_cons, List.map_nil]); first | done | rfl | (simp only [List.length_drop, List.length_take]; rfl)) ?_; (with_reducible refine (semantic_zzParted.calls k t149 true t150 _ A6.out).mono ?_); rintro e w9 ⟨rfl, hb⟩; refine ⟨_, rfl, ?_⟩; have n0_ := Aside0.mk (below_step (by repeat (first | (with_reducible first | exact HB.out | apply below_alloc | apply pw_below_drewN | apply below_drew1) | exact HB.out)) hb); clear HB; have HB := n0_; clear n0_; (try clear hb); (try clear hb2); (try clear hk); (try clear hi)))
 go_ret
 exact ⟨by first | rfl | (simp [errW_none, errW_some] <;> rfl) | (simp [*, errW_none, errW_some] <;> rfl) | (simp [bne_nil_hyb]; done), by repeat (first | (with_reducible first | exact HB.out | apply below_alloc | apply pw_below_drewN | apply below_drew1) | exact HB.out)⟩

/-! ### semantic_ParsePackagistVersion: function 20 -/
def semantic_ParsePackagistVersion.f (k : Nat) (a0 : ByteArray) : Option (ByteArray × List ByteArray) := (semantic_canonicalizePackagistVersion.f k a0).bind fun t152 => ((semantic_zzSplit.f k t152 (⟨#[46]⟩ : ByteArray)).bind fun t153 => (some (a0, t153)))
theorem semantic_ParsePackagistVersion.mono : ∀ a0 k, LeO (semantic_ParsePackagistVersion.f k a0) (semantic_ParsePackagistVersion.f (k + 1) a0) := by
 intro a0 k
 unfold semantic_ParsePackagistVersion.f
 repeat' first
   | (with_reducible exact semantic_canonicalizePackagistVersion.mono _ _)
   | (with_reducible exact semantic_zzSplit.mono _ _ _)
   | (with_reducible exact LeO.refl _)
   | (with_reducible exact LeO.none _)
   | (with_reducible refine LeO.ite ?_ ?_)
   | (with_reducible refine LeO.bind ?_ (fun _ => ?_))
   | exact semantic_canonicalizePackagistVersion.mono _ _
   | exact semantic_zzSplit.mono _ _ _
   | exact LeO.none _
   | refine LeO.ite ?_ ?_
   | refine LeO.bind ?_ (fun _ => ?_)
set_option maxHeartbeats 8000000 in
set_option maxRecDepth 100000 in
theorem semantic_ParsePackagistVersion.calls (k : Nat) (a0 : ByteArray) (r1 : ByteArray) (r2 : List ByteArray) (w : World) (h : semantic_ParsePackagistVersion.f k a0 = some (r1, r2)) :
  Calls Tryd.prog 20 #[.string a0] w fun e w' => ∃ v1_ : Value, e = .returned (.agg #[.string r1, v1_]) ∧ Kd.R Kd.string 9 w' w.heap.size (fun _ => True) v1_ r2 ∧ Below w.heap.size w w' := by
 have hu43 := Tryd.underlying43
 have HB := Aside0.mk (Below.refl w.heap.size w)
 have H : ((semantic_canonicalizePackagistVersion.f k a0).bind fun t152 => ((semantic_zzSplit.f k t152 (⟨#[46]⟩ : ByteArray)).bind fun t153 => (some (a0, t153)))) = some (r1, r2) := h
 clear h
 replace H := Option.bind_eq_some_iff.mp H
 obtain ⟨t152, A20, H⟩ := H
 replace H : ((semantic_zzSplit.f k t152 (⟨#[46]⟩ : ByteArray)).bind fun t153 => (some (a0, t153))) = some (r1, r2) := H
 have A2 := Aside0.mk A20
 clear A20
 replace H := Option.bind_eq_some_iff.mp H
 obtain ⟨t153, A30, H⟩ := H
 replace H : (some (a0, t153)) = some (r1, r2) := H
 have A3 := Aside0.mk A30
 clear A30
 simp only [Option.some.injEq, Prod.mk.injEq] at H
 obtain ⟨rfl, rfl⟩ := H
 go_enter Tryd.func20, Tryd.ntmps20
 go_wp2_with (first | ((with_reducible refine gate_dst (N := 2) rfl ?_); refine box_event ?hg (N := 2) ?hd (cs := #[.string (⟨#[]⟩ : ByteArray), .slice none 0 0]) (t := 43) ?hr ?_; (case hd => rfl); (case hg => rfl); (case hr => first | (go_simp; done) | (go_simp; rfl)); intro gb151 hg w4 hbox hb; have n0_ := Aside0.mk (below_step (by repeat (first | (with_reducible first | exact HB.out | apply below_alloc | apply pw_below_drewN | apply below_drew1) | exact HB.out)) hb); have n1_ := Aside0.mk (hbox); have n2_ := Aside0.mk ((by rw [hg]; exact (below_size (by repeat (first | (with_reducible first | exact HB.out | apply below_alloc | apply pw_below_drewN | apply below_drew1) | exact HB.out))) : w.heap.size ≤ gb151)); have n3_ := Aside0.mk ((by rw [hg]; exact (below_size (by repeat (first | (with_reducible first | exact HB.out | apply below_alloc | apply pw_below_drewN | apply below_drew1) | exact HB.out))) : w.heap.size ≤ gb151)); clear HB; have HB := n0_; have BK151 := n1_; have GW151 := n2_; have GE151 := n3_; clear n0_ n1_ n2_ n3_; clear hb hbox hg) | ((with_reducible refine gate_callee (f := 27) rfl ?_); refine goesL_ (some 5) rfl rfl Tryd.func27 (by kernel_rfl) rfl #[.string a0] rfl (by (try simp only [List.map_toArray, List.map_cons, List.map_nil]); first | done | rfl | (simp only [List.length_drop, List.length_take]; rfl)) ?_; (with_reducible refine (semantic_canonicalizePackagistVersion.calls k a0 t152 _ A2.out).mono ?_); rintro e w5 ⟨rfl, hb⟩; refine ⟨_, rfl, ?_⟩; have n0_ := Aside0.mk (blk_below (g := gb151) (o := .cells #[.string (⟨#[]⟩ : ByteArray), .slice none 0 0] 43 (0, 0)) (by (with_reducible repeat (first | refine blk_drewN ?_ _ | refine blk_drew ?_ | refine blk_alloc ?_ _)); exact BK151.out) hb); have n1_ := Aside0.mk (below_step (by repeat (first | (with_reducible first | exact HB.out | apply below_alloc | apply pw_below_drewN | apply below_drew1 | refine below_set ?_ GE151.out) | exact HB.out)) hb); clear BK151; clear HB; have BK151 := n0_; have HB := n1_; clear n0_ n1_; (try clear hb); (try clear hb2); (try clear hk); (try clear hi)) | ((with_reducible refine gate_callee (f := 26) rfl ?_); refine goesL_ (some 6) rfl rfl Tryd.func26 (by kernel_rfl) rfl #[.string t152, .string (⟨#[46]⟩ : ByteArray)] rfl (by (try simp only [List.map_toArray, List.map_cons, List.map_nil]); first | done | rfl | (simp only [List.length_drop, List.length_take]; rfl)) ?_; (with_reducible refine (semantic_zzSplit.calls k t152 (⟨#[46]⟩ : ByteArray) t153 _ A3.out).mono ?_); rintro e w6 ⟨v154, rfl, ho0, hb⟩; refine ⟨_, rfl, ?_⟩; have n0_ := Aside0.mk (Kd.R_lower ho0 (below_size (by repeat (first | (with_reducible first | exact HB.out | apply below_alloc | apply pw_below_drewN | apply below_drew1 | refine below_set ?_ GE151.out) | exact HB.out)))); have n1_ := Aside0.mk (blk_below (g := gb151) (o := .cells #[.string (⟨#[]⟩ : ByteArray), .slice none 0 0] 43 (0, 0)) (by (with_reducible repeat (first | refine blk_drewN ?_ _ | refine blk_drew ?_ | refine blk_alloc ?_ _)); exact BK151.out) hb); have n2_ := Aside0.mk (below_step (by repeat (first | (with_reducible first | exact HB.out | apply below_alloc | apply pw_below_drewN | apply below_drew1 | refine below_set ?_ GE151.out) | exact HB.out)) hb); clear BK151; clear HB; have HO155 := n0_; have BK151 := n1_; have HB := n2_; clear n0_ n1_ n2_; (try clear hb); (try clear hb2); (try clear hk); (try clear hi); (try clear ho0); obtain ⟨Ao7, co7, eo7⟩ := Kd.R_slice HO155.out; subst eo7; have hcz8_0 : w6.cell? ⟨gb151, 0, none⟩ = some (.string (⟨#[]⟩ : ByteArray)) := (blk_cell BK151.out 0).trans rfl; have hcz8_1 : w6.cell? ⟨gb151, 1, none⟩ = some (.slice none 0 0) := (blk_cell BK151.out 1).trans rfl; have hfz8_0 := blk_frozen BK151.out 0; have hfz8_1 := blk_frozen BK151.out 1))
 refine bodyPost_ret (results_cell_row rfl _ _ gb151 43 #[.string a0, .slice Ao7 t153.length co7] (0, 0) _ rfl (by (with_reducible repeat (first | refine blk_drewN ?_ _ | refine blk_drew ?_ | refine blk_alloc ?_ _)); refine blk_put (cs := #[.string a0, .slice none 0 0]) ?_ 1 _ rfl; (with_reducible repeat (first | refine blk_drewN ?_ _ | refine blk_drew ?_ | refine blk_alloc ?_ _)); refine blk_put (cs := #[.string (⟨#[]⟩ : ByteArray), .slice none 0 0]) ?_ 0 _ rfl; (with_reducible repeat (first | refine blk_drewN ?_ _ | refine blk_drew ?_ | refine blk_alloc ?_ _)); exact BK151.out) Tryd.underlying43 rfl (by kernel_rfl)) rfl ?_
 exact ⟨_, by first | rfl | (simp [errW_none, errW_some] <;> rfl) | (simp [*, errW_none, errW_some] <;> rfl) | (simp [bne_nil_hyb]; done), by (with_reducible repeat (first | apply Kd.R_alloc | apply Kd.R_drewN | apply Kd.R_drew)); exact Kd.R_mono (Kd.R_far (p := ⟨gb151, 1, none⟩) (Kd.R_far (p := ⟨gb151, 0, none⟩) (Kd.R_types HO155.out BK151.out (by decide)) (fun _ hk => hk.2) (.string a0)) (fun _ hk => hk.2) (.slice Ao7 t153.length co7)) (fun _ hk => trivial), by repeat (first | (with_reducible first | exact HB.out | apply below_alloc | apply pw_below_drewN | apply below_drew1 | refine below_set ?_ GE151.out) | exact HB.out)⟩

-- LEFT OUT: function 62 (bigall_scanSign)

-- LEFT OUT: function 67 (bigall_maxPow)

-- LEFT OUT: function 71 (bigall_nat_norm)

-- LEFT OUT: function 75 (bigall_nat_make)

-- LEFT OUT: function 74 (bigall_nat_setWord)

-- LEFT OUT: function 97 (bits_Mul32)

-- LEFT OUT: function 98 (bits_Mul64)

-- LEFT OUT: function 95 (bits_Mul)

-- LEFT OUT: function 99 (bits_Add32)

-- LEFT OUT: function 100 (bits_Add64)

-- LEFT OUT: function 96 (bits_Add)

-- LEFT OUT: function 92 (bigall_mulAddWWW_g)

-- LEFT OUT: function 85 (bigall_mulAddVWW_g)

-- LEFT OUT: function 76 (bigall_mulAddVWW)

-- LEFT OUT: function 68 (bigall_nat_mulAddWW)

-- LEFT OUT: function 69 (bigall_pow)

-- LEFT OUT: function 70 (bigall_Word)

-- LEFT OUT: function 77 (bigall_same)

-- LEFT OUT: function 78 (bigall_alias)

-- LEFT OUT: function 79 (bigall_nat_set)

-- LEFT OUT: function 86 (bigall_rshVU_g)

-- LEFT OUT: function 80 (bigall_rshVU)

-- LEFT OUT: function 72 (bigall_nat_rsh)

-- LEFT OUT: function 63 (bigall_nat_scan)

-- LEFT OUT: function 57 (bigall_Int_scan)

-- LEFT OUT: function 49 (bigall_Int_setFromScanner)

-- LEFT OUT: function 50 (strings_NewReader)

-- LEFT OUT: function 44 (bigall_Int_SetString)

-- LEFT OUT: function 38 (semantic_convertToBigInt)

-- LEFT OUT: function 45 (bigall_nat_cmp)

-- LEFT OUT: function 39 (bigall_Int_Cmp)

-- LEFT OUT: function 51 (strings_HasPrefix)

-- LEFT OUT: function 46 (semantic_weighPackagistBuildCharacter)

-- LEFT OUT: function 40 (semantic_comparePackagistSpecialVersions)

-- LEFT OUT: function 64 (strconv_lower)

-- LEFT OUT: function 65 (strconv_underscoreOK)

-- LEFT OUT: function 58 (strconv_ParseUint)

-- LEFT OUT: function 52 (strconv_ParseInt)

-- LEFT OUT: function 47 (strconv_Atoi_47)

-- NOT PRINTED: function 59 (stringslite_Clone)

-- LEFT OUT: function 53 (strconv_syntaxError)

-- LEFT OUT: function 54 (strconv_rangeError)

-- LEFT OUT: function 60 (errors_New)

-- LEFT OUT: function 81 (strconv_small)

-- LEFT OUT: function 87 (strconv_log10Pow2)

-- LEFT OUT: function 88 (bits_Len64)

-- LEFT OUT: function 89 (strconv_bool2_int)

-- LEFT OUT: function 82 (strconv_numDigits)

-- LEFT OUT: function 83 (strconv_formatBase10)

-- LEFT OUT: function 90 (strconv_isPowerOfTwo)

-- LEFT OUT: function 93 (bits_TrailingZeros32)

-- LEFT OUT: function 94 (bits_TrailingZeros64)

-- LEFT OUT: function 91 (bits_TrailingZeros)

-- LEFT OUT: function 84 (strconv_formatBits)

-- LEFT OUT: function 73 (strconv_FormatInt)

-- LEFT OUT: function 66 (strconv_Itoa_66)

-- LEFT OUT: function 61 (strconv_Itoa_61)

-- LEFT OUT: function 55 (strconv_baseError)

-- LEFT OUT: function 56 (strconv_bitSizeError)

-- LEFT OUT: function 48 (strconv_toError)

-- LEFT OUT: function 41 (strconv_Atoi_41)

-- BY HAND: function 34 (semantic_comparePackagistComponents)

/-! ### semantic_PackagistVersion_compare: function 28 -/
def semantic_PackagistVersion_compare.f (a0_0 : ByteArray) (l0_1 : List ByteArray) (a1_0 : ByteArray) (l1_1 : List ByteArray) : Option (Int) := (semantic_comparePackagistComponents.f l0_1 l1_1).bind fun t161 => (some t161)
set_option maxHeartbeats 8000000 in
set_option maxRecDepth 100000 in
theorem semantic_PackagistVersion_compare.calls (a0_0 : ByteArray) (A0_1 : Option Addr) (c0_1 : Nat) (l0_1 : List ByteArray) (a1_0 : ByteArray) (A1_1 : Option Addr) (c1_1 : Nat) (l1_1 : List ByteArray) (r : Int) (w : World) (hr0_1 : Kd.C Kd.string w A0_1 l0_1.length l0_1) (hc0_1 : l0_1.length ≤ c0_1) (hr1_1 : Kd.C Kd.string w A1_1 l1_1.length l1_1) (hc1_1 : l1_1.length ≤ c1_1) (h : semantic_PackagistVersion_compare.f a0_0 l0_1 a1_0 l1_1 = some r) (hG : GL w) :
  Calls Tryd.prog 28 #[.agg #[.string a0_0, .slice A0_1 l0_1.length c0_1], .agg #[.string a1_0, .slice A1_1 l1_1.length c1_1]] w fun e w' => e = .returned (.int .i64 r) ∧ Below w.heap.size w w' := by
 have HG := Aside0.mk hG
 clear hG
 have hu43 := Tryd.underlying43
 have HR0_1 := Aside0.mk hr0_1
 have HC0_1 := Aside0.mk hc0_1
 clear hr0_1 hc0_1
 have HR1_1 := Aside0.mk hr1_1
 have HC1_1 := Aside0.mk hc1_1
 clear hr1_1 hc1_1
 have HB := Aside0.mk (Below.refl w.heap.size w)
 have H : ((semantic_comparePackagistComponents.f l0_1 l1_1).bind fun t161 => (some t161)) = some r := h
 clear h
 replace H := Option.bind_eq_some_iff.mp H
 obtain ⟨t161, A30, H⟩ := H
 replace H : (some t161) = some r := H
 have A3 := Aside0.mk A30
 clear A30
 obtain rfl := Option.some.inj H
 go_enter Tryd.func28, Tryd.ntmps28
 go_wp2_with (first | ((with_reducible refine gate_dst (N := 2) rfl ?_); refine box_event ?hg (N := 2) ?hd (cs := #[.string a0_0, .slice A0_1 l0_1.length c0_1]) (t := 43) ?hr ?_; (case hd => rfl); (case hg => rfl); (case hr => first | (go_simp; done) | (go_simp; rfl)); intro gb159 hg w4 hbox hb; have n0_ := Aside0.mk (below_step (by repeat (first | (with_reducible first | exact HB.out | apply below_alloc | apply pw_below_drewN | apply below_drew1) | exact HB.out)) hb); have n1_ := Aside0.mk (hbox); have n2_ := Aside0.mk ((by rw [hg]; exact (below_size (by repeat (first | (with_reducible first | exact HB.out | apply below_alloc | apply pw_below_drewN | apply below_drew1) | exact HB.out))) : w.heap.size ≤ gb159)); have n3_ := Aside0.mk ((by rw [hg]; exact (below_size (by repeat (first | (with_reducible first | exact HB.out | apply below_alloc | apply pw_below_drewN | apply below_drew1) | exact HB.out))) : w.heap.size ≤ gb159)); clear HB; have HB := n0_; have BK159 := n1_; have GW159 := n2_; have GE159 := n3_; clear n0_ n1_ n2_ n3_; clear hb hbox hg) | ((with_reducible refine gate_dst (N := 3) rfl ?_); refine box_event ?hg (N := 3) ?hd (cs := #[.string a1_0, .slice A1_1 l1_1.length c1_1]) (t := 43) ?hr ?_; (case hd => rfl); (case hg => rfl); (case hr => first | (go_simp; done) | (go_simp; rfl)); intro gb160 hg w5 hbox hb; have n0_ := Aside0.mk (blk_below (g := gb159) (o := .cells #[.string a0_0, .slice A0_1 l0_1.length c0_1] 43 (0, 0)) (by (with_reducible repeat (first | refine blk_drewN ?_ _ | refine blk_drew ?_ | refine blk_alloc ?_ _)); exact BK159.out) hb); have n1_ := Aside0.mk (below_step (by repeat (first | (with_reducible first | exact HB.out | apply below_alloc | apply pw_below_drewN | apply below_drew1 | refine below_set ?_ GE159.out) | exact HB.out)) hb); have n2_ := Aside0.mk (hbox); have n3_ := Aside0.mk ((by rw [hg]; exact (below_size (by repeat (first | (with_reducible first | exact HB.out | apply below_alloc | apply pw_below_drewN | apply below_drew1 | refine below_set ?_ GE159.out) | exact HB.out))) : w.heap.size ≤ gb160)); have n4_ := Aside0.mk ((by rw [hg]; exact (below_size (by repeat (first | (with_reducible first | exact HB.out | apply below_alloc | apply pw_below_drewN | apply below_drew1 | refine below_set ?_ GE159.out) | exact HB.out))) : w.heap.size ≤ gb160)); have n5_ := Aside0.mk ((by rw [hg]; exact Nat.ne_of_lt (blk_lt (g := gb159) (o := .cells #[.string a0_0, .slice A0_1 l0_1.length c0_1] 43 (0, 0)) (by (with_reducible repeat (first | refine blk_drewN ?_ _ | refine blk_drew ?_ | refine blk_alloc ?_ _)); exact BK159.out)) : gb159 ≠ gb160)); have n6_ := Aside0.mk ((by rw [hg]; exact Nat.ne_of_gt (blk_lt (g := gb159) (o := .cells #[.string a0_0, .slice A0_1 l0_1.length c0_1] 43 (0, 0)) (by (with_reducible repeat (first | refine blk_drewN ?_ _ | refine blk_drew ?_ | refine blk_alloc ?_ _)); exact BK159.out)) : gb160 ≠ gb159)); clear BK159; clear HB; have BK159 := n0_; have HB := n1_; have BK160 := n2_; have GW160 := n3_; have GE160 := n4_; have NB159_160 := n5_; have NB160_159 := n6_; clear n0_ n1_ n2_ n3_ n4_ n5_ n6_; clear hb hbox hg; have hnb6 := NB159_160.out; have hnc6 := NB160_159.out; have hcz7_0 : w5.cell? ⟨gb159, 0, none⟩ = some (.string a0_0) := (blk_cell BK159.out 0).trans rfl; have hcz7_1 : w5.cell? ⟨gb159, 1, none⟩ = some (.slice A0_1 l0_1.length c0_1) := (blk_cell BK159.out 1).trans rfl; have hfz7_0 := blk_frozen BK159.out 0; have hfz7_1 := blk_frozen BK159.out 1; have hcz8_0 : w5.cell? ⟨gb160, 0, none⟩ = some (.string a1_0) := (blk_cell BK160.out 0).trans rfl; have hcz8_1 : w5.cell? ⟨gb160, 1, none⟩ = some (.slice A1_1 l1_1.length c1_1) := (blk_cell BK160.out 1).trans rfl; have hfz8_0 := blk_frozen BK160.out 0; have hfz8_1 := blk_frozen BK160.out 1) | ((with_reducible refine gate_callee (f := 34) rfl ?_); refine goesL_ (some 9) rfl rfl Tryd.func34 (by kernel_rfl) rfl #[.slice A0_1 l0_1.length c0_1, .slice A1_1 l1_1.length c1_1] rfl (by (try simp only [List.map_toArray, List.map_cons, List.map_nil]); first | done | rfl | (simp only [List.length_drop, List.length_take]; rfl)) ?_; (with_reducible refine (semantic_comparePackagistComponents.calls _ _ l0_1 _ _ l1_1 t161 _ ?side1 ?side2 ?side3 ?side4 A3.out (by first | exact GL.at HG.out (by repeat (first | (with_reducible first | exact HB.out | apply below_alloc | apply pw_below_drewN | apply below_drew1) | exact HB.out)) | exact HG.out)).mono ?_); (case side1 => repeat (first | exact (Kd.C_below HR0_1.out HB.out) | (with_reducible refine Kd.C_alloc ?_ _) | (with_reducible refine Kd.C_drewN ?_ _) | (with_reducible refine Kd.C_drew ?_))); (case side2 => exact HC0_1.out); (case side3 => repeat (first | exact (Kd.C_below HR1_1.out HB.out) | (with_reducible refine Kd.C_alloc ?_ _) | (with_reducible refine Kd.C_drewN ?_ _) | (with_reducible refine Kd.C_drew ?_))); (case side4 => exact HC1_1.out); rintro e w9 ⟨rfl, hb⟩; refine ⟨_, rfl, ?_⟩; have n0_ := Aside0.mk (blk_below (g := gb159) (o := .cells #[.string a0_0, .slice A0_1 l0_1.length c0_1] 43 (0, 0)) (by (with_reducible repeat (first | refine blk_drewN ?_ _ | refine blk_drew ?_ | refine blk_alloc ?_ _)); exact BK159.out) hb); have n1_ := Aside0.mk (blk_below (g := gb160) (o := .cells #[.string a1_0, .slice A1_1 l1_1.length c1_1] 43 (0, 0)) (by (with_reducible repeat (first | refine blk_drewN ?_ _ | refine blk_drew ?_ | refine blk_alloc ?_ _)); exact BK160.out) hb); have n2_ := Aside0.mk (below_step (by repeat (first | (with_reducible first | exact HB.out | apply below_alloc | apply pw_below_drewN | apply below_drew1 | refine below_set ?_ GE159.out | refine below_set ?_ GE160.out) | exact HB.out)) hb); clear BK159; clear BK160; clear HB; have BK159 := n0_; have BK160 := n1_; have HB := n2_; clear n0_ n1_ n2_; (try clear hb); (try clear hb2); (try clear hk); (try clear hi)))
 go_ret
 exact ⟨by first | rfl | (simp [errW_none, errW_some] <;> rfl) | (simp [*, errW_none, errW_some] <;> rfl) | (simp [bne_nil_hyb]; done), by repeat (first | (with_reducible first | exact HB.out | apply below_alloc | apply pw_below_drewN | apply below_drew1 | refine below_set ?_ GE159.out | refine below_set ?_ GE160.out) | exact HB.out)⟩

/-! ### semantic_PackagistVersion_CompareStr: function 21 -/
def semantic_PackagistVersion_CompareStr.f (k : Nat) (a0_0 : ByteArray) (l0_1 : List ByteArray) (a1 : ByteArray) : Option (Int × Option Int) := (semantic_ParsePackagistVersion.f k a1).bind fun bt163 => ((semantic_PackagistVersion_compare.f a0_0 l0_1 bt163.1 bt163.2).bind fun t167 => (some (t167, none)))
theorem semantic_PackagistVersion_CompareStr.mono : ∀ a0 a1 a2 k, LeO (semantic_PackagistVersion_CompareStr.f k a0 a1 a2) (semantic_PackagistVersion_CompareStr.f (k + 1) a0 a1 a2) := by
 intro a0 a1 a2 k
 unfold semantic_PackagistVersion_CompareStr.f
 repeat' first
   | (with_reducible exact semantic_ParsePackagistVersion.mono _ _)
   | (with_reducible exact LeO.refl _)
   | (with_reducible exact LeO.none _)
   | (with_reducible refine LeO.ite ?_ ?_)
   | (with_reducible refine LeO.bind ?_ (fun _ => ?_))
   | exact semantic_ParsePackagistVersion.mono _ _
   | exact LeO.none _
   | refine LeO.ite ?_ ?_
   | refine LeO.bind ?_ (fun _ => ?_)
set_option maxHeartbeats 8000000 in
set_option maxRecDepth 100000 in
theorem semantic_PackagistVersion_CompareStr.calls (k : Nat) (a0_0 : ByteArray) (A0_1 : Option Addr) (c0_1 : Nat) (l0_1 : List ByteArray) (a1 : ByteArray) (r1 : Int) (r2 : Option Int) (w : World) (hr0_1 : Kd.C Kd.string w A0_1 l0_1.length l0_1) (hc0_1 : l0_1.length ≤ c0_1) (h : semantic_PackagistVersion_CompareStr.f k a0_0 l0_1 a1 = some (r1, r2)) (hG : GL w) :
  Calls Tryd.prog 21 #[.agg #[.string a0_0, .slice A0_1 l0_1.length c0_1], .string a1] w fun e w' => e = .returned (.tuple #[.int .i64 r1, errW r2]) ∧ Below w.heap.size w w' := by
 have HG := Aside0.mk hG
 clear hG
 have hu43 := Tryd.underlying43
 have HR0_1 := Aside0.mk hr0_1
 have HC0_1 := Aside0.mk hc0_1
 clear hr0_1 hc0_1
 have HB := Aside0.mk (Below.refl w.heap.size w)
 have H : ((semantic_ParsePackagistVersion.f k a1).bind fun bt163 => ((semantic_PackagistVersion_compare.f a0_0 l0_1 bt163.1 bt163.2).bind fun t167 => (some (t167, none)))) = some (r1, r2) := h
 clear h
 replace H := Option.bind_eq_some_iff.mp H
 obtain ⟨⟨t163, t164⟩, A30, H⟩ := H
 replace H : ((semantic_PackagistVersion_compare.f a0_0 l0_1 t163 t164).bind fun t167 => (some (t167, none))) = some (r1, r2) := H
 have A3 := Aside0.mk A30
 clear A30
 replace H := Option.bind_eq_some_iff.mp H
 obtain ⟨t167, A40, H⟩ := H
 replace H : (some (t167, none)) = some (r1, r2) := H
 have A4 := Aside0.mk A40
 clear A40
 simp only [Option.some.injEq, Prod.mk.injEq] at H
 obtain ⟨rfl, rfl⟩ := H
 go_enter Tryd.func21, Tryd.ntmps21
 try go_wp2_with (first | ((with_reducible refine gate_dst (N := 2) rfl ?_); refine box_event ?hg (N := 2) ?hd (cs := #[.string a0_0, .slice A0_1 l0_1.length c0_1]) (t := 43) ?hr ?_; (case hd => rfl); (case hg => rfl); (case hr => first | (go_simp; done) | (go_simp; rfl)); intro gb162 hg w5 hbox hb; have n0_ := Aside0.mk (below_step (by repeat (first | (with_reducible first | exact HB.out | apply below_alloc | apply pw_below_drewN | apply below_drew1) | exact HB.out)) hb); have n1_ := Aside0.mk (hbox); have n2_ := Aside0.mk ((by rw [hg]; exact (below_size (by repeat (first | (with_reducible first | exact HB.out | apply below_alloc | apply pw_below_drewN | apply below_drew1) | exact HB.out))) : w.heap.size ≤ gb162)); have n3_ := Aside0.mk ((by rw [hg]; exact (below_size (by repeat (first | (with_reducible first | exact HB.out | apply below_alloc | apply pw_below_drewN | apply below_drew1) | exact HB.out))) : w.heap.size ≤ gb162)); clear HB; have HB := n0_; have BK162 := n1_; have GW162 := n2_; have GE162 := n3_; clear n0_ n1_ n2_ n3_; clear hb hbox hg))
 have n0_ := Aside0.mk (blk_drew BK162.out)
 have n1_ := Aside0.mk (below_drew1 HB.out)
 clear BK162
 clear HB
 have BK162 := n0_
 have HB := n1_
 clear n0_ n1_
 refine start_ (n := 6) (S := fun w' => w'.cell? ⟨gb162, 0, none⟩ = some (.string a0_0) ∧ w'.cell? ⟨gb162, 1, none⟩ = some (.slice A0_1 l0_1.length c0_1)) (ds := []) #[false, false, false, false, false, false] (by kernel_rfl) rfl rfl ⟨(blk_cell BK162.out 0).trans rfl, (blk_cell BK162.out 1).trans rfl⟩ (fun hHeld => ?_)
 generalize w5.drew = w6 at BK162 HB hHeld ⊢
 refine pure_ (i := 1) (N := some 7) (v := ?_) (a' := ?_) #[false, true, false, false, false, false] rfl rfl (by kernel_rfl) (fun _ _ _ h => h) (Or.inl ⟨by rfl, ?_⟩) ?_ ?_
 rotate_left
 ·intro w'
  go_simp
  with_reducible rfl
 rotate_left
 ·simp only [Act.put, List.setIfInBounds_toArray, List.set_cons_zero, List.set_cons_succ, i64_w, i32_w]
  rfl
 refine take_ (i := 0) (N := some 6) (v := ?_) (a' := ?_) #[true, true, false, false, false, false] rfl rfl (by kernel_rfl) (fun _ _ _ h => h) (Or.inl ⟨by rfl, ?_⟩) hHeld ?_ ?_
 rotate_left
 ·rintro w' ⟨s0, s1⟩
  go_simp
  with_reducible rfl
 rotate_left
 ·simp only [Act.put, List.setIfInBounds_toArray, List.set_cons_zero, List.set_cons_succ, i64_w, i32_w]
  rfl
 refine one_ (i := 2) (N := some 8) #[true, true, true, false, false, false] rfl rfl (by kernel_rfl) (by decide) (fun K hK => ?_)
 refine goes_ Tryd.func20 (by kernel_rfl) rfl #[.string a1] (by rfl) rfl rfl (by (try simp only [List.map_toArray, List.map_cons, List.map_nil]); first | done | rfl | (simp only [List.length_drop, List.length_take]; rfl)) ?_
 with_reducible refine (semantic_ParsePackagistVersion.calls k a1 t163 t164 _ A3.out).mono ?_
 rintro e w7 ⟨v165, rfl, ho0, hb⟩
 refine ⟨_, rfl, ?_⟩
 have n0_ := Aside0.mk (Kd.R_lower ho0 (below_size (by repeat (first | (with_reducible first | exact HB.out | apply below_alloc | apply pw_below_drewN | apply below_drew1 | refine below_set ?_ GE162.out) | exact HB.out))))
 have n1_ := Aside0.mk (blk_below (g := gb162) (o := .cells #[.string a0_0, .slice A0_1 l0_1.length c0_1] 43 (0, 0)) (by (with_reducible repeat (first | refine blk_drewN ?_ _ | refine blk_drew ?_ | refine blk_alloc ?_ _)); exact BK162.out) hb)
 have n2_ := Aside0.mk (below_step (by repeat (first | (with_reducible first | exact HB.out | apply below_alloc | apply pw_below_drewN | apply below_drew1 | refine below_set ?_ GE162.out) | exact HB.out)) hb)
 clear BK162
 clear HB
 have HO166 := n0_
 have BK162 := n1_
 have HB := n2_
 clear n0_ n1_ n2_
 (try clear hb)
 (try clear hb2)
 (try clear hk)
 (try clear hi)
 (try clear ho0)
 obtain ⟨Ao8, co8, eo8⟩ := Kd.R_slice HO166.out
 (first | subst eo8 | (injection eo8 with f1_ f2_ f3_; have f4_ := f1_.symm; have f5_ := f3_.symm; clear f1_ f2_ f3_; subst f4_; subst f5_))
 refine hK.out _ _ ⟨(blk_cell BK162.out 0).trans rfl, (blk_cell BK162.out 1).trans rfl⟩ (fun hHeld => ?_)
 clear hK K
 refine norm_ (a' := ?_) ?_ ?_
 rotate_left
 ·show Act.put _ (some 8) _ = _
  simp only [Act.put, List.setIfInBounds_toArray, List.set_cons_zero, List.set_cons_succ, i64_w, i32_w]
  rfl
 refine one_ (i := 3) (N := some 9) #[true, true, true, true, false, false] rfl rfl (by kernel_rfl) (by decide) (fun K hK => ?_)
 refine goes_ Tryd.func28 (by kernel_rfl) rfl #[.agg #[.string a0_0, .slice A0_1 l0_1.length c0_1], .agg #[.string t163, .slice Ao8 t164.length co8]] (by rfl) rfl rfl (by (try simp only [List.map_toArray, List.map_cons, List.map_nil]); first | done | rfl | (simp only [List.length_drop, List.length_take]; rfl)) ?_
 with_reducible refine (semantic_PackagistVersion_compare.calls a0_0 _ _ l0_1 t163 _ _ t164 t167 _ ?side1 ?side2 ?side3 ?side4 A4.out (by first | exact GL.at HG.out (by repeat (first | (with_reducible first | exact HB.out | apply below_alloc | apply pw_below_drewN | apply below_drew1) | exact HB.out)) | exact HG.out)).mono ?_
 (case side1 => repeat (first | exact (Kd.C_below HR0_1.out HB.out) | (with_reducible refine Kd.C_alloc ?_ _) | (with_reducible refine Kd.C_drewN ?_ _) | (with_reducible refine Kd.C_drew ?_)))
 (case side2 => exact HC0_1.out)
 (case side3 => repeat (first | exact (Kd.R_reads' HO166.out).2.2 | (with_reducible refine Kd.C_alloc ?_ _) | (with_reducible refine Kd.C_drewN ?_ _) | (with_reducible refine Kd.C_drew ?_)))
 (case side4 => exact (Kd.R_reads' HO166.out).2.1)
 rintro e w9 ⟨rfl, hb⟩
 refine ⟨_, rfl, ?_⟩
 have n0_ := Aside0.mk (Kd.R_below (by (with_reducible repeat (first | apply Kd.R_alloc | apply Kd.R_drewN | apply Kd.R_drew)); exact HO166.out) hb)
 have n1_ := Aside0.mk (blk_below (g := gb162) (o := .cells #[.string a0_0, .slice A0_1 l0_1.length c0_1] 43 (0, 0)) (by (with_reducible repeat (first | refine blk_drewN ?_ _ | refine blk_drew ?_ | refine blk_alloc ?_ _)); exact BK162.out) hb)
 have n2_ := Aside0.mk (below_step (by repeat (first | (with_reducible first | exact HB.out | apply below_alloc | apply pw_below_drewN | apply below_drew1 | refine below_set ?_ GE162.out) | exact HB.out)) hb)
 clear HO166
 clear BK162
 clear HB
 have HO166 := n0_
 have BK162 := n1_
 have HB := n2_
 clear n0_ n1_ n2_
 (try clear hb)
 (try clear hb2)
 (try clear hk)
 (try clear hi)
 refine hK.out _ _ ⟨(blk_cell BK162.out 0).trans rfl, (blk_cell BK162.out 1).trans rfl⟩ (fun hHeld => ?_)
 clear hK K
 refine norm_ (a' := ?_) ?_ ?_
 rotate_left
 ·show Act.put _ (some 9) _ = _
  simp only [Act.put, List.setIfInBounds_toArray, List.set_cons_zero, List.set_cons_succ, i64_w, i32_w]
  rfl
 refine pure_ (i := 4) (N := some 4) (v := ?_) (a' := ?_) #[true, true, true, true, true, false] rfl rfl (by kernel_rfl) (fun _ _ _ h => h) (Or.inl ⟨by rfl, ?_⟩) ?_ ?_
 rotate_left
 ·intro w'
  go_simp
  with_reducible rfl
 rotate_left
 ·simp only [Act.put, List.setIfInBounds_toArray, List.set_cons_zero, List.set_cons_succ, i64_w, i32_w]
  rfl
 refine pure_ (i := 5) (N := some 5) (v := ?_) (a' := ?_) #[true, true, true, true, true, true] rfl rfl (by kernel_rfl) (fun _ _ _ h => h) (Or.inl ⟨by rfl, ?_⟩) ?_ ?_
 rotate_left
 ·intro w'
  go_simp
  with_reducible rfl
 rotate_left
 ·simp only [Act.put, List.setIfInBounds_toArray, List.set_cons_zero, List.set_cons_succ, i64_w, i32_w]
  rfl
 refine done_ (by kernel_rfl) ?_
 try go_wp2
 go_ret2
 exact ⟨by first | rfl | (simp [errW_none, errW_some] <;> rfl) | (simp [*, errW_none, errW_some] <;> rfl) | (simp [bne_nil_hyb]; done), by repeat (first | (with_reducible first | exact HB.out | apply below_alloc | apply pw_below_drewN | apply below_drew1 | refine below_set ?_ GE162.out) | exact HB.out)⟩

/-! ### impl_PackagistCompareText: function 9 -/
def impl_PackagistCompareText.f (k : Nat) (a0 : ByteArray) (a1 : ByteArray) : Option (Int × Bool) := (semantic_ParsePackagistVersion.f k a0).bind fun bt168 => ((semantic_PackagistVersion_CompareStr.f k bt168.1 bt168.2 a1).bind fun bt172 => (if bt172.2.isNone = true then (some (bt172.1, true)) else (some (bt172.1, false))))
theorem impl_PackagistCompareText.mono : ∀ a0 a1 k, LeO (impl_PackagistCompareText.f k a0 a1) (impl_PackagistCompareText.f (k + 1) a0 a1) := by
 intro a0 a1 k
 unfold impl_PackagistCompareText.f
 repeat' first
   | (with_reducible exact semantic_PackagistVersion_CompareStr.mono _ _ _ _)
   | (with_reducible exact semantic_ParsePackagistVersion.mono _ _)
   | (with_reducible exact LeO.refl _)
   | (with_reducible exact LeO.none _)
   | (with_reducible refine LeO.ite ?_ ?_)
   | (with_reducible refine LeO.bind ?_ (fun _ => ?_))
   | exact semantic_PackagistVersion_CompareStr.mono _ _ _ _
   | exact semantic_ParsePackagistVersion.mono _ _
   | exact LeO.none _
   | refine LeO.ite ?_ ?_
   | refine LeO.bind ?_ (fun _ => ?_)
set_option maxHeartbeats 8000000 in
set_option maxRecDepth 100000 in
theorem impl_PackagistCompareText.calls (k : Nat) (a0 : ByteArray) (a1 : ByteArray) (r1 : Int) (r2 : Bool) (w : World) (h : impl_PackagistCompareText.f k a0 a1 = some (r1, r2)) (hG : GL w) :
  Calls Tryd.prog 9 #[.string a0, .string a1] w fun e w' => e = .returned (.tuple #[.int .i64 r1, .bool r2]) ∧ Below w.heap.size w w' := by
 have HG := Aside0.mk hG
 clear hG
 have hu40 := Tryd.underlying40
 have HB := Aside0.mk (Below.refl w.heap.size w)
 have H : ((semantic_ParsePackagistVersion.f k a0).bind fun bt168 => ((semantic_PackagistVersion_CompareStr.f k bt168.1 bt168.2 a1).bind fun bt172 => (if bt172.2.isNone = true then (some (bt172.1, true)) else (some (bt172.1, false))))) = some (r1, r2) := h
 clear h
 replace H := Option.bind_eq_some_iff.mp H
 obtain ⟨⟨t168, t169⟩, A30, H⟩ := H
 replace H : ((semantic_PackagistVersion_CompareStr.f k t168 t169 a1).bind fun bt172 => (if bt172.2.isNone = true then (some (bt172.1, true)) else (some (bt172.1, false)))) = some (r1, r2) := H
 have A3 := Aside0.mk A30
 clear A30
 replace H := Option.bind_eq_some_iff.mp H
 obtain ⟨⟨t172, t173⟩, A40, H⟩ := H
 replace H : (if t173.isNone = true then (some (t172, true)) else (some (t172, false))) = some (r1, r2) := H
 have A4 := Aside0.mk A40
 clear A40
 rcases t173 with _ | q174
 ·have H1 : (some (t172, true)) = some (r1, r2) := by rw [if_pos (show (none : Option Int).isNone = true by rfl)] at H; exact H
  clear H
  have H := H1
  clear H1
  try simp only [errW_none, errW_some]
  simp only [Option.some.injEq, Prod.mk.injEq] at H
  obtain ⟨rfl, rfl⟩ := H
  go_enter Tryd.func9, Tryd.ntmps9
  go_wp2_with (first | (go_at_call 20; (with_reducible refine (semantic_ParsePackagistVersion.calls k a0 t168 t169 _ A3.out).mono ?_); rintro e w5 ⟨v170, rfl, ho0, hb⟩; have n0_ := Aside0.mk (Kd.R_lower ho0 (below_size (by repeat (first | (with_reducible first | exact HB.out | apply below_alloc | apply pw_below_drewN | apply below_drew1) | exact HB.out)))); have n1_ := Aside0.mk (below_step (by repeat (first | (with_reducible first | exact HB.out | apply below_alloc | apply pw_below_drewN | apply below_drew1) | exact HB.out)) hb); clear HB; have HO171 := n0_; have HB := n1_; clear n0_ n1_; (try clear hb); (try clear hb2); (try clear hk); (try clear hi); (try clear ho0); obtain ⟨Ao6, co6, eo6⟩ := Kd.R_slice HO171.out; subst eo6) | (go_at_call 21; (with_reducible refine (semantic_PackagistVersion_CompareStr.calls k t168 _ _ t169 a1 t172 none _ ?side1 ?side2 A4.out (by first | exact GL.at HG.out (by repeat (first | (with_reducible first | exact HB.out | apply below_alloc | apply pw_below_drewN | apply below_drew1) | exact HB.out)) | exact HG.out)).mono ?_); (case side1 => repeat (first | exact (Kd.R_reads' HO171.out).2.2 | (with_reducible refine Kd.C_alloc ?_ _) | (with_reducible refine Kd.C_drewN ?_ _) | (with_reducible refine Kd.C_drew ?_))); (case side2 => exact (Kd.R_reads' HO171.out).2.1); rintro e w7 ⟨rfl, hb⟩; have n0_ := Aside0.mk (Kd.R_below (by (with_reducible repeat (first | apply Kd.R_alloc | apply Kd.R_drewN | apply Kd.R_drew)); exact HO171.out) hb); have n1_ := Aside0.mk (below_step (by repeat (first | (with_reducible first | exact HB.out | apply below_alloc | apply pw_below_drewN | apply below_drew1) | exact HB.out)) hb); clear HO171; clear HB; have HO171 := n0_; have HB := n1_; clear n0_ n1_; (try clear hb); (try clear hb2); (try clear hk); (try clear hi); (try simp only [errW_none, errW_some])))
  repeat (go_quiet (first | (go_at_call 20; (with_reducible refine (semantic_ParsePackagistVersion.calls k a0 t168 t169 _ A3.out).mono ?_); rintro e w5 ⟨v170, rfl, ho0, hb⟩; have n0_ := Aside0.mk (Kd.R_lower ho0 (below_size (by repeat (first | (with_reducible first | exact HB.out | apply below_alloc | apply pw_below_drewN | apply below_drew1) | exact HB.out)))); have n1_ := Aside0.mk (below_step (by repeat (first | (with_reducible first | exact HB.out | apply below_alloc | apply pw_below_drewN | apply below_drew1) | exact HB.out)) hb); clear HB; have HO171 := n0_; have HB := n1_; clear n0_ n1_; (try clear hb); (try clear hb2); (try clear hk); (try clear hi); (try clear ho0); obtain ⟨Ao6, co6, eo6⟩ := Kd.R_slice HO171.out; subst eo6) | (go_at_call 21; (with_reducible refine (semantic_PackagistVersion_CompareStr.calls k t168 _ _ t169 a1 t172 none _ ?side1 ?side2 A4.out (by first | exact GL.at HG.out (by repeat (first | (with_reducible first | exact HB.out | apply below_alloc | apply pw_below_drewN | apply below_drew1) | exact HB.out)) | exact HG.out)).mono ?_); (case side1 => repeat (first | exact (Kd.R_reads' HO171.out).2.2 | (with_reducible refine Kd.C_alloc ?_ _) | (with_reducible refine Kd.C_drewN ?_ _) | (with_reducible refine Kd.C_drew ?_))); (case side2 => exact (Kd.R_reads' HO171.out).2.1); rintro e w7 ⟨rfl, hb⟩; have n0_ := Aside0.mk (Kd.R_below (by (with_reducible repeat (first | apply Kd.R_alloc | apply Kd.R_drewN | apply Kd.R_drew)); exact HO171.out) hb); have n1_ := Aside0.mk (below_step (by repeat (first | (with_reducible first | exact HB.out | apply below_alloc | apply pw_below_drewN | apply below_drew1) | exact HB.out)) hb); clear HO171; clear HB; have HO171 := n0_; have HB := n1_; clear n0_ n1_; (try clear hb); (try clear hb2); (try clear hk); (try clear hi); (try simp only [errW_none, errW_some]))); try go_wp2_with (first | (go_at_call 20; (with_reducible refine (semantic_ParsePackagistVersion.calls k a0 t168 t169 _ A3.out).mono ?_); rintro e w5 ⟨v170, rfl, ho0, hb⟩; have n0_ := Aside0.mk (Kd.R_lower ho0 (below_size (by repeat (first | (with_reducible first | exact HB.out | apply below_alloc | apply pw_below_drewN | apply below_drew1) | exact HB.out)))); have n1_ := Aside0.mk (below_step (by repeat (first | (with_reducible first | exact HB.out | apply below_alloc | apply pw_below_drewN | apply below_drew1) | exact HB.out)) hb); clear HB; have HO171 := n0_; have HB := n1_; clear n0_ n1_; (try clear hb); (try clear hb2); (try clear hk); (try clear hi); (try clear ho0); obtain ⟨Ao6, co6, eo6⟩ := Kd.R_slice HO171.out; subst eo6) | (go_at_call 21; (with_reducible refine (semantic_PackagistVersion_CompareStr.calls k t168 _ _ t169 a1 t172 none _ ?side1 ?side2 A4.out (by first | exact GL.at HG.out (by repeat (first | (with_reducible first | exact HB.out | apply below_alloc | apply pw_below_drewN | apply below_drew1) | exact HB.out)) | exact HG.out)).mono ?_); (case side1 => repeat (first | exact (Kd.R_reads' HO171.out).2.2 | (with_reducible refine Kd.C_alloc ?_ _) | (with_reducible refine Kd.C_drewN ?_ _) | (with_reducible refine Kd.C_drew ?_))); (case side2 => exact (Kd.R_reads' HO171.out).2.1); rintro e w7 ⟨rfl, hb⟩; have n0_ := Aside0.mk (Kd.R_below (by (with_reducible repeat (first | apply Kd.R_alloc | apply Kd.R_drewN | apply Kd.R_drew)); exact HO171.out) hb); have n1_ := Aside0.mk (below_step (by repeat (first | (with_reducible first | exact HB.out | apply below_alloc | apply pw_below_drewN | apply below_drew1) | exact HB.out)) hb); clear HO171; clear HB; have HO171 := n0_; have HB := n1_; clear n0_ n1_; (try clear hb); (try clear hb2); (try clear hk); (try clear hi); (try simp only [errW_none, errW_some]))))
  go_ret2
  exact ⟨by first | rfl | (simp [errW_none, errW_some] <;> rfl) | (simp [*, errW_none, errW_some] <;> rfl) | (simp [bne_nil_hyb]; done), by repeat (first | (with_reducible first | exact HB.out | apply below_alloc | apply pw_below_drewN | apply below_drew1) | exact HB.out)⟩
 ·have H1 : (some (t172, false)) = some (r1, r2) := by rw [if_neg (show ¬ (some q174).isNone = true by simp)] at H; exact H
  clear H
  have H := H1
  clear H1
  try simp only [errW_none, errW_some]
  simp only [Option.some.injEq, Prod.mk.injEq] at H
  obtain ⟨rfl, rfl⟩ := H
  go_enter Tryd.func9, Tryd.ntmps9
  go_wp2_with (first | (go_at_call 20; (with_reducible refine (semantic_ParsePackagistVersion.calls k a0 t168 t169 _ A3.out).mono ?_); rintro e w8 ⟨v170, rfl, ho0, hb⟩; have n0_ := Aside0.mk (Kd.R_lower ho0 (below_size (by repeat (first | (with_reducible first | exact HB.out | apply below_alloc | apply pw_below_drewN | apply below_drew1) | exact HB.out)))); have n1_ := Aside0.mk (below_step (by repeat (first | (with_reducible first | exact HB.out | apply below_alloc | apply pw_below_drewN | apply below_drew1) | exact HB.out)) hb); clear HB; have HO171 := n0_; have HB := n1_; clear n0_ n1_; (try clear hb); (try clear hb2); (try clear hk); (try clear hi); (try clear ho0); obtain ⟨Ao9, co9, eo9⟩ := Kd.R_slice HO171.out; subst eo9) | (go_at_call 21; (with_reducible refine (semantic_PackagistVersion_CompareStr.calls k t168 _ _ t169 a1 t172 (some q174) _ ?side1 ?side2 A4.out (by first | exact GL.at HG.out (by repeat (first | (with_reducible first | exact HB.out | apply below_alloc | apply pw_below_drewN | apply below_drew1) | exact HB.out)) | exact HG.out)).mono ?_); (case side1 => repeat (first | exact (Kd.R_reads' HO171.out).2.2 | (with_reducible refine Kd.C_alloc ?_ _) | (with_reducible refine Kd.C_drewN ?_ _) | (with_reducible refine Kd.C_drew ?_))); (case side2 => exact (Kd.R_reads' HO171.out).2.1); rintro e w10 ⟨rfl, hb⟩; have n0_ := Aside0.mk (Kd.R_below (by (with_reducible repeat (first | apply Kd.R_alloc | apply Kd.R_drewN | apply Kd.R_drew)); exact HO171.out) hb); have n1_ := Aside0.mk (below_step (by repeat (first | (with_reducible first | exact HB.out | apply below_alloc | apply pw_below_drewN | apply below_drew1) | exact HB.out)) hb); clear HO171; clear HB; have HO171 := n0_; have HB := n1_; clear n0_ n1_; (try clear hb); (try clear hb2); (try clear hk); (try clear hi); (try simp only [errW_none, errW_some])))
  repeat (go_quiet (first | (go_at_call 20; (with_reducible refine (semantic_ParsePackagistVersion.calls k a0 t168 t169 _ A3.out).mono ?_); rintro e w8 ⟨v170, rfl, ho0, hb⟩; have n0_ := Aside0.mk (Kd.R_lower ho0 (below_size (by repeat (first | (with_reducible first | exact HB.out | apply below_alloc | apply pw_below_drewN | apply below_drew1) | exact HB.out)))); have n1_ := Aside0.mk (below_step (by repeat (first | (with_reducible first | exact HB.out | apply below_alloc | apply pw_below_drewN | apply below_drew1) | exact HB.out)) hb); clear HB; have HO171 := n0_; have HB := n1_; clear n0_ n1_; (try clear hb); (try clear hb2); (try clear hk); (try clear hi); (try clear ho0); obtain ⟨Ao9, co9, eo9⟩ := Kd.R_slice HO171.out; subst eo9) | (go_at_call 21; (with_reducible refine (semantic_PackagistVersion_CompareStr.calls k t168 _ _ t169 a1 t172 (some q174) _ ?side1 ?side2 A4.out (by first | exact GL.at HG.out (by repeat (first | (with_reducible first | exact HB.out | apply below_alloc | apply pw_below_drewN | apply below_drew1) | exact HB.out)) | exact HG.out)).mono ?_); (case side1 => repeat (first | exact (Kd.R_reads' HO171.out).2.2 | (with_reducible refine Kd.C_alloc ?_ _) | (with_reducible refine Kd.C_drewN ?_ _) | (with_reducible refine Kd.C_drew ?_))); (case side2 => exact (Kd.R_reads' HO171.out).2.1); rintro e w10 ⟨rfl, hb⟩; have n0_ := Aside0.mk (Kd.R_below (by (with_reducible repeat (first | apply Kd.R_alloc | apply Kd.R_drewN | apply Kd.R_drew)); exact HO171.out) hb); have n1_ := Aside0.mk (below_step (by repeat (first | (with_reducible first | exact HB.out | apply below_alloc | apply pw_below_drewN | apply below_drew1) | exact HB.out)) hb); clear HO171; clear HB; have HO171 := n0_; have HB := n1_; clear n0_ n1_; (try clear hb); (try clear hb2); (try clear hk); (try clear hi); (try simp only [errW_none, errW_some]))); try go_wp2_with (first | (go_at_call 20; (with_reducible refine (semantic_ParsePackagistVersion.calls k a0 t168 t169 _ A3.out).mono ?_); rintro e w8 ⟨v170, rfl, ho0, hb⟩; have n0_ := Aside0.mk (Kd.R_lower ho0 (below_size (by repeat (first | (with_reducible first | exact HB.out | apply below_alloc | apply pw_below_drewN | apply below_drew1) | exact HB.out)))); have n1_ := Aside0.mk (below_step (by repeat (first | (with_reducible first | exact HB.out | apply below_alloc | apply pw_below_drewN | apply below_drew1) | exact HB.out)) hb); clear HB; have HO171 := n0_; have HB := n1_; clear n0_ n1_; (try clear hb); (try clear hb2); (try clear hk); (try clear hi); (try clear ho0); obtain ⟨Ao9, co9, eo9⟩ := Kd.R_slice HO171.out; subst eo9) | (go_at_call 21; (with_reducible refine (semantic_PackagistVersion_CompareStr.calls k t168 _ _ t169 a1 t172 (some q174) _ ?side1 ?side2 A4.out (by first | exact GL.at HG.out (by repeat (first | (with_reducible first | exact HB.out | apply below_alloc | apply pw_below_drewN | apply below_drew1) | exact HB.out)) | exact HG.out)).mono ?_); (case side1 => repeat (first | exact (Kd.R_reads' HO171.out).2.2 | (with_reducible refine Kd.C_alloc ?_ _) | (with_reducible refine Kd.C_drewN ?_ _) | (with_reducible refine Kd.C_drew ?_))); (case side2 => exact (Kd.R_reads' HO171.out).2.1); rintro e w10 ⟨rfl, hb⟩; have n0_ := Aside0.mk (Kd.R_below (by (with_reducible repeat (first | apply Kd.R_alloc | apply Kd.R_drewN | apply Kd.R_drew)); exact HO171.out) hb); have n1_ := Aside0.mk (below_step (by repeat (first | (with_reducible first | exact HB.out | apply below_alloc | apply pw_below_drewN | apply below_drew1) | exact HB.out)) hb); clear HO171; clear HB; have HO171 := n0_; have HB := n1_; clear n0_ n1_; (try clear hb); (try clear hb2); (try clear hk); (try clear hi); (try simp only [errW_none, errW_some]))))
  go_ret2
  exact ⟨by first | rfl | (simp [errW_none, errW_some] <;> rfl) | (simp [*, errW_none, errW_some] <;> rfl) | (simp [bne_nil_hyb]; done), by repeat (first | (with_reducible first | exact HB.out | apply below_alloc | apply pw_below_drewN | apply below_drew1) | exact HB.out)⟩

/-! ### laws_decimal: function 10 -/
def laws_decimal.l0 : Nat → Int → ByteArray → Option (ByteArray)
 | 0, _, _ => none
 | k + 1, x0, x3 => if (Utf8.encode (wrap32 (IntKind.u16.wrap (48 + (Int.tmod x0 10))))).size + x3.size ≤ 9223372036854775807 then (if (IntKind.u16.wrap (Int.tdiv x0 10)) = 0 then (some ((Utf8.encode (wrap32 (IntKind.u16.wrap (48 + (Int.tmod x0 10))))) ++ x3)) else (laws_decimal.l0 k (IntKind.u16.wrap (Int.tdiv x0 10)) ((Utf8.encode (wrap32 (IntKind.u16.wrap (48 + (Int.tmod x0 10))))) ++ x3))) else (none)
def laws_decimal.f (k : Nat) (a0 : Int) : Option (ByteArray) := laws_decimal.l0 k a0 (⟨#[]⟩ : ByteArray)
theorem laws_decimal.mono_l : ∀ k, (∀ y0 y1, LeO (laws_decimal.l0 k y0 y1) (laws_decimal.l0 (k + 1) y0 y1))
 | 0 => fun _ _ r h => by simp [laws_decimal.l0] at h
 | k + 1 => by
  have ih0 := laws_decimal.mono_l k
  ·intro y0 y1
   unfold laws_decimal.l0
   repeat' first
   | (with_reducible exact ih0 _ _)
   | (with_reducible exact LeO.refl _)
   | (with_reducible exact LeO.none _)
   | (with_reducible refine LeO.ite ?_ ?_)
   | (with_reducible refine LeO.bind ?_ (fun _ => ?_))
   | exact ih0 _ _
   | exact LeO.none _
   | refine LeO.ite ?_ ?_
   | refine LeO.bind ?_ (fun _ => ?_)
theorem laws_decimal.mono : ∀ a0 k, LeO (laws_decimal.f k a0) (laws_decimal.f (k + 1) a0) := by
 intro a0 k
 have ih0 := laws_decimal.mono_l k
 unfold laws_decimal.f
 repeat' first
   | (with_reducible exact ih0 _ _)
   | (with_reducible exact LeO.refl _)
   | (with_reducible exact LeO.none _)
   | (with_reducible refine LeO.ite ?_ ?_)
   | (with_reducible refine LeO.bind ?_ (fun _ => ?_))
   | exact ih0 _ _
   | exact LeO.none _
   | refine LeO.ite ?_ ?_
   | refine LeO.bind ?_ (fun _ => ?_)
set_option maxHeartbeats 8000000 in
set_option maxRecDepth 100000 in
theorem laws_decimal.calls (k : Nat) (a0 : Int) (r : ByteArray) (w : World) (h : laws_decimal.f k a0 = some r) :
  Calls Tryd.prog 10 #[.int .u16 a0] w fun e w' => e = .returned (.string r) ∧ Drawn0 w w' := by
 have H : (laws_decimal.l0 k a0 (⟨#[]⟩ : ByteArray)) = some r := h
 clear h
 have H' := Aside0.mk H
 clear H
 go_enter Tryd.func10, Tryd.ntmps10
 go_wp2
 (try simp only [Act.put, List.setIfInBounds_toArray, List.set_cons_zero, List.set_cons_succ])
 go_loopg [0, 3] k (fun kq v0 v3 w' => ∃ (x0_1 : Int) (x3_1 : ByteArray), v0 = .int .u16 x0_1 ∧ v3 = .string x3_1 ∧ Aside0 (laws_decimal.l0 kq x0_1 x3_1 = some r) ∧ Aside0 (kq ≤ k) ∧ Drawn0 w w')
 case atStart => exact ⟨(a0), ((⟨#[]⟩ : ByteArray)), (by first | rfl | (simp; done) | (simp [*]; done) | (simp [bne_nil_hyb]; done) | (simp [bne_nil_hyb, *]; done)), (by first | rfl | (simp; done) | (simp [*]; done) | (simp [bne_nil_hyb]; done) | (simp [bne_nil_hyb, *]; done)), H', ⟨Nat.le_refl _⟩, by repeat (first | exact Drawn0.refl _ | apply Drawn0.step)⟩
 case round =>
  clear H'
  try clear c1
  obtain ⟨x0_1, x3_1, rfl, rfl, HA, HK1, ⟨m1, rfl⟩⟩ := hrel
  cases gk with
  | zero => exact absurd HA.out (by simp [laws_decimal.l0])
  | succ k1 =>
   have H := HA.out
   clear HA
   simp only [laws_decimal.l0] at H
   by_cases c2 : (Utf8.encode (wrap32 (IntKind.u16.wrap (48 + (Int.tmod x0_1 10))))).size + x3_1.size ≤ 9223372036854775807
   ·rw [if_pos c2] at H
    have c2b0 := eq_true c2
    have c2b1 : decide ((Utf8.encode (wrap32 (IntKind.u16.wrap (48 + (Int.tmod x0_1 10))))).size + x3_1.size ≤ 9223372036854775807) = true := decide_eq_true c2
    try have c2b2 : (9223372036854775807 < (Utf8.encode (wrap32 (IntKind.u16.wrap (48 + (Int.tmod x0_1 10))))).size + x3_1.size) = False := eq_false (Nat.not_lt.2 c2)
    by_cases c3 : (IntKind.u16.wrap (Int.tdiv x0_1 10)) = 0
    ·rw [if_pos c3] at H
     have c3b0 : ((IntKind.u16.wrap (Int.tdiv x0_1 10)) == 0) = true := beq_iff_eq.mpr c3
     have c3b1 : ((IntKind.u16.wrap (Int.tdiv x0_1 10)) != 0) = false := bne_eq_false_iff_eq.mpr c3
     clear c3
     obtain rfl := Option.some.inj H
     have hcv4 := fun (W_ : World) => run_convert_int_string (P := Tryd.prog) W_ 21 9 .i32 (wrap32 (IntKind.u16.wrap (48 + (Int.tmod x0_1 10)))) (by rw [Tryd.underlying21]; rfl) Tryd.underlying9
     go_wp2
     go_ret
     exact ⟨by first | rfl | (simp; done) | (simp [*]; done) | (simp [bne_nil_hyb]; done) | (simp [bne_nil_hyb, *]; done), by repeat (first | exact Drawn0.refl _ | apply Drawn0.step)⟩
    ·rw [if_neg c3] at H
     have c3b0 : ((IntKind.u16.wrap (Int.tdiv x0_1 10)) == 0) = false := beq_eq_false_iff_ne.mpr c3
     have c3b1 : ((IntKind.u16.wrap (Int.tdiv x0_1 10)) != 0) = true := bne_iff_ne.mpr c3
     have H' := Aside0.mk H
     clear H
     have hcv5 := fun (W_ : World) => run_convert_int_string (P := Tryd.prog) W_ 21 9 .i32 (wrap32 (IntKind.u16.wrap (48 + (Int.tmod x0_1 10)))) (by rw [Tryd.underlying21]; rfl) Tryd.underlying9
     go_wp2
     go_roundg k1
     case measure => have := HK1.out; omega
     case rel => exact ⟨(IntKind.u16.wrap (Int.tdiv x0_1 10)), ((Utf8.encode (wrap32 (IntKind.u16.wrap (48 + (Int.tmod x0_1 10))))) ++ x3_1), (by first | rfl | (simp; done) | (simp [*]; done) | (simp [bne_nil_hyb]; done) | (simp [bne_nil_hyb, *]; done)), (by first | rfl | (simp; done) | (simp [*]; done) | (simp [bne_nil_hyb]; done) | (simp [bne_nil_hyb, *]; done)), H', ⟨by have := HK1.out; omega⟩, by repeat (first | exact Drawn0.refl _ | apply Drawn0.step)⟩
   ·rw [if_neg c2] at H
    exact absurd H (by simp)

/-! ### laws_want: function 11 -/
def laws_want.f (a0 : Int) (a1 : Int) : Option (Int) := if a0 < a1 then (some (-1)) else (if a0 > a1 then (some 1) else (some 0))
set_option maxHeartbeats 8000000 in
set_option maxRecDepth 100000 in
theorem laws_want.calls (a0 : Int) (a1 : Int) (r : Int) (w : World) (h : laws_want.f a0 a1 = some r) :
  Calls Tryd.prog 11 #[.int .u16 a0, .int .u16 a1] w fun e w' => e = .returned (.int .i64 r) ∧ Drawn0 w w' := by
 have H : (if a0 < a1 then (some (-1)) else (if a0 > a1 then (some 1) else (some 0))) = some r := h
 clear h
 by_cases c3 : a0 < a1
 ·rw [if_pos c3] at H
  have c3b0 : decide (a0 < a1) = true := decide_eq_true c3
  clear c3
  obtain rfl := Option.some.inj H
  go_enter Tryd.func11, Tryd.ntmps11
  go_wp2
  go_ret
  exact ⟨by first | rfl | (simp; done) | (simp [*]; done) | (simp [bne_nil_hyb]; done) | (simp [bne_nil_hyb, *]; done), by repeat (first | exact Drawn0.refl _ | apply Drawn0.step)⟩
 ·rw [if_neg c3] at H
  have c3b0 : decide (a0 < a1) = false := decide_eq_false c3
  clear c3
  by_cases c4 : a0 > a1
  ·rw [if_pos c4] at H
   have c4b0 : decide (a1 < a0) = true := decide_eq_true c4
   clear c4
   obtain rfl := Option.some.inj H
   go_enter Tryd.func11, Tryd.ntmps11
   go_wp2
   go_ret
   exact ⟨by first | rfl | (simp; done) | (simp [*]; done) | (simp [bne_nil_hyb]; done) | (simp [bne_nil_hyb, *]; done), by repeat (first | exact Drawn0.refl _ | apply Drawn0.step)⟩
  ·rw [if_neg c4] at H
   have c4b0 : decide (a1 < a0) = false := decide_eq_false c4
   clear c4
   obtain rfl := Option.some.inj H
   go_enter Tryd.func11, Tryd.ntmps11
   go_wp2
   go_ret
   exact ⟨by first | rfl | (simp; done) | (simp [*]; done) | (simp [bne_nil_hyb]; done) | (simp [bne_nil_hyb, *]; done), by repeat (first | exact Drawn0.refl _ | apply Drawn0.step)⟩

/-! ### laws_FnPackagistNumbers: function 3 -/
def laws_FnPackagistNumbers.j0 : Nat → ByteArray → Int → Int → Int → Bool → Option (Bool)
 | 0, _, _, _, _, _ => none
 | k + 1, x0, x1, x2, x3, x23 => if x23 = true then (some true) else ((some (([(⟨#[46]⟩ : ByteArray), (⟨#[45]⟩ : ByteArray), (⟨#[45, 100, 101, 118]⟩ : ByteArray), (⟨#[45, 97]⟩ : ByteArray), (⟨#[45, 98, 101, 116, 97]⟩ : ByteArray), (⟨#[45, 82, 67]⟩ : ByteArray), (⟨#[45, 112]⟩ : ByteArray)] : List ByteArray) : List ByteArray)).bind fun y180 => (if 0 ≤ (Int.tmod x3 7) then (if (Int.tmod x3 7) < (y180.length : Int) then (if x0.size + (rdOf ByteArray.empty y180 (Int.tmod x3 7)).size ≤ 9223372036854775807 then ((laws_decimal.f k x1).bind fun t184 => (if (x0 ++ (rdOf ByteArray.empty y180 (Int.tmod x3 7))).size + t184.size ≤ 9223372036854775807 then ((laws_decimal.f k x2).bind fun t185 => (if (x0 ++ (rdOf ByteArray.empty y180 (Int.tmod x3 7))).size + t185.size ≤ 9223372036854775807 then ((impl_PackagistCompareText.f k ((x0 ++ (rdOf ByteArray.empty y180 (Int.tmod x3 7))) ++ t184) ((x0 ++ (rdOf ByteArray.empty y180 (Int.tmod x3 7))) ++ t185)).bind fun bt186 => (if bt186.2 = true then ((laws_want.f x1 x2).bind fun t188 => (some (bt186.1 == t188))) else (some false))) else (none))) else (none))) else (none)) else (none)) else (none)))
def laws_FnPackagistNumbers.f (k : Nat) (a0 : ByteArray) (a1 : Int) (a2 : Int) (a3 : Int) : Option (Bool) := if (a0.size : Int) > 2147483647 then (some true) else ((laws_short.f k (([a0] : List ByteArray))).bind fun t178 => (if t178 = true then ((laws_numbered.f k a0 8).bind fun t179 => (laws_FnPackagistNumbers.j0 k a0 a1 a2 a3 (!t179))) else (laws_FnPackagistNumbers.j0 k a0 a1 a2 a3 true)))
theorem laws_FnPackagistNumbers.mono_l : ∀ k, (∀ y0 y1 y2 y3 y4, LeO (laws_FnPackagistNumbers.j0 k y0 y1 y2 y3 y4) (laws_FnPackagistNumbers.j0 (k + 1) y0 y1 y2 y3 y4))
 | 0 => fun _ _ _ _ _ r h => by simp [laws_FnPackagistNumbers.j0] at h
 | k + 1 => by
  have ih0 := laws_FnPackagistNumbers.mono_l k
  ·intro y0 y1 y2 y3 y4
   unfold laws_FnPackagistNumbers.j0
   repeat' first
   | (with_reducible exact ih0 _ _ _ _ _)
   | (with_reducible exact impl_PackagistCompareText.mono _ _ _)
   | (with_reducible exact laws_decimal.mono _ _)
   | (with_reducible exact laws_numbered.mono _ _ _)
   | (with_reducible exact laws_short.mono _ _)
   | (with_reducible exact LeO.refl _)
   | (with_reducible exact LeO.none _)
   | (with_reducible refine LeO.ite ?_ ?_)
   | (with_reducible refine LeO.bind ?_ (fun _ => ?_))
   | exact ih0 _ _ _ _ _
   | exact impl_PackagistCompareText.mono _ _ _
   | exact laws_decimal.mono _ _
   | exact laws_numbered.mono _ _ _
   | exact laws_short.mono _ _
   | exact LeO.none _
   | refine LeO.ite ?_ ?_
   | refine LeO.bind ?_ (fun _ => ?_)
theorem laws_FnPackagistNumbers.mono : ∀ a0 a1 a2 a3 k, LeO (laws_FnPackagistNumbers.f k a0 a1 a2 a3) (laws_FnPackagistNumbers.f (k + 1) a0 a1 a2 a3) := by
 intro a0 a1 a2 a3 k
 have ih0 := laws_FnPackagistNumbers.mono_l k
 unfold laws_FnPackagistNumbers.f
 repeat' first
   | (with_reducible exact ih0 _ _ _ _ _)
   | (with_reducible exact impl_PackagistCompareText.mono _ _ _)
   | (with_reducible exact laws_decimal.mono _ _)
   | (with_reducible exact laws_numbered.mono _ _ _)
   | (with_reducible exact laws_short.mono _ _)
   | (with_reducible exact LeO.refl _)
   | (with_reducible exact LeO.none _)
   | (with_reducible refine LeO.ite ?_ ?_)
   | (with_reducible refine LeO.bind ?_ (fun _ => ?_))
   | exact ih0 _ _ _ _ _
   | exact impl_PackagistCompareText.mono _ _ _
   | exact laws_decimal.mono _ _
   | exact laws_numbered.mono _ _ _
   | exact laws_short.mono _ _
   | exact LeO.none _
   | refine LeO.ite ?_ ?_
   | refine LeO.bind ?_ (fun _ => ?_)
set_option maxHeartbeats 8000000 in
set_option maxRecDepth 100000 in
theorem laws_FnPackagistNumbers.calls (k : Nat) (a0 : ByteArray) (a1 : Int) (a2 : Int) (a3 : Int) (r : Bool) (w : World) (h : laws_FnPackagistNumbers.f k a0 a1 a2 a3 = some r) (hG : GL w) :
  Calls Tryd.prog 3 #[.string a0, .int .u16 a1, .int .u16 a2, .int .u8 a3] w fun e w' => e = .returned (.bool r) ∧ Below w.heap.size w w' := by
 have HG := Aside0.mk hG
 clear hG
 have HB := Aside0.mk (Below.refl w.heap.size w)
 have H : (if (a0.size : Int) > 2147483647 then (some true) else ((laws_short.f k (([a0] : List ByteArray))).bind fun t178 => (if t178 = true then ((laws_numbered.f k a0 8).bind fun t179 => (laws_FnPackagistNumbers.j0 k a0 a1 a2 a3 (!t179))) else (laws_FnPackagistNumbers.j0 k a0 a1 a2 a3 true)))) = some r := h
 clear h
 by_cases c5 : (a0.size : Int) > 2147483647
 ·rw [if_pos c5] at H
  have c5b0 : decide (2147483647 < (a0.size : Int)) = true := decide_eq_true c5
  have c5b1 : decide (2147483647 < a0.size) = true := decide_eq_true (by omega)
  clear c5
  obtain rfl := Option.some.inj H
  go_enter Tryd.func3, Tryd.ntmps3
  go_wp2
  go_ret
  exact ⟨by first | rfl | (simp [errW_none, errW_some] <;> rfl) | (simp [*, errW_none, errW_some] <;> rfl) | (simp [bne_nil_hyb]; done), by repeat (first | (with_reducible first | exact HB.out | apply below_alloc | apply pw_below_drewN | apply below_drew1) | exact HB.out)⟩
 ·rw [if_neg c5] at H
  have c5b0 : decide (2147483647 < (a0.size : Int)) = false := decide_eq_false c5
  have c5b1 : decide (2147483647 < a0.size) = false := decide_eq_false (by omega)
  clear c5
  have HC6 := Aside0.mk H
  clear H
  go_enter Tryd.func3, Tryd.ntmps3
  go_upto_region 3 with (fail)
  go_cut [23] (fun v23 wc => ∃ (kq : Nat) (x23_5 : Bool), v23 = .bool x23_5 ∧ Aside0 (laws_FnPackagistNumbers.j0 kq a0 a1 a2 a3 x23_5 = some r) ∧ Aside0 (kq ≤ k) ∧ Aside0 (Below w.heap.size w wc))
  case first =>
   have H := HC6.out
   clear HC6
   obtain ⟨y175, hy175⟩ : ∃ y_ : List ByteArray, y_ = (([a0] : List ByteArray)) := ⟨_, rfl⟩
   replace H : ((laws_short.f k y175).bind fun t178 => (if t178 = true then ((laws_numbered.f k a0 8).bind fun t179 => (laws_FnPackagistNumbers.j0 k a0 a1 a2 a3 (!t179))) else (laws_FnPackagistNumbers.j0 k a0 a1 a2 a3 true))) = some r := by first | (rw [hy175]; with_reducible exact H) | (have H2_ := (Option.bind_some _ _).symm.trans H; rw [hy175]; with_reducible exact H2_) | (have H2_ := (Option.bind_some _ _).symm.trans H; with_reducible exact H2_) | with_reducible exact H | (rw [hy175]; exact H) | exact H
   have Ny175 := Aside0.mk hy175
   clear hy175
   replace H := Option.bind_eq_some_iff.mp H
   obtain ⟨t178, A70, H⟩ := H
   replace H : (if t178 = true then ((laws_numbered.f k a0 8).bind fun t179 => (laws_FnPackagistNumbers.j0 k a0 a1 a2 a3 (!t179))) else (laws_FnPackagistNumbers.j0 k a0 a1 a2 a3 true)) = some r := H
   have A7 := Aside0.mk A70
   clear A70
   by_cases c8 : t178 = true
   ·subst c8
    have H1 : ((laws_numbered.f k a0 8).bind fun t179 => (laws_FnPackagistNumbers.j0 k a0 a1 a2 a3 (!t179))) = some r := by rw [if_pos rfl] at H; exact H
    clear H
    have H := H1
    clear H1
    replace H := Option.bind_eq_some_iff.mp H
    obtain ⟨t179, A90, H⟩ := H
    replace H : (laws_FnPackagistNumbers.j0 k a0 a1 a2 a3 (!t179)) = some r := H
    have A9 := Aside0.mk A90
    clear A90
    have H' := Aside0.mk H
    clear H
    go_wp2_with (first | ((with_reducible refine gate_dst (N := 16) rfl ?_); refine Kd.R_lit Kd.string _ 9 ?hg (N := 16) ?hd (xs := ([a0] : List ByteArray)) (inner := [.string a0]) (ok := fun _ => True) (okp := fun _ => True) ?hr ?hp (fun _ hk => hk) trivial (Below.refl _ _) (Nat.le_refl _) (by simp) ?_; (case hd => rfl); (case hg => rfl); (case hr => first | (go_simp; done) | (go_simp; rfl)); (case hp => exact (Reps.one (show Kd.M Kd.string _ _ _ a0 [.string a0] from rfl) (Reps.none _ _))); intro v176 w10 ho11 hb hg_ hnew_; clear hg_ hnew_; (first | rw [← Ny175.out] at ho11 | (simp only [Int.reduceToNat] at ho11; rw [← Ny175.out] at ho11)); have n0_ := Aside0.mk (Kd.R_lower ho11 (below_size (by repeat (first | (with_reducible first | exact HB.out | apply below_alloc | apply pw_below_drewN | apply below_drew1) | exact HB.out)))); have n1_ := Aside0.mk (below_step (by repeat (first | (with_reducible first | exact HB.out | apply below_alloc | apply pw_below_drewN | apply below_drew1) | exact HB.out)) hb); clear HB; have HO177 := n0_; have HB := n1_; clear n0_ n1_; clear hb ho11; obtain ⟨Ao12, co12, eo12⟩ := Kd.R_slice HO177.out; subst eo12) | ((with_reducible refine gate_callee (f := 7) rfl ?_); refine goesL_ (some 17) rfl rfl Tryd.func7 (by kernel_rfl) rfl #[.slice Ao12 y175.length co12] rfl (by (try simp only [List.map_toArray, List.map_cons, List.map_nil]); first | done | rfl | (simp only [List.length_drop, List.length_take]; rfl)) ?_; (with_reducible refine (laws_short.calls k _ _ y175 true _ ?side1 ?side2 A7.out).mono ?_); (case side1 => repeat (first | exact (Kd.R_reads' HO177.out).2.2 | (with_reducible refine Kd.C_alloc ?_ _) | (with_reducible refine Kd.C_drewN ?_ _) | (with_reducible refine Kd.C_drew ?_))); (case side2 => exact (Kd.R_reads' HO177.out).2.1); rintro e w' ⟨rfl, ⟨nd, rfl⟩⟩; refine ⟨_, rfl, ?_⟩) | (go_at_call 8; (with_reducible refine (laws_numbered.calls k a0 8 t179 _ A9.out).mono ?_); rintro e w' ⟨rfl, ⟨nd, rfl⟩⟩))
    go_meet
    case rel => exact ⟨_, (!t179), (by first | rfl | (simp; done) | (simp [*]; done) | (simp [bne_nil_hyb]; done) | (simp [bne_nil_hyb, *]; done)), H', ⟨by first | omega | exact Nat.le_refl _⟩, ⟨by repeat (first | (with_reducible first | exact HB.out | apply below_alloc | apply pw_below_drewN | apply below_drew1) | exact HB.out)⟩⟩
   ·replace c8 := Bool.eq_false_iff.mpr c8
    subst c8
    have H1 : (laws_FnPackagistNumbers.j0 k a0 a1 a2 a3 true) = some r := by rw [if_neg (show ¬ (false = true) by decide)] at H; exact H
    clear H
    have H := H1
    clear H1
    have H' := Aside0.mk H
    clear H
    go_wp2_with (first | ((with_reducible refine gate_dst (N := 16) rfl ?_); refine Kd.R_lit Kd.string _ 9 ?hg (N := 16) ?hd (xs := ([a0] : List ByteArray)) (inner := [.string a0]) (ok := fun _ => True) (okp := fun _ => True) ?hr ?hp (fun _ hk => hk) trivial (Below.refl _ _) (Nat.le_refl _) (by simp) ?_; (case hd => rfl); (case hg => rfl); (case hr => first | (go_simp; done) | (go_simp; rfl)); (case hp => exact (Reps.one (show Kd.M Kd.string _ _ _ a0 [.string a0] from rfl) (Reps.none _ _))); intro v176 w13 ho14 hb hg_ hnew_; clear hg_ hnew_; (first | rw [← Ny175.out] at ho14 | (simp only [Int.reduceToNat] at ho14; rw [← Ny175.out] at ho14)); have n0_ := Aside0.mk (Kd.R_lower ho14 (below_size (by repeat (first | (with_reducible first | exact HB.out | apply below_alloc | apply pw_below_drewN | apply below_drew1) | exact HB.out)))); have n1_ := Aside0.mk (below_step (by repeat (first | (with_reducible first | exact HB.out | apply below_alloc | apply pw_below_drewN | apply below_drew1) | exact HB.out)) hb); clear HB; have HO177 := n0_; have HB := n1_; clear n0_ n1_; clear hb ho14; obtain ⟨Ao15, co15, eo15⟩ := Kd.R_slice HO177.out; subst eo15) | ((with_reducible refine gate_callee (f := 7) rfl ?_); refine goesL_ (some 17) rfl rfl Tryd.func7 (by kernel_rfl) rfl #[.slice Ao15 y175.length co15] rfl (by (try simp only [List.map_toArray, List.map_cons, List.map_nil]); first | done | rfl | (simp only [List.length_drop, List.length_take]; rfl)) ?_; (with_reducible refine (laws_short.calls k _ _ y175 false _ ?side1 ?side2 A7.out).mono ?_); (case side1 => repeat (first | exact (Kd.R_reads' HO177.out).2.2 | (with_reducible refine Kd.C_alloc ?_ _) | (with_reducible refine Kd.C_drewN ?_ _) | (with_reducible refine Kd.C_drew ?_))); (case side2 => exact (Kd.R_reads' HO177.out).2.1); rintro e w' ⟨rfl, ⟨nd, rfl⟩⟩; refine ⟨_, rfl, ?_⟩))
    go_meet
    case rel => exact ⟨_, (true), (by first | rfl | (simp; done) | (simp [*]; done) | (simp [bne_nil_hyb]; done) | (simp [bne_nil_hyb, *]; done)), H', ⟨by first | omega | exact Nat.le_refl _⟩, ⟨by repeat (first | (with_reducible first | exact HB.out | apply below_alloc | apply pw_below_drewN | apply below_drew1) | exact HB.out)⟩⟩
  case rest =>
   clear HC6
   try clear p2
   try clear c3
   try clear c5
   try clear c5b0
   try clear c5b1
   try clear c7
   try clear c8
   obtain ⟨kq, x23_5, rfl, HA, HJ5, HB⟩ := hcut
   cases kq with
   | zero => exact absurd HA.out (by simp [laws_FnPackagistNumbers.j0])
   | succ kj5 =>
    have H := HA.out
    clear HA
    simp only [laws_FnPackagistNumbers.j0] at H
    by_cases c16 : x23_5 = true
    ·subst c16
     have H1 : (some true) = some r := by rw [if_pos rfl] at H; exact H
     clear H
     have H := H1
     clear H1
     obtain rfl := Option.some.inj H
     go_wp2
     go_ret
     exact ⟨by first | rfl | (simp [errW_none, errW_some] <;> rfl) | (simp [*, errW_none, errW_some] <;> rfl) | (simp [bne_nil_hyb]; done), by repeat (first | (with_reducible first | exact HB.out | apply below_alloc | apply pw_below_drewN | apply below_drew1) | exact HB.out)⟩
    ·replace c16 := Bool.eq_false_iff.mpr c16
     subst c16
     have H1 : ((some (([(⟨#[46]⟩ : ByteArray), (⟨#[45]⟩ : ByteArray), (⟨#[45, 100, 101, 118]⟩ : ByteArray), (⟨#[45, 97]⟩ : ByteArray), (⟨#[45, 98, 101, 116, 97]⟩ : ByteArray), (⟨#[45, 82, 67]⟩ : ByteArray), (⟨#[45, 112]⟩ : ByteArray)] : List ByteArray) : List ByteArray)).bind fun y180 => (if 0 ≤ (Int.tmod a3 7) then (if (Int.tmod a3 7) < (y180.length : Int) then (if a0.size + (rdOf ByteArray.empty y180 (Int.tmod a3 7)).size ≤ 9223372036854775807 then ((laws_decimal.f kj5 a1).bind fun t184 => (if (a0 ++ (rdOf ByteArray.empty y180 (Int.tmod a3 7))).size + t184.size ≤ 9223372036854775807 then ((laws_decimal.f kj5 a2).bind fun t185 => (if (a0 ++ (rdOf ByteArray.empty y180 (Int.tmod a3 7))).size + t185.size ≤ 9223372036854775807 then ((impl_PackagistCompareText.f kj5 ((a0 ++ (rdOf ByteArray.empty y180 (Int.tmod a3 7))) ++ t184) ((a0 ++ (rdOf ByteArray.empty y180 (Int.tmod a3 7))) ++ t185)).bind fun bt186 => (if bt186.2 = true then ((laws_want.f a1 a2).bind fun t188 => (some (bt186.1 == t188))) else (some false))) else (none))) else (none))) else (none)) else (none)) else (none))) = some r := by rw [if_neg (show ¬ (false = true) by decide)] at H; exact H
     clear H
     have H := H1
     clear H1
     obtain ⟨y180, hy180⟩ : ∃ y_ : List ByteArray, y_ = (([(⟨#[46]⟩ : ByteArray), (⟨#[45]⟩ : ByteArray), (⟨#[45, 100, 101, 118]⟩ : ByteArray), (⟨#[45, 97]⟩ : ByteArray), (⟨#[45, 98, 101, 116, 97]⟩ : ByteArray), (⟨#[45, 82, 67]⟩ : ByteArray), (⟨#[45, 112]⟩ : ByteArray)] : List ByteArray)) := ⟨_, rfl⟩
     replace H : (if 0 ≤ (Int.tmod a3 7) then (if (Int.tmod a3 7) < (y180.length : Int) then (if a0.size + (rdOf ByteArray.empty y180 (Int.tmod a3 7)).size ≤ 9223372036854775807 then ((laws_decimal.f kj5 a1).bind fun t184 => (if (a0 ++ (rdOf ByteArray.empty y180 (Int.tmod a3 7))).size + t184.size ≤ 9223372036854775807 then ((laws_decimal.f kj5 a2).bind fun t185 => (if (a0 ++ (rdOf ByteArray.empty y180 (Int.tmod a3 7))).size + t185.size ≤ 9223372036854775807 then ((impl_PackagistCompareText.f kj5 ((a0 ++ (rdOf ByteArray.empty y180 (Int.tmod a3 7))) ++ t184) ((a0 ++ (rdOf ByteArray.empty y180 (Int.tmod a3 7))) ++ t185)).bind fun bt186 => (if bt186.2 = true then ((laws_want.f a1 a2).bind fun t188 => (some (bt186.1 == t188))) else (some false))) else (none))) else (none))) else (none)) else (none)) else (none)) = some r := by first | (rw [hy180]; with_reducible exact H) | (have H2_ := (Option.bind_some _ _).symm.trans H; rw [hy180]; with_reducible exact H2_) | (have H2_ := (Option.bind_some _ _).symm.trans H; with_reducible exact H2_) | with_reducible exact H | (rw [hy180]; exact H) | exact H
     have Ny180 := Aside0.mk hy180
     clear hy180
     obtain ⟨ji17, hji17⟩ : ∃ j_ : Int, (Int.tmod a3 7) = j_ := ⟨_, rfl⟩
     replace H : (if 0 ≤ (ji17) then (if (ji17) < (y180.length : Int) then (if a0.size + (rdOf ByteArray.empty y180 (ji17)).size ≤ 9223372036854775807 then ((laws_decimal.f kj5 a1).bind fun t184 => (if (a0 ++ (rdOf ByteArray.empty y180 (ji17))).size + t184.size ≤ 9223372036854775807 then ((laws_decimal.f kj5 a2).bind fun t185 => (if (a0 ++ (rdOf ByteArray.empty y180 (ji17))).size + t185.size ≤ 9223372036854775807 then ((impl_PackagistCompareText.f kj5 ((a0 ++ (rdOf ByteArray.empty y180 (ji17))) ++ t184) ((a0 ++ (rdOf ByteArray.empty y180 (ji17))) ++ t185)).bind fun bt186 => (if bt186.2 = true then ((laws_want.f a1 a2).bind fun t188 => (some (bt186.1 == t188))) else (some false))) else (none))) else (none))) else (none)) else (none)) else (none)) = some r := by first | (rw [hji17] at H; exact H) | (simp only [hji17] at H ⊢; exact H)
     by_cases c18 : 0 ≤ (ji17)
     ·rw [if_pos c18] at H
      have c18b0 : decide (0 ≤ (ji17)) = true := decide_eq_true c18
      clear c18
      by_cases c19 : (ji17) < (y180.length : Int)
      ·rw [if_pos c19] at H
       have c19b0 : decide ((ji17) < (y180.length : Int)) = true := decide_eq_true c19
       clear c19
       by_cases c20 : a0.size + (rdOf ByteArray.empty y180 (ji17)).size ≤ 9223372036854775807
       ·rw [if_pos c20] at H
        have c20b0 := eq_true c20
        have c20b1 : decide (a0.size + (rdOf ByteArray.empty y180 (ji17)).size ≤ 9223372036854775807) = true := decide_eq_true c20
        try have c20b2 : (9223372036854775807 < a0.size + (rdOf ByteArray.empty y180 (ji17)).size) = False := eq_false (Nat.not_lt.2 c20)
        replace H := Option.bind_eq_some_iff.mp H
        obtain ⟨t184, A210, H⟩ := H
        replace H : (if (a0 ++ (rdOf ByteArray.empty y180 (ji17))).size + t184.size ≤ 9223372036854775807 then ((laws_decimal.f kj5 a2).bind fun t185 => (if (a0 ++ (rdOf ByteArray.empty y180 (ji17))).size + t185.size ≤ 9223372036854775807 then ((impl_PackagistCompareText.f kj5 ((a0 ++ (rdOf ByteArray.empty y180 (ji17))) ++ t184) ((a0 ++ (rdOf ByteArray.empty y180 (ji17))) ++ t185)).bind fun bt186 => (if bt186.2 = true then ((laws_want.f a1 a2).bind fun t188 => (some (bt186.1 == t188))) else (some false))) else (none))) else (none)) = some r := H
        have A21 := Aside0.mk A210
        clear A210
        by_cases c22 : (a0 ++ (rdOf ByteArray.empty y180 (ji17))).size + t184.size ≤ 9223372036854775807
        ·rw [if_pos c22] at H
         have c22b0 := eq_true c22
         have c22b1 : decide ((a0 ++ (rdOf ByteArray.empty y180 (ji17))).size + t184.size ≤ 9223372036854775807) = true := decide_eq_true c22
         try have c22b2 : (9223372036854775807 < (a0 ++ (rdOf ByteArray.empty y180 (ji17))).size + t184.size) = False := eq_false (Nat.not_lt.2 c22)
         try have c22b3 : (9223372036854775807 < a0.size + (rdOf ByteArray.empty y180 (ji17)).size + t184.size) = False := eq_false (by have h_ := c22; simp only [ByteArray.size_append] at h_; omega)
         try have c22b4 : (a0.size + (rdOf ByteArray.empty y180 (ji17)).size + t184.size ≤ 9223372036854775807) = True := eq_true (by have h_ := c22; simp only [ByteArray.size_append] at h_; omega)
         replace H := Option.bind_eq_some_iff.mp H
         obtain ⟨t185, A230, H⟩ := H
         replace H : (if (a0 ++ (rdOf ByteArray.empty y180 (ji17))).size + t185.size ≤ 9223372036854775807 then ((impl_PackagistCompareText.f kj5 ((a0 ++ (rdOf ByteArray.empty y180 (ji17))) ++ t184) ((a0 ++ (rdOf ByteArray.empty y180 (ji17))) ++ t185)).bind fun bt186 => (if bt186.2 = true then ((laws_want.f a1 a2).bind fun t188 => (some (bt186.1 == t188))) else (some false))) else (none)) = some r := H
         have A23 := Aside0.mk A230
         clear A230
         by_cases c24 : (a0 ++ (rdOf ByteArray.empty y180 (ji17))).size + t185.size ≤ 9223372036854775807
         ·rw [if_pos c24] at H
          have c24b0 := eq_true c24
          have c24b1 : decide ((a0 ++ (rdOf ByteArray.empty y180 (ji17))).size + t185.size ≤ 9223372036854775807) = true := decide_eq_true c24
          try have c24b2 : (9223372036854775807 < (a0 ++ (rdOf ByteArray.empty y180 (ji17))).size + t185.size) = False := eq_false (Nat.not_lt.2 c24)
          try have c24b3 : (9223372036854775807 < a0.size + (rdOf ByteArray.empty y180 (ji17)).size + t185.size) = False := eq_false (by have h_ := c24; simp only [ByteArray.size_append] at h_; omega)
          try have c24b4 : (a0.size + (rdOf ByteArray.empty y180 (ji17)).size + t185.size ≤ 9223372036854775807) = True := eq_true (by have h_ := c24; simp only [ByteArray.size_append] at h_; omega)
          replace H := Option.bind_eq_some_iff.mp H
          obtain ⟨⟨t186, t187⟩, A250, H⟩ := H
          replace H : (if t187 = true then ((laws_want.f a1 a2).bind fun t188 => (some (t186 == t188))) else (some false)) = some r := H
          have A25 := Aside0.mk A250
          clear A250
          by_cases c26 : t187 = true
          ·subst c26
           have H1 : ((laws_want.f a1 a2).bind fun t188 => (some (t186 == t188))) = some r := by rw [if_pos rfl] at H; exact H
           clear H
           have H := H1
           clear H1
           replace H := Option.bind_eq_some_iff.mp H
           obtain ⟨t188, A270, H⟩ := H
           replace H : (some (t186 == t188)) = some r := H
           have A27 := Aside0.mk A270
           clear A270
           obtain rfl := Option.some.inj H
           go_wp2_with (first | ((with_reducible refine gate_dst (N := 24) rfl ?_); refine Kd.R_lit Kd.string _ 9 ?hg (N := 24) ?hd (xs := ([(⟨#[46]⟩ : ByteArray), (⟨#[45]⟩ : ByteArray), (⟨#[45, 100, 101, 118]⟩ : ByteArray), (⟨#[45, 97]⟩ : ByteArray), (⟨#[45, 98, 101, 116, 97]⟩ : ByteArray), (⟨#[45, 82, 67]⟩ : ByteArray), (⟨#[45, 112]⟩ : ByteArray)] : List ByteArray)) (inner := [.string (⟨#[46]⟩ : ByteArray), .string (⟨#[45]⟩ : ByteArray), .string (⟨#[45, 100, 101, 118]⟩ : ByteArray), .string (⟨#[45, 97]⟩ : ByteArray), .string (⟨#[45, 98, 101, 116, 97]⟩ : ByteArray), .string (⟨#[45, 82, 67]⟩ : ByteArray), .string (⟨#[45, 112]⟩ : ByteArray)]) (ok := fun _ => True) (okp := fun _ => True) ?hr ?hp (fun _ hk => hk) trivial (Below.refl _ _) (Nat.le_refl _) (by simp) ?_; (case hd => rfl); (case hg => rfl); (case hr => first | (go_simp; done) | (go_simp; rfl)); (case hp => exact (Reps.one (show Kd.M Kd.string _ _ _ (⟨#[46]⟩ : ByteArray) [.string (⟨#[46]⟩ : ByteArray)] from rfl) (Reps.one (show Kd.M Kd.string _ _ _ (⟨#[45]⟩ : ByteArray) [.string (⟨#[45]⟩ : ByteArray)] from rfl) (Reps.one (show Kd.M Kd.string _ _ _ (⟨#[45, 100, 101, 118]⟩ : ByteArray) [.string (⟨#[45, 100, 101, 118]⟩ : ByteArray)] from rfl) (Reps.one (show Kd.M Kd.string _ _ _ (⟨#[45, 97]⟩ : ByteArray) [.string (⟨#[45, 97]⟩ : ByteArray)] from rfl) (Reps.one (show Kd.M Kd.string _ _ _ (⟨#[45, 98, 101, 116, 97]⟩ : ByteArray) [.string (⟨#[45, 98, 101, 116, 97]⟩ : ByteArray)] from rfl) (Reps.one (show Kd.M Kd.string _ _ _ (⟨#[45, 82, 67]⟩ : ByteArray) [.string (⟨#[45, 82, 67]⟩ : ByteArray)] from rfl) (Reps.one (show Kd.M Kd.string _ _ _ (⟨#[45, 112]⟩ : ByteArray) [.string (⟨#[45, 112]⟩ : ByteArray)] from rfl) (Reps.none _ _))))))))); intro v181 w28 ho29 hb hg_ hnew_; clear hg_ hnew_; (first | rw [← Ny180.out] at ho29 | (simp only [Int.reduceToNat] at ho29; rw [← Ny180.out] at ho29)); have n0_ := Aside0.mk (Kd.R_lower ho29 (below_size (by repeat (first | (with_reducible first | exact HB.out | apply below_alloc | apply pw_below_drewN | apply below_drew1) | exact HB.out)))); have n1_ := Aside0.mk (below_step (by repeat (first | (with_reducible first | exact HB.out | apply below_alloc | apply pw_below_drewN | apply below_drew1) | exact HB.out)) hb); clear HB; have HO182 := n0_; have HB := n1_; clear n0_ n1_; clear hb ho29; obtain ⟨Ao30, co30, eo30⟩ := Kd.R_slice HO182.out; subst eo30; have p183 : 0 ≤ ((ji17) : Int) := of_decide_eq_true (by first | (with_reducible assumption) | assumption); have q183 : (ji17) < (y180.length : Int) := of_decide_eq_true (by first | (with_reducible assumption) | assumption); obtain ⟨ad183, e183, hx183_0⟩ := Kd.at_string (Kd.R_reads' HO182.out).2.2 (ji17) p183 q183; cases e183; replace p183 := eq_true p183; replace q183 := eq_true q183) | ((with_reducible refine gate_callee (f := 10) rfl ?_); refine goesL_ (some 34) rfl rfl Tryd.func10 (by kernel_rfl) rfl #[.int .u16 a1] rfl (by (try simp only [List.map_toArray, List.map_cons, List.map_nil]); first | done | rfl | (simp only [List.length_drop, List.length_take]; rfl)) ?_; (with_reducible refine (laws_decimal.calls kj5 a1 t184 _ A21.out).mono ?_); rintro e w' ⟨rfl, ⟨nd, rfl⟩⟩; refine ⟨_, rfl, ?_⟩) | ((with_reducible refine gate_callee (f := 10) rfl ?_); refine goesL_ (some 40) rfl rfl Tryd.func10 (by kernel_rfl) rfl #[.int .u16 a2] rfl (by (try simp only [List.map_toArray, List.map_cons, List.map_nil]); first | done | rfl | (simp only [List.length_drop, List.length_take]; rfl)) ?_; (with_reducible refine (laws_decimal.calls kj5 a2 t185 _ A23.out).mono ?_); rintro e w' ⟨rfl, ⟨nd, rfl⟩⟩; refine ⟨_, rfl, ?_⟩) | ((with_reducible refine gate_callee (f := 9) rfl ?_); refine goesL_ (some 42) rfl rfl Tryd.func9 (by kernel_rfl) rfl #[.string ((a0 ++ (rdOf ByteArray.empty y180 (ji17))) ++ t184), .string ((a0 ++ (rdOf ByteArray.empty y180 (ji17))) ++ t185)] rfl (by (try simp only [List.map_toArray, List.map_cons, List.map_nil]); first | done | (simp only [hji17]; rfl) | rfl | (simp only [List.length_drop, List.length_take]; rfl)) ?_; (with_reducible refine (impl_PackagistCompareText.calls kj5 ((a0 ++ (rdOf ByteArray.empty y180 (ji17))) ++ t184) ((a0 ++ (rdOf ByteArray.empty y180 (ji17))) ++ t185) t186 true _ A25.out (by first | exact GL.at HG.out (by repeat (first | (with_reducible first | exact HB.out | apply below_alloc | apply pw_below_drewN | apply below_drew1) | exact HB.out)) | exact HG.out)).mono ?_); rintro e w31 ⟨rfl, hb⟩; refine ⟨_, rfl, ?_⟩; have n0_ := Aside0.mk (Kd.R_below (by (with_reducible repeat (first | apply Kd.R_alloc | apply Kd.R_drewN | apply Kd.R_drew)); exact HO182.out) hb); have n1_ := Aside0.mk (below_step (by repeat (first | (with_reducible first | exact HB.out | apply below_alloc | apply pw_below_drewN | apply below_drew1) | exact HB.out)) hb); clear HO182; clear HB; have HO182 := n0_; have HB := n1_; clear n0_ n1_; (try clear hb); (try clear hb2); (try clear hk); (try clear hi)) | (go_at_call 11; (with_reducible refine (laws_want.calls a1 a2 t188 _ A27.out).mono ?_); rintro e w' ⟨rfl, ⟨nd, rfl⟩⟩))
           go_ret
           exact ⟨by first | rfl | (simp [errW_none, errW_some] <;> rfl) | (simp only [← hji17]; first | rfl | (simp [errW_none, errW_some] <;> rfl)) | (simp [*, errW_none, errW_some] <;> rfl) | (simp [bne_nil_hyb]; done), by repeat (first | (with_reducible first | exact HB.out | apply below_alloc | apply pw_below_drewN | apply below_drew1) | exact HB.out)⟩
          ·replace c26 := Bool.eq_false_iff.mpr c26
           subst c26
           have H1 : (some false) = some r := by rw [if_neg (show ¬ (false = true) by decide)] at H; exact H
           clear H
           have H := H1
           clear H1
           obtain rfl := Option.some.inj H
           go_wp2_with (first | ((with_reducible refine gate_dst (N := 24) rfl ?_); refine Kd.R_lit Kd.string _ 9 ?hg (N := 24) ?hd (xs := ([(⟨#[46]⟩ : ByteArray), (⟨#[45]⟩ : ByteArray), (⟨#[45, 100, 101, 118]⟩ : ByteArray), (⟨#[45, 97]⟩ : ByteArray), (⟨#[45, 98, 101, 116, 97]⟩ : ByteArray), (⟨#[45, 82, 67]⟩ : ByteArray), (⟨#[45, 112]⟩ : ByteArray)] : List ByteArray)) (inner := [.string (⟨#[46]⟩ : ByteArray), .string (⟨#[45]⟩ : ByteArray), .string (⟨#[45, 100, 101, 118]⟩ : ByteArray), .string (⟨#[45, 97]⟩ : ByteArray), .string (⟨#[45, 98, 101, 116, 97]⟩ : ByteArray), .string (⟨#[45, 82, 67]⟩ : ByteArray), .string (⟨#[45, 112]⟩ : ByteArray)]) (ok := fun _ => True) (okp := fun _ => True) ?hr ?hp (fun _ hk => hk) trivial (Below.refl _ _) (Nat.le_refl _) (by simp) ?_; (case hd => rfl); (case hg => rfl); (case hr => first | (go_simp; done) | (go_simp; rfl)); (case hp => exact (Reps.one (show Kd.M Kd.string _ _ _ (⟨#[46]⟩ : ByteArray) [.string (⟨#[46]⟩ : ByteArray)] from rfl) (Reps.one (show Kd.M Kd.string _ _ _ (⟨#[45]⟩ : ByteArray) [.string (⟨#[45]⟩ : ByteArray)] from rfl) (Reps.one (show Kd.M Kd.string _ _ _ (⟨#[45, 100, 101, 118]⟩ : ByteArray) [.string (⟨#[45, 100, 101, 118]⟩ : ByteArray)] from rfl) (Reps.one (show Kd.M Kd.string _ _ _ (⟨#[45, 97]⟩ : ByteArray) [.string (⟨#[45, 97]⟩ : ByteArray)] from rfl) (Reps.one (show Kd.M Kd.string _ _ _ (⟨#[45, 98, 101, 116, 97]⟩ : ByteArray) [.string (⟨#[45, 98, 101, 116, 97]⟩ : ByteArray)] from rfl) (Reps.one (show Kd.M Kd.string _ _ _ (⟨#[45, 82, 67]⟩ : ByteArray) [.string (⟨#[45, 82, 67]⟩ : ByteArray)] from rfl) (Reps.one (show Kd.M Kd.string _ _ _ (⟨#[45, 112]⟩ : ByteArray) [.string (⟨#[45, 112]⟩ : ByteArray)] from rfl) (Reps.none _ _))))))))); intro v181 w32 ho33 hb hg_ hnew_; clear hg_ hnew_; (first | rw [← Ny180.out] at ho33 | (simp only [Int.reduceToNat] at ho33; rw [← Ny180.out] at ho33)); have n0_ := Aside0.mk (Kd.R_lower ho33 (below_size (by repeat (first | (with_reducible first | exact HB.out | apply below_alloc | apply pw_below_drewN | apply below_drew1) | exact HB.out)))); have n1_ := Aside0.mk (below_step (by repeat (first | (with_reducible first | exact HB.out | apply below_alloc | apply pw_below_drewN | apply below_drew1) | exact HB.out)) hb); clear HB; have HO182 := n0_; have HB := n1_; clear n0_ n1_; clear hb ho33; obtain ⟨Ao34, co34, eo34⟩ := Kd.R_slice HO182.out; subst eo34; have p183 : 0 ≤ ((ji17) : Int) := of_decide_eq_true (by first | (with_reducible assumption) | assumption); have q183 : (ji17) < (y180.length : Int) := of_decide_eq_true (by first | (with_reducible assumption) | assumption); obtain ⟨ad183, e183, hx183_0⟩ := Kd.at_string (Kd.R_reads' HO182.out).2.2 (ji17) p183 q183; cases e183; replace p183 := eq_true p183; replace q183 := eq_true q183) | ((with_reducible refine gate_callee (f := 10) rfl ?_); refine goesL_ (some 34) rfl rfl Tryd.func10 (by kernel_rfl) rfl #[.int .u16 a1] rfl (by (try simp only [List.map_toArray, List.map_cons, List.map_nil]); first | done | rfl | (simp only [List.length_drop, List.length_take]; rfl)) ?_; (with_reducible refine (laws_decimal.calls kj5 a1 t184 _ A21.out).mono ?_); rintro e w' ⟨rfl, ⟨nd, rfl⟩⟩; refine ⟨_, rfl, ?_⟩) | ((with_reducible refine gate_callee (f := 10) rfl ?_); refine goesL_ (some 40) rfl rfl Tryd.func10 (by kernel_rfl) rfl #[.int .u16 a2] rfl (by (try simp only [List.map_toArray, List.map_cons, List.map_nil]); first | done | rfl | (simp only [List.length_drop, List.length_take]; rfl)) ?_; (with_reducible refine (laws_decimal.calls kj5 a2 t185 _ A23.out).mono ?_); rintro e w' ⟨rfl, ⟨nd, rfl⟩⟩; refine ⟨_, rfl, ?_⟩) | ((with_reducible refine gate_callee (f := 9) rfl ?_); refine goesL_ (some 42) rfl rfl Tryd.func9 (by kernel_rfl) rfl #[.string ((a0 ++ (rdOf ByteArray.empty y180 (ji17))) ++ t184), .string ((a0 ++ (rdOf ByteArray.empty y180 (ji17))) ++ t185)] rfl (by (try simp only [List.map_toArray, List.map_cons, List.map_nil]); first | done | (simp only [hji17]; rfl) | rfl | (simp only [List.length_drop, List.length_take]; rfl)) ?_; (with_reducible refine (impl_PackagistCompareText.calls kj5 ((a0 ++ (rdOf ByteArray.empty y180 (ji17))) ++ t184) ((a0 ++ (rdOf ByteArray.empty y180 (ji17))) ++ t185) t186 false _ A25.out (by first | exact GL.at HG.out (by repeat (first | (with_reducible first | exact HB.out | apply below_alloc | apply pw_below_drewN | apply below_drew1) | exact HB.out)) | exact HG.out)).mono ?_); rintro e w35 ⟨rfl, hb⟩; refine ⟨_, rfl, ?_⟩; have n0_ := Aside0.mk (Kd.R_below (by (with_reducible repeat (first | apply Kd.R_alloc | apply Kd.R_drewN | apply Kd.R_drew)); exact HO182.out) hb); have n1_ := Aside0.mk (below_step (by repeat (first | (with_reducible first | exact HB.out | apply below_alloc | apply pw_below_drewN | apply below_drew1) | exact HB.out)) hb); clear HO182; clear HB; have HO182 := n0_; have HB := n1_; clear n0_ n1_; (try clear hb); (try clear hb2); (try clear hk); (try clear hi)))
           go_ret
           exact ⟨by first | rfl | (simp [errW_none, errW_some] <;> rfl) | (simp only [← hji17]; first | rfl | (simp [errW_none, errW_some] <;> rfl)) | (simp [*, errW_none, errW_some] <;> rfl) | (simp [bne_nil_hyb]; done), by repeat (first | (with_reducible first | exact HB.out | apply below_alloc | apply pw_below_drewN | apply below_drew1) | exact HB.out)⟩
         ·rw [if_neg c24] at H
          exact absurd H (by simp)
        ·rw [if_neg c22] at H
         exact absurd H (by simp)
       ·rw [if_neg c20] at H
        exact absurd H (by simp)
      ·rw [if_neg c19] at H
       exact absurd H (by simp)
     ·rw [if_neg c18] at H
      exact absurd H (by simp)

/-- THE ONE PURE STATEMENT of laws_FnPackagistNumbers: yours. -/
def laws_FnPackagistNumbers.Pure : Prop := ∀ (a0 : ByteArray) (a1 : Int) (a2 : Int) (a3 : Int), a0.size ≤ 140737488351232 → (Lit.int .u16 a1).wf = true → (Lit.int .u16 a2).wf = true → (Lit.int .u8 a3).wf = true → ∃ k, laws_FnPackagistNumbers.f k a0 a1 a2 a3 = some true
theorem laws_FnPackagistNumbers.walk (P : laws_FnPackagistNumbers.Pure) (a0 : ByteArray) (a1 : Int) (a2 : Int) (a3 : Int) (w : World) (w0 : a0.size ≤ 140737488351232) (w1 : (Lit.int .u16 a1).wf = true) (w2 : (Lit.int .u16 a2).wf = true) (w3 : (Lit.int .u8 a3).wf = true) (hG : GL w) :
  Calls Tryd.prog 3 #[.string a0, .int .u16 a1, .int .u16 a2, .int .u8 a3] w fun e w' => e = .returned (.bool true) ∧ Below w.heap.size w w' := by
 obtain ⟨k, h⟩ := P a0 a1 a2 a3 w0 w1 w2 w3
 refine (laws_FnPackagistNumbers.calls k a0 a1 a2 a3 true w h hG).mono ?_
 rintro e w' ⟨rfl, hd⟩
 exact ⟨rfl, hd⟩

end Go.Proofs.YtdjkekgfeadmoaaDoor.Q
