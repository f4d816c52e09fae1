/- Proved here: each Go function that is named in this text, called as its theorem 'calls' says, returns what its Lean function 'f' tells, and of the memory that was there nothing is changed (a row of a law: the law returns true). Conditions: those that stand in each theorem; where 'f' tells none, nothing is said. Laid by a program of this seat's prover out of the translation; Lean checks it. -/
import Derived.Test.YtdjkekgfeadmoaaDoorQx0
import Derived.Test.YtdjkekgfeadmoaaDoorQx1
import Derived.Test.YtdjkekgfeadmoaaDoorQx3
import Derived.Test.YtdjkekgfeadmoaaDoorQx5
import Derived.Test.YtdjkekgfeadmoaaDoorQx6
namespace Go.Proofs.YtdjkekgfeadmoaaDoor.Q
open Go.RowKit Go.Proofs.YtdjkekgfeadmoaaDoorH Go.Proofs.YtdjkekgfeadmoaaDoorG Go.Proofs.YtdjkekgfeadmoaaDoorW.PrintWords Go.Proofs.YtdjkekgfeadmoaaDoorW.PrintLast Go.Proofs.YtdjkekgfeadmoaaDoorW.PrintMore
attribute [local go_sem] max2_int min2_int max_two min_two max_three min_three max_four min_four   -- for this text's walks alone
set_option linter.unusedVariables false
set_option linter.unusedSimpArgs false

/-! ### laws_FnPackagistMarks: function 5 -/
mutual
def laws_FnPackagistMarks.j0 : Nat → List ByteArray → List Int → Bool → Option (Bool)
 | 0, _, _, _ => none
 | k + 1, x0, x1, x21 => if x21 = true then (some true) else (if (x0.length : Int) = 0 then (laws_FnPackagistMarks.j1 k x0 x1 true) else ((laws_short.f k x0).bind fun t228 => (laws_FnPackagistMarks.j1 k x0 x1 (!t228))))
def laws_FnPackagistMarks.j1 : Nat → List ByteArray → List Int → Bool → Option (Bool)
 | 0, _, _, _ => none
 | k + 1, x0, x1, x29 => if x29 = true then (some true) else (laws_FnPackagistMarks.l0 k x0 x1 (⟨#[]⟩ : ByteArray) (⟨#[]⟩ : ByteArray) x0 (x0.length : Int) 0)
def laws_FnPackagistMarks.l0 : Nat → List ByteArray → List Int → ByteArray → ByteArray → List ByteArray → Int → Int → Option (Bool)
 | 0, _, _, _, _, _, _, _ => none
 | k + 1, x0, x1, x5, x6, x30, x31, x32 => if x32 < x31 then (if 0 ≤ x32 then (if x32 < (x30.length : Int) then ((laws_words.f k (rdOf ByteArray.empty x30 x32)).bind fun t230 => (if t230 = true then (if x32 = 0 then (if 0 < ((rdOf ByteArray.empty x30 x32).size : Int) then (if (bt (rdOf ByteArray.empty x30 x32) 0) = 118 then (laws_FnPackagistMarks.j3 k x0 x1 x5 x6 x32 (rdOf ByteArray.empty x30 x32) x30 x31 x32 true) else (laws_FnPackagistMarks.j3 k x0 x1 x5 x6 x32 (rdOf ByteArray.empty x30 x32) x30 x31 x32 ((bt (rdOf ByteArray.empty x30 x32) 0) == 86))) else (none)) else (laws_FnPackagistMarks.j3 k x0 x1 x5 x6 x32 (rdOf ByteArray.empty x30 x32) x30 x31 x32 false)) else ((laws_digits.f k (rdOf ByteArray.empty x30 x32)).bind fun t231 => (if t231 = true then (if x32 = 0 then (if 0 < ((rdOf ByteArray.empty x30 x32).size : Int) then (if (bt (rdOf ByteArray.empty x30 x32) 0) = 118 then (laws_FnPackagistMarks.j3 k x0 x1 x5 x6 x32 (rdOf ByteArray.empty x30 x32) x30 x31 x32 true) else (laws_FnPackagistMarks.j3 k x0 x1 x5 x6 x32 (rdOf ByteArray.empty x30 x32) x30 x31 x32 ((bt (rdOf ByteArray.empty x30 x32) 0) == 86))) else (none)) else (laws_FnPackagistMarks.j3 k x0 x1 x5 x6 x32 (rdOf ByteArray.empty x30 x32) x30 x31 x32 false)) else (laws_FnPackagistMarks.j3 k x0 x1 x5 x6 x32 (rdOf ByteArray.empty x30 x32) x30 x31 x32 true))))) else (none)) else (none)) else ((spec_PackagistKnown.f k x0).bind fun t237 => (if t237 = true then ((impl_PackagistCompareText.f k x5 x6).bind fun bt238 => (if 1 + x6.size ≤ 9223372036854775807 then ((impl_PackagistCompareText.f k ((⟨#[118]⟩ : ByteArray) ++ x6) x5).bind fun bt240 => (if bt238.2 = true then (if bt240.2 = true then (if bt238.1 = 0 then (if bt240.1 = 0 then ((impl_PackagistParse.f k x6).bind fun t242 => ((laws_texts.f k t242 x0).bind fun t245 => (some t245))) else (some false)) else (some false)) else (some false)) else (some false))) else (none))) else (some true)))
def laws_FnPackagistMarks.j3 : Nat → List ByteArray → List Int → ByteArray → ByteArray → Int → ByteArray → List ByteArray → Int → Int → Bool → Option (Bool)
 | 0, _, _, _, _, _, _, _, _, _, _ => none
 | k + 1, x0, x1, x5, x6, x7, x8, x30, x31, x32, x58 => if x58 = true then (some true) else (if x7 > 0 then (if x7 < (x1.length : Int) then ((some (([(⟨#[46]⟩ : ByteArray), (⟨#[45]⟩ : ByteArray), (⟨#[95]⟩ : ByteArray), (⟨#[43]⟩ : ByteArray)] : List ByteArray) : List ByteArray)).bind fun y232 => (if 0 ≤ x7 then (if 0 ≤ (Int.tmod (rd x1 x7) 4) then (if (Int.tmod (rd x1 x7) 4) < (y232.length : Int) then (if x5.size + 1 ≤ 9223372036854775807 then (if x6.size + (rdOf ByteArray.empty y232 (Int.tmod (rd x1 x7) 4)).size ≤ 9223372036854775807 then (if (x5 ++ (⟨#[46]⟩ : ByteArray)).size + x8.size ≤ 9223372036854775807 then (if (x6 ++ (rdOf ByteArray.empty y232 (Int.tmod (rd x1 x7) 4))).size + x8.size ≤ 9223372036854775807 then (laws_FnPackagistMarks.l0 k x0 x1 ((x5 ++ (⟨#[46]⟩ : ByteArray)) ++ x8) ((x6 ++ (rdOf ByteArray.empty y232 (Int.tmod (rd x1 x7) 4))) ++ x8) x30 x31 (wrap64 (x32 + 1))) else (none)) else (none)) else (none)) else (none)) else (none)) else (none)) else (none))) else (if x5.size + 1 ≤ 9223372036854775807 then (if x6.size + 1 ≤ 9223372036854775807 then (if (x5 ++ (⟨#[46]⟩ : ByteArray)).size + x8.size ≤ 9223372036854775807 then (if (x6 ++ (⟨#[46]⟩ : ByteArray)).size + x8.size ≤ 9223372036854775807 then (laws_FnPackagistMarks.l0 k x0 x1 ((x5 ++ (⟨#[46]⟩ : ByteArray)) ++ x8) ((x6 ++ (⟨#[46]⟩ : ByteArray)) ++ x8) x30 x31 (wrap64 (x32 + 1))) else (none)) else (none)) else (none)) else (none))) else (if x5.size + x8.size ≤ 9223372036854775807 then (if x6.size + x8.size ≤ 9223372036854775807 then (laws_FnPackagistMarks.l0 k x0 x1 (x5 ++ x8) (x6 ++ x8) x30 x31 (wrap64 (x32 + 1))) else (none)) else (none)))
end
def laws_FnPackagistMarks.f (k : Nat) (l0 : List ByteArray) (l1 : List Int) : Option (Bool) := (laws_zzFits2.f k l0).bind fun t227 => (if t227 = true then (laws_FnPackagistMarks.j0 k l0 l1 (decide ((l1.length : Int) > 2147483647))) else (laws_FnPackagistMarks.j0 k l0 l1 true))
theorem laws_FnPackagistMarks.mono_l : ∀ k, (∀ y0 y1 y2, LeO (laws_FnPackagistMarks.j0 k y0 y1 y2) (laws_FnPackagistMarks.j0 (k + 1) y0 y1 y2)) ∧ (∀ y0 y1 y2, LeO (laws_FnPackagistMarks.j1 k y0 y1 y2) (laws_FnPackagistMarks.j1 (k + 1) y0 y1 y2)) ∧ (∀ y0 y1 y2 y3 y4 y5 y6, LeO (laws_FnPackagistMarks.l0 k y0 y1 y2 y3 y4 y5 y6) (laws_FnPackagistMarks.l0 (k + 1) y0 y1 y2 y3 y4 y5 y6)) ∧ (∀ y0 y1 y2 y3 y4 y5 y6 y7 y8 y9, LeO (laws_FnPackagistMarks.j3 k y0 y1 y2 y3 y4 y5 y6 y7 y8 y9) (laws_FnPackagistMarks.j3 (k + 1) y0 y1 y2 y3 y4 y5 y6 y7 y8 y9))
 | 0 => ⟨fun _ _ _ r h => by simp [laws_FnPackagistMarks.j0] at h, fun _ _ _ r h => by simp [laws_FnPackagistMarks.j1] at h, fun _ _ _ _ _ _ _ r h => by simp [laws_FnPackagistMarks.l0] at h, fun _ _ _ _ _ _ _ _ _ _ r h => by simp [laws_FnPackagistMarks.j3] at h⟩
 | k + 1 => by
  obtain ⟨ih0, ih1, ih2, ih3⟩ := laws_FnPackagistMarks.mono_l k
  refine ⟨?_, ?_, ?_, ?_⟩
  ·intro y0 y1 y2
   unfold laws_FnPackagistMarks.j0
   repeat' first
   | (with_reducible exact ih0 _ _ _)
   | (with_reducible exact ih1 _ _ _)
   | (with_reducible exact ih2 _ _ _ _ _ _ _)
   | (with_reducible exact ih3 _ _ _ _ _ _ _ _ _ _)
   | (with_reducible exact impl_PackagistCompareText.mono _ _ _)
   | (with_reducible exact impl_PackagistParse.mono _ _)
   | (with_reducible exact laws_digits.mono _ _)
   | (with_reducible exact laws_short.mono _ _)
   | (with_reducible exact laws_texts.mono _ _ _)
   | (with_reducible exact laws_words.mono _ _)
   | (with_reducible exact laws_zzFits2.mono _ _)
   | (with_reducible exact spec_PackagistKnown.mono _ _)
   | (with_reducible exact LeO.refl _)
   | (with_reducible exact LeO.none _)
   | (with_reducible refine LeO.ite ?_ ?_)
   | (with_reducible refine LeO.bind ?_ (fun _ => ?_))
   | exact ih0 _ _ _
   | exact ih1 _ _ _
   | exact ih2 _ _ _ _ _ _ _
   | exact ih3 _ _ _ _ _ _ _ _ _ _
   | exact impl_PackagistCompareText.mono _ _ _
   | exact impl_PackagistParse.mono _ _
   | exact laws_digits.mono _ _
   | exact laws_short.mono _ _
   | exact laws_texts.mono _ _ _
   | exact laws_words.mono _ _
   | exact laws_zzFits2.mono _ _
   | exact spec_PackagistKnown.mono _ _
   | exact LeO.none _
   | refine LeO.ite ?_ ?_
   | refine LeO.bind ?_ (fun _ => ?_)
  ·intro y0 y1 y2
   unfold laws_FnPackagistMarks.j1
   repeat' first
   | (with_reducible exact ih0 _ _ _)
   | (with_reducible exact ih1 _ _ _)
   | (with_reducible exact ih2 _ _ _ _ _ _ _)
   | (with_reducible exact ih3 _ _ _ _ _ _ _ _ _ _)
   | (with_reducible exact impl_PackagistCompareText.mono _ _ _)
   | (with_reducible exact impl_PackagistParse.mono _ _)
   | (with_reducible exact laws_digits.mono _ _)
   | (with_reducible exact laws_short.mono _ _)
   | (with_reducible exact laws_texts.mono _ _ _)
   | (with_reducible exact laws_words.mono _ _)
   | (with_reducible exact laws_zzFits2.mono _ _)
   | (with_reducible exact spec_PackagistKnown.mono _ _)
   | (with_reducible exact LeO.refl _)
   | (with_reducible exact LeO.none _)
   | (with_reducible refine LeO.ite ?_ ?_)
   | (with_reducible refine LeO.bind ?_ (fun _ => ?_))
   | exact ih0 _ _ _
   | exact ih1 _ _ _
   | exact ih2 _ _ _ _ _ _ _
   | exact ih3 _ _ _ _ _ _ _ _ _ _
   | exact impl_PackagistCompareText.mono _ _ _
   | exact impl_PackagistParse.mono _ _
   | exact laws_digits.mono _ _
   | exact laws_short.mono _ _
   | exact laws_texts.mono _ _ _
   | exact laws_words.mono _ _
   | exact laws_zzFits2.mono _ _
   | exact spec_PackagistKnown.mono _ _
   | exact LeO.none _
   | refine LeO.ite ?_ ?_
   | refine LeO.bind ?_ (fun _ => ?_)
  ·intro y0 y1 y2 y3 y4 y5 y6
   unfold laws_FnPackagistMarks.l0
   repeat' first
   | (with_reducible exact ih0 _ _ _)
   | (with_reducible exact ih1 _ _ _)
   | (with_reducible exact ih2 _ _ _ _ _ _ _)
   | (with_reducible exact ih3 _ _ _ _ _ _ _ _ _ _)
   | (with_reducible exact impl_PackagistCompareText.mono _ _ _)
   | (with_reducible exact impl_PackagistParse.mono _ _)
   | (with_reducible exact laws_digits.mono _ _)
   | (with_reducible exact laws_short.mono _ _)
   | (with_reducible exact laws_texts.mono _ _ _)
   | (with_reducible exact laws_words.mono _ _)
   | (with_reducible exact laws_zzFits2.mono _ _)
   | (with_reducible exact spec_PackagistKnown.mono _ _)
   | (with_reducible exact LeO.refl _)
   | (with_reducible exact LeO.none _)
   | (with_reducible refine LeO.ite ?_ ?_)
   | (with_reducible refine LeO.bind ?_ (fun _ => ?_))
   | exact ih0 _ _ _
   | exact ih1 _ _ _
   | exact ih2 _ _ _ _ _ _ _
   | exact ih3 _ _ _ _ _ _ _ _ _ _
   | exact impl_PackagistCompareText.mono _ _ _
   | exact impl_PackagistParse.mono _ _
   | exact laws_digits.mono _ _
   | exact laws_short.mono _ _
   | exact laws_texts.mono _ _ _
   | exact laws_words.mono _ _
   | exact laws_zzFits2.mono _ _
   | exact spec_PackagistKnown.mono _ _
   | exact LeO.none _
   | refine LeO.ite ?_ ?_
   | refine LeO.bind ?_ (fun _ => ?_)
  ·intro y0 y1 y2 y3 y4 y5 y6 y7 y8 y9
   unfold laws_FnPackagistMarks.j3
   repeat' first
   | (with_reducible exact ih0 _ _ _)
   | (with_reducible exact ih1 _ _ _)
   | (with_reducible exact ih2 _ _ _ _ _ _ _)
   | (with_reducible exact ih3 _ _ _ _ _ _ _ _ _ _)
   | (with_reducible exact impl_PackagistCompareText.mono _ _ _)
   | (with_reducible exact impl_PackagistParse.mono _ _)
   | (with_reducible exact laws_digits.mono _ _)
   | (with_reducible exact laws_short.mono _ _)
   | (with_reducible exact laws_texts.mono _ _ _)
   | (with_reducible exact laws_words.mono _ _)
   | (with_reducible exact laws_zzFits2.mono _ _)
   | (with_reducible exact spec_PackagistKnown.mono _ _)
   | (with_reducible exact LeO.refl _)
   | (with_reducible exact LeO.none _)
   | (with_reducible refine LeO.ite ?_ ?_)
   | (with_reducible refine LeO.bind ?_ (fun _ => ?_))
   | exact ih0 _ _ _
   | exact ih1 _ _ _
   | exact ih2 _ _ _ _ _ _ _
   | exact ih3 _ _ _ _ _ _ _ _ _ _
   | exact impl_PackagistCompareText.mono _ _ _
   | exact impl_PackagistParse.mono _ _
   | exact laws_digits.mono _ _
   | exact laws_short.mono _ _
   | exact laws_texts.mono _ _ _
   | exact laws_words.mono _ _
   | exact laws_zzFits2.mono _ _
   | exact spec_PackagistKnown.mono _ _
   | exact LeO.none _
   | refine LeO.ite ?_ ?_
   | refine LeO.bind ?_ (fun _ => ?_)
theorem laws_FnPackagistMarks.mono : ∀ a0 a1 k, LeO (laws_FnPackagistMarks.f k a0 a1) (laws_FnPackagistMarks.f (k + 1) a0 a1) := by
 intro a0 a1 k
 obtain ⟨ih0, ih1, ih2, ih3⟩ := laws_FnPackagistMarks.mono_l k
 unfold laws_FnPackagistMarks.f
 repeat' first
   | (with_reducible exact ih0 _ _ _)
   | (with_reducible exact ih1 _ _ _)
   | (with_reducible exact ih2 _ _ _ _ _ _ _)
   | (with_reducible exact ih3 _ _ _ _ _ _ _ _ _ _)
   | (with_reducible exact impl_PackagistCompareText.mono _ _ _)
   | (with_reducible exact impl_PackagistParse.mono _ _)
   | (with_reducible exact laws_digits.mono _ _)
   | (with_reducible exact laws_short.mono _ _)
   | (with_reducible exact laws_texts.mono _ _ _)
   | (with_reducible exact laws_words.mono _ _)
   | (with_reducible exact laws_zzFits2.mono _ _)
   | (with_reducible exact spec_PackagistKnown.mono _ _)
   | (with_reducible exact LeO.refl _)
   | (with_reducible exact LeO.none _)
   | (with_reducible refine LeO.ite ?_ ?_)
   | (with_reducible refine LeO.bind ?_ (fun _ => ?_))
   | exact ih0 _ _ _
   | exact ih1 _ _ _
   | exact ih2 _ _ _ _ _ _ _
   | exact ih3 _ _ _ _ _ _ _ _ _ _
   | exact impl_PackagistCompareText.mono _ _ _
   | exact impl_PackagistParse.mono _ _
   | exact laws_digits.mono _ _
   | exact laws_short.mono _ _
   | exact laws_texts.mono _ _ _
   | exact laws_words.mono _ _
   | exact laws_zzFits2.mono _ _
   | exact spec_PackagistKnown.mono _ _
   | exact LeO.none _
   | refine LeO.ite ?_ ?_
   | refine LeO.bind ?_ (fun _ => ?_)
set_option maxHeartbeats 8000000 in
set_option maxRecDepth 100000 in
theorem laws_FnPackagistMarks.calls (k : Nat) (A0 : Option Addr) (c0 : Nat) (l0 : List ByteArray) (A1 : Option Addr) (c1 : Nat) (l1 : List Int) (r : Bool) (w : World) (hr0 : Kd.C Kd.string w A0 l0.length l0) (hc0 : l0.length ≤ c0) (hr1 : Kd.C (Kd.int .u8) w A1 l1.length l1) (hc1 : l1.length ≤ c1) (h : laws_FnPackagistMarks.f k l0 l1 = some r) (hG : GL w) :
  Calls Tryd.prog 5 #[.slice A0 l0.length c0, .slice A1 l1.length c1] w fun e w' => e = .returned (.bool r) ∧ Below w.heap.size w w' := by
 have HG := Aside0.mk hG
 clear hG
 have HR0 := Aside0.mk hr0
 have HC0 := Aside0.mk hc0
 clear hr0 hc0
 have HR1 := Aside0.mk hr1
 have HC1 := Aside0.mk hc1
 clear hr1 hc1
 have HB := Aside0.mk (Below.refl w.heap.size w)
 have H : ((laws_zzFits2.f k l0).bind fun t227 => (if t227 = true then (laws_FnPackagistMarks.j0 k l0 l1 (decide ((l1.length : Int) > 2147483647))) else (laws_FnPackagistMarks.j0 k l0 l1 true))) = some r := h
 clear h
 have HC3 := Aside0.mk H
 clear H
 go_enter Tryd.func5, Tryd.ntmps5
 go_upto_region 1 with (fail)
 go_cut [21] (fun v21 wc => ∃ (kq : Nat) (x21_2 : Bool), v21 = .bool x21_2 ∧ Aside0 (laws_FnPackagistMarks.j0 kq l0 l1 x21_2 = some r) ∧ Aside0 (kq ≤ k) ∧ Aside0 (Below w.heap.size w wc))
 case first =>
  have H := HC3.out
  clear HC3
  replace H := Option.bind_eq_some_iff.mp H
  obtain ⟨t227, A40, H⟩ := H
  replace H : (if t227 = true then (laws_FnPackagistMarks.j0 k l0 l1 (decide ((l1.length : Int) > 2147483647))) else (laws_FnPackagistMarks.j0 k l0 l1 true)) = some r := H
  have A4 := Aside0.mk A40
  clear A40
  by_cases c5 : t227 = true
  ·subst c5
   have H1 : (laws_FnPackagistMarks.j0 k l0 l1 (decide ((l1.length : Int) > 2147483647))) = some r := by rw [if_pos rfl] at H; exact H
   clear H
   have H := H1
   clear H1
   have H' := Aside0.mk H
   clear H
   go_wp2_with (first | ((with_reducible refine gate_callee (f := 12) rfl ?_); refine goesL_ (some 15) rfl rfl Tryd.func12 (by kernel_rfl) rfl #[.slice A0 l0.length c0] rfl (by (try simp only [List.map_toArray, List.map_cons, List.map_nil]); first | done | rfl | (simp only [List.length_drop, List.length_take]; rfl)) ?_; (with_reducible refine (laws_zzFits2.calls k _ _ l0 true _ ?side1 ?side2 A4.out).mono ?_); (case side1 => repeat (first | exact (Kd.C_below HR0.out HB.out) | (with_reducible refine Kd.C_alloc ?_ _) | (with_reducible refine Kd.C_drewN ?_ _) | (with_reducible refine Kd.C_drew ?_))); (case side2 => exact HC0.out); rintro e w' ⟨rfl, ⟨nd, rfl⟩⟩; refine ⟨_, rfl, ?_⟩))
   go_meet
   case rel => exact ⟨_, (decide ((l1.length : Int) > 2147483647)), (by first | rfl | (simp; done) | (simp [*]; done) | (simp [bne_nil_hyb]; done) | (simp [bne_nil_hyb, *]; done)), H', ⟨by first | omega | exact Nat.le_refl _⟩, ⟨by repeat (first | (with_reducible first | exact HB.out | apply below_alloc | apply pw_below_drewN | apply below_drew1) | exact HB.out)⟩⟩
  ·replace c5 := Bool.eq_false_iff.mpr c5
   subst c5
   have H1 : (laws_FnPackagistMarks.j0 k l0 l1 true) = some r := by rw [if_neg (show ¬ (false = true) by decide)] at H; exact H
   clear H
   have H := H1
   clear H1
   have H' := Aside0.mk H
   clear H
   go_wp2_with (first | ((with_reducible refine gate_callee (f := 12) rfl ?_); refine goesL_ (some 15) rfl rfl Tryd.func12 (by kernel_rfl) rfl #[.slice A0 l0.length c0] rfl (by (try simp only [List.map_toArray, List.map_cons, List.map_nil]); first | done | rfl | (simp only [List.length_drop, List.length_take]; rfl)) ?_; (with_reducible refine (laws_zzFits2.calls k _ _ l0 false _ ?side1 ?side2 A4.out).mono ?_); (case side1 => repeat (first | exact (Kd.C_below HR0.out HB.out) | (with_reducible refine Kd.C_alloc ?_ _) | (with_reducible refine Kd.C_drewN ?_ _) | (with_reducible refine Kd.C_drew ?_))); (case side2 => exact HC0.out); rintro e w' ⟨rfl, ⟨nd, rfl⟩⟩; refine ⟨_, rfl, ?_⟩))
   go_meet
   case rel => exact ⟨_, (true), (by first | rfl | (simp; done) | (simp [*]; done) | (simp [bne_nil_hyb]; done) | (simp [bne_nil_hyb, *]; done)), H', ⟨by first | omega | exact Nat.le_refl _⟩, ⟨by repeat (first | (with_reducible first | exact HB.out | apply below_alloc | apply pw_below_drewN | apply below_drew1) | exact HB.out)⟩⟩
 case rest =>
  clear HC3
  try clear c1
  try clear p2
  try clear c5
  obtain ⟨kq, x21_2, rfl, HA, HJ2, HB⟩ := hcut
  cases kq with
  | zero => exact absurd HA.out (by simp [laws_FnPackagistMarks.j0])
  | succ kj2 =>
   have H := HA.out
   clear HA
   simp only [laws_FnPackagistMarks.j0] at H
   by_cases c6 : x21_2 = true
   ·subst c6
    have H1 : (some true) = some r := by rw [if_pos rfl] at H; exact H
    clear H
    have H := H1
    clear H1
    obtain rfl := Option.some.inj H
    go_wp2
    go_ret
    exact ⟨by first | rfl | (simp [errW_none, errW_some] <;> rfl) | (simp [*, errW_none, errW_some] <;> rfl) | (simp [bne_nil_hyb]; done), by repeat (first | (with_reducible first | exact HB.out | apply below_alloc | apply pw_below_drewN | apply below_drew1) | exact HB.out)⟩
   ·replace c6 := Bool.eq_false_iff.mpr c6
    subst c6
    have H1 : (if (l0.length : Int) = 0 then (laws_FnPackagistMarks.j1 kj2 l0 l1 true) else ((laws_short.f kj2 l0).bind fun t228 => (laws_FnPackagistMarks.j1 kj2 l0 l1 (!t228)))) = some r := by rw [if_neg (show ¬ (false = true) by decide)] at H; exact H
    clear H
    have H := H1
    clear H1
    have HC7 := Aside0.mk H
    clear H
    go_upto_region 3 with (fail)
    go_cut [29] (fun v29 wc => ∃ (kq : Nat) (x29_6 : Bool), v29 = .bool x29_6 ∧ Aside0 (laws_FnPackagistMarks.j1 kq l0 l1 x29_6 = some r) ∧ Aside0 (kq ≤ kj2) ∧ Aside0 (Below w.heap.size w wc))
    case first =>
     have H := HC7.out
     clear HC7
     by_cases c8 : (l0.length : Int) = 0
     ·rw [if_pos c8] at H
      have c8b0 : ((l0.length : Int) == 0) = true := beq_iff_eq.mpr c8
      have c8b1 : ((l0.length : Int) != 0) = false := bne_eq_false_iff_eq.mpr c8
      clear c8
      (first | rw [c8b0] | (simp only [i64_w, i32_w]; rw [c8b0]) | skip)
      have H' := Aside0.mk H
      clear H
      go_wp2
      go_meet
      case rel => exact ⟨_, (true), (by first | rfl | (simp; done) | (simp [*]; done) | (simp [bne_nil_hyb]; done) | (simp [bne_nil_hyb, *]; done)), (by first | exact H' | (rw [hji33]; exact H')), ⟨by have := HJ2.out; first | omega | exact Nat.le_refl _⟩, ⟨by repeat (first | (with_reducible first | exact HB.out | apply below_alloc | apply pw_below_drewN | apply below_drew1) | exact HB.out)⟩⟩
     ·rw [if_neg c8] at H
      have c8b0 : ((l0.length : Int) == 0) = false := beq_eq_false_iff_ne.mpr c8
      have c8b1 : ((l0.length : Int) != 0) = true := bne_iff_ne.mpr c8
      have c8b2 : ¬ (l0 = []) := fun h_ => c8 (by rw [h_]; rfl)
      (first | rw [c8b0] | (simp only [i64_w, i32_w]; rw [c8b0]) | skip)
      replace H := Option.bind_eq_some_iff.mp H
      obtain ⟨t228, A90, H⟩ := H
      replace H : (laws_FnPackagistMarks.j1 kj2 l0 l1 (!t228)) = some r := H
      have A9 := Aside0.mk A90
      clear A90
      have H' := Aside0.mk H
      clear H
      go_wp2_with (first | (go_at_call 7; (with_reducible refine (laws_short.calls kj2 _ _ l0 t228 _ ?side1 ?side2 A9.out).mono ?_); (case side1 => repeat (first | exact (Kd.C_below HR0.out HB.out) | (with_reducible refine Kd.C_alloc ?_ _) | (with_reducible refine Kd.C_drewN ?_ _) | (with_reducible refine Kd.C_drew ?_))); (case side2 => exact HC0.out); rintro e w' ⟨rfl, ⟨nd, rfl⟩⟩))
      go_meet
      case rel => exact ⟨_, (!t228), (by first | rfl | (simp; done) | (simp [*]; done) | (simp [bne_nil_hyb]; done) | (simp [bne_nil_hyb, *]; done)), (by first | exact H' | (rw [hji33]; exact H')), ⟨by have := HJ2.out; first | omega | exact Nat.le_refl _⟩, ⟨by repeat (first | (with_reducible first | exact HB.out | apply below_alloc | apply pw_below_drewN | apply below_drew1) | exact HB.out)⟩⟩
    case rest =>
     clear HC7
     try clear c1
     try clear p2
     try clear c5
     try clear c6
     try clear c8
     try clear c8b0
     try clear c8b1
     try clear c8b2
     try clear p2
     obtain ⟨kq, x29_6, rfl, HA, HJ6, HB⟩ := hcut
     cases kq with
     | zero => exact absurd HA.out (by simp [laws_FnPackagistMarks.j1])
     | succ kj6 =>
      have H := HA.out
      clear HA
      simp only [laws_FnPackagistMarks.j1] at H
      by_cases c10 : x29_6 = true
      ·subst c10
       have H1 : (some true) = some r := by rw [if_pos rfl] at H; exact H
       clear H
       have H := H1
       clear H1
       obtain rfl := Option.some.inj H
       go_wp2
       go_ret
       exact ⟨by first | rfl | (simp [errW_none, errW_some] <;> rfl) | (simp [*, errW_none, errW_some] <;> rfl) | (simp [bne_nil_hyb]; done), by repeat (first | (with_reducible first | exact HB.out | apply below_alloc | apply pw_below_drewN | apply below_drew1) | exact HB.out)⟩
      ·replace c10 := Bool.eq_false_iff.mpr c10
       subst c10
       have H1 : (laws_FnPackagistMarks.l0 kj6 l0 l1 (⟨#[]⟩ : ByteArray) (⟨#[]⟩ : ByteArray) l0 (l0.length : Int) 0) = some r := by rw [if_neg (show ¬ (false = true) by decide)] at H; exact H
       clear H
       have H := H1
       clear H1
       have H' := Aside0.mk H
       clear H
       go_wp2
       (try simp only [Act.put, List.setIfInBounds_toArray, List.set_cons_zero, List.set_cons_succ])
       go_loopg [5, 6, 32] kj6 (fun kq v5 v6 v32 w' => ∃ (x5_3 : ByteArray) (x6_3 : ByteArray) (x32_3 : Int), v5 = .string x5_3 ∧ v6 = .string x6_3 ∧ v32 = .int .i64 x32_3 ∧ Aside0 (laws_FnPackagistMarks.l0 kq l0 l1 x5_3 x6_3 l0 (l0.length : Int) x32_3 = some r) ∧ Aside0 (kq ≤ kj6) ∧ Aside0 (Below w.heap.size w w'))
       case atStart => exact ⟨((⟨#[]⟩ : ByteArray)), ((⟨#[]⟩ : ByteArray)), (0), (by first | rfl | (simp; done) | (simp [*]; done) | (simp [bne_nil_hyb]; done) | (simp [bne_nil_hyb, *]; done)), (by first | rfl | (simp; done) | (simp [*]; done) | (simp [bne_nil_hyb]; done) | (simp [bne_nil_hyb, *]; done)), (by first | rfl | (simp; done) | (simp [*]; done) | (simp [bne_nil_hyb]; done) | (simp [bne_nil_hyb, *]; done)), H', ⟨Nat.le_refl _⟩, ⟨by repeat (first | (with_reducible first | exact HB.out | apply below_alloc | apply pw_below_drewN | apply below_drew1) | exact HB.out)⟩⟩
       case round =>
        clear H'
        try clear c1
        try clear p2
        try clear c5
        try clear c6
        try clear c8
        try clear c8b0
        try clear c8b1
        try clear c8b2
        try clear c10
        try clear p2
        obtain ⟨x5_3, x6_3, x32_3, rfl, rfl, rfl, HA, HK3, HB⟩ := hrel
        cases gk with
        | zero => exact absurd HA.out (by simp [laws_FnPackagistMarks.l0])
        | succ k3 =>
         have H := HA.out
         clear HA
         simp only [laws_FnPackagistMarks.l0] at H
         by_cases c11 : x32_3 < (l0.length : Int)
         ·rw [if_pos c11] at H
          have c11b0 : decide (x32_3 < (l0.length : Int)) = true := decide_eq_true c11
          clear c11
          by_cases c12 : 0 ≤ x32_3
          ·rw [if_pos c12] at H
           have c12b0 : decide (0 ≤ x32_3) = true := decide_eq_true c12
           clear c12
           by_cases c13 : x32_3 < (l0.length : Int)
           ·rw [if_pos c13] at H
            have c13b0 : decide (x32_3 < (l0.length : Int)) = true := decide_eq_true c13
            clear c13
            have HC14 := Aside0.mk H
            clear H
            have p229 : 0 ≤ (x32_3 : Int) := of_decide_eq_true (by first | (with_reducible assumption) | assumption)
            have q229 : x32_3 < (l0.length : Int) := of_decide_eq_true (by first | (with_reducible assumption) | assumption)
            obtain ⟨ad229, e229, hx229_0⟩ := Kd.at_string HR0.out x32_3 p229 q229
            cases e229
            replace hx229_0 := (HB.out.cell (World.block_lt_of_cell? w _ hx229_0)).trans hx229_0
            replace p229 := eq_true p229
            replace q229 := eq_true q229
            go_upto_region 9 with (fail)
            go_cut [58] (fun v58 wc => ∃ (kq : Nat) (x58_13 : Bool), v58 = .bool x58_13 ∧ Aside0 (laws_FnPackagistMarks.j3 kq l0 l1 x5_3 x6_3 x32_3 (rdOf ByteArray.empty l0 x32_3) l0 (l0.length : Int) x32_3 x58_13 = some r) ∧ Aside0 (kq ≤ k3) ∧ Aside0 (Below w.heap.size w wc))
            case first =>
             have H := HC14.out
             clear HC14
             replace H := Option.bind_eq_some_iff.mp H
             obtain ⟨t230, A150, H⟩ := H
             replace H : (if t230 = true then (if x32_3 = 0 then (if 0 < ((rdOf ByteArray.empty l0 x32_3).size : Int) then (if (bt (rdOf ByteArray.empty l0 x32_3) 0) = 118 then (laws_FnPackagistMarks.j3 k3 l0 l1 x5_3 x6_3 x32_3 (rdOf ByteArray.empty l0 x32_3) l0 (l0.length : Int) x32_3 true) else (laws_FnPackagistMarks.j3 k3 l0 l1 x5_3 x6_3 x32_3 (rdOf ByteArray.empty l0 x32_3) l0 (l0.length : Int) x32_3 ((bt (rdOf ByteArray.empty l0 x32_3) 0) == 86))) else (none)) else (laws_FnPackagistMarks.j3 k3 l0 l1 x5_3 x6_3 x32_3 (rdOf ByteArray.empty l0 x32_3) l0 (l0.length : Int) x32_3 false)) else ((laws_digits.f k3 (rdOf ByteArray.empty l0 x32_3)).bind fun t231 => (if t231 = true then (if x32_3 = 0 then (if 0 < ((rdOf ByteArray.empty l0 x32_3).size : Int) then (if (bt (rdOf ByteArray.empty l0 x32_3) 0) = 118 then (laws_FnPackagistMarks.j3 k3 l0 l1 x5_3 x6_3 x32_3 (rdOf ByteArray.empty l0 x32_3) l0 (l0.length : Int) x32_3 true) else (laws_FnPackagistMarks.j3 k3 l0 l1 x5_3 x6_3 x32_3 (rdOf ByteArray.empty l0 x32_3) l0 (l0.length : Int) x32_3 ((bt (rdOf ByteArray.empty l0 x32_3) 0) == 86))) else (none)) else (laws_FnPackagistMarks.j3 k3 l0 l1 x5_3 x6_3 x32_3 (rdOf ByteArray.empty l0 x32_3) l0 (l0.length : Int) x32_3 false)) else (laws_FnPackagistMarks.j3 k3 l0 l1 x5_3 x6_3 x32_3 (rdOf ByteArray.empty l0 x32_3) l0 (l0.length : Int) x32_3 true)))) = some r := H
             have A15 := Aside0.mk A150
             clear A150
             by_cases c16 : t230 = true
             ·subst c16
              have H1 : (if x32_3 = 0 then (if 0 < ((rdOf ByteArray.empty l0 x32_3).size : Int) then (if (bt (rdOf ByteArray.empty l0 x32_3) 0) = 118 then (laws_FnPackagistMarks.j3 k3 l0 l1 x5_3 x6_3 x32_3 (rdOf ByteArray.empty l0 x32_3) l0 (l0.length : Int) x32_3 true) else (laws_FnPackagistMarks.j3 k3 l0 l1 x5_3 x6_3 x32_3 (rdOf ByteArray.empty l0 x32_3) l0 (l0.length : Int) x32_3 ((bt (rdOf ByteArray.empty l0 x32_3) 0) == 86))) else (none)) else (laws_FnPackagistMarks.j3 k3 l0 l1 x5_3 x6_3 x32_3 (rdOf ByteArray.empty l0 x32_3) l0 (l0.length : Int) x32_3 false)) = some r := by rw [if_pos rfl] at H; exact H
              clear H
              have H := H1
              clear H1
              by_cases c17 : x32_3 = 0
              ·rw [if_pos c17] at H
               have c17b0 : (x32_3 == 0) = true := beq_iff_eq.mpr c17
               have c17b1 : (x32_3 != 0) = false := bne_eq_false_iff_eq.mpr c17
               clear c17
               (first | rw [c17b0] | (simp only [i64_w, i32_w]; rw [c17b0]) | skip)
               by_cases c18 : 0 < ((rdOf ByteArray.empty l0 x32_3).size : Int)
               ·rw [if_pos c18] at H
                have c18b0 : decide (0 < ((rdOf ByteArray.empty l0 x32_3).size : Int)) = true := decide_eq_true c18
                have c18b1 : decide (0 < (rdOf ByteArray.empty l0 x32_3).size) = true := decide_eq_true (by omega)
                clear c18
                by_cases c20 : (bt (rdOf ByteArray.empty l0 x32_3) 0) = 118
                ·rw [if_pos c20] at H
                 have c20b0 : ((bt (rdOf ByteArray.empty l0 x32_3) 0) == 118) = true := beq_iff_eq.mpr c20
                 have c20b1 : ((bt (rdOf ByteArray.empty l0 x32_3) 0) != 118) = false := bne_eq_false_iff_eq.mpr c20
                 clear c20
                 have H' := Aside0.mk H
                 clear H
                 go_wp2_with (first | ((with_reducible refine gate_callee (f := 13) rfl ?_); refine goesL_ (some 38) rfl rfl Tryd.func13 (by kernel_rfl) rfl #[.string (rdOf ByteArray.empty l0 x32_3)] rfl (by (try simp only [List.map_toArray, List.map_cons, List.map_nil]); first | done | rfl | (simp only [List.length_drop, List.length_take]; rfl)) ?_; (with_reducible refine (laws_words.calls k3 (rdOf ByteArray.empty l0 x32_3) true _ A15.out).mono ?_); rintro e w' ⟨rfl, ⟨nd, rfl⟩⟩; refine ⟨_, rfl, ?_⟩; have p19 : 0 ≤ (0 : Int) := (by omega); have q19 : 0 < (rdOf ByteArray.empty l0 x32_3).size := (by have : (0 : Int) < ((rdOf ByteArray.empty l0 x32_3).size : Int) := of_decide_eq_true (by first | (with_reducible assumption) | assumption); omega); have hx19 : ∀ h : 0 < (rdOf ByteArray.empty l0 x32_3).size, (((rdOf ByteArray.empty l0 x32_3)[0]'h).toNat : Int) = bt (rdOf ByteArray.empty l0 x32_3) 0 := bt_at (rdOf ByteArray.empty l0 x32_3) 0; clear p19; have qi19 : (0 < ((rdOf ByteArray.empty l0 x32_3).size : Int)) = True := eq_true (of_decide_eq_true (by first | (with_reducible assumption) | assumption)); replace q19 := eq_true q19))
                 go_meet
                 case rel => exact ⟨_, (true), (by first | rfl | (simp; done) | (simp [*]; done) | (simp [bne_nil_hyb]; done) | (simp [bne_nil_hyb, *]; done)), (by first | exact H' | (rw [hji33]; exact H')), ⟨by have := HJ2.out; have := HJ6.out; have := HK3.out; first | omega | exact Nat.le_refl _⟩, ⟨by repeat (first | (with_reducible first | exact HB.out | apply below_alloc | apply pw_below_drewN | apply below_drew1) | exact HB.out)⟩⟩
                ·rw [if_neg c20] at H
                 have c20b0 : ((bt (rdOf ByteArray.empty l0 x32_3) 0) == 118) = false := beq_eq_false_iff_ne.mpr c20
                 have c20b1 : ((bt (rdOf ByteArray.empty l0 x32_3) 0) != 118) = true := bne_iff_ne.mpr c20
                 have H' := Aside0.mk H
                 clear H
                 go_wp2_with (first | ((with_reducible refine gate_callee (f := 13) rfl ?_); refine goesL_ (some 38) rfl rfl Tryd.func13 (by kernel_rfl) rfl #[.string (rdOf ByteArray.empty l0 x32_3)] rfl (by (try simp only [List.map_toArray, List.map_cons, List.map_nil]); first | done | rfl | (simp only [List.length_drop, List.length_take]; rfl)) ?_; (with_reducible refine (laws_words.calls k3 (rdOf ByteArray.empty l0 x32_3) true _ A15.out).mono ?_); rintro e w' ⟨rfl, ⟨nd, rfl⟩⟩; refine ⟨_, rfl, ?_⟩; have p19 : 0 ≤ (0 : Int) := (by omega); have q19 : 0 < (rdOf ByteArray.empty l0 x32_3).size := (by have : (0 : Int) < ((rdOf ByteArray.empty l0 x32_3).size : Int) := of_decide_eq_true (by first | (with_reducible assumption) | assumption); omega); have hx19 : ∀ h : 0 < (rdOf ByteArray.empty l0 x32_3).size, (((rdOf ByteArray.empty l0 x32_3)[0]'h).toNat : Int) = bt (rdOf ByteArray.empty l0 x32_3) 0 := bt_at (rdOf ByteArray.empty l0 x32_3) 0; clear p19; have qi19 : (0 < ((rdOf ByteArray.empty l0 x32_3).size : Int)) = True := eq_true (of_decide_eq_true (by first | (with_reducible assumption) | assumption)); replace q19 := eq_true q19; have p21 : 0 ≤ (0 : Int) := (by omega); have q21 : 0 < (rdOf ByteArray.empty l0 x32_3).size := (by have : (0 : Int) < ((rdOf ByteArray.empty l0 x32_3).size : Int) := of_decide_eq_true (by first | (with_reducible assumption) | assumption); omega); have hx21 : ∀ h : 0 < (rdOf ByteArray.empty l0 x32_3).size, (((rdOf ByteArray.empty l0 x32_3)[0]'h).toNat : Int) = bt (rdOf ByteArray.empty l0 x32_3) 0 := bt_at (rdOf ByteArray.empty l0 x32_3) 0; clear p21; have qi21 : (0 < ((rdOf ByteArray.empty l0 x32_3).size : Int)) = True := eq_true (of_decide_eq_true (by first | (with_reducible assumption) | assumption)); replace q21 := eq_true q21))
                 go_meet
                 case rel => exact ⟨_, (((bt (rdOf ByteArray.empty l0 x32_3) 0) == 86)), (by first | rfl | (simp; done) | (simp [*]; done) | (simp [bne_nil_hyb]; done) | (simp [bne_nil_hyb, *]; done)), (by first | exact H' | (rw [hji33]; exact H')), ⟨by have := HJ2.out; have := HJ6.out; have := HK3.out; first | omega | exact Nat.le_refl _⟩, ⟨by repeat (first | (with_reducible first | exact HB.out | apply below_alloc | apply pw_below_drewN | apply below_drew1) | exact HB.out)⟩⟩
               ·rw [if_neg c18] at H
                exact absurd H (by simp)
              ·rw [if_neg c17] at H
               have c17b0 : (x32_3 == 0) = false := beq_eq_false_iff_ne.mpr c17
               have c17b1 : (x32_3 != 0) = true := bne_iff_ne.mpr c17
               (first | rw [c17b0] | (simp only [i64_w, i32_w]; rw [c17b0]) | skip)
               have H' := Aside0.mk H
               clear H
               go_wp2_with (first | ((with_reducible refine gate_callee (f := 13) rfl ?_); refine goesL_ (some 38) rfl rfl Tryd.func13 (by kernel_rfl) rfl #[.string (rdOf ByteArray.empty l0 x32_3)] rfl (by (try simp only [List.map_toArray, List.map_cons, List.map_nil]); first | done | rfl | (simp only [List.length_drop, List.length_take]; rfl)) ?_; (with_reducible refine (laws_words.calls k3 (rdOf ByteArray.empty l0 x32_3) true _ A15.out).mono ?_); rintro e w' ⟨rfl, ⟨nd, rfl⟩⟩; refine ⟨_, rfl, ?_⟩))
               go_meet
               case rel => exact ⟨_, (false), (by first | rfl | (simp; done) | (simp [*]; done) | (simp [bne_nil_hyb]; done) | (simp [bne_nil_hyb, *]; done)), (by first | exact H' | (rw [hji33]; exact H')), ⟨by have := HJ2.out; have := HJ6.out; have := HK3.out; first | omega | exact Nat.le_refl _⟩, ⟨by repeat (first | (with_reducible first | exact HB.out | apply below_alloc | apply pw_below_drewN | apply below_drew1) | exact HB.out)⟩⟩
             ·replace c16 := Bool.eq_false_iff.mpr c16
              subst c16
              have H1 : ((laws_digits.f k3 (rdOf ByteArray.empty l0 x32_3)).bind fun t231 => (if t231 = true then (if x32_3 = 0 then (if 0 < ((rdOf ByteArray.empty l0 x32_3).size : Int) then (if (bt (rdOf ByteArray.empty l0 x32_3) 0) = 118 then (laws_FnPackagistMarks.j3 k3 l0 l1 x5_3 x6_3 x32_3 (rdOf ByteArray.empty l0 x32_3) l0 (l0.length : Int) x32_3 true) else (laws_FnPackagistMarks.j3 k3 l0 l1 x5_3 x6_3 x32_3 (rdOf ByteArray.empty l0 x32_3) l0 (l0.length : Int) x32_3 ((bt (rdOf ByteArray.empty l0 x32_3) 0) == 86))) else (none)) else (laws_FnPackagistMarks.j3 k3 l0 l1 x5_3 x6_3 x32_3 (rdOf ByteArray.empty l0 x32_3) l0 (l0.length : Int) x32_3 false)) else (laws_FnPackagistMarks.j3 k3 l0 l1 x5_3 x6_3 x32_3 (rdOf ByteArray.empty l0 x32_3) l0 (l0.length : Int) x32_3 true))) = some r := by rw [if_neg (show ¬ (false = true) by decide)] at H; exact H
              clear H
              have H := H1
              clear H1
              replace H := Option.bind_eq_some_iff.mp H
              obtain ⟨t231, A220, H⟩ := H
              replace H : (if t231 = true then (if x32_3 = 0 then (if 0 < ((rdOf ByteArray.empty l0 x32_3).size : Int) then (if (bt (rdOf ByteArray.empty l0 x32_3) 0) = 118 then (laws_FnPackagistMarks.j3 k3 l0 l1 x5_3 x6_3 x32_3 (rdOf ByteArray.empty l0 x32_3) l0 (l0.length : Int) x32_3 true) else (laws_FnPackagistMarks.j3 k3 l0 l1 x5_3 x6_3 x32_3 (rdOf ByteArray.empty l0 x32_3) l0 (l0.length : Int) x32_3 ((bt (rdOf ByteArray.empty l0 x32_3) 0) == 86))) else (none)) else (laws_FnPackagistMarks.j3 k3 l0 l1 x5_3 x6_3 x32_3 (rdOf ByteArray.empty l0 x32_3) l0 (l0.length : Int) x32_3 false)) else (laws_FnPackagistMarks.j3 k3 l0 l1 x5_3 x6_3 x32_3 (rdOf ByteArray.empty l0 x32_3) l0 (l0.length : Int) x32_3 true)) = some r := H
              have A22 := Aside0.mk A220
              clear A220
              by_cases c23 : t231 = true
              ·subst c23
               have H1 : (if x32_3 = 0 then (if 0 < ((rdOf ByteArray.empty l0 x32_3).size : Int) then (if (bt (rdOf ByteArray.empty l0 x32_3) 0) = 118 then (laws_FnPackagistMarks.j3 k3 l0 l1 x5_3 x6_3 x32_3 (rdOf ByteArray.empty l0 x32_3) l0 (l0.length : Int) x32_3 true) else (laws_FnPackagistMarks.j3 k3 l0 l1 x5_3 x6_3 x32_3 (rdOf ByteArray.empty l0 x32_3) l0 (l0.length : Int) x32_3 ((bt (rdOf ByteArray.empty l0 x32_3) 0) == 86))) else (none)) else (laws_FnPackagistMarks.j3 k3 l0 l1 x5_3 x6_3 x32_3 (rdOf ByteArray.empty l0 x32_3) l0 (l0.length : Int) x32_3 false)) = some r := by rw [if_pos rfl] at H; exact H
               clear H
               have H := H1
               clear H1
               by_cases c24 : x32_3 = 0
               ·rw [if_pos c24] at H
                have c24b0 : (x32_3 == 0) = true := beq_iff_eq.mpr c24
                have c24b1 : (x32_3 != 0) = false := bne_eq_false_iff_eq.mpr c24
                clear c24
                by_cases c25 : 0 < ((rdOf ByteArray.empty l0 x32_3).size : Int)
                ·rw [if_pos c25] at H
                 have c25b0 : decide (0 < ((rdOf ByteArray.empty l0 x32_3).size : Int)) = true := decide_eq_true c25
                 have c25b1 : decide (0 < (rdOf ByteArray.empty l0 x32_3).size) = true := decide_eq_true (by omega)
                 clear c25
                 by_cases c27 : (bt (rdOf ByteArray.empty l0 x32_3) 0) = 118
                 ·rw [if_pos c27] at H
                  have c27b0 : ((bt (rdOf ByteArray.empty l0 x32_3) 0) == 118) = true := beq_iff_eq.mpr c27
                  have c27b1 : ((bt (rdOf ByteArray.empty l0 x32_3) 0) != 118) = false := bne_eq_false_iff_eq.mpr c27
                  clear c27
                  have H' := Aside0.mk H
                  clear H
                  go_wp2_with (first | ((with_reducible refine gate_callee (f := 13) rfl ?_); refine goesL_ (some 38) rfl rfl Tryd.func13 (by kernel_rfl) rfl #[.string (rdOf ByteArray.empty l0 x32_3)] rfl (by (try simp only [List.map_toArray, List.map_cons, List.map_nil]); first | done | rfl | (simp only [List.length_drop, List.length_take]; rfl)) ?_; (with_reducible refine (laws_words.calls k3 (rdOf ByteArray.empty l0 x32_3) false _ A15.out).mono ?_); rintro e w' ⟨rfl, ⟨nd, rfl⟩⟩; refine ⟨_, rfl, ?_⟩) | (go_at_call 14; (with_reducible refine (laws_digits.calls k3 (rdOf ByteArray.empty l0 x32_3) true _ A22.out).mono ?_); rintro e w' ⟨rfl, ⟨nd, rfl⟩⟩; have p26 : 0 ≤ (0 : Int) := (by omega); have q26 : 0 < (rdOf ByteArray.empty l0 x32_3).size := (by have : (0 : Int) < ((rdOf ByteArray.empty l0 x32_3).size : Int) := of_decide_eq_true (by first | (with_reducible assumption) | assumption); omega); have hx26 : ∀ h : 0 < (rdOf ByteArray.empty l0 x32_3).size, (((rdOf ByteArray.empty l0 x32_3)[0]'h).toNat : Int) = bt (rdOf ByteArray.empty l0 x32_3) 0 := bt_at (rdOf ByteArray.empty l0 x32_3) 0; clear p26; have qi26 : (0 < ((rdOf ByteArray.empty l0 x32_3).size : Int)) = True := eq_true (of_decide_eq_true (by first | (with_reducible assumption) | assumption)); replace q26 := eq_true q26))
                  go_meet
                  case rel => exact ⟨_, (true), (by first | rfl | (simp; done) | (simp [*]; done) | (simp [bne_nil_hyb]; done) | (simp [bne_nil_hyb, *]; done)), (by first | exact H' | (rw [hji33]; exact H')), ⟨by have := HJ2.out; have := HJ6.out; have := HK3.out; first | omega | exact Nat.le_refl _⟩, ⟨by repeat (first | (with_reducible first | exact HB.out | apply below_alloc | apply pw_below_drewN | apply below_drew1) | exact HB.out)⟩⟩
                 ·rw [if_neg c27] at H
                  have c27b0 : ((bt (rdOf ByteArray.empty l0 x32_3) 0) == 118) = false := beq_eq_false_iff_ne.mpr c27
                  have c27b1 : ((bt (rdOf ByteArray.empty l0 x32_3) 0) != 118) = true := bne_iff_ne.mpr c27
                  have H' := Aside0.mk H
                  clear H
                  go_wp2_with (first | ((with_reducible refine gate_callee (f := 13) rfl ?_); refine goesL_ (some 38) rfl rfl Tryd.func13 (by kernel_rfl) rfl #[.string (rdOf ByteArray.empty l0 x32_3)] rfl (by (try simp only [List.map_toArray, List.map_cons, List.map_nil]); first | done | rfl | (simp only [List.length_drop, List.length_take]; rfl)) ?_; (with_reducible refine (laws_words.calls k3 (rdOf ByteArray.empty l0 x32_3) false _ A15.out).mono ?_); rintro e w' ⟨rfl, ⟨nd, rfl⟩⟩; refine ⟨_, rfl, ?_⟩) | (go_at_call 14; (with_reducible refine (laws_digits.calls k3 (rdOf ByteArray.empty l0 x32_3) true _ A22.out).mono ?_); rintro e w' ⟨rfl, ⟨nd, rfl⟩⟩; have p26 : 0 ≤ (0 : Int) := (by omega); have q26 : 0 < (rdOf ByteArray.empty l0 x32_3).size := (by have : (0 : Int) < ((rdOf ByteArray.empty l0 x32_3).size : Int) := of_decide_eq_true (by first | (with_reducible assumption) | assumption); omega); have hx26 : ∀ h : 0 < (rdOf ByteArray.empty l0 x32_3).size, (((rdOf ByteArray.empty l0 x32_3)[0]'h).toNat : Int) = bt (rdOf ByteArray.empty l0 x32_3) 0 := bt_at (rdOf ByteArray.empty l0 x32_3) 0; clear p26; have qi26 : (0 < ((rdOf ByteArray.empty l0 x32_3).size : Int)) = True := eq_true (of_decide_eq_true (by first | (with_reducible assumption) | assumption)); replace q26 := eq_true q26; have p28 : 0 ≤ (0 : Int) := (by omega); have q28 : 0 < (rdOf ByteArray.empty l0 x32_3).size := (by have : (0 : Int) < ((rdOf ByteArray.empty l0 x32_3).size : Int) := of_decide_eq_true (by first | (with_reducible assumption) | assumption); omega); have hx28 : ∀ h : 0 < (rdOf ByteArray.empty l0 x32_3).size, (((rdOf ByteArray.empty l0 x32_3)[0]'h).toNat : Int) = bt (rdOf ByteArray.empty l0 x32_3) 0 := bt_at (rdOf ByteArray.empty l0 x32_3) 0; clear p28; have qi28 : (0 < ((rdOf ByteArray.empty l0 x32_3).size : Int)) = True := eq_true (of_decide_eq_true (by first | (with_reducible assumption) | assumption)); replace q28 := eq_true q28))
                  go_meet
                  case rel => exact ⟨_, (((bt (rdOf ByteArray.empty l0 x32_3) 0) == 86)), (by first | rfl | (simp; done) | (simp [*]; done) | (simp [bne_nil_hyb]; done) | (simp [bne_nil_hyb, *]; done)), (by first | exact H' | (rw [hji33]; exact H')), ⟨by have := HJ2.out; have := HJ6.out; have := HK3.out; first | omega | exact Nat.le_refl _⟩, ⟨by repeat (first | (with_reducible first | exact HB.out | apply below_alloc | apply pw_below_drewN | apply below_drew1) | exact HB.out)⟩⟩
                ·rw [if_neg c25] at H
                 exact absurd H (by simp)
               ·rw [if_neg c24] at H
                have c24b0 : (x32_3 == 0) = false := beq_eq_false_iff_ne.mpr c24
                have c24b1 : (x32_3 != 0) = true := bne_iff_ne.mpr c24
                have H' := Aside0.mk H
                clear H
                go_wp2_with (first | ((with_reducible refine gate_callee (f := 13) rfl ?_); refine goesL_ (some 38) rfl rfl Tryd.func13 (by kernel_rfl) rfl #[.string (rdOf ByteArray.empty l0 x32_3)] rfl (by (try simp only [List.map_toArray, List.map_cons, List.map_nil]); first | done | rfl | (simp only [List.length_drop, List.length_take]; rfl)) ?_; (with_reducible refine (laws_words.calls k3 (rdOf ByteArray.empty l0 x32_3) false _ A15.out).mono ?_); rintro e w' ⟨rfl, ⟨nd, rfl⟩⟩; refine ⟨_, rfl, ?_⟩) | (go_at_call 14; (with_reducible refine (laws_digits.calls k3 (rdOf ByteArray.empty l0 x32_3) true _ A22.out).mono ?_); rintro e w' ⟨rfl, ⟨nd, rfl⟩⟩))
                go_meet
                case rel => exact ⟨_, (false), (by first | rfl | (simp; done) | (simp [*]; done) | (simp [bne_nil_hyb]; done) | (simp [bne_nil_hyb, *]; done)), (by first | exact H' | (rw [hji33]; exact H')), ⟨by have := HJ2.out; have := HJ6.out; have := HK3.out; first | omega | exact Nat.le_refl _⟩, ⟨by repeat (first | (with_reducible first | exact HB.out | apply below_alloc | apply pw_below_drewN | apply below_drew1) | exact HB.out)⟩⟩
              ·replace c23 := Bool.eq_false_iff.mpr c23
               subst c23
               have H1 : (laws_FnPackagistMarks.j3 k3 l0 l1 x5_3 x6_3 x32_3 (rdOf ByteArray.empty l0 x32_3) l0 (l0.length : Int) x32_3 true) = some r := by rw [if_neg (show ¬ (false = true) by decide)] at H; exact H
               clear H
               have H := H1
               clear H1
               have H' := Aside0.mk H
               clear H
               go_wp2_with (first | ((with_reducible refine gate_callee (f := 13) rfl ?_); refine goesL_ (some 38) rfl rfl Tryd.func13 (by kernel_rfl) rfl #[.string (rdOf ByteArray.empty l0 x32_3)] rfl (by (try simp only [List.map_toArray, List.map_cons, List.map_nil]); first | done | rfl | (simp only [List.length_drop, List.length_take]; rfl)) ?_; (with_reducible refine (laws_words.calls k3 (rdOf ByteArray.empty l0 x32_3) false _ A15.out).mono ?_); rintro e w' ⟨rfl, ⟨nd, rfl⟩⟩; refine ⟨_, rfl, ?_⟩) | (go_at_call 14; (with_reducible refine (laws_digits.calls k3 (rdOf ByteArray.empty l0 x32_3) false _ A22.out).mono ?_); rintro e w' ⟨rfl, ⟨nd, rfl⟩⟩))
               go_meet
               case rel => exact ⟨_, (true), (by first | rfl | (simp; done) | (simp [*]; done) | (simp [bne_nil_hyb]; done) | (simp [bne_nil_hyb, *]; done)), (by first | exact H' | (rw [hji33]; exact H')), ⟨by have := HJ2.out; have := HJ6.out; have := HK3.out; first | omega | exact Nat.le_refl _⟩, ⟨by repeat (first | (with_reducible first | exact HB.out | apply below_alloc | apply pw_below_drewN | apply below_drew1) | exact HB.out)⟩⟩
            case rest =>
             clear HC14
             try clear c1
             try clear p1
             try clear q1
             try clear hx1
             try clear qi1
             try clear c2
             try clear p2
             try clear q2
             try clear hx2
             try clear qi2
             try clear c5
             try clear c6
             try clear c8
             try clear c8b0
             try clear c8b1
             try clear c8b2
             try clear c10
             try clear c11
             try clear c11b0
             try clear c12
             try clear c12b0
             try clear c13
             try clear c13b0
             try clear c16
             try clear c17
             try clear c17b0
             try clear c17b1
             try clear c18
             try clear c18b0
             try clear c18b1
             try clear p19
             try clear q19
             try clear hx19
             try clear qi19
             try clear c20
             try clear c20b0
             try clear c20b1
             try clear p21
             try clear q21
             try clear hx21
             try clear qi21
             try clear p22
             try clear q22
             try clear hx22
             try clear c23
             try clear c24
             try clear c24b0
             try clear c24b1
             try clear c25
             try clear c25b0
             try clear c25b1
             try clear p26
             try clear q26
             try clear hx26
             try clear qi26
             try clear c27
             try clear c27b0
             try clear c27b1
             try clear p28
             try clear q28
             try clear hx28
             try clear qi28
             try clear hx229_0
             try clear p19
             try clear p2
             try clear p21
             try clear p229
             try clear p26
             try clear p28
             try clear q19
             try clear q21
             try clear q229
             try clear q26
             try clear q28
             obtain ⟨kq, x58_13, rfl, HA, HJ13, HB⟩ := hcut
             cases kq with
             | zero => exact absurd HA.out (by simp [laws_FnPackagistMarks.j3])
             | succ kj13 =>
              have H := HA.out
              clear HA
              simp only [laws_FnPackagistMarks.j3] at H
              by_cases c29 : x58_13 = true
              ·subst c29
               have H1 : (some true) = some r := by rw [if_pos rfl] at H; exact H
               clear H
               have H := H1
               clear H1
               obtain rfl := Option.some.inj H
               go_wp2
               go_ret
               exact ⟨by first | rfl | (simp [errW_none, errW_some] <;> rfl) | (simp [*, errW_none, errW_some] <;> rfl) | (simp [bne_nil_hyb]; done), by repeat (first | (with_reducible first | exact HB.out | apply below_alloc | apply pw_below_drewN | apply below_drew1) | exact HB.out)⟩
              ·replace c29 := Bool.eq_false_iff.mpr c29
               subst c29
               have H1 : (if x32_3 > 0 then (if x32_3 < (l1.length : Int) then ((some (([(⟨#[46]⟩ : ByteArray), (⟨#[45]⟩ : ByteArray), (⟨#[95]⟩ : ByteArray), (⟨#[43]⟩ : ByteArray)] : List ByteArray) : List ByteArray)).bind fun y232 => (if 0 ≤ x32_3 then (if 0 ≤ (Int.tmod (rd l1 x32_3) 4) then (if (Int.tmod (rd l1 x32_3) 4) < (y232.length : Int) then (if x5_3.size + 1 ≤ 9223372036854775807 then (if x6_3.size + (rdOf ByteArray.empty y232 (Int.tmod (rd l1 x32_3) 4)).size ≤ 9223372036854775807 then (if (x5_3 ++ (⟨#[46]⟩ : ByteArray)).size + (rdOf ByteArray.empty l0 x32_3).size ≤ 9223372036854775807 then (if (x6_3 ++ (rdOf ByteArray.empty y232 (Int.tmod (rd l1 x32_3) 4))).size + (rdOf ByteArray.empty l0 x32_3).size ≤ 9223372036854775807 then (laws_FnPackagistMarks.l0 kj13 l0 l1 ((x5_3 ++ (⟨#[46]⟩ : ByteArray)) ++ (rdOf ByteArray.empty l0 x32_3)) ((x6_3 ++ (rdOf ByteArray.empty y232 (Int.tmod (rd l1 x32_3) 4))) ++ (rdOf ByteArray.empty l0 x32_3)) l0 (l0.length : Int) (wrap64 (x32_3 + 1))) else (none)) else (none)) else (none)) else (none)) else (none)) else (none)) else (none))) else (if x5_3.size + 1 ≤ 9223372036854775807 then (if x6_3.size + 1 ≤ 9223372036854775807 then (if (x5_3 ++ (⟨#[46]⟩ : ByteArray)).size + (rdOf ByteArray.empty l0 x32_3).size ≤ 9223372036854775807 then (if (x6_3 ++ (⟨#[46]⟩ : ByteArray)).size + (rdOf ByteArray.empty l0 x32_3).size ≤ 9223372036854775807 then (laws_FnPackagistMarks.l0 kj13 l0 l1 ((x5_3 ++ (⟨#[46]⟩ : ByteArray)) ++ (rdOf ByteArray.empty l0 x32_3)) ((x6_3 ++ (⟨#[46]⟩ : ByteArray)) ++ (rdOf ByteArray.empty l0 x32_3)) l0 (l0.length : Int) (wrap64 (x32_3 + 1))) else (none)) else (none)) else (none)) else (none))) else (if x5_3.size + (rdOf ByteArray.empty l0 x32_3).size ≤ 9223372036854775807 then (if x6_3.size + (rdOf ByteArray.empty l0 x32_3).size ≤ 9223372036854775807 then (laws_FnPackagistMarks.l0 kj13 l0 l1 (x5_3 ++ (rdOf ByteArray.empty l0 x32_3)) (x6_3 ++ (rdOf ByteArray.empty l0 x32_3)) l0 (l0.length : Int) (wrap64 (x32_3 + 1))) else (none)) else (none))) = some r := by rw [if_neg (show ¬ (false = true) by decide)] at H; exact H
               clear H
               have H := H1
               clear H1
               by_cases c30 : x32_3 > 0
               ·rw [if_pos c30] at H
                have c30b0 : decide (0 < x32_3) = true := decide_eq_true c30
                clear c30
                by_cases c31 : x32_3 < (l1.length : Int)
                ·rw [if_pos c31] at H
                 have c31b0 : decide (x32_3 < (l1.length : Int)) = true := decide_eq_true c31
                 clear c31
                 obtain ⟨y232, hy232⟩ : ∃ y_ : List ByteArray, y_ = (([(⟨#[46]⟩ : ByteArray), (⟨#[45]⟩ : ByteArray), (⟨#[95]⟩ : ByteArray), (⟨#[43]⟩ : ByteArray)] : List ByteArray)) := ⟨_, rfl⟩
                 replace H : (if 0 ≤ x32_3 then (if 0 ≤ (Int.tmod (rd l1 x32_3) 4) then (if (Int.tmod (rd l1 x32_3) 4) < (y232.length : Int) then (if x5_3.size + 1 ≤ 9223372036854775807 then (if x6_3.size + (rdOf ByteArray.empty y232 (Int.tmod (rd l1 x32_3) 4)).size ≤ 9223372036854775807 then (if (x5_3 ++ (⟨#[46]⟩ : ByteArray)).size + (rdOf ByteArray.empty l0 x32_3).size ≤ 9223372036854775807 then (if (x6_3 ++ (rdOf ByteArray.empty y232 (Int.tmod (rd l1 x32_3) 4))).size + (rdOf ByteArray.empty l0 x32_3).size ≤ 9223372036854775807 then (laws_FnPackagistMarks.l0 kj13 l0 l1 ((x5_3 ++ (⟨#[46]⟩ : ByteArray)) ++ (rdOf ByteArray.empty l0 x32_3)) ((x6_3 ++ (rdOf ByteArray.empty y232 (Int.tmod (rd l1 x32_3) 4))) ++ (rdOf ByteArray.empty l0 x32_3)) l0 (l0.length : Int) (wrap64 (x32_3 + 1))) else (none)) else (none)) else (none)) else (none)) else (none)) else (none)) else (none)) = some r := by first | (rw [hy232]; with_reducible exact H) | (have H2_ := (Option.bind_some _ _).symm.trans H; rw [hy232]; with_reducible exact H2_) | (have H2_ := (Option.bind_some _ _).symm.trans H; with_reducible exact H2_) | with_reducible exact H | (rw [hy232]; exact H) | exact H
                 have Ny232 := Aside0.mk hy232
                 clear hy232
                 by_cases c32 : 0 ≤ x32_3
                 ·rw [if_pos c32] at H
                  have c32b0 : decide (0 ≤ x32_3) = true := decide_eq_true c32
                  clear c32
                  obtain ⟨ji33, hji33⟩ : ∃ j_ : Int, (Int.tmod (rd l1 x32_3) 4) = j_ := ⟨_, rfl⟩
                  replace H : (if 0 ≤ (ji33) then (if (ji33) < (y232.length : Int) then (if x5_3.size + 1 ≤ 9223372036854775807 then (if x6_3.size + (rdOf ByteArray.empty y232 (ji33)).size ≤ 9223372036854775807 then (if (x5_3 ++ (⟨#[46]⟩ : ByteArray)).size + (rdOf ByteArray.empty l0 x32_3).size ≤ 9223372036854775807 then (if (x6_3 ++ (rdOf ByteArray.empty y232 (ji33))).size + (rdOf ByteArray.empty l0 x32_3).size ≤ 9223372036854775807 then (laws_FnPackagistMarks.l0 kj13 l0 l1 ((x5_3 ++ (⟨#[46]⟩ : ByteArray)) ++ (rdOf ByteArray.empty l0 x32_3)) ((x6_3 ++ (rdOf ByteArray.empty y232 (ji33))) ++ (rdOf ByteArray.empty l0 x32_3)) l0 (l0.length : Int) (wrap64 (x32_3 + 1))) else (none)) else (none)) else (none)) else (none)) else (none)) else (none)) = some r := by first | (rw [hji33] at H; exact H) | (simp only [hji33] at H ⊢; exact H)
                  by_cases c34 : 0 ≤ (ji33)
                  ·rw [if_pos c34] at H
                   have c34b0 : decide (0 ≤ (ji33)) = true := decide_eq_true c34
                   clear c34
                   by_cases c35 : (ji33) < (y232.length : Int)
                   ·rw [if_pos c35] at H
                    have c35b0 : decide ((ji33) < (y232.length : Int)) = true := decide_eq_true c35
                    clear c35
                    by_cases c36 : x5_3.size + 1 ≤ 9223372036854775807
                    ·rw [if_pos c36] at H
                     have c36b0 := eq_true c36
                     have c36b1 : decide (x5_3.size + 1 ≤ 9223372036854775807) = true := decide_eq_true c36
                     try have c36b2 : (9223372036854775807 < x5_3.size + 1) = False := eq_false (Nat.not_lt.2 c36)
                     by_cases c37 : x6_3.size + (rdOf ByteArray.empty y232 (ji33)).size ≤ 9223372036854775807
                     ·rw [if_pos c37] at H
                      have c37b0 := eq_true c37
                      have c37b1 : decide (x6_3.size + (rdOf ByteArray.empty y232 (ji33)).size ≤ 9223372036854775807) = true := decide_eq_true c37
                      try have c37b2 : (9223372036854775807 < x6_3.size + (rdOf ByteArray.empty y232 (ji33)).size) = False := eq_false (Nat.not_lt.2 c37)
                      by_cases c38 : (x5_3 ++ (⟨#[46]⟩ : ByteArray)).size + (rdOf ByteArray.empty l0 x32_3).size ≤ 9223372036854775807
                      ·rw [if_pos c38] at H
                       have c38b0 := eq_true c38
                       have c38b1 : decide ((x5_3 ++ (⟨#[46]⟩ : ByteArray)).size + (rdOf ByteArray.empty l0 x32_3).size ≤ 9223372036854775807) = true := decide_eq_true c38
                       try have c38b2 : (9223372036854775807 < (x5_3 ++ (⟨#[46]⟩ : ByteArray)).size + (rdOf ByteArray.empty l0 x32_3).size) = False := eq_false (Nat.not_lt.2 c38)
                       try have c38b3 : (9223372036854775807 < x5_3.size + 1 + (rdOf ByteArray.empty l0 x32_3).size) = False := eq_false (by have h_ := c38; simp only [ByteArray.size_append] at h_; have e0_ : (⟨#[46]⟩ : ByteArray).size = 1 := rfl; omega)
                       try have c38b4 : (x5_3.size + 1 + (rdOf ByteArray.empty l0 x32_3).size ≤ 9223372036854775807) = True := eq_true (by have h_ := c38; simp only [ByteArray.size_append] at h_; have e0_ : (⟨#[46]⟩ : ByteArray).size = 1 := rfl; omega)
                       by_cases c39 : (x6_3 ++ (rdOf ByteArray.empty y232 (ji33))).size + (rdOf ByteArray.empty l0 x32_3).size ≤ 9223372036854775807
                       ·rw [if_pos c39] at H
                        have c39b0 := eq_true c39
                        have c39b1 : decide ((x6_3 ++ (rdOf ByteArray.empty y232 (ji33))).size + (rdOf ByteArray.empty l0 x32_3).size ≤ 9223372036854775807) = true := decide_eq_true c39
                        try have c39b2 : (9223372036854775807 < (x6_3 ++ (rdOf ByteArray.empty y232 (ji33))).size + (rdOf ByteArray.empty l0 x32_3).size) = False := eq_false (Nat.not_lt.2 c39)
                        try have c39b3 : (9223372036854775807 < x6_3.size + (rdOf ByteArray.empty y232 (ji33)).size + (rdOf ByteArray.empty l0 x32_3).size) = False := eq_false (by have h_ := c39; simp only [ByteArray.size_append] at h_; omega)
                        try have c39b4 : (x6_3.size + (rdOf ByteArray.empty y232 (ji33)).size + (rdOf ByteArray.empty l0 x32_3).size ≤ 9223372036854775807) = True := eq_true (by have h_ := c39; simp only [ByteArray.size_append] at h_; omega)
                        have H' := Aside0.mk H
                        clear H
                        go_wp2_with (first | ((with_reducible refine gate_dst (N := 65) rfl ?_); (try (refine gate_guard (by rfl) ?_; dsimp only)); refine Kd.R_lit Kd.string _ 9 ?hg (N := 65) ?hd (xs := ([(⟨#[46]⟩ : ByteArray), (⟨#[45]⟩ : ByteArray), (⟨#[95]⟩ : ByteArray), (⟨#[43]⟩ : ByteArray)] : List ByteArray)) (inner := [.string (⟨#[46]⟩ : ByteArray), .string (⟨#[45]⟩ : ByteArray), .string (⟨#[95]⟩ : ByteArray), .string (⟨#[43]⟩ : ByteArray)]) (ok := fun _ => True) (okp := fun _ => True) ?hr ?hp (fun _ hk => hk) trivial (Below.refl _ _) (Nat.le_refl _) (by simp) ?_; (case hd => rfl); (case hg => rfl); (case hr => first | (go_simp; done) | (go_simp; rfl)); (case hp => exact (Reps.one (show Kd.M Kd.string _ _ _ (⟨#[46]⟩ : ByteArray) [.string (⟨#[46]⟩ : ByteArray)] from rfl) (Reps.one (show Kd.M Kd.string _ _ _ (⟨#[45]⟩ : ByteArray) [.string (⟨#[45]⟩ : ByteArray)] from rfl) (Reps.one (show Kd.M Kd.string _ _ _ (⟨#[95]⟩ : ByteArray) [.string (⟨#[95]⟩ : ByteArray)] from rfl) (Reps.one (show Kd.M Kd.string _ _ _ (⟨#[43]⟩ : ByteArray) [.string (⟨#[43]⟩ : ByteArray)] from rfl) (Reps.none _ _)))))); intro v233 w40 ho41 hb hg_ hnew_; clear hg_ hnew_; (first | rw [← Ny232.out] at ho41 | (simp only [Int.reduceToNat] at ho41; rw [← Ny232.out] at ho41)); have n0_ := Aside0.mk (Kd.R_lower ho41 (below_size (by repeat (first | (with_reducible first | exact HB.out | apply below_alloc | apply pw_below_drewN | apply below_drew1) | exact HB.out)))); have n1_ := Aside0.mk (below_step (by repeat (first | (with_reducible first | exact HB.out | apply below_alloc | apply pw_below_drewN | apply below_drew1) | exact HB.out)) hb); clear HB; have HO234 := n0_; have HB := n1_; clear n0_ n1_; clear hb ho41; have p235 : 0 ≤ (x32_3 : Int) := of_decide_eq_true (by first | (with_reducible assumption) | assumption); have q235 : x32_3 < (l1.length : Int) := of_decide_eq_true (by first | (with_reducible assumption) | assumption); obtain ⟨ad235, e235, hx235_0⟩ := Kd.at_int HR1.out x32_3 p235 q235; cases e235; replace hx235_0 := (HB.out.cell (World.block_lt_of_cell? w _ hx235_0)).trans hx235_0; replace p235 := eq_true p235; replace q235 := eq_true q235; obtain ⟨Ao42, co42, eo42⟩ := Kd.R_slice HO234.out; subst eo42; have p236 : 0 ≤ ((ji33) : Int) := of_decide_eq_true (by first | (with_reducible assumption) | assumption); have q236 : (ji33) < (y232.length : Int) := of_decide_eq_true (by first | (with_reducible assumption) | assumption); obtain ⟨ad236, e236, hx236_0⟩ := Kd.at_string (Kd.R_reads' HO234.out).2.2 (ji33) p236 q236; cases e236; replace p236 := eq_true p236; replace q236 := eq_true q236))
                        go_roundg kj13
                        case measure => have := HJ2.out; have := HJ6.out; have := HK3.out; have := HJ13.out; omega
                        case rel => exact ⟨((x5_3 ++ (⟨#[46]⟩ : ByteArray)) ++ (rdOf ByteArray.empty l0 x32_3)), ((x6_3 ++ (rdOf ByteArray.empty y232 (ji33))) ++ (rdOf ByteArray.empty l0 x32_3)), (wrap64 (x32_3 + 1)), (by first | rfl | (simp; done) | (simp [*]; done) | (simp [bne_nil_hyb]; done) | (simp [bne_nil_hyb, *]; done)), (by first | rfl | (simp; done) | (simp only [← hji33] <;> (first | rfl | simp)) | (simp [*]; done)), (by first | rfl | (simp; done) | (simp [*]; done) | (simp [bne_nil_hyb]; done) | (simp [bne_nil_hyb, *]; done)), (by first | exact H' | (rw [hji33]; exact H')), ⟨by have := HJ2.out; have := HJ6.out; have := HK3.out; have := HJ13.out; omega⟩, ⟨by repeat (first | (with_reducible first | exact HB.out | apply below_alloc | apply pw_below_drewN | apply below_drew1) | exact HB.out)⟩⟩
                       ·rw [if_neg c39] at H
                        exact absurd H (by simp)
                      ·rw [if_neg c38] at H
                       exact absurd H (by simp)
                     ·rw [if_neg c37] at H
                      exact absurd H (by simp)
                    ·rw [if_neg c36] at H
                     exact absurd H (by simp)
                   ·rw [if_neg c35] at H
                    exact absurd H (by simp)
                  ·rw [if_neg c34] at H
                   exact absurd H (by simp)
                 ·rw [if_neg c32] at H
                  exact absurd H (by simp)
                ·rw [if_neg c31] at H
                 have c31b0 : decide (x32_3 < (l1.length : Int)) = false := decide_eq_false c31
                 clear c31
                 by_cases c43 : x5_3.size + 1 ≤ 9223372036854775807
                 ·rw [if_pos c43] at H
                  have c43b0 := eq_true c43
                  have c43b1 : decide (x5_3.size + 1 ≤ 9223372036854775807) = true := decide_eq_true c43
                  try have c43b2 : (9223372036854775807 < x5_3.size + 1) = False := eq_false (Nat.not_lt.2 c43)
                  by_cases c44 : x6_3.size + 1 ≤ 9223372036854775807
                  ·rw [if_pos c44] at H
                   have c44b0 := eq_true c44
                   have c44b1 : decide (x6_3.size + 1 ≤ 9223372036854775807) = true := decide_eq_true c44
                   try have c44b2 : (9223372036854775807 < x6_3.size + 1) = False := eq_false (Nat.not_lt.2 c44)
                   by_cases c45 : (x5_3 ++ (⟨#[46]⟩ : ByteArray)).size + (rdOf ByteArray.empty l0 x32_3).size ≤ 9223372036854775807
                   ·rw [if_pos c45] at H
                    have c45b0 := eq_true c45
                    have c45b1 : decide ((x5_3 ++ (⟨#[46]⟩ : ByteArray)).size + (rdOf ByteArray.empty l0 x32_3).size ≤ 9223372036854775807) = true := decide_eq_true c45
                    try have c45b2 : (9223372036854775807 < (x5_3 ++ (⟨#[46]⟩ : ByteArray)).size + (rdOf ByteArray.empty l0 x32_3).size) = False := eq_false (Nat.not_lt.2 c45)
                    try have c45b3 : (9223372036854775807 < x5_3.size + 1 + (rdOf ByteArray.empty l0 x32_3).size) = False := eq_false (by have h_ := c45; simp only [ByteArray.size_append] at h_; have e0_ : (⟨#[46]⟩ : ByteArray).size = 1 := rfl; omega)
                    try have c45b4 : (x5_3.size + 1 + (rdOf ByteArray.empty l0 x32_3).size ≤ 9223372036854775807) = True := eq_true (by have h_ := c45; simp only [ByteArray.size_append] at h_; have e0_ : (⟨#[46]⟩ : ByteArray).size = 1 := rfl; omega)
                    by_cases c46 : (x6_3 ++ (⟨#[46]⟩ : ByteArray)).size + (rdOf ByteArray.empty l0 x32_3).size ≤ 9223372036854775807
                    ·rw [if_pos c46] at H
                     have c46b0 := eq_true c46
                     have c46b1 : decide ((x6_3 ++ (⟨#[46]⟩ : ByteArray)).size + (rdOf ByteArray.empty l0 x32_3).size ≤ 9223372036854775807) = true := decide_eq_true c46
                     try have c46b2 : (9223372036854775807 < (x6_3 ++ (⟨#[46]⟩ : ByteArray)).size + (rdOf ByteArray.empty l0 x32_3).size) = False := eq_false (Nat.not_lt.2 c46)
                     try have c46b3 : (9223372036854775807 < x6_3.size + 1 + (rdOf ByteArray.empty l0 x32_3).size) = False := eq_false (by have h_ := c46; simp only [ByteArray.size_append] at h_; have e0_ : (⟨#[46]⟩ : ByteArray).size = 1 := rfl; omega)
                     try have c46b4 : (x6_3.size + 1 + (rdOf ByteArray.empty l0 x32_3).size ≤ 9223372036854775807) = True := eq_true (by have h_ := c46; simp only [ByteArray.size_append] at h_; have e0_ : (⟨#[46]⟩ : ByteArray).size = 1 := rfl; omega)
                     have H' := Aside0.mk H
                     clear H
                     go_wp2
                     go_roundg kj13
                     case measure => have := HJ2.out; have := HJ6.out; have := HK3.out; have := HJ13.out; omega
                     case rel => exact ⟨((x5_3 ++ (⟨#[46]⟩ : ByteArray)) ++ (rdOf ByteArray.empty l0 x32_3)), ((x6_3 ++ (⟨#[46]⟩ : ByteArray)) ++ (rdOf ByteArray.empty l0 x32_3)), (wrap64 (x32_3 + 1)), (by first | rfl | (simp; done) | (simp [*]; done) | (simp [bne_nil_hyb]; done) | (simp [bne_nil_hyb, *]; done)), (by first | rfl | (simp; done) | (simp [*]; done) | (simp [bne_nil_hyb]; done) | (simp [bne_nil_hyb, *]; done)), (by first | rfl | (simp; done) | (simp [*]; done) | (simp [bne_nil_hyb]; done) | (simp [bne_nil_hyb, *]; done)), (by first | exact H' | (rw [hji33]; exact H')), ⟨by have := HJ2.out; have := HJ6.out; have := HK3.out; have := HJ13.out; omega⟩, ⟨by repeat (first | (with_reducible first | exact HB.out | apply below_alloc | apply pw_below_drewN | apply below_drew1) | exact HB.out)⟩⟩
                    ·rw [if_neg c46] at H
                     exact absurd H (by simp)
                   ·rw [if_neg c45] at H
                    exact absurd H (by simp)
                  ·rw [if_neg c44] at H
                   exact absurd H (by simp)
                 ·rw [if_neg c43] at H
                  exact absurd H (by simp)
               ·rw [if_neg c30] at H
                have c30b0 : decide (0 < x32_3) = false := decide_eq_false c30
                clear c30
                by_cases c47 : x5_3.size + (rdOf ByteArray.empty l0 x32_3).size ≤ 9223372036854775807
                ·rw [if_pos c47] at H
                 have c47b0 := eq_true c47
                 have c47b1 : decide (x5_3.size + (rdOf ByteArray.empty l0 x32_3).size ≤ 9223372036854775807) = true := decide_eq_true c47
                 try have c47b2 : (9223372036854775807 < x5_3.size + (rdOf ByteArray.empty l0 x32_3).size) = False := eq_false (Nat.not_lt.2 c47)
                 by_cases c48 : x6_3.size + (rdOf ByteArray.empty l0 x32_3).size ≤ 9223372036854775807
                 ·rw [if_pos c48] at H
                  have c48b0 := eq_true c48
                  have c48b1 : decide (x6_3.size + (rdOf ByteArray.empty l0 x32_3).size ≤ 9223372036854775807) = true := decide_eq_true c48
                  try have c48b2 : (9223372036854775807 < x6_3.size + (rdOf ByteArray.empty l0 x32_3).size) = False := eq_false (Nat.not_lt.2 c48)
                  have H' := Aside0.mk H
                  clear H
                  go_wp2
                  go_roundg kj13
                  case measure => have := HJ2.out; have := HJ6.out; have := HK3.out; have := HJ13.out; omega
                  case rel => exact ⟨(x5_3 ++ (rdOf ByteArray.empty l0 x32_3)), (x6_3 ++ (rdOf ByteArray.empty l0 x32_3)), (wrap64 (x32_3 + 1)), (by first | rfl | (simp; done) | (simp [*]; done) | (simp [bne_nil_hyb]; done) | (simp [bne_nil_hyb, *]; done)), (by first | rfl | (simp; done) | (simp [*]; done) | (simp [bne_nil_hyb]; done) | (simp [bne_nil_hyb, *]; done)), (by first | rfl | (simp; done) | (simp [*]; done) | (simp [bne_nil_hyb]; done) | (simp [bne_nil_hyb, *]; done)), (by first | exact H' | (rw [hji33]; exact H')), ⟨by have := HJ2.out; have := HJ6.out; have := HK3.out; have := HJ13.out; omega⟩, ⟨by repeat (first | (with_reducible first | exact HB.out | apply below_alloc | apply pw_below_drewN | apply below_drew1) | exact HB.out)⟩⟩
                 ·rw [if_neg c48] at H
                  exact absurd H (by simp)
                ·rw [if_neg c47] at H
                 exact absurd H (by simp)
           ·rw [if_neg c13] at H
            exact absurd H (by simp)
          ·rw [if_neg c12] at H
           exact absurd H (by simp)
         ·rw [if_neg c11] at H
          have c11b0 : decide (x32_3 < (l0.length : Int)) = false := decide_eq_false c11
          clear c11
          replace H := Option.bind_eq_some_iff.mp H
          obtain ⟨t237, A490, H⟩ := H
          replace H : (if t237 = true then ((impl_PackagistCompareText.f k3 x5_3 x6_3).bind fun bt238 => (if 1 + x6_3.size ≤ 9223372036854775807 then ((impl_PackagistCompareText.f k3 ((⟨#[118]⟩ : ByteArray) ++ x6_3) x5_3).bind fun bt240 => (if bt238.2 = true then (if bt240.2 = true then (if bt238.1 = 0 then (if bt240.1 = 0 then ((impl_PackagistParse.f k3 x6_3).bind fun t242 => ((laws_texts.f k3 t242 l0).bind fun t245 => (some t245))) else (some false)) else (some false)) else (some false)) else (some false))) else (none))) else (some true)) = some r := H
          have A49 := Aside0.mk A490
          clear A490
          by_cases c50 : t237 = true
          ·subst c50
           have H1 : ((impl_PackagistCompareText.f k3 x5_3 x6_3).bind fun bt238 => (if 1 + x6_3.size ≤ 9223372036854775807 then ((impl_PackagistCompareText.f k3 ((⟨#[118]⟩ : ByteArray) ++ x6_3) x5_3).bind fun bt240 => (if bt238.2 = true then (if bt240.2 = true then (if bt238.1 = 0 then (if bt240.1 = 0 then ((impl_PackagistParse.f k3 x6_3).bind fun t242 => ((laws_texts.f k3 t242 l0).bind fun t245 => (some t245))) else (some false)) else (some false)) else (some false)) else (some false))) else (none))) = some r := by rw [if_pos rfl] at H; exact H
           clear H
           have H := H1
           clear H1
           replace H := Option.bind_eq_some_iff.mp H
           obtain ⟨⟨t238, t239⟩, A510, H⟩ := H
           replace H : (if 1 + x6_3.size ≤ 9223372036854775807 then ((impl_PackagistCompareText.f k3 ((⟨#[118]⟩ : ByteArray) ++ x6_3) x5_3).bind fun bt240 => (if t239 = true then (if bt240.2 = true then (if t238 = 0 then (if bt240.1 = 0 then ((impl_PackagistParse.f k3 x6_3).bind fun t242 => ((laws_texts.f k3 t242 l0).bind fun t245 => (some t245))) else (some false)) else (some false)) else (some false)) else (some false))) else (none)) = some r := H
           have A51 := Aside0.mk A510
           clear A510
           by_cases c52 : 1 + x6_3.size ≤ 9223372036854775807
           ·rw [if_pos c52] at H
            have c52b0 := eq_true c52
            have c52b1 : decide (1 + x6_3.size ≤ 9223372036854775807) = true := decide_eq_true c52
            try have c52b2 : (9223372036854775807 < 1 + x6_3.size) = False := eq_false (Nat.not_lt.2 c52)
            replace H := Option.bind_eq_some_iff.mp H
            obtain ⟨⟨t240, t241⟩, A530, H⟩ := H
            replace H : (if t239 = true then (if t241 = true then (if t238 = 0 then (if t240 = 0 then ((impl_PackagistParse.f k3 x6_3).bind fun t242 => ((laws_texts.f k3 t242 l0).bind fun t245 => (some t245))) else (some false)) else (some false)) else (some false)) else (some false)) = some r := H
            have A53 := Aside0.mk A530
            clear A530
            by_cases c54 : t239 = true
            ·subst c54
             have H1 : (if t241 = true then (if t238 = 0 then (if t240 = 0 then ((impl_PackagistParse.f k3 x6_3).bind fun t242 => ((laws_texts.f k3 t242 l0).bind fun t245 => (some t245))) else (some false)) else (some false)) else (some false)) = some r := by rw [if_pos rfl] at H; exact H
             clear H
             have H := H1
             clear H1
             by_cases c55 : t241 = true
             ·subst c55
              have H1 : (if t238 = 0 then (if t240 = 0 then ((impl_PackagistParse.f k3 x6_3).bind fun t242 => ((laws_texts.f k3 t242 l0).bind fun t245 => (some t245))) else (some false)) else (some false)) = some r := by rw [if_pos rfl] at H; exact H
              clear H
              have H := H1
              clear H1
              by_cases c56 : t238 = 0
              ·rw [if_pos c56] at H
               have c56b0 : (t238 == 0) = true := beq_iff_eq.mpr c56
               have c56b1 : (t238 != 0) = false := bne_eq_false_iff_eq.mpr c56
               clear c56
               by_cases c57 : t240 = 0
               ·rw [if_pos c57] at H
                have c57b0 : (t240 == 0) = true := beq_iff_eq.mpr c57
                have c57b1 : (t240 != 0) = false := bne_eq_false_iff_eq.mpr c57
                clear c57
                replace H := Option.bind_eq_some_iff.mp H
                obtain ⟨t242, A580, H⟩ := H
                replace H : ((laws_texts.f k3 t242 l0).bind fun t245 => (some t245)) = some r := H
                have A58 := Aside0.mk A580
                clear A580
                replace H := Option.bind_eq_some_iff.mp H
                obtain ⟨t245, A590, H⟩ := H
                replace H : (some t245) = some r := H
                have A59 := Aside0.mk A590
                clear A590
                obtain rfl := Option.some.inj H
                go_wp2_with (first | ((with_reducible refine gate_callee (f := 15) rfl ?_); refine goesL_ (some 86) rfl rfl Tryd.func15 (by kernel_rfl) rfl #[.slice A0 l0.length c0] rfl (by (try simp only [List.map_toArray, List.map_cons, List.map_nil]); first | done | rfl | (simp only [List.length_drop, List.length_take]; rfl)) ?_; (with_reducible refine (spec_PackagistKnown.calls k3 _ _ l0 true _ ?side1 ?side2 A49.out).mono ?_); (case side1 => repeat (first | exact (Kd.C_below HR0.out HB.out) | (with_reducible refine Kd.C_alloc ?_ _) | (with_reducible refine Kd.C_drewN ?_ _) | (with_reducible refine Kd.C_drew ?_))); (case side2 => exact HC0.out); rintro e w' ⟨rfl, ⟨nd, rfl⟩⟩; refine ⟨_, rfl, ?_⟩) | ((with_reducible refine gate_callee (f := 9) rfl ?_); refine goesL_ (some 91) rfl rfl Tryd.func9 (by kernel_rfl) rfl #[.string x5_3, .string x6_3] rfl (by (try simp only [List.map_toArray, List.map_cons, List.map_nil]); first | done | rfl | (simp only [List.length_drop, List.length_take]; rfl)) ?_; (with_reducible refine (impl_PackagistCompareText.calls k3 x5_3 x6_3 t238 true _ A51.out (by first | exact GL.at HG.out (by repeat (first | (with_reducible first | exact HB.out | apply below_alloc | apply pw_below_drewN | apply below_drew1) | exact HB.out)) | exact HG.out)).mono ?_); rintro e w60 ⟨rfl, hb⟩; refine ⟨_, rfl, ?_⟩; have n0_ := Aside0.mk (below_step (by repeat (first | (with_reducible first | exact HB.out | apply below_alloc | apply pw_below_drewN | apply below_drew1) | exact HB.out)) hb); clear HB; have HB := n0_; clear n0_; (try clear hb); (try clear hb2); (try clear hk); (try clear hi)) | ((with_reducible refine gate_callee (f := 9) rfl ?_); refine goesL_ (some 98) rfl rfl Tryd.func9 (by kernel_rfl) rfl #[.string ((⟨#[118]⟩ : ByteArray) ++ x6_3), .string x5_3] rfl (by (try simp only [List.map_toArray, List.map_cons, List.map_nil]); first | done | rfl | (simp only [List.length_drop, List.length_take]; rfl)) ?_; (with_reducible refine (impl_PackagistCompareText.calls k3 ((⟨#[118]⟩ : ByteArray) ++ x6_3) x5_3 t240 true _ A53.out (by first | exact GL.at HG.out (by repeat (first | (with_reducible first | exact HB.out | apply below_alloc | apply pw_below_drewN | apply below_drew1) | exact HB.out)) | exact HG.out)).mono ?_); rintro e w61 ⟨rfl, hb⟩; refine ⟨_, rfl, ?_⟩; have n0_ := Aside0.mk (below_step (by repeat (first | (with_reducible first | exact HB.out | apply below_alloc | apply pw_below_drewN | apply below_drew1) | exact HB.out)) hb); clear HB; have HB := n0_; clear n0_; (try clear hb); (try clear hb2); (try clear hk); (try clear hi)) | (go_at_call 17; (with_reducible refine (impl_PackagistParse.calls k3 x6_3 t242 _ A58.out).mono ?_); rintro e w62 ⟨v243, rfl, ho0, hb⟩; have n0_ := Aside0.mk (Kd.R_lower ho0 (below_size (by repeat (first | (with_reducible first | exact HB.out | apply below_alloc | apply pw_below_drewN | apply below_drew1) | exact HB.out)))); have n1_ := Aside0.mk (below_step (by repeat (first | (with_reducible first | exact HB.out | apply below_alloc | apply pw_below_drewN | apply below_drew1) | exact HB.out)) hb); clear HB; have HO244 := n0_; have HB := n1_; clear n0_ n1_; (try clear hb); (try clear hb2); (try clear hk); (try clear hi); (try clear ho0); obtain ⟨Ao63, co63, eo63⟩ := Kd.R_slice HO244.out; subst eo63) | (go_at_call 16; (with_reducible refine (laws_texts.calls k3 _ _ t242 _ _ l0 t245 _ ?side1 ?side2 ?side3 ?side4 A59.out).mono ?_); (case side1 => repeat (first | exact (Kd.R_reads' HO244.out).2.2 | (with_reducible refine Kd.C_alloc ?_ _) | (with_reducible refine Kd.C_drewN ?_ _) | (with_reducible refine Kd.C_drew ?_))); (case side2 => exact (Kd.R_reads' HO244.out).2.1); (case side3 => repeat (first | exact (Kd.C_below HR0.out HB.out) | (with_reducible refine Kd.C_alloc ?_ _) | (with_reducible refine Kd.C_drewN ?_ _) | (with_reducible refine Kd.C_drew ?_))); (case side4 => exact HC0.out); rintro e w' ⟨rfl, ⟨nd, rfl⟩⟩))
                go_ret
                exact ⟨by first | rfl | (simp [errW_none, errW_some] <;> rfl) | (simp [*, errW_none, errW_some] <;> rfl) | (simp [bne_nil_hyb]; done), by repeat (first | (with_reducible first | exact HB.out | apply below_alloc | apply pw_below_drewN | apply below_drew1) | exact HB.out)⟩
               ·rw [if_neg c57] at H
                have c57b0 : (t240 == 0) = false := beq_eq_false_iff_ne.mpr c57
                have c57b1 : (t240 != 0) = true := bne_iff_ne.mpr c57
                obtain rfl := Option.some.inj H
                go_wp2_with (first | ((with_reducible refine gate_callee (f := 15) rfl ?_); refine goesL_ (some 86) rfl rfl Tryd.func15 (by kernel_rfl) rfl #[.slice A0 l0.length c0] rfl (by (try simp only [List.map_toArray, List.map_cons, List.map_nil]); first | done | rfl | (simp only [List.length_drop, List.length_take]; rfl)) ?_; (with_reducible refine (spec_PackagistKnown.calls k3 _ _ l0 true _ ?side1 ?side2 A49.out).mono ?_); (case side1 => repeat (first | exact (Kd.C_below HR0.out HB.out) | (with_reducible refine Kd.C_alloc ?_ _) | (with_reducible refine Kd.C_drewN ?_ _) | (with_reducible refine Kd.C_drew ?_))); (case side2 => exact HC0.out); rintro e w' ⟨rfl, ⟨nd, rfl⟩⟩; refine ⟨_, rfl, ?_⟩) | ((with_reducible refine gate_callee (f := 9) rfl ?_); refine goesL_ (some 91) rfl rfl Tryd.func9 (by kernel_rfl) rfl #[.string x5_3, .string x6_3] rfl (by (try simp only [List.map_toArray, List.map_cons, List.map_nil]); first | done | rfl | (simp only [List.length_drop, List.length_take]; rfl)) ?_; (with_reducible refine (impl_PackagistCompareText.calls k3 x5_3 x6_3 t238 true _ A51.out (by first | exact GL.at HG.out (by repeat (first | (with_reducible first | exact HB.out | apply below_alloc | apply pw_below_drewN | apply below_drew1) | exact HB.out)) | exact HG.out)).mono ?_); rintro e w64 ⟨rfl, hb⟩; refine ⟨_, rfl, ?_⟩; have n0_ := Aside0.mk (below_step (by repeat (first | (with_reducible first | exact HB.out | apply below_alloc | apply pw_below_drewN | apply below_drew1) | exact HB.out)) hb); clear HB; have HB := n0_; clear n0_; (try clear hb); (try clear hb2); (try clear hk); (try clear hi)) | ((with_reducible refine gate_callee (f := 9) rfl ?_); refine goesL_ (some 98) rfl rfl Tryd.func9 (by kernel_rfl) rfl #[.string ((⟨#[118]⟩ : ByteArray) ++ x6_3), .string x5_3] rfl (by (try simp only [List.map_toArray, List.map_cons, List.map_nil]); first | done | rfl | (simp only [List.length_drop, List.length_take]; rfl)) ?_; (with_reducible refine (impl_PackagistCompareText.calls k3 ((⟨#[118]⟩ : ByteArray) ++ x6_3) x5_3 t240 true _ A53.out (by first | exact GL.at HG.out (by repeat (first | (with_reducible first | exact HB.out | apply below_alloc | apply pw_below_drewN | apply below_drew1) | exact HB.out)) | exact HG.out)).mono ?_); rintro e w65 ⟨rfl, hb⟩; refine ⟨_, rfl, ?_⟩; have n0_ := Aside0.mk (below_step (by repeat (first | (with_reducible first | exact HB.out | apply below_alloc | apply pw_below_drewN | apply below_drew1) | exact HB.out)) hb); clear HB; have HB := n0_; clear n0_; (try clear hb); (try clear hb2); (try clear hk); (try clear hi)))
                go_ret
                exact ⟨by first | rfl | (simp [errW_none, errW_some] <;> rfl) | (simp [*, errW_none, errW_some] <;> rfl) | (simp [bne_nil_hyb]; done), by repeat (first | (with_reducible first | exact HB.out | apply below_alloc | apply pw_below_drewN | apply below_drew1) | exact HB.out)⟩
              ·rw [if_neg c56] at H
               have c56b0 : (t238 == 0) = false := beq_eq_false_iff_ne.mpr c56
               have c56b1 : (t238 != 0) = true := bne_iff_ne.mpr c56
               obtain rfl := Option.some.inj H
               go_wp2_with (first | ((with_reducible refine gate_callee (f := 15) rfl ?_); refine goesL_ (some 86) rfl rfl Tryd.func15 (by kernel_rfl) rfl #[.slice A0 l0.length c0] rfl (by (try simp only [List.map_toArray, List.map_cons, List.map_nil]); first | done | rfl | (simp only [List.length_drop, List.length_take]; rfl)) ?_; (with_reducible refine (spec_PackagistKnown.calls k3 _ _ l0 true _ ?side1 ?side2 A49.out).mono ?_); (case side1 => repeat (first | exact (Kd.C_below HR0.out HB.out) | (with_reducible refine Kd.C_alloc ?_ _) | (with_reducible refine Kd.C_drewN ?_ _) | (with_reducible refine Kd.C_drew ?_))); (case side2 => exact HC0.out); rintro e w' ⟨rfl, ⟨nd, rfl⟩⟩; refine ⟨_, rfl, ?_⟩) | ((with_reducible refine gate_callee (f := 9) rfl ?_); refine goesL_ (some 91) rfl rfl Tryd.func9 (by kernel_rfl) rfl #[.string x5_3, .string x6_3] rfl (by (try simp only [List.map_toArray, List.map_cons, List.map_nil]); first | done | rfl | (simp only [List.length_drop, List.length_take]; rfl)) ?_; (with_reducible refine (impl_PackagistCompareText.calls k3 x5_3 x6_3 t238 true _ A51.out (by first | exact GL.at HG.out (by repeat (first | (with_reducible first | exact HB.out | apply below_alloc | apply pw_below_drewN | apply below_drew1) | exact HB.out)) | exact HG.out)).mono ?_); rintro e w66 ⟨rfl, hb⟩; refine ⟨_, rfl, ?_⟩; have n0_ := Aside0.mk (below_step (by repeat (first | (with_reducible first | exact HB.out | apply below_alloc | apply pw_below_drewN | apply below_drew1) | exact HB.out)) hb); clear HB; have HB := n0_; clear n0_; (try clear hb); (try clear hb2); (try clear hk); (try clear hi)) | ((with_reducible refine gate_callee (f := 9) rfl ?_); refine goesL_ (some 98) rfl rfl Tryd.func9 (by kernel_rfl) rfl #[.string ((⟨#[118]⟩ : ByteArray) ++ x6_3), .string x5_3] rfl (by (try simp only [List.map_toArray, List.map_cons, List.map_nil]); first | done | rfl | (simp only [List.length_drop, List.length_take]; rfl)) ?_; (with_reducible refine (impl_PackagistCompareText.calls k3 ((⟨#[118]⟩ : ByteArray) ++ x6_3) x5_3 t240 true _ A53.out (by first | exact GL.at HG.out (by repeat (first | (with_reducible first | exact HB.out | apply below_alloc | apply pw_below_drewN | apply below_drew1) | exact HB.out)) | exact HG.out)).mono ?_); rintro e w67 ⟨rfl, hb⟩; refine ⟨_, rfl, ?_⟩; have n0_ := Aside0.mk (below_step (by repeat (first | (with_reducible first | exact HB.out | apply below_alloc | apply pw_below_drewN | apply below_drew1) | exact HB.out)) hb); clear HB; have HB := n0_; clear n0_; (try clear hb); (try clear hb2); (try clear hk); (try clear hi)))
               go_ret
               exact ⟨by first | rfl | (simp [errW_none, errW_some] <;> rfl) | (simp [*, errW_none, errW_some] <;> rfl) | (simp [bne_nil_hyb]; done), by repeat (first | (with_reducible first | exact HB.out | apply below_alloc | apply pw_below_drewN | apply below_drew1) | exact HB.out)⟩
             ·replace c55 := Bool.eq_false_iff.mpr c55
              subst c55
              have H1 : (some false) = some r := by rw [if_neg (show ¬ (false = true) by decide)] at H; exact H
              clear H
              have H := H1
              clear H1
              obtain rfl := Option.some.inj H
              go_wp2_with (first | ((with_reducible refine gate_callee (f := 15) rfl ?_); refine goesL_ (some 86) rfl rfl Tryd.func15 (by kernel_rfl) rfl #[.slice A0 l0.length c0] rfl (by (try simp only [List.map_toArray, List.map_cons, List.map_nil]); first | done | rfl | (simp only [List.length_drop, List.length_take]; rfl)) ?_; (with_reducible refine (spec_PackagistKnown.calls k3 _ _ l0 true _ ?side1 ?side2 A49.out).mono ?_); (case side1 => repeat (first | exact (Kd.C_below HR0.out HB.out) | (with_reducible refine Kd.C_alloc ?_ _) | (with_reducible refine Kd.C_drewN ?_ _) | (with_reducible refine Kd.C_drew ?_))); (case side2 => exact HC0.out); rintro e w' ⟨rfl, ⟨nd, rfl⟩⟩; refine ⟨_, rfl, ?_⟩) | ((with_reducible refine gate_callee (f := 9) rfl ?_); refine goesL_ (some 91) rfl rfl Tryd.func9 (by kernel_rfl) rfl #[.string x5_3, .string x6_3] rfl (by (try simp only [List.map_toArray, List.map_cons, List.map_nil]); first | done | rfl | (simp only [List.length_drop, List.length_take]; rfl)) ?_; (with_reducible refine (impl_PackagistCompareText.calls k3 x5_3 x6_3 t238 true _ A51.out (by first | exact GL.at HG.out (by repeat (first | (with_reducible first | exact HB.out | apply below_alloc | apply pw_below_drewN | apply below_drew1) | exact HB.out)) | exact HG.out)).mono ?_); rintro e w68 ⟨rfl, hb⟩; refine ⟨_, rfl, ?_⟩; have n0_ := Aside0.mk (below_step (by repeat (first | (with_reducible first | exact HB.out | apply below_alloc | apply pw_below_drewN | apply below_drew1) | exact HB.out)) hb); clear HB; have HB := n0_; clear n0_; (try clear hb); (try clear hb2); (try clear hk); (try clear hi)) | ((with_reducible refine gate_callee (f := 9) rfl ?_); refine goesL_ (some 98) rfl rfl Tryd.func9 (by kernel_rfl) rfl #[.string ((⟨#[118]⟩ : ByteArray) ++ x6_3), .string x5_3] rfl (by (try simp only [List.map_toArray, List.map_cons, List.map_nil]); first | done | rfl | (simp only [List.length_drop, List.length_take]; rfl)) ?_; (with_reducible refine (impl_PackagistCompareText.calls k3 ((⟨#[118]⟩ : ByteArray) ++ x6_3) x5_3 t240 false _ A53.out (by first | exact GL.at HG.out (by repeat (first | (with_reducible first | exact HB.out | apply below_alloc | apply pw_below_drewN | apply below_drew1) | exact HB.out)) | exact HG.out)).mono ?_); rintro e w69 ⟨rfl, hb⟩; refine ⟨_, rfl, ?_⟩; have n0_ := Aside0.mk (below_step (by repeat (first | (with_reducible first | exact HB.out | apply below_alloc | apply pw_below_drewN | apply below_drew1) | exact HB.out)) hb); clear HB; have HB := n0_; clear n0_; (try clear hb); (try clear hb2); (try clear hk); (try clear hi)))
              go_ret
              exact ⟨by first | rfl | (simp [errW_none, errW_some] <;> rfl) | (simp [*, errW_none, errW_some] <;> rfl) | (simp [bne_nil_hyb]; done), by repeat (first | (with_reducible first | exact HB.out | apply below_alloc | apply pw_below_drewN | apply below_drew1) | exact HB.out)⟩
            ·replace c54 := Bool.eq_false_iff.mpr c54
             subst c54
             have H1 : (some false) = some r := by rw [if_neg (show ¬ (false = true) by decide)] at H; exact H
             clear H
             have H := H1
             clear H1
             obtain rfl := Option.some.inj H
             go_wp2_with (first | ((with_reducible refine gate_callee (f := 15) rfl ?_); refine goesL_ (some 86) rfl rfl Tryd.func15 (by kernel_rfl) rfl #[.slice A0 l0.length c0] rfl (by (try simp only [List.map_toArray, List.map_cons, List.map_nil]); first | done | rfl | (simp only [List.length_drop, List.length_take]; rfl)) ?_; (with_reducible refine (spec_PackagistKnown.calls k3 _ _ l0 true _ ?side1 ?side2 A49.out).mono ?_); (case side1 => repeat (first | exact (Kd.C_below HR0.out HB.out) | (with_reducible refine Kd.C_alloc ?_ _) | (with_reducible refine Kd.C_drewN ?_ _) | (with_reducible refine Kd.C_drew ?_))); (case side2 => exact HC0.out); rintro e w' ⟨rfl, ⟨nd, rfl⟩⟩; refine ⟨_, rfl, ?_⟩) | ((with_reducible refine gate_callee (f := 9) rfl ?_); refine goesL_ (some 91) rfl rfl Tryd.func9 (by kernel_rfl) rfl #[.string x5_3, .string x6_3] rfl (by (try simp only [List.map_toArray, List.map_cons, List.map_nil]); first | done | rfl | (simp only [List.length_drop, List.length_take]; rfl)) ?_; (with_reducible refine (impl_PackagistCompareText.calls k3 x5_3 x6_3 t238 false _ A51.out (by first | exact GL.at HG.out (by repeat (first | (with_reducible first | exact HB.out | apply below_alloc | apply pw_below_drewN | apply below_drew1) | exact HB.out)) | exact HG.out)).mono ?_); rintro e w70 ⟨rfl, hb⟩; refine ⟨_, rfl, ?_⟩; have n0_ := Aside0.mk (below_step (by repeat (first | (with_reducible first | exact HB.out | apply below_alloc | apply pw_below_drewN | apply below_drew1) | exact HB.out)) hb); clear HB; have HB := n0_; clear n0_; (try clear hb); (try clear hb2); (try clear hk); (try clear hi)) | ((with_reducible refine gate_callee (f := 9) rfl ?_); refine goesL_ (some 98) rfl rfl Tryd.func9 (by kernel_rfl) rfl #[.string ((⟨#[118]⟩ : ByteArray) ++ x6_3), .string x5_3] rfl (by (try simp only [List.map_toArray, List.map_cons, List.map_nil]); first | done | rfl | (simp only [List.length_drop, List.length_take]; rfl)) ?_; (with_reducible refine (impl_PackagistCompareText.calls k3 ((⟨#[118]⟩ : ByteArray) ++ x6_3) x5_3 t240 t241 _ A53.out (by first | exact GL.at HG.out (by repeat (first | (with_reducible first | exact HB.out | apply below_alloc | apply pw_below_drewN | apply below_drew1) | exact HB.out)) | exact HG.out)).mono ?_); rintro e w71 ⟨rfl, hb⟩; refine ⟨_, rfl, ?_⟩; have n0_ := Aside0.mk (below_step (by repeat (first | (with_reducible first | exact HB.out | apply below_alloc | apply pw_below_drewN | apply below_drew1) | exact HB.out)) hb); clear HB; have HB := n0_; clear n0_; (try clear hb); (try clear hb2); (try clear hk); (try clear hi)))
             go_ret
             exact ⟨by first | rfl | (simp [errW_none, errW_some] <;> rfl) | (simp [*, errW_none, errW_some] <;> rfl) | (simp [bne_nil_hyb]; done), by repeat (first | (with_reducible first | exact HB.out | apply below_alloc | apply pw_below_drewN | apply below_drew1) | exact HB.out)⟩
           ·rw [if_neg c52] at H
            exact absurd H (by simp)
          ·replace c50 := Bool.eq_false_iff.mpr c50
           subst c50
           have H1 : (some true) = some r := by rw [if_neg (show ¬ (false = true) by decide)] at H; exact H
           clear H
           have H := H1
           clear H1
           obtain rfl := Option.some.inj H
           go_wp2_with (first | ((with_reducible refine gate_callee (f := 15) rfl ?_); refine goesL_ (some 86) rfl rfl Tryd.func15 (by kernel_rfl) rfl #[.slice A0 l0.length c0] rfl (by (try simp only [List.map_toArray, List.map_cons, List.map_nil]); first | done | rfl | (simp only [List.length_drop, List.length_take]; rfl)) ?_; (with_reducible refine (spec_PackagistKnown.calls k3 _ _ l0 false _ ?side1 ?side2 A49.out).mono ?_); (case side1 => repeat (first | exact (Kd.C_below HR0.out HB.out) | (with_reducible refine Kd.C_alloc ?_ _) | (with_reducible refine Kd.C_drewN ?_ _) | (with_reducible refine Kd.C_drew ?_))); (case side2 => exact HC0.out); rintro e w' ⟨rfl, ⟨nd, rfl⟩⟩; refine ⟨_, rfl, ?_⟩))
           go_ret
           exact ⟨by first | rfl | (simp [errW_none, errW_some] <;> rfl) | (simp [*, errW_none, errW_some] <;> rfl) | (simp [bne_nil_hyb]; done), by repeat (first | (with_reducible first | exact HB.out | apply below_alloc | apply pw_below_drewN | apply below_drew1) | exact HB.out)⟩

/-- THE ONE PURE STATEMENT of laws_FnPackagistMarks: yours. -/
def laws_FnPackagistMarks.Pure : Prop := ∀ (l0 : List ByteArray) (l1 : List Int), l0.length ≤ maxLen → l1.length ≤ maxLen → l1.length * 1 ≤ 140737488351232 → (∀ x ∈ l1, (Lit.int .u8 x).wf = true) → ∃ k, laws_FnPackagistMarks.f k l0 l1 = some true
theorem laws_FnPackagistMarks.walk (P : laws_FnPackagistMarks.Pure) (a0 : Option Addr) (len0 cap0 : Nat) (z0 : List ByteArray) (a1 : Option Addr) (len1 cap1 : Nat) (z1 : List Int) (w : World) (w0 : ((a0 = none ∧ len0 = 0 ∧ cap0 = 0 ∧ z0 = []) ∨ ∃ x, a0 = some x ∧ len0 ≤ cap0 ∧ cap0 ≤ maxLen ∧ z0.length = cap0 ∧ (∀ i, i < z0.length → w.cell? (x.add i) = some (.string (z0.getD i ByteArray.empty))) ∧ ∀ s ∈ z0, s.size ≤ maxLen)) (w1 : (a1 = none ∧ len1 = 0 ∧ cap1 = 0 ∧ z1 = []) ∨ ∃ x, a1 = some x ∧ len1 ≤ cap1 ∧ cap1 ≤ maxLen ∧ z1.length = cap1 ∧ (∀ i, i < z1.length → w.cell? (x.add i) = some (.int .u8 (z1.getD i 0))) ∧ ∀ n ∈ z1, (Lit.int .u8 n).wf = true) (y1 : len1 * 1 ≤ 140737488351232) (hG : GL w) :
  Calls Tryd.prog 5 #[.slice a0 len0 cap0, .slice a1 len1 cap1] w fun e w' => e = .returned (.bool true) ∧ Below w.heap.size w w' := by
 obtain ⟨l0, rfl, hr0, hm0, hc0⟩ := C_of_strings w0
 obtain ⟨l1, rfl, hr1, hm1, hw1, hc1⟩ := ReadsInt.ofRowC w1
 obtain ⟨k, h⟩ := P l0 l1 hm0 hm1 y1 hw1
 refine (laws_FnPackagistMarks.calls k _ _ l0 _ _ l1 true w hr0 hc0 (Kd.C_of_reads (d := (0 : Int)) (h1 := fun _ => rfl) hr1) hc1 h hG).mono ?_
 rintro e w' ⟨rfl, hd⟩
 exact ⟨rfl, hd⟩

end Go.Proofs.YtdjkekgfeadmoaaDoor.Q
