/- Proved here: each Go function that is named in this text, called as its theorem 'calls' says, returns what its Lean function 'f' tells, and of the memory that was there nothing is changed (a row of a law: the law returns true). Conditions: those that stand in each theorem; where 'f' tells none, nothing is said. Laid by a program of this seat's prover out of the translation; Lean checks it. -/
import Derived.Test.YtdjkekgfeadmoaaDoorTx0
import Derived.Test.YtdjkekgfeadmoaaDoorTx1
namespace Go.Proofs.YtdjkekgfeadmoaaDoor.T
open Go.RowKit Go.Proofs.YtdjkekgfeadmoaaDoorH Go.Proofs.YtdjkekgfeadmoaaDoorG Go.Proofs.YtdjkekgfeadmoaaDoor.Q Go.Proofs.YtdjkekgfeadmoaaDoorW.PrintWords Go.Proofs.YtdjkekgfeadmoaaDoorW.PrintLast Go.Proofs.YtdjkekgfeadmoaaDoorW.PrintMore
attribute [local go_sem] max2_int min2_int max_two min_two max_three min_three max_four min_four   -- for this text's walks alone
set_option linter.unusedVariables false
set_option linter.unusedSimpArgs false

/-! ### laws_FnPackagistPoints: function 6 -/
mutual
def laws_FnPackagistPoints.j0 : Nat → ByteArray → Int → Bool → Option (Bool)
 | 0, _, _, _ => none
 | k + 1, x0, x1, x35 => if x35 = true then (some true) else (if (x0.size : Int) = 0 then (none) else (if (Int.tmod (wrap64 (x1)) (x0.size : Int)) = 0 then (laws_FnPackagistPoints.j1 k x0 (Int.tmod (wrap64 (x1)) (x0.size : Int)) true) else (if 0 ≤ (wrap64 ((Int.tmod (wrap64 (x1)) (x0.size : Int)) - 1)) then (if (wrap64 ((Int.tmod (wrap64 (x1)) (x0.size : Int)) - 1)) ≤ (Int.tmod (wrap64 (x1)) (x0.size : Int)) then (if (Int.tmod (wrap64 (x1)) (x0.size : Int)) ≤ (x0.size : Int) then ((laws_digits.f k (x0.extract ((wrap64 ((Int.tmod (wrap64 (x1)) (x0.size : Int)) - 1)) : Int).toNat ((Int.tmod (wrap64 (x1)) (x0.size : Int)) : Int).toNat)).bind fun t106 => (if 0 ≤ (Int.tmod (wrap64 (x1)) (x0.size : Int)) then (if (Int.tmod (wrap64 (x1)) (x0.size : Int)) ≤ (wrap64 ((Int.tmod (wrap64 (x1)) (x0.size : Int)) + 1)) then (if (wrap64 ((Int.tmod (wrap64 (x1)) (x0.size : Int)) + 1)) ≤ (x0.size : Int) then ((laws_digits.f k (x0.extract ((Int.tmod (wrap64 (x1)) (x0.size : Int)) : Int).toNat ((wrap64 ((Int.tmod (wrap64 (x1)) (x0.size : Int)) + 1)) : Int).toNat)).bind fun t107 => (if (t106 == t107) = true then (laws_FnPackagistPoints.j1 k x0 (Int.tmod (wrap64 (x1)) (x0.size : Int)) true) else ((laws_words.f k (x0.extract ((Int.tmod (wrap64 (x1)) (x0.size : Int)) : Int).toNat ((wrap64 ((Int.tmod (wrap64 (x1)) (x0.size : Int)) + 1)) : Int).toNat)).bind fun t108 => (if t108 = true then ((laws_words.f k (x0.extract ((wrap64 ((Int.tmod (wrap64 (x1)) (x0.size : Int)) - 1)) : Int).toNat ((Int.tmod (wrap64 (x1)) (x0.size : Int)) : Int).toNat)).bind fun t109 => (if t109 = true then (laws_FnPackagistPoints.j1 k x0 (Int.tmod (wrap64 (x1)) (x0.size : Int)) false) else ((laws_digits.f k (x0.extract ((wrap64 ((Int.tmod (wrap64 (x1)) (x0.size : Int)) - 1)) : Int).toNat ((Int.tmod (wrap64 (x1)) (x0.size : Int)) : Int).toNat)).bind fun t110 => (laws_FnPackagistPoints.j1 k x0 (Int.tmod (wrap64 (x1)) (x0.size : Int)) (!t110))))) else ((laws_digits.f k (x0.extract ((Int.tmod (wrap64 (x1)) (x0.size : Int)) : Int).toNat ((wrap64 ((Int.tmod (wrap64 (x1)) (x0.size : Int)) + 1)) : Int).toNat)).bind fun t111 => (if t111 = true then ((laws_words.f k (x0.extract ((wrap64 ((Int.tmod (wrap64 (x1)) (x0.size : Int)) - 1)) : Int).toNat ((Int.tmod (wrap64 (x1)) (x0.size : Int)) : Int).toNat)).bind fun t112 => (if t112 = true then (laws_FnPackagistPoints.j1 k x0 (Int.tmod (wrap64 (x1)) (x0.size : Int)) false) else ((laws_digits.f k (x0.extract ((wrap64 ((Int.tmod (wrap64 (x1)) (x0.size : Int)) - 1)) : Int).toNat ((Int.tmod (wrap64 (x1)) (x0.size : Int)) : Int).toNat)).bind fun t113 => (laws_FnPackagistPoints.j1 k x0 (Int.tmod (wrap64 (x1)) (x0.size : Int)) (!t113))))) else (laws_FnPackagistPoints.j1 k x0 (Int.tmod (wrap64 (x1)) (x0.size : Int)) true))))))) else (none)) else (none)) else (none))) else (none)) else (none)) else (none))))
def laws_FnPackagistPoints.j1 : Nat → ByteArray → Int → Bool → Option (Bool)
 | 0, _, _, _ => none
 | k + 1, x0, x5, x93 => if x93 = true then (some true) else (if 0 ≤ x5 then (if x5 ≤ (x0.size : Int) then (if (x0.extract 0 (x5 : Int).toNat).size + 1 ≤ 9223372036854775807 then (if ((x0.extract 0 (x5 : Int).toNat) ++ (⟨#[46]⟩ : ByteArray)).size + (x0.extract (x5 : Int).toNat x0.size).size ≤ 9223372036854775807 then ((impl_PackagistCanonical.f k x0).bind fun t114 => ((impl_PackagistCompareText.f k x0 (((x0.extract 0 (x5 : Int).toNat) ++ (⟨#[46]⟩ : ByteArray)) ++ (x0.extract (x5 : Int).toNat x0.size))).bind fun bt115 => (if t114.toList = ([] : List UInt8) then (some false) else ((impl_PackagistCanonical.f k (((x0.extract 0 (x5 : Int).toNat) ++ (⟨#[46]⟩ : ByteArray)) ++ (x0.extract (x5 : Int).toNat x0.size))).bind fun t117 => (if t117.toList = t114.toList then (if bt115.2 = true then (some (bt115.1 == 0)) else (some false)) else (some false)))))) else (none)) else (none)) else (none)) else (none))
end
def laws_FnPackagistPoints.f (k : Nat) (a0 : ByteArray) (a1 : Int) : Option (Bool) := if (a0.size : Int) > 2147483647 then (some true) else ((laws_short.f k (([a0] : List ByteArray))).bind fun t104 => (if t104 = true then ((spec_PackagistTextKnown.f k a0).bind fun t105 => (if t105 = true then (if a0.toList = ([] : List UInt8) then (laws_FnPackagistPoints.j0 k a0 a1 true) else (if 0 < (a0.size : Int) then (if (bt a0 0) = 118 then (laws_FnPackagistPoints.j0 k a0 a1 true) else (laws_FnPackagistPoints.j0 k a0 a1 ((bt a0 0) == 86))) else (none))) else (laws_FnPackagistPoints.j0 k a0 a1 true))) else (laws_FnPackagistPoints.j0 k a0 a1 true)))
theorem laws_FnPackagistPoints.mono_l : ∀ k, (∀ y0 y1 y2, LeO (laws_FnPackagistPoints.j0 k y0 y1 y2) (laws_FnPackagistPoints.j0 (k + 1) y0 y1 y2)) ∧ (∀ y0 y1 y2, LeO (laws_FnPackagistPoints.j1 k y0 y1 y2) (laws_FnPackagistPoints.j1 (k + 1) y0 y1 y2))
 | 0 => ⟨fun _ _ _ r h => by simp [laws_FnPackagistPoints.j0] at h, fun _ _ _ r h => by simp [laws_FnPackagistPoints.j1] at h⟩
 | k + 1 => by
  obtain ⟨ih0, ih1⟩ := laws_FnPackagistPoints.mono_l k
  refine ⟨?_, ?_⟩
  ·intro y0 y1 y2
   unfold laws_FnPackagistPoints.j0
   repeat' first
   | (with_reducible exact ih0 _ _ _)
   | (with_reducible exact ih1 _ _ _)
   | (with_reducible exact impl_PackagistCanonical.mono _ _)
   | (with_reducible exact impl_PackagistCompareText.mono _ _ _)
   | (with_reducible exact laws_digits.mono _ _)
   | (with_reducible exact laws_short.mono _ _)
   | (with_reducible exact laws_words.mono _ _)
   | (with_reducible exact spec_PackagistTextKnown.mono _ _)
   | (with_reducible exact LeO.refl _)
   | (with_reducible exact LeO.none _)
   | (with_reducible refine LeO.ite ?_ ?_)
   | (with_reducible refine LeO.bind ?_ (fun _ => ?_))
   | exact ih0 _ _ _
   | exact ih1 _ _ _
   | exact impl_PackagistCanonical.mono _ _
   | exact impl_PackagistCompareText.mono _ _ _
   | exact laws_digits.mono _ _
   | exact laws_short.mono _ _
   | exact laws_words.mono _ _
   | exact spec_PackagistTextKnown.mono _ _
   | exact LeO.none _
   | refine LeO.ite ?_ ?_
   | refine LeO.bind ?_ (fun _ => ?_)
  ·intro y0 y1 y2
   unfold laws_FnPackagistPoints.j1
   repeat' first
   | (with_reducible exact ih0 _ _ _)
   | (with_reducible exact ih1 _ _ _)
   | (with_reducible exact impl_PackagistCanonical.mono _ _)
   | (with_reducible exact impl_PackagistCompareText.mono _ _ _)
   | (with_reducible exact laws_digits.mono _ _)
   | (with_reducible exact laws_short.mono _ _)
   | (with_reducible exact laws_words.mono _ _)
   | (with_reducible exact spec_PackagistTextKnown.mono _ _)
   | (with_reducible exact LeO.refl _)
   | (with_reducible exact LeO.none _)
   | (with_reducible refine LeO.ite ?_ ?_)
   | (with_reducible refine LeO.bind ?_ (fun _ => ?_))
   | exact ih0 _ _ _
   | exact ih1 _ _ _
   | exact impl_PackagistCanonical.mono _ _
   | exact impl_PackagistCompareText.mono _ _ _
   | exact laws_digits.mono _ _
   | exact laws_short.mono _ _
   | exact laws_words.mono _ _
   | exact spec_PackagistTextKnown.mono _ _
   | exact LeO.none _
   | refine LeO.ite ?_ ?_
   | refine LeO.bind ?_ (fun _ => ?_)
theorem laws_FnPackagistPoints.mono : ∀ a0 a1 k, LeO (laws_FnPackagistPoints.f k a0 a1) (laws_FnPackagistPoints.f (k + 1) a0 a1) := by
 intro a0 a1 k
 obtain ⟨ih0, ih1⟩ := laws_FnPackagistPoints.mono_l k
 unfold laws_FnPackagistPoints.f
 repeat' first
   | (with_reducible exact ih0 _ _ _)
   | (with_reducible exact ih1 _ _ _)
   | (with_reducible exact impl_PackagistCanonical.mono _ _)
   | (with_reducible exact impl_PackagistCompareText.mono _ _ _)
   | (with_reducible exact laws_digits.mono _ _)
   | (with_reducible exact laws_short.mono _ _)
   | (with_reducible exact laws_words.mono _ _)
   | (with_reducible exact spec_PackagistTextKnown.mono _ _)
   | (with_reducible exact LeO.refl _)
   | (with_reducible exact LeO.none _)
   | (with_reducible refine LeO.ite ?_ ?_)
   | (with_reducible refine LeO.bind ?_ (fun _ => ?_))
   | exact ih0 _ _ _
   | exact ih1 _ _ _
   | exact impl_PackagistCanonical.mono _ _
   | exact impl_PackagistCompareText.mono _ _ _
   | exact laws_digits.mono _ _
   | exact laws_short.mono _ _
   | exact laws_words.mono _ _
   | exact spec_PackagistTextKnown.mono _ _
   | exact LeO.none _
   | refine LeO.ite ?_ ?_
   | refine LeO.bind ?_ (fun _ => ?_)
def laws_FnPackagistPoints.T6 : Bool × List (List Nat × List Nat) := (true, [([], []), ([0], [0]), ([1], [1]), ([2], [2]), ([2], [2]), ([4, 2], [2, 4]), ([2], [2]), ([3, 5, 6, 2], [2, 3, 5, 6]), ([7, 2, 2], [2, 7]), ([2], [2]), ([2], [2]), ([2], [2]), ([11, 2], [2, 11]), ([9, 10, 12, 2], [2, 9, 10, 12]), ([13, 8, 2], [2, 13]), ([8, 14, 2], [2, 8, 14]), ([2, 15], [2, 15]), ([16, 14], [16]), ([17], [17]), ([17], [17]), ([17], [17]), ([20, 17], [17, 20]), ([18, 19, 21, 17], [17, 18, 19, 21]), ([22, 17, 17], [17, 22]), ([23, 17], [17, 23]), ([24, 23, 17], [17, 24]), ([25], [25]), ([25], [25]), ([25], [25]), ([28, 25], [25, 28]), ([26, 27, 29, 25], [25, 26, 27, 29]), ([30, 25, 25], [25, 30]), ([31, 25], [25, 31]), ([25, 32, 17], [17, 25, 32]), ([17, 33], [17, 33]), ([34, 31], [34]), ([35], [35]), ([35], [35]), ([37, 35], [35, 37]), ([35], [35]), ([36, 38, 39, 35], [35, 36, 38, 39]), ([40, 35, 35], [35, 40]), ([41, 35], [35, 41]), ([42, 41, 35], [35, 42]), ([43], [43]), ([43], [43]), ([45, 43], [43, 45]), ([43], [43]), ([44, 46, 47, 43], [43, 44, 46, 47]), ([48, 43, 43], [43, 48]), ([49, 43], [43, 49]), ([43, 50, 35], [35, 43, 50]), ([35, 51], [35, 51])])
def laws_FnPackagistPoints.B6 : List Nat := [0, 1, 3, 7, 7, 23, 7, 127, 255, 7, 7, 7, 2055, 7687, 16383, 32767, 65535, 131071, 262143, 262143, 262143, 1310719, 4194303, 8388607, 16777215, 33554431, 67108863, 67108863, 67108863, 335544319, 1073741823, 2147483647, 4294967295, 8589934591, 17179869183, 34359738367, 68719476735, 68719476735, 206158430207, 68719476735, 1099511627775, 2199023255551, 4398046511103, 8796093022207, 17592186044415, 17592186044415, 52776558133247, 17592186044415, 281474976710655, 562949953421311, 1125899906842623, 2251799813685247, 4503599627370495]
theorem laws_FnPackagistPoints.tab6 : rtab .any (opsOf Tryd.f6 6) = laws_FnPackagistPoints.T6 := by kernel_rfl
theorem laws_FnPackagistPoints.bits6 : waitsOk laws_FnPackagistPoints.T6.2 laws_FnPackagistPoints.B6 = true := by kernel_rfl
def laws_FnPackagistPoints.T8 : Bool × List (List Nat × List Nat) := (true, [([], []), ([], []), ([0, 1], [0, 1]), ([2], [2]), ([], []), ([], []), ([4, 5], [4, 5]), ([3, 6], [3, 6]), ([7, 0, 1, 2, 3, 4, 5, 6, 7], [7])])
def laws_FnPackagistPoints.B8 : List Nat := [0, 0, 3, 7, 0, 0, 48, 127, 255]
theorem laws_FnPackagistPoints.tab8 : rtab .any (opsOf Tryd.f6 8) = laws_FnPackagistPoints.T8 := by kernel_rfl
theorem laws_FnPackagistPoints.bits8 : waitsOk laws_FnPackagistPoints.T8.2 laws_FnPackagistPoints.B8 = true := by kernel_rfl
def q0_ : Array Bool := #[false, false, false, false, false, false, false, false, false, false, false, false, false, false, false, false, false, false, false, false, false, false, false, false, false, false, false, false, false, false, false, false, false, false, false, false, false, false, false, false, false, false, false, false, false, false, false, false, false, false, false, false, false]
def q1_ : Array Bool := #[true, false, false, false, false, false, false, false, false, false, false, false, false, false, false, false, false, false, false, false, false, false, false, false, false, false, false, false, false, false, false, false, false, false, false, false, false, false, false, false, false, false, false, false, false, false, false, false, false, false, false, false, false]
def q2_ : Array Bool := #[true, true, false, false, false, false, false, false, false, false, false, false, false, false, false, false, false, false, false, false, false, false, false, false, false, false, false, false, false, false, false, false, false, false, false, false, false, false, false, false, false, false, false, false, false, false, false, false, false, false, false, false, false]
def q3_ : Array Bool := #[true, true, true, false, false, false, false, false, false, false, false, false, false, false, false, false, false, false, false, false, false, false, false, false, false, false, false, false, false, false, false, false, false, false, false, false, false, false, false, false, false, false, false, false, false, false, false, false, false, false, false, false, false]
def q4_ : Array Bool := #[true, true, true, true, false, false, false, false, false, false, false, false, false, false, false, false, false, false, false, false, false, false, false, false, false, false, false, false, false, false, false, false, false, false, false, false, false, false, false, false, false, false, false, false, false, false, false, false, false, false, false, false, false]
def q5_ : Array Bool := #[true, true, true, true, true, false, false, false, false, false, false, false, false, false, false, false, false, false, false, false, false, false, false, false, false, false, false, false, false, false, false, false, false, false, false, false, false, false, false, false, false, false, false, false, false, false, false, false, false, false, false, false, false]
def q6_ : Array Bool := #[true, true, true, true, true, true, false, false, false, false, false, false, false, false, false, false, false, false, false, false, false, false, false, false, false, false, false, false, false, false, false, false, false, false, false, false, false, false, false, false, false, false, false, false, false, false, false, false, false, false, false, false, false]
def q7_ : Array Bool := #[true, true, true, true, true, true, true, false, false, false, false, false, false, false, false, false, false, false, false, false, false, false, false, false, false, false, false, false, false, false, false, false, false, false, false, false, false, false, false, false, false, false, false, false, false, false, false, false, false, false, false, false, false]
def q8_ : Array Bool := #[true, true, true, true, true, true, true, true, false, false, false, false, false, false, false, false, false, false, false, false, false, false, false, false, false, false, false, false, false, false, false, false, false, false, false, false, false, false, false, false, false, false, false, false, false, false, false, false, false, false, false, false, false]
def q9_ : Array Bool := #[true, true, true, true, true, true, true, true, true, false, false, false, false, false, false, false, false, false, false, false, false, false, false, false, false, false, false, false, false, false, false, false, false, false, false, false, false, false, false, false, false, false, false, false, false, false, false, false, false, false, false, false, false]
def q10_ : Array Bool := #[true, true, true, true, true, true, true, true, true, true, false, false, false, false, false, false, false, false, false, false, false, false, false, false, false, false, false, false, false, false, false, false, false, false, false, false, false, false, false, false, false, false, false, false, false, false, false, false, false, false, false, false, false]
def q11_ : Array Bool := #[true, true, true, true, true, true, true, true, true, true, true, false, false, false, false, false, false, false, false, false, false, false, false, false, false, false, false, false, false, false, false, false, false, false, false, false, false, false, false, false, false, false, false, false, false, false, false, false, false, false, false, false, false]
def q12_ : Array Bool := #[true, true, true, true, true, true, true, true, true, true, true, true, false, false, false, false, false, false, false, false, false, false, false, false, false, false, false, false, false, false, false, false, false, false, false, false, false, false, false, false, false, false, false, false, false, false, false, false, false, false, false, false, false]
def q13_ : Array Bool := #[true, true, true, true, true, true, true, true, true, true, true, true, true, false, false, false, false, false, false, false, false, false, false, false, false, false, false, false, false, false, false, false, false, false, false, false, false, false, false, false, false, false, false, false, false, false, false, false, false, false, false, false, false]
def q14_ : Array Bool := #[true, true, true, true, true, true, true, true, true, true, true, true, true, true, false, false, false, false, false, false, false, false, false, false, false, false, false, false, false, false, false, false, false, false, false, false, false, false, false, false, false, false, false, false, false, false, false, false, false, false, false, false, false]
def q15_ : Array Bool := #[true, true, true, true, true, true, true, true, true, true, true, true, true, true, true, false, false, false, false, false, false, false, false, false, false, false, false, false, false, false, false, false, false, false, false, false, false, false, false, false, false, false, false, false, false, false, false, false, false, false, false, false, false]
def q16_ : Array Bool := #[true, true, true, true, true, true, true, true, true, true, true, true, true, true, true, true, false, false, false, false, false, false, false, false, false, false, false, false, false, false, false, false, false, false, false, false, false, false, false, false, false, false, false, false, false, false, false, false, false, false, false, false, false]
def q17_ : Array Bool := #[true, true, true, true, true, true, true, true, true, true, true, true, true, true, true, true, true, false, false, false, false, false, false, false, false, false, false, false, false, false, false, false, false, false, false, false, false, false, false, false, false, false, false, false, false, false, false, false, false, false, false, false, false]
def q18_ : Array Bool := #[true, true, true, true, true, true, true, true, true, true, true, true, true, true, true, true, true, true, false, false, false, false, false, false, false, false, false, false, false, false, false, false, false, false, false, false, false, false, false, false, false, false, false, false, false, false, false, false, false, false, false, false, false]
def q19_ : Array Bool := #[true, true, true, true, true, true, true, true, true, true, true, true, true, true, true, true, true, true, true, false, false, false, false, false, false, false, false, false, false, false, false, false, false, false, false, false, false, false, false, false, false, false, false, false, false, false, false, false, false, false, false, false, false]
def q20_ : Array Bool := #[true, true, true, true, true, true, true, true, true, true, true, true, true, true, true, true, true, true, true, true, false, false, false, false, false, false, false, false, false, false, false, false, false, false, false, false, false, false, false, false, false, false, false, false, false, false, false, false, false, false, false, false, false]
def q21_ : Array Bool := #[true, true, true, true, true, true, true, true, true, true, true, true, true, true, true, true, true, true, true, true, true, false, false, false, false, false, false, false, false, false, false, false, false, false, false, false, false, false, false, false, false, false, false, false, false, false, false, false, false, false, false, false, false]
def q22_ : Array Bool := #[true, true, true, true, true, true, true, true, true, true, true, true, true, true, true, true, true, true, true, true, true, true, false, false, false, false, false, false, false, false, false, false, false, false, false, false, false, false, false, false, false, false, false, false, false, false, false, false, false, false, false, false, false]
def q23_ : Array Bool := #[true, true, true, true, true, true, true, true, true, true, true, true, true, true, true, true, true, true, true, true, true, true, true, false, false, false, false, false, false, false, false, false, false, false, false, false, false, false, false, false, false, false, false, false, false, false, false, false, false, false, false, false, false]
def q24_ : Array Bool := #[true, true, true, true, true, true, true, true, true, true, true, true, true, true, true, true, true, true, true, true, true, true, true, true, false, false, false, false, false, false, false, false, false, false, false, false, false, false, false, false, false, false, false, false, false, false, false, false, false, false, false, false, false]
def q25_ : Array Bool := #[true, true, true, true, true, true, true, true, true, true, true, true, true, true, true, true, true, true, true, true, true, true, true, true, true, false, false, false, false, false, false, false, false, false, false, false, false, false, false, false, false, false, false, false, false, false, false, false, false, false, false, false, false]
def q26_ : Array Bool := #[true, true, true, true, true, true, true, true, true, true, true, true, true, true, true, true, true, true, true, true, true, true, true, true, true, true, false, false, false, false, false, false, false, false, false, false, false, false, false, false, false, false, false, false, false, false, false, false, false, false, false, false, false]
def q27_ : Array Bool := #[true, true, true, true, true, true, true, true, true, true, true, true, true, true, true, true, true, true, true, true, true, true, true, true, true, true, true, false, false, false, false, false, false, false, false, false, false, false, false, false, false, false, false, false, false, false, false, false, false, false, false, false, false]
def q28_ : Array Bool := #[true, true, true, true, true, true, true, true, true, true, true, true, true, true, true, true, true, true, true, true, true, true, true, true, true, true, true, true, false, false, false, false, false, false, false, false, false, false, false, false, false, false, false, false, false, false, false, false, false, false, false, false, false]
def q29_ : Array Bool := #[true, true, true, true, true, true, true, true, true, true, true, true, true, true, true, true, true, true, true, true, true, true, true, true, true, true, true, true, true, false, false, false, false, false, false, false, false, false, false, false, false, false, false, false, false, false, false, false, false, false, false, false, false]
def q30_ : Array Bool := #[true, true, true, true, true, true, true, true, true, true, true, true, true, true, true, true, true, true, true, true, true, true, true, true, true, true, true, true, true, true, false, false, false, false, false, false, false, false, false, false, false, false, false, false, false, false, false, false, false, false, false, false, false]
def q31_ : Array Bool := #[true, true, true, true, true, true, true, true, true, true, true, true, true, true, true, true, true, true, true, true, true, true, true, true, true, true, true, true, true, true, true, false, false, false, false, false, false, false, false, false, false, false, false, false, false, false, false, false, false, false, false, false, false]
def q32_ : Array Bool := #[true, true, true, true, true, true, true, true, true, true, true, true, true, true, true, true, true, true, true, true, true, true, true, true, true, true, true, true, true, true, true, true, false, false, false, false, false, false, false, false, false, false, false, false, false, false, false, false, false, false, false, false, false]
def q33_ : Array Bool := #[true, true, true, true, true, true, true, true, true, true, true, true, true, true, true, true, true, true, true, true, true, true, true, true, true, true, true, true, true, true, true, true, true, false, false, false, false, false, false, false, false, false, false, false, false, false, false, false, false, false, false, false, false]
def q34_ : Array Bool := #[true, true, true, true, true, true, true, true, true, true, true, true, true, true, true, true, true, true, true, true, true, true, true, true, true, true, true, true, true, true, true, true, true, true, false, false, false, false, false, false, false, false, false, false, false, false, false, false, false, false, false, false, false]
def q35_ : Array Bool := #[true, true, true, true, true, true, true, true, true, true, true, true, true, true, true, true, true, true, true, true, true, true, true, true, true, true, true, true, true, true, true, true, true, true, true, false, false, false, false, false, false, false, false, false, false, false, false, false, false, false, false, false, false]
def q36_ : Array Bool := #[true, true, true, true, true, true, true, true, true, true, true, true, true, true, true, true, true, true, true, true, true, true, true, true, true, true, true, true, true, true, true, true, true, true, true, true, false, false, false, false, false, false, false, false, false, false, false, false, false, false, false, false, false]
def q37_ : Array Bool := #[true, true, true, true, true, true, true, true, true, true, true, true, true, true, true, true, true, true, true, true, true, true, true, true, true, true, true, true, true, true, true, true, true, true, true, true, true, false, false, false, false, false, false, false, false, false, false, false, false, false, false, false, false]
def q38_ : Array Bool := #[true, true, true, true, true, true, true, true, true, true, true, true, true, true, true, true, true, true, true, true, true, true, true, true, true, true, true, true, true, true, true, true, true, true, true, true, true, true, false, false, false, false, false, false, false, false, false, false, false, false, false, false, false]
def q39_ : Array Bool := #[true, true, true, true, true, true, true, true, true, true, true, true, true, true, true, true, true, true, true, true, true, true, true, true, true, true, true, true, true, true, true, true, true, true, true, true, true, true, true, false, false, false, false, false, false, false, false, false, false, false, false, false, false]
def q40_ : Array Bool := #[true, true, true, true, true, true, true, true, true, true, true, true, true, true, true, true, true, true, true, true, true, true, true, true, true, true, true, true, true, true, true, true, true, true, true, true, true, true, true, true, false, false, false, false, false, false, false, false, false, false, false, false, false]
def q41_ : Array Bool := #[true, true, true, true, true, true, true, true, true, true, true, true, true, true, true, true, true, true, true, true, true, true, true, true, true, true, true, true, true, true, true, true, true, true, true, true, true, true, true, true, true, false, false, false, false, false, false, false, false, false, false, false, false]
def q42_ : Array Bool := #[true, true, true, true, true, true, true, true, true, true, true, true, true, true, true, true, true, true, true, true, true, true, true, true, true, true, true, true, true, true, true, true, true, true, true, true, true, true, true, true, true, true, false, false, false, false, false, false, false, false, false, false, false]
def q43_ : Array Bool := #[true, true, true, true, true, true, true, true, true, true, true, true, true, true, true, true, true, true, true, true, true, true, true, true, true, true, true, true, true, true, true, true, true, true, true, true, true, true, true, true, true, true, true, false, false, false, false, false, false, false, false, false, false]
def q44_ : Array Bool := #[true, true, true, true, true, true, true, true, true, true, true, true, true, true, true, true, true, true, true, true, true, true, true, true, true, true, true, true, true, true, true, true, true, true, true, true, true, true, true, true, true, true, true, true, false, false, false, false, false, false, false, false, false]
def q45_ : Array Bool := #[true, true, true, true, true, true, true, true, true, true, true, true, true, true, true, true, true, true, true, true, true, true, true, true, true, true, true, true, true, true, true, true, true, true, true, true, true, true, true, true, true, true, true, true, true, false, false, false, false, false, false, false, false]
def q46_ : Array Bool := #[true, true, true, true, true, true, true, true, true, true, true, true, true, true, true, true, true, true, true, true, true, true, true, true, true, true, true, true, true, true, true, true, true, true, true, true, true, true, true, true, true, true, true, true, true, true, false, false, false, false, false, false, false]
def q47_ : Array Bool := #[true, true, true, true, true, true, true, true, true, true, true, true, true, true, true, true, true, true, true, true, true, true, true, true, true, true, true, true, true, true, true, true, true, true, true, true, true, true, true, true, true, true, true, true, true, true, true, false, false, false, false, false, false]
def q48_ : Array Bool := #[true, true, true, true, true, true, true, true, true, true, true, true, true, true, true, true, true, true, true, true, true, true, true, true, true, true, true, true, true, true, true, true, true, true, true, true, true, true, true, true, true, true, true, true, true, true, true, true, false, false, false, false, false]
def q49_ : Array Bool := #[true, true, true, true, true, true, true, true, true, true, true, true, true, true, true, true, true, true, true, true, true, true, true, true, true, true, true, true, true, true, true, true, true, true, true, true, true, true, true, true, true, true, true, true, true, true, true, true, true, false, false, false, false]
def q50_ : Array Bool := #[true, true, true, true, true, true, true, true, true, true, true, true, true, true, true, true, true, true, true, true, true, true, true, true, true, true, true, true, true, true, true, true, true, true, true, true, true, true, true, true, true, true, true, true, true, true, true, true, true, true, false, false, false]
def q51_ : Array Bool := #[true, true, true, true, true, true, true, true, true, true, true, true, true, true, true, true, true, true, true, true, true, true, true, true, true, true, true, true, true, true, true, true, true, true, true, true, true, true, true, true, true, true, true, true, true, true, true, true, true, true, true, false, false]
def q52_ : Array Bool := #[true, true, true, true, true, true, true, true, true, true, true, true, true, true, true, true, true, true, true, true, true, true, true, true, true, true, true, true, true, true, true, true, true, true, true, true, true, true, true, true, true, true, true, true, true, true, true, true, true, true, true, true, false]
def q53_ : Array Bool := #[true, true, true, true, true, true, true, true, true, true, true, true, true, true, true, true, true, true, true, true, true, true, true, true, true, true, true, true, true, true, true, true, true, true, true, true, true, true, true, true, true, true, true, true, true, true, true, true, true, true, true, true, true]
def q54_ : Array Bool := #[true, true, true, true, true, true, true, true, false, true, false, false, false, false, false, false, false, false, false, false, false, false, false, false, false, false, false, false, false, false, false, false, false, false, false, false, false, false, false, false, false, false, false, false, false, false, false, false, false, false, false, false, false]
def q55_ : Array Bool := #[true, true, true, true, true, true, true, true, false, true, true, false, false, false, false, false, false, false, false, false, false, false, false, false, false, false, false, false, false, false, false, false, false, false, false, false, false, false, false, false, false, false, false, false, false, false, false, false, false, false, false, false, false]
def q56_ : Array Bool := #[true, true, true, true, true, true, true, true, false, true, true, true, false, false, false, false, false, false, false, false, false, false, false, false, false, false, false, false, false, false, false, false, false, false, false, false, false, false, false, false, false, false, false, false, false, false, false, false, false, false, false, false, false]
def q57_ : Array Bool := #[true, true, true, true, true, true, true, true, false, true, true, true, true, false, false, false, false, false, false, false, false, false, false, false, false, false, false, false, false, false, false, false, false, false, false, false, false, false, false, false, false, false, false, false, false, false, false, false, false, false, false, false, false]
def q58_ : Array Bool := #[true, true, true, true, true, true, true, true, false, true, true, true, true, true, false, false, false, false, false, false, false, false, false, false, false, false, false, false, false, false, false, false, false, false, false, false, false, false, false, false, false, false, false, false, false, false, false, false, false, false, false, false, false]
def q59_ : Array Bool := #[false, false, false, false, false, false, false, false, false]
def q60_ : Array Bool := #[true, false, false, false, false, false, false, false, false]
def q61_ : Array Bool := #[true, true, false, false, false, false, false, false, false]
def q62_ : Array Bool := #[true, true, true, false, false, false, false, false, false]
def q63_ : Array Bool := #[true, true, true, true, false, false, false, false, false]
set_option maxHeartbeats 8000000 in
set_option maxRecDepth 100000 in
theorem laws_FnPackagistPoints.calls (k : Nat) (a0 : ByteArray) (a1 : Int) (r : Bool) (w : World) (h : laws_FnPackagistPoints.f k a0 a1 = some r) (hG : GL w) :
  Calls Tryd.prog 6 #[.string a0, .int .u16 a1] w fun e w' => e = .returned (.bool r) ∧ Below w.heap.size w w' := by
 have HG := Aside0.mk hG
 clear hG
 have HB := Aside0.mk (Below.refl w.heap.size w)
 have H : (if (a0.size : Int) > 2147483647 then (some true) else ((laws_short.f k (([a0] : List ByteArray))).bind fun t104 => (if t104 = true then ((spec_PackagistTextKnown.f k a0).bind fun t105 => (if t105 = true then (if a0.toList = ([] : List UInt8) then (laws_FnPackagistPoints.j0 k a0 a1 true) else (if 0 < (a0.size : Int) then (if (bt a0 0) = 118 then (laws_FnPackagistPoints.j0 k a0 a1 true) else (laws_FnPackagistPoints.j0 k a0 a1 ((bt a0 0) == 86))) else (none))) else (laws_FnPackagistPoints.j0 k a0 a1 true))) else (laws_FnPackagistPoints.j0 k a0 a1 true)))) = some r := h
 clear h
 by_cases c3 : (a0.size : Int) > 2147483647
 ·rw [if_pos c3] at H
  have c3b0 : decide (2147483647 < (a0.size : Int)) = true := decide_eq_true c3
  have c3b1 : decide (2147483647 < a0.size) = true := decide_eq_true (by omega)
  clear c3
  obtain rfl := Option.some.inj H
  go_enter Tryd.func6, Tryd.ntmps6
  go_wp2
  go_ret
  exact ⟨by first | rfl | (simp [errW_none, errW_some] <;> rfl) | (simp [*, errW_none, errW_some] <;> rfl) | (simp [bne_nil_hyb]; done), by repeat (first | (with_reducible first | exact HB.out | apply below_alloc | apply pw_below_drewN | apply below_drew1) | exact HB.out)⟩
 ·rw [if_neg c3] at H
  have c3b0 : decide (2147483647 < (a0.size : Int)) = false := decide_eq_false c3
  have c3b1 : decide (2147483647 < a0.size) = false := decide_eq_false (by omega)
  clear c3
  have HC4 := Aside0.mk H
  clear H
  go_enter Tryd.func6, Tryd.ntmps6
  go_upto_region 3 with (fail)
  go_cut [35] (fun v35 wc => ∃ (kq : Nat) (x35_3 : Bool), v35 = .bool x35_3 ∧ Aside0 (laws_FnPackagistPoints.j0 kq a0 a1 x35_3 = some r) ∧ Aside0 (kq ≤ k) ∧ Aside0 (Below w.heap.size w wc))
  case first =>
   have H := HC4.out
   clear HC4
   obtain ⟨y101, hy101⟩ : ∃ y_ : List ByteArray, y_ = (([a0] : List ByteArray)) := ⟨_, rfl⟩
   replace H : ((laws_short.f k y101).bind fun t104 => (if t104 = true then ((spec_PackagistTextKnown.f k a0).bind fun t105 => (if t105 = true then (if a0.toList = ([] : List UInt8) then (laws_FnPackagistPoints.j0 k a0 a1 true) else (if 0 < (a0.size : Int) then (if (bt a0 0) = 118 then (laws_FnPackagistPoints.j0 k a0 a1 true) else (laws_FnPackagistPoints.j0 k a0 a1 ((bt a0 0) == 86))) else (none))) else (laws_FnPackagistPoints.j0 k a0 a1 true))) else (laws_FnPackagistPoints.j0 k a0 a1 true))) = some r := by first | (rw [hy101]; with_reducible exact H) | (have H2_ := (Option.bind_some _ _).symm.trans H; rw [hy101]; with_reducible exact H2_) | (have H2_ := (Option.bind_some _ _).symm.trans H; with_reducible exact H2_) | with_reducible exact H | (rw [hy101]; exact H) | exact H
   have Ny101 := Aside0.mk hy101
   clear hy101
   replace H := Option.bind_eq_some_iff.mp H
   obtain ⟨t104, A50, H⟩ := H
   replace H : (if t104 = true then ((spec_PackagistTextKnown.f k a0).bind fun t105 => (if t105 = true then (if a0.toList = ([] : List UInt8) then (laws_FnPackagistPoints.j0 k a0 a1 true) else (if 0 < (a0.size : Int) then (if (bt a0 0) = 118 then (laws_FnPackagistPoints.j0 k a0 a1 true) else (laws_FnPackagistPoints.j0 k a0 a1 ((bt a0 0) == 86))) else (none))) else (laws_FnPackagistPoints.j0 k a0 a1 true))) else (laws_FnPackagistPoints.j0 k a0 a1 true)) = some r := H
   have A5 := Aside0.mk A50
   clear A50
   by_cases c6 : t104 = true
   ·subst c6
    have H1 : ((spec_PackagistTextKnown.f k a0).bind fun t105 => (if t105 = true then (if a0.toList = ([] : List UInt8) then (laws_FnPackagistPoints.j0 k a0 a1 true) else (if 0 < (a0.size : Int) then (if (bt a0 0) = 118 then (laws_FnPackagistPoints.j0 k a0 a1 true) else (laws_FnPackagistPoints.j0 k a0 a1 ((bt a0 0) == 86))) else (none))) else (laws_FnPackagistPoints.j0 k a0 a1 true))) = some r := by rw [if_pos rfl] at H; exact H
    clear H
    have H := H1
    clear H1
    replace H := Option.bind_eq_some_iff.mp H
    obtain ⟨t105, A70, H⟩ := H
    replace H : (if t105 = true then (if a0.toList = ([] : List UInt8) then (laws_FnPackagistPoints.j0 k a0 a1 true) else (if 0 < (a0.size : Int) then (if (bt a0 0) = 118 then (laws_FnPackagistPoints.j0 k a0 a1 true) else (laws_FnPackagistPoints.j0 k a0 a1 ((bt a0 0) == 86))) else (none))) else (laws_FnPackagistPoints.j0 k a0 a1 true)) = some r := H
    have A7 := Aside0.mk A70
    clear A70
    by_cases c8 : t105 = true
    ·subst c8
     have H1 : (if a0.toList = ([] : List UInt8) then (laws_FnPackagistPoints.j0 k a0 a1 true) else (if 0 < (a0.size : Int) then (if (bt a0 0) = 118 then (laws_FnPackagistPoints.j0 k a0 a1 true) else (laws_FnPackagistPoints.j0 k a0 a1 ((bt a0 0) == 86))) else (none))) = some r := by rw [if_pos rfl] at H; exact H
     clear H
     have H := H1
     clear H1
     by_cases c9 : a0.toList = ([] : List UInt8)
     ·rw [if_pos c9] at H
      have c9b0 : (a0.toList == ([] : List UInt8)) = true := beq_iff_eq.mpr c9
      have c9b1 : (a0.toList != ([] : List UInt8)) = false := bne_eq_false_iff_eq.mpr c9
      clear c9
      (first | rw [c9b0] | (simp only [i64_w, i32_w]; rw [c9b0]) | skip)
      have H' := Aside0.mk H
      clear H
      go_wp2_with (first | ((with_reducible refine gate_dst (N := 14) rfl ?_); refine Kd.R_lit Kd.string _ 9 ?hg (N := 14) ?hd (xs := ([a0] : List ByteArray)) (inner := [.string a0]) (ok := fun _ => True) (okp := fun _ => True) ?hr ?hp (fun _ hk => hk) trivial (Below.refl _ _) (Nat.le_refl _) (by simp) ?_; (case hd => rfl); (case hg => rfl); (case hr => first | (go_simp; done) | (go_simp; rfl)); (case hp => exact (Reps.one (show Kd.M Kd.string _ _ _ a0 [.string a0] from rfl) (Reps.none _ _))); intro v102 w10 ho11 hb hg_ hnew_; clear hg_ hnew_; (first | rw [← Ny101.out] at ho11 | (simp only [Int.reduceToNat] at ho11; rw [← Ny101.out] at ho11)); have n0_ := Aside0.mk (Kd.R_lower ho11 (below_size (by repeat (first | (with_reducible first | exact HB.out | apply below_alloc | apply pw_below_drewN | apply below_drew1) | exact HB.out)))); have n1_ := Aside0.mk (below_step (by repeat (first | (with_reducible first | exact HB.out | apply below_alloc | apply pw_below_drewN | apply below_drew1) | exact HB.out)) hb); clear HB; have HO103 := n0_; have HB := n1_; clear n0_ n1_; clear hb ho11; obtain ⟨Ao12, co12, eo12⟩ := Kd.R_slice HO103.out; subst eo12) | ((with_reducible refine gate_callee (f := 7) rfl ?_); refine goesL_ (some 15) rfl rfl Tryd.func7 (by kernel_rfl) rfl #[.slice Ao12 y101.length co12] rfl (by (try simp only [List.map_toArray, List.map_cons, List.map_nil]); first | done | rfl | (simp only [List.length_drop, List.length_take]; rfl)) ?_; (with_reducible refine (laws_short.calls k _ _ y101 true _ ?side1 ?side2 A5.out).mono ?_); (case side1 => repeat (first | exact (Kd.R_reads' HO103.out).2.2 | (with_reducible refine Kd.C_alloc ?_ _) | (with_reducible refine Kd.C_drewN ?_ _) | (with_reducible refine Kd.C_drew ?_))); (case side2 => exact (Kd.R_reads' HO103.out).2.1); rintro e w' ⟨rfl, ⟨nd, rfl⟩⟩; refine ⟨_, rfl, ?_⟩) | (go_at_call 18; (with_reducible refine (spec_PackagistTextKnown.calls k a0 true _ A7.out).mono ?_); rintro e w' ⟨rfl, ⟨nd, rfl⟩⟩))
      go_meet
      case rel => exact ⟨_, (true), (by first | rfl | (simp; done) | (simp [*]; done) | (simp [bne_nil_hyb]; done) | (simp [bne_nil_hyb, *]; done)), H', ⟨by first | omega | exact Nat.le_refl _⟩, ⟨by repeat (first | (with_reducible first | exact HB.out | apply below_alloc | apply pw_below_drewN | apply below_drew1) | exact HB.out)⟩⟩
     ·rw [if_neg c9] at H
      have c9b0 : (a0.toList == ([] : List UInt8)) = false := beq_eq_false_iff_ne.mpr c9
      have c9b1 : (a0.toList != ([] : List UInt8)) = true := bne_iff_ne.mpr c9
      (first | rw [c9b0] | (simp only [i64_w, i32_w]; rw [c9b0]) | skip)
      by_cases c13 : 0 < (a0.size : Int)
      ·rw [if_pos c13] at H
       have c13b0 : decide (0 < (a0.size : Int)) = true := decide_eq_true c13
       have c13b1 : decide (0 < a0.size) = true := decide_eq_true (by omega)
       clear c13
       by_cases c15 : (bt a0 0) = 118
       ·rw [if_pos c15] at H
        have c15b0 : ((bt a0 0) == 118) = true := beq_iff_eq.mpr c15
        have c15b1 : ((bt a0 0) != 118) = false := bne_eq_false_iff_eq.mpr c15
        clear c15
        have H' := Aside0.mk H
        clear H
        go_wp2_with (first | ((with_reducible refine gate_dst (N := 14) rfl ?_); refine Kd.R_lit Kd.string _ 9 ?hg (N := 14) ?hd (xs := ([a0] : List ByteArray)) (inner := [.string a0]) (ok := fun _ => True) (okp := fun _ => True) ?hr ?hp (fun _ hk => hk) trivial (Below.refl _ _) (Nat.le_refl _) (by simp) ?_; (case hd => rfl); (case hg => rfl); (case hr => first | (go_simp; done) | (go_simp; rfl)); (case hp => exact (Reps.one (show Kd.M Kd.string _ _ _ a0 [.string a0] from rfl) (Reps.none _ _))); intro v102 w16 ho17 hb hg_ hnew_; clear hg_ hnew_; (first | rw [← Ny101.out] at ho17 | (simp only [Int.reduceToNat] at ho17; rw [← Ny101.out] at ho17)); have n0_ := Aside0.mk (Kd.R_lower ho17 (below_size (by repeat (first | (with_reducible first | exact HB.out | apply below_alloc | apply pw_below_drewN | apply below_drew1) | exact HB.out)))); have n1_ := Aside0.mk (below_step (by repeat (first | (with_reducible first | exact HB.out | apply below_alloc | apply pw_below_drewN | apply below_drew1) | exact HB.out)) hb); clear HB; have HO103 := n0_; have HB := n1_; clear n0_ n1_; clear hb ho17; obtain ⟨Ao18, co18, eo18⟩ := Kd.R_slice HO103.out; subst eo18) | ((with_reducible refine gate_callee (f := 7) rfl ?_); refine goesL_ (some 15) rfl rfl Tryd.func7 (by kernel_rfl) rfl #[.slice Ao18 y101.length co18] rfl (by (try simp only [List.map_toArray, List.map_cons, List.map_nil]); first | done | rfl | (simp only [List.length_drop, List.length_take]; rfl)) ?_; (with_reducible refine (laws_short.calls k _ _ y101 true _ ?side1 ?side2 A5.out).mono ?_); (case side1 => repeat (first | exact (Kd.R_reads' HO103.out).2.2 | (with_reducible refine Kd.C_alloc ?_ _) | (with_reducible refine Kd.C_drewN ?_ _) | (with_reducible refine Kd.C_drew ?_))); (case side2 => exact (Kd.R_reads' HO103.out).2.1); rintro e w' ⟨rfl, ⟨nd, rfl⟩⟩; refine ⟨_, rfl, ?_⟩) | (go_at_call 18; (with_reducible refine (spec_PackagistTextKnown.calls k a0 true _ A7.out).mono ?_); rintro e w' ⟨rfl, ⟨nd, rfl⟩⟩; have p14 : 0 ≤ (0 : Int) := (by omega); have q14 : 0 < a0.size := (by have : (0 : Int) < (a0.size : Int) := of_decide_eq_true (by first | (with_reducible assumption) | assumption); omega); have hx14 : ∀ h : 0 < a0.size, ((a0[0]'h).toNat : Int) = bt a0 0 := bt_at a0 0; clear p14; have qi14 : (0 < (a0.size : Int)) = True := eq_true (of_decide_eq_true (by first | (with_reducible assumption) | assumption)); replace q14 := eq_true q14))
        go_meet
        case rel => exact ⟨_, (true), (by first | rfl | (simp; done) | (simp [*]; done) | (simp [bne_nil_hyb]; done) | (simp [bne_nil_hyb, *]; done)), H', ⟨by first | omega | exact Nat.le_refl _⟩, ⟨by repeat (first | (with_reducible first | exact HB.out | apply below_alloc | apply pw_below_drewN | apply below_drew1) | exact HB.out)⟩⟩
       ·rw [if_neg c15] at H
        have c15b0 : ((bt a0 0) == 118) = false := beq_eq_false_iff_ne.mpr c15
        have c15b1 : ((bt a0 0) != 118) = true := bne_iff_ne.mpr c15
        have H' := Aside0.mk H
        clear H
        go_wp2_with (first | ((with_reducible refine gate_dst (N := 14) rfl ?_); refine Kd.R_lit Kd.string _ 9 ?hg (N := 14) ?hd (xs := ([a0] : List ByteArray)) (inner := [.string a0]) (ok := fun _ => True) (okp := fun _ => True) ?hr ?hp (fun _ hk => hk) trivial (Below.refl _ _) (Nat.le_refl _) (by simp) ?_; (case hd => rfl); (case hg => rfl); (case hr => first | (go_simp; done) | (go_simp; rfl)); (case hp => exact (Reps.one (show Kd.M Kd.string _ _ _ a0 [.string a0] from rfl) (Reps.none _ _))); intro v102 w20 ho21 hb hg_ hnew_; clear hg_ hnew_; (first | rw [← Ny101.out] at ho21 | (simp only [Int.reduceToNat] at ho21; rw [← Ny101.out] at ho21)); have n0_ := Aside0.mk (Kd.R_lower ho21 (below_size (by repeat (first | (with_reducible first | exact HB.out | apply below_alloc | apply pw_below_drewN | apply below_drew1) | exact HB.out)))); have n1_ := Aside0.mk (below_step (by repeat (first | (with_reducible first | exact HB.out | apply below_alloc | apply pw_below_drewN | apply below_drew1) | exact HB.out)) hb); clear HB; have HO103 := n0_; have HB := n1_; clear n0_ n1_; clear hb ho21; obtain ⟨Ao22, co22, eo22⟩ := Kd.R_slice HO103.out; subst eo22) | ((with_reducible refine gate_callee (f := 7) rfl ?_); refine goesL_ (some 15) rfl rfl Tryd.func7 (by kernel_rfl) rfl #[.slice Ao22 y101.length co22] rfl (by (try simp only [List.map_toArray, List.map_cons, List.map_nil]); first | done | rfl | (simp only [List.length_drop, List.length_take]; rfl)) ?_; (with_reducible refine (laws_short.calls k _ _ y101 true _ ?side1 ?side2 A5.out).mono ?_); (case side1 => repeat (first | exact (Kd.R_reads' HO103.out).2.2 | (with_reducible refine Kd.C_alloc ?_ _) | (with_reducible refine Kd.C_drewN ?_ _) | (with_reducible refine Kd.C_drew ?_))); (case side2 => exact (Kd.R_reads' HO103.out).2.1); rintro e w' ⟨rfl, ⟨nd, rfl⟩⟩; refine ⟨_, rfl, ?_⟩) | (go_at_call 18; (with_reducible refine (spec_PackagistTextKnown.calls k a0 true _ A7.out).mono ?_); rintro e w' ⟨rfl, ⟨nd, rfl⟩⟩; have p14 : 0 ≤ (0 : Int) := (by omega); have q14 : 0 < a0.size := (by have : (0 : Int) < (a0.size : Int) := of_decide_eq_true (by first | (with_reducible assumption) | assumption); omega); have hx14 : ∀ h : 0 < a0.size, ((a0[0]'h).toNat : Int) = bt a0 0 := bt_at a0 0; clear p14; have qi14 : (0 < (a0.size : Int)) = True := eq_true (of_decide_eq_true (by first | (with_reducible assumption) | assumption)); replace q14 := eq_true q14; have p19 : 0 ≤ (0 : Int) := (by omega); have q19 : 0 < a0.size := (by have : (0 : Int) < (a0.size : Int) := of_decide_eq_true (by first | (with_reducible assumption) | assumption); omega); have hx19 : ∀ h : 0 < a0.size, ((a0[0]'h).toNat : Int) = bt a0 0 := bt_at a0 0; clear p19; have qi19 : (0 < (a0.size : Int)) = True := eq_true (of_decide_eq_true (by first | (with_reducible assumption) | assumption)); replace q19 := eq_true q19))
        go_meet
        case rel => exact ⟨_, (((bt a0 0) == 86)), (by first | rfl | (simp; done) | (simp [*]; done) | (simp [bne_nil_hyb]; done) | (simp [bne_nil_hyb, *]; done)), H', ⟨by first | omega | exact Nat.le_refl _⟩, ⟨by repeat (first | (with_reducible first | exact HB.out | apply below_alloc | apply pw_below_drewN | apply below_drew1) | exact HB.out)⟩⟩
      ·rw [if_neg c13] at H
       exact absurd H (by simp)
    ·replace c8 := Bool.eq_false_iff.mpr c8
     subst c8
     have H1 : (laws_FnPackagistPoints.j0 k a0 a1 true) = some r := by rw [if_neg (show ¬ (false = true) by decide)] at H; exact H
     clear H
     have H := H1
     clear H1
     have H' := Aside0.mk H
     clear H
     go_wp2_with (first | ((with_reducible refine gate_dst (N := 14) rfl ?_); refine Kd.R_lit Kd.string _ 9 ?hg (N := 14) ?hd (xs := ([a0] : List ByteArray)) (inner := [.string a0]) (ok := fun _ => True) (okp := fun _ => True) ?hr ?hp (fun _ hk => hk) trivial (Below.refl _ _) (Nat.le_refl _) (by simp) ?_; (case hd => rfl); (case hg => rfl); (case hr => first | (go_simp; done) | (go_simp; rfl)); (case hp => exact (Reps.one (show Kd.M Kd.string _ _ _ a0 [.string a0] from rfl) (Reps.none _ _))); intro v102 w23 ho24 hb hg_ hnew_; clear hg_ hnew_; (first | rw [← Ny101.out] at ho24 | (simp only [Int.reduceToNat] at ho24; rw [← Ny101.out] at ho24)); have n0_ := Aside0.mk (Kd.R_lower ho24 (below_size (by repeat (first | (with_reducible first | exact HB.out | apply below_alloc | apply pw_below_drewN | apply below_drew1) | exact HB.out)))); have n1_ := Aside0.mk (below_step (by repeat (first | (with_reducible first | exact HB.out | apply below_alloc | apply pw_below_drewN | apply below_drew1) | exact HB.out)) hb); clear HB; have HO103 := n0_; have HB := n1_; clear n0_ n1_; clear hb ho24; obtain ⟨Ao25, co25, eo25⟩ := Kd.R_slice HO103.out; subst eo25) | ((with_reducible refine gate_callee (f := 7) rfl ?_); refine goesL_ (some 15) rfl rfl Tryd.func7 (by kernel_rfl) rfl #[.slice Ao25 y101.length co25] rfl (by (try simp only [List.map_toArray, List.map_cons, List.map_nil]); first | done | rfl | (simp only [List.length_drop, List.length_take]; rfl)) ?_; (with_reducible refine (laws_short.calls k _ _ y101 true _ ?side1 ?side2 A5.out).mono ?_); (case side1 => repeat (first | exact (Kd.R_reads' HO103.out).2.2 | (with_reducible refine Kd.C_alloc ?_ _) | (with_reducible refine Kd.C_drewN ?_ _) | (with_reducible refine Kd.C_drew ?_))); (case side2 => exact (Kd.R_reads' HO103.out).2.1); rintro e w' ⟨rfl, ⟨nd, rfl⟩⟩; refine ⟨_, rfl, ?_⟩) | (go_at_call 18; (with_reducible refine (spec_PackagistTextKnown.calls k a0 false _ A7.out).mono ?_); rintro e w' ⟨rfl, ⟨nd, rfl⟩⟩))
     go_meet
     case rel => exact ⟨_, (true), (by first | rfl | (simp; done) | (simp [*]; done) | (simp [bne_nil_hyb]; done) | (simp [bne_nil_hyb, *]; done)), H', ⟨by first | omega | exact Nat.le_refl _⟩, ⟨by repeat (first | (with_reducible first | exact HB.out | apply below_alloc | apply pw_below_drewN | apply below_drew1) | exact HB.out)⟩⟩
   ·replace c6 := Bool.eq_false_iff.mpr c6
    subst c6
    have H1 : (laws_FnPackagistPoints.j0 k a0 a1 true) = some r := by rw [if_neg (show ¬ (false = true) by decide)] at H; exact H
    clear H
    have H := H1
    clear H1
    have H' := Aside0.mk H
    clear H
    go_wp2_with (first | ((with_reducible refine gate_dst (N := 14) rfl ?_); refine Kd.R_lit Kd.string _ 9 ?hg (N := 14) ?hd (xs := ([a0] : List ByteArray)) (inner := [.string a0]) (ok := fun _ => True) (okp := fun _ => True) ?hr ?hp (fun _ hk => hk) trivial (Below.refl _ _) (Nat.le_refl _) (by simp) ?_; (case hd => rfl); (case hg => rfl); (case hr => first | (go_simp; done) | (go_simp; rfl)); (case hp => exact (Reps.one (show Kd.M Kd.string _ _ _ a0 [.string a0] from rfl) (Reps.none _ _))); intro v102 w26 ho27 hb hg_ hnew_; clear hg_ hnew_; (first | rw [← Ny101.out] at ho27 | (simp only [Int.reduceToNat] at ho27; rw [← Ny101.out] at ho27)); have n0_ := Aside0.mk (Kd.R_lower ho27 (below_size (by repeat (first | (with_reducible first | exact HB.out | apply below_alloc | apply pw_below_drewN | apply below_drew1) | exact HB.out)))); have n1_ := Aside0.mk (below_step (by repeat (first | (with_reducible first | exact HB.out | apply below_alloc | apply pw_below_drewN | apply below_drew1) | exact HB.out)) hb); clear HB; have HO103 := n0_; have HB := n1_; clear n0_ n1_; clear hb ho27; obtain ⟨Ao28, co28, eo28⟩ := Kd.R_slice HO103.out; subst eo28) | ((with_reducible refine gate_callee (f := 7) rfl ?_); refine goesL_ (some 15) rfl rfl Tryd.func7 (by kernel_rfl) rfl #[.slice Ao28 y101.length co28] rfl (by (try simp only [List.map_toArray, List.map_cons, List.map_nil]); first | done | rfl | (simp only [List.length_drop, List.length_take]; rfl)) ?_; (with_reducible refine (laws_short.calls k _ _ y101 false _ ?side1 ?side2 A5.out).mono ?_); (case side1 => repeat (first | exact (Kd.R_reads' HO103.out).2.2 | (with_reducible refine Kd.C_alloc ?_ _) | (with_reducible refine Kd.C_drewN ?_ _) | (with_reducible refine Kd.C_drew ?_))); (case side2 => exact (Kd.R_reads' HO103.out).2.1); rintro e w' ⟨rfl, ⟨nd, rfl⟩⟩; refine ⟨_, rfl, ?_⟩))
    go_meet
    case rel => exact ⟨_, (true), (by first | rfl | (simp; done) | (simp [*]; done) | (simp [bne_nil_hyb]; done) | (simp [bne_nil_hyb, *]; done)), H', ⟨by first | omega | exact Nat.le_refl _⟩, ⟨by repeat (first | (with_reducible first | exact HB.out | apply below_alloc | apply pw_below_drewN | apply below_drew1) | exact HB.out)⟩⟩
  case rest =>
   clear HC4
   try clear c1
   try clear p1
   try clear q1
   try clear hx1
   try clear qi1
   try clear p2
   try clear c3
   try clear c3b0
   try clear c3b1
   try clear c6
   try clear c7
   try clear c8
   try clear c9
   try clear c9b0
   try clear c9b1
   try clear c13
   try clear c13b0
   try clear c13b1
   try clear p14
   try clear q14
   try clear hx14
   try clear qi14
   try clear c15
   try clear c15b0
   try clear c15b1
   try clear p19
   try clear q19
   try clear hx19
   try clear qi19
   try clear p14
   try clear p19
   try clear q14
   try clear q19
   obtain ⟨kq, x35_3, rfl, HA, HJ3, HB⟩ := hcut
   cases kq with
   | zero => exact absurd HA.out (by simp [laws_FnPackagistPoints.j0])
   | succ kj3 =>
    have H := HA.out
    clear HA
    simp only [laws_FnPackagistPoints.j0] at H
    by_cases c29 : x35_3 = true
    ·subst c29
     have H1 : (some true) = some r := by rw [if_pos rfl] at H; exact H
     clear H
     have H := H1
     clear H1
     obtain rfl := Option.some.inj H
     go_wp2
     go_ret
     exact ⟨by first | rfl | (simp [errW_none, errW_some] <;> rfl) | (simp [*, errW_none, errW_some] <;> rfl) | (simp [bne_nil_hyb]; done), by repeat (first | (with_reducible first | exact HB.out | apply below_alloc | apply pw_below_drewN | apply below_drew1) | exact HB.out)⟩
    ·replace c29 := Bool.eq_false_iff.mpr c29
     subst c29
     have H1 : (if (a0.size : Int) = 0 then (none) else (if (Int.tmod (wrap64 (a1)) (a0.size : Int)) = 0 then (laws_FnPackagistPoints.j1 kj3 a0 (Int.tmod (wrap64 (a1)) (a0.size : Int)) true) else (if 0 ≤ (wrap64 ((Int.tmod (wrap64 (a1)) (a0.size : Int)) - 1)) then (if (wrap64 ((Int.tmod (wrap64 (a1)) (a0.size : Int)) - 1)) ≤ (Int.tmod (wrap64 (a1)) (a0.size : Int)) then (if (Int.tmod (wrap64 (a1)) (a0.size : Int)) ≤ (a0.size : Int) then ((laws_digits.f kj3 (a0.extract ((wrap64 ((Int.tmod (wrap64 (a1)) (a0.size : Int)) - 1)) : Int).toNat ((Int.tmod (wrap64 (a1)) (a0.size : Int)) : Int).toNat)).bind fun t106 => (if 0 ≤ (Int.tmod (wrap64 (a1)) (a0.size : Int)) then (if (Int.tmod (wrap64 (a1)) (a0.size : Int)) ≤ (wrap64 ((Int.tmod (wrap64 (a1)) (a0.size : Int)) + 1)) then (if (wrap64 ((Int.tmod (wrap64 (a1)) (a0.size : Int)) + 1)) ≤ (a0.size : Int) then ((laws_digits.f kj3 (a0.extract ((Int.tmod (wrap64 (a1)) (a0.size : Int)) : Int).toNat ((wrap64 ((Int.tmod (wrap64 (a1)) (a0.size : Int)) + 1)) : Int).toNat)).bind fun t107 => (if (t106 == t107) = true then (laws_FnPackagistPoints.j1 kj3 a0 (Int.tmod (wrap64 (a1)) (a0.size : Int)) true) else ((laws_words.f kj3 (a0.extract ((Int.tmod (wrap64 (a1)) (a0.size : Int)) : Int).toNat ((wrap64 ((Int.tmod (wrap64 (a1)) (a0.size : Int)) + 1)) : Int).toNat)).bind fun t108 => (if t108 = true then ((laws_words.f kj3 (a0.extract ((wrap64 ((Int.tmod (wrap64 (a1)) (a0.size : Int)) - 1)) : Int).toNat ((Int.tmod (wrap64 (a1)) (a0.size : Int)) : Int).toNat)).bind fun t109 => (if t109 = true then (laws_FnPackagistPoints.j1 kj3 a0 (Int.tmod (wrap64 (a1)) (a0.size : Int)) false) else ((laws_digits.f kj3 (a0.extract ((wrap64 ((Int.tmod (wrap64 (a1)) (a0.size : Int)) - 1)) : Int).toNat ((Int.tmod (wrap64 (a1)) (a0.size : Int)) : Int).toNat)).bind fun t110 => (laws_FnPackagistPoints.j1 kj3 a0 (Int.tmod (wrap64 (a1)) (a0.size : Int)) (!t110))))) else ((laws_digits.f kj3 (a0.extract ((Int.tmod (wrap64 (a1)) (a0.size : Int)) : Int).toNat ((wrap64 ((Int.tmod (wrap64 (a1)) (a0.size : Int)) + 1)) : Int).toNat)).bind fun t111 => (if t111 = true then ((laws_words.f kj3 (a0.extract ((wrap64 ((Int.tmod (wrap64 (a1)) (a0.size : Int)) - 1)) : Int).toNat ((Int.tmod (wrap64 (a1)) (a0.size : Int)) : Int).toNat)).bind fun t112 => (if t112 = true then (laws_FnPackagistPoints.j1 kj3 a0 (Int.tmod (wrap64 (a1)) (a0.size : Int)) false) else ((laws_digits.f kj3 (a0.extract ((wrap64 ((Int.tmod (wrap64 (a1)) (a0.size : Int)) - 1)) : Int).toNat ((Int.tmod (wrap64 (a1)) (a0.size : Int)) : Int).toNat)).bind fun t113 => (laws_FnPackagistPoints.j1 kj3 a0 (Int.tmod (wrap64 (a1)) (a0.size : Int)) (!t113))))) else (laws_FnPackagistPoints.j1 kj3 a0 (Int.tmod (wrap64 (a1)) (a0.size : Int)) true))))))) else (none)) else (none)) else (none))) else (none)) else (none)) else (none)))) = some r := by rw [if_neg (show ¬ (false = true) by decide)] at H; exact H
     clear H
     have H := H1
     clear H1
     by_cases c30 : (a0.size : Int) = 0
     ·rw [if_pos c30] at H
      exact absurd H (by simp)
     ·rw [if_neg c30] at H
      have c30b0 : ((a0.size : Int) == 0) = false := beq_eq_false_iff_ne.mpr c30
      have c30b1 : ((a0.size : Int) != 0) = true := bne_iff_ne.mpr c30
      have HC31 := Aside0.mk H
      clear H
      go_upto_region 6 with (fail)
      go_cut [93] (fun v93 wc => ∃ (kq : Nat) (x93_30 : Bool), v93 = .bool x93_30 ∧ Aside0 (laws_FnPackagistPoints.j1 kq a0 (Int.tmod (wrap64 (a1)) (a0.size : Int)) x93_30 = some r) ∧ Aside0 (kq ≤ kj3) ∧ Aside0 (Below w.heap.size w wc))
      case first =>
       have H := HC31.out
       clear HC31
       by_cases c32 : (Int.tmod (wrap64 (a1)) (a0.size : Int)) = 0
       ·rw [if_pos c32] at H
        have c32b0 : ((Int.tmod (wrap64 (a1)) (a0.size : Int)) == 0) = true := beq_iff_eq.mpr c32
        have c32b1 : ((Int.tmod (wrap64 (a1)) (a0.size : Int)) != 0) = false := bne_eq_false_iff_eq.mpr c32
        clear c32
        (first | rw [c32b0] | (simp only [i64_w, i32_w]; rw [c32b0]) | skip)
        have H' := Aside0.mk H
        clear H
        try go_wp2
        have n0_ := Aside0.mk (below_drew1 HB.out)
        clear HB
        have HB := n0_
        clear n0_
        refine start_ (n := 53) (S := fun w' => True) (ds := []) q0_ (by kernel_rfl) rfl rfl trivial (fun hHeld => ?_); refine with_tabW laws_FnPackagistPoints.tab6 laws_FnPackagistPoints.bits6 (fun HT_ HW_ => ?_)
        generalize wc.drew = w33 at HB hHeld ⊢
        refine pure_ (i := 0) (N := some 41) (v := ?_) (a' := ?_) q1_ rfl rfl (any_of HT_.out (by kernel_rfl)) (fun _ _ _ h => h) (Or.inl ⟨by rfl, ?_⟩) ?_ ?_
        rotate_left
        ·intro w'; go_simp; with_reducible rfl
        rotate_left
        ·simp only [Act.put, List.setIfInBounds_toArray, List.set_cons_zero, List.set_cons_succ, i64_w, i32_w]; rfl
        refine pure_ (i := 1) (N := some 42) (v := ?_) (a' := ?_) q2_ rfl rfl (any_of HT_.out (by kernel_rfl)) (fun _ _ _ h => h) (Or.inl ⟨by rfl, ?_⟩) ?_ ?_
        rotate_left
        ·intro w'; go_simp; with_reducible rfl
        rotate_left
        ·simp only [Act.put, List.setIfInBounds_toArray, List.set_cons_zero, List.set_cons_succ, i64_w, i32_w]; rfl
        refine pure_ (i := 2) (N := some 43) (v := ?_) (a' := ?_) q3_ rfl rfl (any_of HT_.out (by kernel_rfl)) (fun _ _ _ h => h) (Or.inl ⟨by rfl, ?_⟩) ?_ ?_
        rotate_left
        ·intro w'; go_simp; with_reducible rfl
        rotate_left
        ·simp only [Act.put, List.setIfInBounds_toArray, List.set_cons_zero, List.set_cons_succ, i64_w, i32_w]; rfl
        refine pure_ (i := 3) (N := some 44) (v := undef) (a' := ?_) q4_ rfl rfl (any_of HT_.out (by kernel_rfl)) (fun _ _ _ h => h) (Or.inr ⟨by rfl, rfl⟩) ?_ ?_
        rotate_left
        ·simp only [Act.put, List.setIfInBounds_toArray, List.set_cons_zero, List.set_cons_succ, i64_w, i32_w]; rfl
        refine pure_ (i := 4) (N := some 45) (v := undef) (a' := ?_) q5_ rfl rfl (any_of HT_.out (by kernel_rfl)) (fun _ _ _ h => h) (Or.inr ⟨by rfl, rfl⟩) ?_ ?_
        rotate_left
        ·simp only [Act.put, List.setIfInBounds_toArray, List.set_cons_zero, List.set_cons_succ, i64_w, i32_w]; rfl
        refine pure_ (i := 5) (N := some 46) (v := undef) (a' := ?_) q6_ rfl rfl (any_of HT_.out (by kernel_rfl)) (fun _ _ _ h => h) (Or.inr ⟨by rfl, rfl⟩) ?_ ?_
        rotate_left
        ·simp only [Act.put, List.setIfInBounds_toArray, List.set_cons_zero, List.set_cons_succ, i64_w, i32_w]; rfl
        refine pure_ (i := 6) (N := some 47) (v := undef) (a' := ?_) q7_ rfl rfl (any_of HT_.out (by kernel_rfl)) (fun _ _ _ h => h) (Or.inr ⟨by rfl, rfl⟩) ?_ ?_
        rotate_left
        ·simp only [Act.put, List.setIfInBounds_toArray, List.set_cons_zero, List.set_cons_succ, i64_w, i32_w]; rfl
        refine pure_ (i := 7) (N := some 48) (v := undef) (a' := ?_) q8_ rfl rfl (any_of HT_.out (by kernel_rfl)) (fun _ _ _ h => h) (Or.inr ⟨by rfl, rfl⟩) ?_ ?_
        rotate_left
        ·simp only [Act.put, List.setIfInBounds_toArray, List.set_cons_zero, List.set_cons_succ, i64_w, i32_w]; rfl
        refine pure_ (i := 8) (N := some 49) (v := undef) (a' := ?_) q9_ rfl rfl (any_of HT_.out (by kernel_rfl)) (fun _ _ _ h => h) (Or.inr ⟨by rfl, rfl⟩) ?_ ?_
        rotate_left
        ·simp only [Act.put, List.setIfInBounds_toArray, List.set_cons_zero, List.set_cons_succ, i64_w, i32_w]; rfl
        refine pure_ (i := 9) (N := some 50) (v := undef) (a' := ?_) q10_ rfl rfl (any_of HT_.out (by kernel_rfl)) (fun _ _ _ h => h) (Or.inr ⟨by rfl, rfl⟩) ?_ ?_
        rotate_left
        ·simp only [Act.put, List.setIfInBounds_toArray, List.set_cons_zero, List.set_cons_succ, i64_w, i32_w]; rfl
        refine pure_ (i := 10) (N := some 51) (v := undef) (a' := ?_) q11_ rfl rfl (any_of HT_.out (by kernel_rfl)) (fun _ _ _ h => h) (Or.inr ⟨by rfl, rfl⟩) ?_ ?_
        rotate_left
        ·simp only [Act.put, List.setIfInBounds_toArray, List.set_cons_zero, List.set_cons_succ, i64_w, i32_w]; rfl
        refine pure_ (i := 11) (N := some 52) (v := undef) (a' := ?_) q12_ rfl rfl (any_of HT_.out (by kernel_rfl)) (fun _ _ _ h => h) (Or.inr ⟨by rfl, rfl⟩) ?_ ?_
        rotate_left
        ·simp only [Act.put, List.setIfInBounds_toArray, List.set_cons_zero, List.set_cons_succ, i64_w, i32_w]; rfl
        refine pure_ (i := 12) (N := some 53) (v := undef) (a' := ?_) q13_ rfl rfl (any_of HT_.out (by kernel_rfl)) (fun _ _ _ h => h) (Or.inr ⟨by rfl, rfl⟩) ?_ ?_
        rotate_left
        ·simp only [Act.put, List.setIfInBounds_toArray, List.set_cons_zero, List.set_cons_succ, i64_w, i32_w]; rfl
        refine pure_ (i := 13) (N := some 54) (v := undef) (a' := ?_) q14_ rfl rfl (any_of HT_.out (by kernel_rfl)) (fun _ _ _ h => h) (Or.inr ⟨by rfl, rfl⟩) ?_ ?_
        rotate_left
        ·simp only [Act.put, List.setIfInBounds_toArray, List.set_cons_zero, List.set_cons_succ, i64_w, i32_w]; rfl
        refine pure_ (i := 14) (N := some 55) (v := undef) (a' := ?_) q15_ rfl rfl (any_of HT_.out (by kernel_rfl)) (fun _ _ _ h => h) (Or.inr ⟨by rfl, rfl⟩) ?_ ?_
        rotate_left
        ·simp only [Act.put, List.setIfInBounds_toArray, List.set_cons_zero, List.set_cons_succ, i64_w, i32_w]; rfl
        refine pure_ (i := 15) (N := some 56) (v := undef) (a' := ?_) q16_ rfl rfl (any_of HT_.out (by kernel_rfl)) (fun _ _ _ h => h) (Or.inr ⟨by rfl, rfl⟩) ?_ ?_
        rotate_left
        ·simp only [Act.put, List.setIfInBounds_toArray, List.set_cons_zero, List.set_cons_succ, i64_w, i32_w]; rfl
        refine pure_ (i := 16) (N := some 57) (v := ?_) (a' := ?_) q17_ rfl rfl (any_of HT_.out (by kernel_rfl)) (fun _ _ _ h => h) (Or.inl ⟨by rfl, ?_⟩) ?_ ?_
        rotate_left
        ·intro w'; go_simp; with_reducible rfl
        rotate_left
        ·simp only [Act.put, List.setIfInBounds_toArray, List.set_cons_zero, List.set_cons_succ, i64_w, i32_w]; rfl
        refine pure_ (i := 17) (N := some 58) (v := ?_) (a' := ?_) q18_ rfl rfl (any_of HT_.out (by kernel_rfl)) (fun _ _ _ h => h) (Or.inl ⟨by rfl, ?_⟩) ?_ ?_
        rotate_left
        ·intro w'; go_simp; with_reducible rfl
        rotate_left
        ·simp only [Act.put, List.setIfInBounds_toArray, List.set_cons_zero, List.set_cons_succ, i64_w, i32_w]; rfl
        refine pure_ (i := 18) (N := some 59) (v := undef) (a' := ?_) q19_ rfl rfl (any_of HT_.out (by kernel_rfl)) (fun _ _ _ h => h) (Or.inr ⟨by rfl, rfl⟩) ?_ ?_
        rotate_left
        ·simp only [Act.put, List.setIfInBounds_toArray, List.set_cons_zero, List.set_cons_succ, i64_w, i32_w]; rfl
        refine pure_ (i := 19) (N := some 60) (v := undef) (a' := ?_) q20_ rfl rfl (any_of HT_.out (by kernel_rfl)) (fun _ _ _ h => h) (Or.inr ⟨by rfl, rfl⟩) ?_ ?_
        rotate_left
        ·simp only [Act.put, List.setIfInBounds_toArray, List.set_cons_zero, List.set_cons_succ, i64_w, i32_w]; rfl
        refine pure_ (i := 20) (N := some 61) (v := undef) (a' := ?_) q21_ rfl rfl (any_of HT_.out (by kernel_rfl)) (fun _ _ _ h => h) (Or.inr ⟨by rfl, rfl⟩) ?_ ?_
        rotate_left
        ·simp only [Act.put, List.setIfInBounds_toArray, List.set_cons_zero, List.set_cons_succ, i64_w, i32_w]; rfl
        refine pure_ (i := 21) (N := some 62) (v := undef) (a' := ?_) q22_ rfl rfl (any_of HT_.out (by kernel_rfl)) (fun _ _ _ h => h) (Or.inr ⟨by rfl, rfl⟩) ?_ ?_
        rotate_left
        ·simp only [Act.put, List.setIfInBounds_toArray, List.set_cons_zero, List.set_cons_succ, i64_w, i32_w]; rfl
        refine pure_ (i := 22) (N := some 63) (v := undef) (a' := ?_) q23_ rfl rfl (any_of HT_.out (by kernel_rfl)) (fun _ _ _ h => h) (Or.inr ⟨by rfl, rfl⟩) ?_ ?_
        rotate_left
        ·simp only [Act.put, List.setIfInBounds_toArray, List.set_cons_zero, List.set_cons_succ, i64_w, i32_w]; rfl
        refine pure_ (i := 23) (N := some 64) (v := undef) (a' := ?_) q24_ rfl rfl (any_of HT_.out (by kernel_rfl)) (fun _ _ _ h => h) (Or.inr ⟨by rfl, rfl⟩) ?_ ?_
        rotate_left
        ·simp only [Act.put, List.setIfInBounds_toArray, List.set_cons_zero, List.set_cons_succ, i64_w, i32_w]; rfl
        refine pure_ (i := 24) (N := some 65) (v := undef) (a' := ?_) q25_ rfl rfl (any_of HT_.out (by kernel_rfl)) (fun _ _ _ h => h) (Or.inr ⟨by rfl, rfl⟩) ?_ ?_
        rotate_left
        ·simp only [Act.put, List.setIfInBounds_toArray, List.set_cons_zero, List.set_cons_succ, i64_w, i32_w]; rfl
        refine pure_ (i := 25) (N := some 66) (v := undef) (a' := ?_) q26_ rfl rfl (any_of HT_.out (by kernel_rfl)) (fun _ _ _ h => h) (Or.inr ⟨by rfl, rfl⟩) ?_ ?_
        rotate_left
        ·simp only [Act.put, List.setIfInBounds_toArray, List.set_cons_zero, List.set_cons_succ, i64_w, i32_w]; rfl
        refine pure_ (i := 26) (N := some 67) (v := undef) (a' := ?_) q27_ rfl rfl (any_of HT_.out (by kernel_rfl)) (fun _ _ _ h => h) (Or.inr ⟨by rfl, rfl⟩) ?_ ?_
        rotate_left
        ·simp only [Act.put, List.setIfInBounds_toArray, List.set_cons_zero, List.set_cons_succ, i64_w, i32_w]; rfl
        refine pure_ (i := 27) (N := some 68) (v := undef) (a' := ?_) q28_ rfl rfl (any_of HT_.out (by kernel_rfl)) (fun _ _ _ h => h) (Or.inr ⟨by rfl, rfl⟩) ?_ ?_
        rotate_left
        ·simp only [Act.put, List.setIfInBounds_toArray, List.set_cons_zero, List.set_cons_succ, i64_w, i32_w]; rfl
        refine pure_ (i := 28) (N := some 69) (v := undef) (a' := ?_) q29_ rfl rfl (any_of HT_.out (by kernel_rfl)) (fun _ _ _ h => h) (Or.inr ⟨by rfl, rfl⟩) ?_ ?_
        rotate_left
        ·simp only [Act.put, List.setIfInBounds_toArray, List.set_cons_zero, List.set_cons_succ, i64_w, i32_w]; rfl
        refine pure_ (i := 29) (N := some 70) (v := undef) (a' := ?_) q30_ rfl rfl (any_of HT_.out (by kernel_rfl)) (fun _ _ _ h => h) (Or.inr ⟨by rfl, rfl⟩) ?_ ?_
        rotate_left
        ·simp only [Act.put, List.setIfInBounds_toArray, List.set_cons_zero, List.set_cons_succ, i64_w, i32_w]; rfl
        refine pure_ (i := 30) (N := some 71) (v := undef) (a' := ?_) q31_ rfl rfl (any_of HT_.out (by kernel_rfl)) (fun _ _ _ h => h) (Or.inr ⟨by rfl, rfl⟩) ?_ ?_
        rotate_left
        ·simp only [Act.put, List.setIfInBounds_toArray, List.set_cons_zero, List.set_cons_succ, i64_w, i32_w]; rfl
        refine pure_ (i := 31) (N := some 72) (v := undef) (a' := ?_) q32_ rfl rfl (any_of HT_.out (by kernel_rfl)) (fun _ _ _ h => h) (Or.inr ⟨by rfl, rfl⟩) ?_ ?_
        rotate_left
        ·simp only [Act.put, List.setIfInBounds_toArray, List.set_cons_zero, List.set_cons_succ, i64_w, i32_w]; rfl
        refine pure_ (i := 32) (N := some 73) (v := undef) (a' := ?_) q33_ rfl rfl (any_of HT_.out (by kernel_rfl)) (fun _ _ _ h => h) (Or.inr ⟨by rfl, rfl⟩) ?_ ?_
        rotate_left
        ·simp only [Act.put, List.setIfInBounds_toArray, List.set_cons_zero, List.set_cons_succ, i64_w, i32_w]; rfl
        refine pure_ (i := 33) (N := some 74) (v := undef) (a' := ?_) q34_ rfl rfl (any_of HT_.out (by kernel_rfl)) (fun _ _ _ h => h) (Or.inr ⟨by rfl, rfl⟩) ?_ ?_
        rotate_left
        ·simp only [Act.put, List.setIfInBounds_toArray, List.set_cons_zero, List.set_cons_succ, i64_w, i32_w]; rfl
        refine pure_ (i := 34) (N := some 75) (v := ?_) (a' := ?_) q35_ rfl rfl (any_of HT_.out (by kernel_rfl)) (fun _ _ _ h => h) (Or.inl ⟨by rfl, ?_⟩) ?_ ?_
        rotate_left
        ·intro w'; go_simp; with_reducible rfl
        rotate_left
        ·simp only [Act.put, List.setIfInBounds_toArray, List.set_cons_zero, List.set_cons_succ, i64_w, i32_w]; rfl
        refine pure_ (i := 35) (N := some 76) (v := ?_) (a' := ?_) q36_ rfl rfl (any_of HT_.out (by kernel_rfl)) (fun _ _ _ h => h) (Or.inl ⟨by rfl, ?_⟩) ?_ ?_
        rotate_left
        ·intro w'; go_simp; with_reducible rfl
        rotate_left
        ·simp only [Act.put, List.setIfInBounds_toArray, List.set_cons_zero, List.set_cons_succ, i64_w, i32_w]; rfl
        refine pure_ (i := 36) (N := some 77) (v := undef) (a' := ?_) q37_ rfl rfl (any_of HT_.out (by kernel_rfl)) (fun _ _ _ h => h) (Or.inr ⟨by rfl, rfl⟩) ?_ ?_
        rotate_left
        ·simp only [Act.put, List.setIfInBounds_toArray, List.set_cons_zero, List.set_cons_succ, i64_w, i32_w]; rfl
        refine pure_ (i := 37) (N := some 78) (v := undef) (a' := ?_) q38_ rfl rfl (any_of HT_.out (by kernel_rfl)) (fun _ _ _ h => h) (Or.inr ⟨by rfl, rfl⟩) ?_ ?_
        rotate_left
        ·simp only [Act.put, List.setIfInBounds_toArray, List.set_cons_zero, List.set_cons_succ, i64_w, i32_w]; rfl
        refine pure_ (i := 38) (N := some 79) (v := undef) (a' := ?_) q39_ rfl rfl (any_of HT_.out (by kernel_rfl)) (fun _ _ _ h => h) (Or.inr ⟨by rfl, rfl⟩) ?_ ?_
        rotate_left
        ·simp only [Act.put, List.setIfInBounds_toArray, List.set_cons_zero, List.set_cons_succ, i64_w, i32_w]; rfl
        refine pure_ (i := 39) (N := some 80) (v := undef) (a' := ?_) q40_ rfl rfl (any_of HT_.out (by kernel_rfl)) (fun _ _ _ h => h) (Or.inr ⟨by rfl, rfl⟩) ?_ ?_
        rotate_left
        ·simp only [Act.put, List.setIfInBounds_toArray, List.set_cons_zero, List.set_cons_succ, i64_w, i32_w]; rfl
        refine pure_ (i := 40) (N := some 81) (v := undef) (a' := ?_) q41_ rfl rfl (any_of HT_.out (by kernel_rfl)) (fun _ _ _ h => h) (Or.inr ⟨by rfl, rfl⟩) ?_ ?_
        rotate_left
        ·simp only [Act.put, List.setIfInBounds_toArray, List.set_cons_zero, List.set_cons_succ, i64_w, i32_w]; rfl
        refine pure_ (i := 41) (N := some 82) (v := undef) (a' := ?_) q42_ rfl rfl (any_of HT_.out (by kernel_rfl)) (fun _ _ _ h => h) (Or.inr ⟨by rfl, rfl⟩) ?_ ?_
        rotate_left
        ·simp only [Act.put, List.setIfInBounds_toArray, List.set_cons_zero, List.set_cons_succ, i64_w, i32_w]; rfl
        refine pure_ (i := 42) (N := some 83) (v := undef) (a' := ?_) q43_ rfl rfl (any_of HT_.out (by kernel_rfl)) (fun _ _ _ h => h) (Or.inr ⟨by rfl, rfl⟩) ?_ ?_
        rotate_left
        ·simp only [Act.put, List.setIfInBounds_toArray, List.set_cons_zero, List.set_cons_succ, i64_w, i32_w]; rfl
        refine pure_ (i := 43) (N := some 84) (v := undef) (a' := ?_) q44_ rfl rfl (any_of HT_.out (by kernel_rfl)) (fun _ _ _ h => h) (Or.inr ⟨by rfl, rfl⟩) ?_ ?_
        rotate_left
        ·simp only [Act.put, List.setIfInBounds_toArray, List.set_cons_zero, List.set_cons_succ, i64_w, i32_w]; rfl
        refine pure_ (i := 44) (N := some 85) (v := undef) (a' := ?_) q45_ rfl rfl (any_of HT_.out (by kernel_rfl)) (fun _ _ _ h => h) (Or.inr ⟨by rfl, rfl⟩) ?_ ?_
        rotate_left
        ·simp only [Act.put, List.setIfInBounds_toArray, List.set_cons_zero, List.set_cons_succ, i64_w, i32_w]; rfl
        refine pure_ (i := 45) (N := some 86) (v := undef) (a' := ?_) q46_ rfl rfl (any_of HT_.out (by kernel_rfl)) (fun _ _ _ h => h) (Or.inr ⟨by rfl, rfl⟩) ?_ ?_
        rotate_left
        ·simp only [Act.put, List.setIfInBounds_toArray, List.set_cons_zero, List.set_cons_succ, i64_w, i32_w]; rfl
        refine pure_ (i := 46) (N := some 87) (v := undef) (a' := ?_) q47_ rfl rfl (any_of HT_.out (by kernel_rfl)) (fun _ _ _ h => h) (Or.inr ⟨by rfl, rfl⟩) ?_ ?_
        rotate_left
        ·simp only [Act.put, List.setIfInBounds_toArray, List.set_cons_zero, List.set_cons_succ, i64_w, i32_w]; rfl
        refine pure_ (i := 47) (N := some 88) (v := undef) (a' := ?_) q48_ rfl rfl (any_of HT_.out (by kernel_rfl)) (fun _ _ _ h => h) (Or.inr ⟨by rfl, rfl⟩) ?_ ?_
        rotate_left
        ·simp only [Act.put, List.setIfInBounds_toArray, List.set_cons_zero, List.set_cons_succ, i64_w, i32_w]; rfl
        refine pure_ (i := 48) (N := some 89) (v := undef) (a' := ?_) q49_ rfl rfl (any_of HT_.out (by kernel_rfl)) (fun _ _ _ h => h) (Or.inr ⟨by rfl, rfl⟩) ?_ ?_
        rotate_left
        ·simp only [Act.put, List.setIfInBounds_toArray, List.set_cons_zero, List.set_cons_succ, i64_w, i32_w]; rfl
        refine pure_ (i := 49) (N := some 90) (v := undef) (a' := ?_) q50_ rfl rfl (any_of HT_.out (by kernel_rfl)) (fun _ _ _ h => h) (Or.inr ⟨by rfl, rfl⟩) ?_ ?_
        rotate_left
        ·simp only [Act.put, List.setIfInBounds_toArray, List.set_cons_zero, List.set_cons_succ, i64_w, i32_w]; rfl
        refine pure_ (i := 50) (N := some 91) (v := undef) (a' := ?_) q51_ rfl rfl (any_of HT_.out (by kernel_rfl)) (fun _ _ _ h => h) (Or.inr ⟨by rfl, rfl⟩) ?_ ?_
        rotate_left
        ·simp only [Act.put, List.setIfInBounds_toArray, List.set_cons_zero, List.set_cons_succ, i64_w, i32_w]; rfl
        refine pure_ (i := 51) (N := some 92) (v := undef) (a' := ?_) q52_ rfl rfl (any_of HT_.out (by kernel_rfl)) (fun _ _ _ h => h) (Or.inr ⟨by rfl, rfl⟩) ?_ ?_
        rotate_left
        ·simp only [Act.put, List.setIfInBounds_toArray, List.set_cons_zero, List.set_cons_succ, i64_w, i32_w]; rfl
        refine pure_ (i := 52) (N := some 93) (v := ?_) (a' := ?_) q53_ rfl rfl (any_of HT_.out (by kernel_rfl)) (fun _ _ _ h => h) (Or.inl ⟨by rfl, ?_⟩) ?_ ?_
        rotate_left
        ·intro w'; go_simp; with_reducible rfl
        rotate_left
        ·simp only [Act.put, List.setIfInBounds_toArray, List.set_cons_zero, List.set_cons_succ, i64_w, i32_w]; rfl
        refine done_ (done_of HT_.out (by kernel_rfl)) ?_
        try go_wp2
        go_meet
        case rel => exact ⟨_, (true), (by first | rfl | (simp; done) | (simp [*]; done) | (simp [bne_nil_hyb]; done) | (simp [bne_nil_hyb, *]; done)), (by first | exact H' | (rw [hji34]; exact H') | (rw [hji39]; exact H') | (rw [hji80]; exact H')), ⟨by have := HJ3.out; first | omega | exact Nat.le_refl _⟩, ⟨by repeat (first | (with_reducible first | exact HB.out | apply below_alloc | apply pw_below_drewN | apply below_drew1) | exact HB.out)⟩⟩
       ·rw [if_neg c32] at H
        have c32b0 : ((Int.tmod (wrap64 (a1)) (a0.size : Int)) == 0) = false := beq_eq_false_iff_ne.mpr c32
        have c32b1 : ((Int.tmod (wrap64 (a1)) (a0.size : Int)) != 0) = true := bne_iff_ne.mpr c32
        (first | rw [c32b0] | (simp only [i64_w, i32_w]; rw [c32b0]) | skip)
        obtain ⟨ji34, hji34⟩ : ∃ j_ : Int, (wrap64 ((Int.tmod (wrap64 (a1)) (a0.size : Int)) - 1)) = j_ := ⟨_, rfl⟩
        replace H : (if 0 ≤ (ji34) then (if (ji34) ≤ (Int.tmod (wrap64 (a1)) (a0.size : Int)) then (if (Int.tmod (wrap64 (a1)) (a0.size : Int)) ≤ (a0.size : Int) then ((laws_digits.f kj3 (a0.extract ((ji34) : Int).toNat ((Int.tmod (wrap64 (a1)) (a0.size : Int)) : Int).toNat)).bind fun t106 => (if 0 ≤ (Int.tmod (wrap64 (a1)) (a0.size : Int)) then (if (Int.tmod (wrap64 (a1)) (a0.size : Int)) ≤ (wrap64 ((Int.tmod (wrap64 (a1)) (a0.size : Int)) + 1)) then (if (wrap64 ((Int.tmod (wrap64 (a1)) (a0.size : Int)) + 1)) ≤ (a0.size : Int) then ((laws_digits.f kj3 (a0.extract ((Int.tmod (wrap64 (a1)) (a0.size : Int)) : Int).toNat ((wrap64 ((Int.tmod (wrap64 (a1)) (a0.size : Int)) + 1)) : Int).toNat)).bind fun t107 => (if (t106 == t107) = true then (laws_FnPackagistPoints.j1 kj3 a0 (Int.tmod (wrap64 (a1)) (a0.size : Int)) true) else ((laws_words.f kj3 (a0.extract ((Int.tmod (wrap64 (a1)) (a0.size : Int)) : Int).toNat ((wrap64 ((Int.tmod (wrap64 (a1)) (a0.size : Int)) + 1)) : Int).toNat)).bind fun t108 => (if t108 = true then ((laws_words.f kj3 (a0.extract ((ji34) : Int).toNat ((Int.tmod (wrap64 (a1)) (a0.size : Int)) : Int).toNat)).bind fun t109 => (if t109 = true then (laws_FnPackagistPoints.j1 kj3 a0 (Int.tmod (wrap64 (a1)) (a0.size : Int)) false) else ((laws_digits.f kj3 (a0.extract ((ji34) : Int).toNat ((Int.tmod (wrap64 (a1)) (a0.size : Int)) : Int).toNat)).bind fun t110 => (laws_FnPackagistPoints.j1 kj3 a0 (Int.tmod (wrap64 (a1)) (a0.size : Int)) (!t110))))) else ((laws_digits.f kj3 (a0.extract ((Int.tmod (wrap64 (a1)) (a0.size : Int)) : Int).toNat ((wrap64 ((Int.tmod (wrap64 (a1)) (a0.size : Int)) + 1)) : Int).toNat)).bind fun t111 => (if t111 = true then ((laws_words.f kj3 (a0.extract ((ji34) : Int).toNat ((Int.tmod (wrap64 (a1)) (a0.size : Int)) : Int).toNat)).bind fun t112 => (if t112 = true then (laws_FnPackagistPoints.j1 kj3 a0 (Int.tmod (wrap64 (a1)) (a0.size : Int)) false) else ((laws_digits.f kj3 (a0.extract ((ji34) : Int).toNat ((Int.tmod (wrap64 (a1)) (a0.size : Int)) : Int).toNat)).bind fun t113 => (laws_FnPackagistPoints.j1 kj3 a0 (Int.tmod (wrap64 (a1)) (a0.size : Int)) (!t113))))) else (laws_FnPackagistPoints.j1 kj3 a0 (Int.tmod (wrap64 (a1)) (a0.size : Int)) true))))))) else (none)) else (none)) else (none))) else (none)) else (none)) else (none)) = some r := by first | (rw [hji34] at H; exact H) | (simp only [hji34] at H ⊢; exact H)
        have hji34w : (IntKind.i64.wrap ((Int.tmod (wrap64 (a1)) (a0.size : Int)) - 1)) = ji34 := (i64_w _).trans hji34
        by_cases c35 : 0 ≤ (ji34)
        ·rw [if_pos c35] at H
         have c35b0 := eq_true c35
         have c35b1 : decide (0 ≤ (ji34)) = true := decide_eq_true c35
         clear c35
         by_cases c36 : (ji34) ≤ (Int.tmod (wrap64 (a1)) (a0.size : Int))
         ·rw [if_pos c36] at H
          have c36b0 := eq_true c36
          have c36b1 : decide ((ji34) ≤ (Int.tmod (wrap64 (a1)) (a0.size : Int))) = true := decide_eq_true c36
          clear c36
          by_cases c37 : (Int.tmod (wrap64 (a1)) (a0.size : Int)) ≤ (a0.size : Int)
          ·rw [if_pos c37] at H
           have c37b0 := eq_true c37
           have c37b1 : decide ((Int.tmod (wrap64 (a1)) (a0.size : Int)) ≤ (a0.size : Int)) = true := decide_eq_true c37
           clear c37
           replace H := Option.bind_eq_some_iff.mp H
           obtain ⟨t106, A380, H⟩ := H
           replace H : (if 0 ≤ (Int.tmod (wrap64 (a1)) (a0.size : Int)) then (if (Int.tmod (wrap64 (a1)) (a0.size : Int)) ≤ (wrap64 ((Int.tmod (wrap64 (a1)) (a0.size : Int)) + 1)) then (if (wrap64 ((Int.tmod (wrap64 (a1)) (a0.size : Int)) + 1)) ≤ (a0.size : Int) then ((laws_digits.f kj3 (a0.extract ((Int.tmod (wrap64 (a1)) (a0.size : Int)) : Int).toNat ((wrap64 ((Int.tmod (wrap64 (a1)) (a0.size : Int)) + 1)) : Int).toNat)).bind fun t107 => (if (t106 == t107) = true then (laws_FnPackagistPoints.j1 kj3 a0 (Int.tmod (wrap64 (a1)) (a0.size : Int)) true) else ((laws_words.f kj3 (a0.extract ((Int.tmod (wrap64 (a1)) (a0.size : Int)) : Int).toNat ((wrap64 ((Int.tmod (wrap64 (a1)) (a0.size : Int)) + 1)) : Int).toNat)).bind fun t108 => (if t108 = true then ((laws_words.f kj3 (a0.extract ((ji34) : Int).toNat ((Int.tmod (wrap64 (a1)) (a0.size : Int)) : Int).toNat)).bind fun t109 => (if t109 = true then (laws_FnPackagistPoints.j1 kj3 a0 (Int.tmod (wrap64 (a1)) (a0.size : Int)) false) else ((laws_digits.f kj3 (a0.extract ((ji34) : Int).toNat ((Int.tmod (wrap64 (a1)) (a0.size : Int)) : Int).toNat)).bind fun t110 => (laws_FnPackagistPoints.j1 kj3 a0 (Int.tmod (wrap64 (a1)) (a0.size : Int)) (!t110))))) else ((laws_digits.f kj3 (a0.extract ((Int.tmod (wrap64 (a1)) (a0.size : Int)) : Int).toNat ((wrap64 ((Int.tmod (wrap64 (a1)) (a0.size : Int)) + 1)) : Int).toNat)).bind fun t111 => (if t111 = true then ((laws_words.f kj3 (a0.extract ((ji34) : Int).toNat ((Int.tmod (wrap64 (a1)) (a0.size : Int)) : Int).toNat)).bind fun t112 => (if t112 = true then (laws_FnPackagistPoints.j1 kj3 a0 (Int.tmod (wrap64 (a1)) (a0.size : Int)) false) else ((laws_digits.f kj3 (a0.extract ((ji34) : Int).toNat ((Int.tmod (wrap64 (a1)) (a0.size : Int)) : Int).toNat)).bind fun t113 => (laws_FnPackagistPoints.j1 kj3 a0 (Int.tmod (wrap64 (a1)) (a0.size : Int)) (!t113))))) else (laws_FnPackagistPoints.j1 kj3 a0 (Int.tmod (wrap64 (a1)) (a0.size : Int)) true))))))) else (none)) else (none)) else (none)) = some r := H
           have A38 := Aside0.mk A380
           clear A380
           obtain ⟨ji39, hji39⟩ : ∃ j_ : Int, (Int.tmod (wrap64 (a1)) (a0.size : Int)) = j_ := ⟨_, rfl⟩
           (try rw [hji39] at hji34)
           (try rw [hji39] at hji34w)
           replace H : (if 0 ≤ (ji39) then (if (ji39) ≤ (wrap64 ((ji39) + 1)) then (if (wrap64 ((ji39) + 1)) ≤ (a0.size : Int) then ((laws_digits.f kj3 (a0.extract ((ji39) : Int).toNat ((wrap64 ((ji39) + 1)) : Int).toNat)).bind fun t107 => (if (t106 == t107) = true then (laws_FnPackagistPoints.j1 kj3 a0 ji39 true) else ((laws_words.f kj3 (a0.extract ((ji39) : Int).toNat ((wrap64 ((ji39) + 1)) : Int).toNat)).bind fun t108 => (if t108 = true then ((laws_words.f kj3 (a0.extract ((ji34) : Int).toNat ((ji39) : Int).toNat)).bind fun t109 => (if t109 = true then (laws_FnPackagistPoints.j1 kj3 a0 ji39 false) else ((laws_digits.f kj3 (a0.extract ((ji34) : Int).toNat ((ji39) : Int).toNat)).bind fun t110 => (laws_FnPackagistPoints.j1 kj3 a0 ji39 (!t110))))) else ((laws_digits.f kj3 (a0.extract ((ji39) : Int).toNat ((wrap64 ((ji39) + 1)) : Int).toNat)).bind fun t111 => (if t111 = true then ((laws_words.f kj3 (a0.extract ((ji34) : Int).toNat ((ji39) : Int).toNat)).bind fun t112 => (if t112 = true then (laws_FnPackagistPoints.j1 kj3 a0 ji39 false) else ((laws_digits.f kj3 (a0.extract ((ji34) : Int).toNat ((ji39) : Int).toNat)).bind fun t113 => (laws_FnPackagistPoints.j1 kj3 a0 ji39 (!t113))))) else (laws_FnPackagistPoints.j1 kj3 a0 ji39 true))))))) else (none)) else (none)) else (none)) = some r := by first | (rw [hji39] at H; exact H) | (simp only [hji39] at H ⊢; exact H)
           (try rw [hji39] at c32b0)
           (try rw [hji39] at c32b1)
           (try rw [hji39] at c36b0)
           (try rw [hji39] at c36b1)
           (try rw [hji39] at c37b0)
           (try rw [hji39] at c37b1)
           (try rw [hji39] at A38)
           by_cases c40 : 0 ≤ (ji39)
           ·rw [if_pos c40] at H
            have c40b0 := eq_true c40
            have c40b1 : decide (0 ≤ (ji39)) = true := decide_eq_true c40
            clear c40
            by_cases c41 : (ji39) ≤ (wrap64 ((ji39) + 1))
            ·rw [if_pos c41] at H
             have c41b0 := eq_true c41
             have c41b1 : decide ((ji39) ≤ (wrap64 ((ji39) + 1))) = true := decide_eq_true c41
             by_cases c42 : (wrap64 ((ji39) + 1)) ≤ (a0.size : Int)
             ·rw [if_pos c42] at H
              have c42b0 := eq_true c42
              have c42b1 : decide ((wrap64 ((ji39) + 1)) ≤ (a0.size : Int)) = true := decide_eq_true c42
              replace H := Option.bind_eq_some_iff.mp H
              obtain ⟨t107, A430, H⟩ := H
              replace H : (if (t106 == t107) = true then (laws_FnPackagistPoints.j1 kj3 a0 ji39 true) else ((laws_words.f kj3 (a0.extract ((ji39) : Int).toNat ((wrap64 ((ji39) + 1)) : Int).toNat)).bind fun t108 => (if t108 = true then ((laws_words.f kj3 (a0.extract ((ji34) : Int).toNat ((ji39) : Int).toNat)).bind fun t109 => (if t109 = true then (laws_FnPackagistPoints.j1 kj3 a0 ji39 false) else ((laws_digits.f kj3 (a0.extract ((ji34) : Int).toNat ((ji39) : Int).toNat)).bind fun t110 => (laws_FnPackagistPoints.j1 kj3 a0 ji39 (!t110))))) else ((laws_digits.f kj3 (a0.extract ((ji39) : Int).toNat ((wrap64 ((ji39) + 1)) : Int).toNat)).bind fun t111 => (if t111 = true then ((laws_words.f kj3 (a0.extract ((ji34) : Int).toNat ((ji39) : Int).toNat)).bind fun t112 => (if t112 = true then (laws_FnPackagistPoints.j1 kj3 a0 ji39 false) else ((laws_digits.f kj3 (a0.extract ((ji34) : Int).toNat ((ji39) : Int).toNat)).bind fun t113 => (laws_FnPackagistPoints.j1 kj3 a0 ji39 (!t113))))) else (laws_FnPackagistPoints.j1 kj3 a0 ji39 true)))))) = some r := H
              have A43 := Aside0.mk A430
              clear A430
              by_cases c44 : (t106 == t107) = true
              ·rw [if_pos c44] at H
               have c44b0 : (t106 == t107) = true := c44
               (try (have c44b1 : decide (t106 = t107) = true := by simpa using c44))
               (try (have c44b2 : (t106 == t107) = true := by simpa using c44))
               clear c44
               have H' := Aside0.mk H
               clear H
               try go_wp2
               have n0_ := Aside0.mk (below_drew1 HB.out)
               clear HB
               have HB := n0_
               clear n0_
               refine start_ (n := 53) (S := fun w' => True) (ds := []) q0_ (by kernel_rfl) rfl rfl trivial (fun hHeld => ?_); refine with_tabW laws_FnPackagistPoints.tab6 laws_FnPackagistPoints.bits6 (fun HT_ HW_ => ?_)
               generalize wc.drew = w45 at HB hHeld ⊢
               refine pure_ (i := 0) (N := some 41) (v := ?_) (a' := ?_) q1_ rfl rfl (any_of HT_.out (by kernel_rfl)) (fun _ _ _ h => h) (Or.inl ⟨by rfl, ?_⟩) ?_ ?_
               rotate_left
               ·intro w'; go_simp; with_reducible rfl
               rotate_left
               ·simp only [Act.put, List.setIfInBounds_toArray, List.set_cons_zero, List.set_cons_succ, i64_w, i32_w]; rfl
               refine pure_ (i := 1) (N := some 42) (v := ?_) (a' := ?_) q2_ rfl rfl (any_of HT_.out (by kernel_rfl)) (fun _ _ _ h => h) (Or.inl ⟨by rfl, ?_⟩) ?_ ?_
               rotate_left
               ·intro w'; go_simp; with_reducible rfl
               rotate_left
               ·simp only [Act.put, List.setIfInBounds_toArray, List.set_cons_zero, List.set_cons_succ, i64_w, i32_w]; rfl
               refine pure_ (i := 2) (N := some 43) (v := ?_) (a' := ?_) q3_ rfl rfl (any_of HT_.out (by kernel_rfl)) (fun _ _ _ h => h) (Or.inl ⟨by rfl, ?_⟩) ?_ ?_
               rotate_left
               ·intro w'; go_simp; with_reducible rfl
               rotate_left
               ·simp only [Act.put, List.setIfInBounds_toArray, List.set_cons_zero, List.set_cons_succ, i64_w, i32_w]; rfl
               refine pure_ (i := 3) (N := some 44) (v := ?_) (a' := ?_) q4_ rfl rfl (any_of HT_.out (by kernel_rfl)) (fun _ _ _ h => h) (Or.inl ⟨by rfl, ?_⟩) ?_ ?_
               rotate_left
               ·intro w'; go_simp; with_reducible rfl
               rotate_left
               ·simp only [Act.put, List.setIfInBounds_toArray, List.set_cons_zero, List.set_cons_succ, i64_w, i32_w]; rfl
               refine pure_ (i := 4) (N := some 45) (v := ?_) (a' := ?_) q5_ rfl rfl (any_of HT_.out (by kernel_rfl)) (fun _ _ _ h => h) (Or.inl ⟨by rfl, ?_⟩) ?_ ?_
               rotate_left
               ·intro w'; go_simp; with_reducible rfl
               rotate_left
               ·simp only [Act.put, List.setIfInBounds_toArray, List.set_cons_zero, List.set_cons_succ, i64_w, i32_w]; rfl
               refine pure_ (i := 5) (N := some 46) (v := ?_) (a' := ?_) q6_ rfl rfl (any_of HT_.out (by kernel_rfl)) (fun _ _ _ h => h) (Or.inl ⟨by rfl, ?_⟩) ?_ ?_
               rotate_left
               ·intro w'; go_simp; with_reducible rfl
               rotate_left
               ·simp only [Act.put, List.setIfInBounds_toArray, List.set_cons_zero, List.set_cons_succ, i64_w, i32_w]; rfl
               refine pure_ (i := 6) (N := some 47) (v := ?_) (a' := ?_) q7_ rfl rfl (any_of HT_.out (by kernel_rfl)) (fun _ _ _ h => h) (Or.inl ⟨by rfl, ?_⟩) ?_ ?_
               rotate_left
               ·intro w'; go_simp; with_reducible rfl
               rotate_left
               ·simp only [Act.put, List.setIfInBounds_toArray, List.set_cons_zero, List.set_cons_succ, i64_w, i32_w]; rfl
               refine pure_ (i := 7) (N := some 48) (v := ?_) (a' := ?_) q8_ rfl rfl (any_of HT_.out (by kernel_rfl)) (fun _ _ _ h => h) (Or.inl ⟨by rfl, ?_⟩) ?_ ?_
               rotate_left
               ·intro w'; go_simp; with_reducible rfl
               rotate_left
               ·simp only [Act.put, List.setIfInBounds_toArray, List.set_cons_zero, List.set_cons_succ, i64_w, i32_w]; rfl
               refine pure_ (i := 9) (N := some 50) (v := ?_) (a' := ?_) q54_ rfl rfl (any_of HT_.out (by kernel_rfl)) (fun _ _ _ h => h) (Or.inl ⟨by rfl, ?_⟩) ?_ ?_
               rotate_left
               ·intro w'; go_simp; with_reducible rfl
               rotate_left
               ·simp only [Act.put, List.setIfInBounds_toArray, List.set_cons_zero, List.set_cons_succ, i64_w, i32_w]; rfl
               refine pure_ (i := 10) (N := some 51) (v := ?_) (a' := ?_) q55_ rfl rfl (any_of HT_.out (by kernel_rfl)) (fun _ _ _ h => h) (Or.inl ⟨by rfl, ?_⟩) ?_ ?_
               rotate_left
               ·intro w'; go_simp; with_reducible rfl
               rotate_left
               ·simp only [Act.put, List.setIfInBounds_toArray, List.set_cons_zero, List.set_cons_succ, i64_w, i32_w]; rfl
               refine pure_ (i := 11) (N := some 52) (v := ?_) (a' := ?_) q56_ rfl rfl (any_of HT_.out (by kernel_rfl)) (fun _ _ _ h => h) (Or.inl ⟨by rfl, ?_⟩) ?_ ?_
               rotate_left
               ·intro w'; go_simp; with_reducible rfl
               rotate_left
               ·simp only [Act.put, List.setIfInBounds_toArray, List.set_cons_zero, List.set_cons_succ, i64_w, i32_w]; rfl
               refine pure_ (i := 12) (N := some 53) (v := ?_) (a' := ?_) q57_ rfl rfl (any_of HT_.out (by kernel_rfl)) (fun _ _ _ h => h) (Or.inl ⟨by rfl, ?_⟩) ?_ ?_
               rotate_left
               ·intro w'; go_simp; with_reducible rfl
               rotate_left
               ·simp only [Act.put, List.setIfInBounds_toArray, List.set_cons_zero, List.set_cons_succ, i64_w, i32_w]; rfl
               refine pure_ (i := 13) (N := some 54) (v := ?_) (a' := ?_) q58_ rfl rfl (any_of HT_.out (by kernel_rfl)) (fun _ _ _ h => h) (Or.inl ⟨by rfl, ?_⟩) ?_ ?_
               rotate_left
               ·intro w'; go_simp; with_reducible rfl
               rotate_left
               ·simp only [Act.put, List.setIfInBounds_toArray, List.set_cons_zero, List.set_cons_succ, i64_w, i32_w]; rfl
               refine one_ (i := 8) (N := some 49) q14_ rfl rfl (one_of HT_.out (by kernel_rfl)) (by decide) (fun K hK => ?_)
               refine goes_ Tryd.func14 (by kernel_rfl) rfl #[.string (a0.extract ((ji34) : Int).toNat ((ji39) : Int).toNat)] (by rfl) rfl rfl (by (try simp only [List.map_toArray, List.map_cons, List.map_nil]); first | done | (simp only [hji34, hji39]; rfl) | rfl | (simp only [List.length_drop, List.length_take]; rfl)) ?_
               with_reducible refine (laws_digits.calls kj3 (a0.extract ((ji34) : Int).toNat ((ji39) : Int).toNat) t106 _ A38.out).mono ?_
               rintro e w' ⟨rfl, ⟨nd, rfl⟩⟩
               refine ⟨_, rfl, ?_⟩
               refine hK.out _ _ trivial (fun hHeld => ?_)
               clear hK K
               refine norm_ (a' := ?_) ?_ ?_
               rotate_left
               ·show Act.put _ (some 49) _ = _
                simp only [Act.put, List.setIfInBounds_toArray, List.set_cons_zero, List.set_cons_succ, i64_w, i32_w]
                rfl
               refine one_ (i := 14) (N := some 55) q15_ rfl rfl (one_of HT_.out (by kernel_rfl)) (by decide) (fun K hK => ?_)
               refine goes_ Tryd.func14 (by kernel_rfl) rfl #[.string (a0.extract ((ji39) : Int).toNat ((wrap64 ((ji39) + 1)) : Int).toNat)] (by rfl) rfl rfl (by (try simp only [List.map_toArray, List.map_cons, List.map_nil]); first | done | (simp only [hji39]; rfl) | rfl | (simp only [List.length_drop, List.length_take]; rfl)) ?_
               with_reducible refine (laws_digits.calls kj3 (a0.extract ((ji39) : Int).toNat ((wrap64 ((ji39) + 1)) : Int).toNat) t107 _ A43.out).mono ?_
               rintro e w' ⟨rfl, ⟨nd, rfl⟩⟩
               refine ⟨_, rfl, ?_⟩
               refine hK.out _ _ trivial (fun hHeld => ?_)
               clear hK K
               refine norm_ (a' := ?_) ?_ ?_
               rotate_left
               ·show Act.put _ (some 55) _ = _
                simp only [Act.put, List.setIfInBounds_toArray, List.set_cons_zero, List.set_cons_succ, i64_w, i32_w]
                rfl
               refine pure_ (i := 15) (N := some 56) (v := ?_) (a' := ?_) q16_ rfl rfl (any_of HT_.out (by kernel_rfl)) (fun _ _ _ h => h) (Or.inl ⟨by rfl, ?_⟩) ?_ ?_
               rotate_left
               ·intro w'; go_simp; with_reducible rfl
               rotate_left
               ·simp only [Act.put, List.setIfInBounds_toArray, List.set_cons_zero, List.set_cons_succ, i64_w, i32_w]; rfl
               refine pure_ (i := 16) (N := some 57) (v := ?_) (a' := ?_) q17_ rfl rfl (any_of HT_.out (by kernel_rfl)) (fun _ _ _ h => h) (Or.inl ⟨by rfl, ?_⟩) ?_ ?_
               rotate_left
               ·intro w'; go_simp; with_reducible rfl
               rotate_left
               ·simp only [Act.put, List.setIfInBounds_toArray, List.set_cons_zero, List.set_cons_succ, i64_w, i32_w]; rfl
               refine pure_ (i := 17) (N := some 58) (v := ?_) (a' := ?_) q18_ rfl rfl (any_of HT_.out (by kernel_rfl)) (fun _ _ _ h => h) (Or.inl ⟨by rfl, ?_⟩) ?_ ?_
               rotate_left
               ·intro w'; go_simp; with_reducible rfl
               rotate_left
               ·simp only [Act.put, List.setIfInBounds_toArray, List.set_cons_zero, List.set_cons_succ, i64_w, i32_w]; rfl
               refine pure_ (i := 18) (N := some 59) (v := undef) (a' := ?_) q19_ rfl rfl (any_of HT_.out (by kernel_rfl)) (fun _ _ _ h => h) (Or.inr ⟨by rfl, rfl⟩) ?_ ?_
               rotate_left
               ·simp only [Act.put, List.setIfInBounds_toArray, List.set_cons_zero, List.set_cons_succ, i64_w, i32_w]; rfl
               refine pure_ (i := 19) (N := some 60) (v := undef) (a' := ?_) q20_ rfl rfl (any_of HT_.out (by kernel_rfl)) (fun _ _ _ h => h) (Or.inr ⟨by rfl, rfl⟩) ?_ ?_
               rotate_left
               ·simp only [Act.put, List.setIfInBounds_toArray, List.set_cons_zero, List.set_cons_succ, i64_w, i32_w]; rfl
               refine pure_ (i := 20) (N := some 61) (v := undef) (a' := ?_) q21_ rfl rfl (any_of HT_.out (by kernel_rfl)) (fun _ _ _ h => h) (Or.inr ⟨by rfl, rfl⟩) ?_ ?_
               rotate_left
               ·simp only [Act.put, List.setIfInBounds_toArray, List.set_cons_zero, List.set_cons_succ, i64_w, i32_w]; rfl
               refine pure_ (i := 21) (N := some 62) (v := undef) (a' := ?_) q22_ rfl rfl (any_of HT_.out (by kernel_rfl)) (fun _ _ _ h => h) (Or.inr ⟨by rfl, rfl⟩) ?_ ?_
               rotate_left
               ·simp only [Act.put, List.setIfInBounds_toArray, List.set_cons_zero, List.set_cons_succ, i64_w, i32_w]; rfl
               refine pure_ (i := 22) (N := some 63) (v := undef) (a' := ?_) q23_ rfl rfl (any_of HT_.out (by kernel_rfl)) (fun _ _ _ h => h) (Or.inr ⟨by rfl, rfl⟩) ?_ ?_
               rotate_left
               ·simp only [Act.put, List.setIfInBounds_toArray, List.set_cons_zero, List.set_cons_succ, i64_w, i32_w]; rfl
               refine pure_ (i := 23) (N := some 64) (v := undef) (a' := ?_) q24_ rfl rfl (any_of HT_.out (by kernel_rfl)) (fun _ _ _ h => h) (Or.inr ⟨by rfl, rfl⟩) ?_ ?_
               rotate_left
               ·simp only [Act.put, List.setIfInBounds_toArray, List.set_cons_zero, List.set_cons_succ, i64_w, i32_w]; rfl
               refine pure_ (i := 24) (N := some 65) (v := undef) (a' := ?_) q25_ rfl rfl (any_of HT_.out (by kernel_rfl)) (fun _ _ _ h => h) (Or.inr ⟨by rfl, rfl⟩) ?_ ?_
               rotate_left
               ·simp only [Act.put, List.setIfInBounds_toArray, List.set_cons_zero, List.set_cons_succ, i64_w, i32_w]; rfl
               refine pure_ (i := 25) (N := some 66) (v := undef) (a' := ?_) q26_ rfl rfl (any_of HT_.out (by kernel_rfl)) (fun _ _ _ h => h) (Or.inr ⟨by rfl, rfl⟩) ?_ ?_
               rotate_left
               ·simp only [Act.put, List.setIfInBounds_toArray, List.set_cons_zero, List.set_cons_succ, i64_w, i32_w]; rfl
               refine pure_ (i := 26) (N := some 67) (v := undef) (a' := ?_) q27_ rfl rfl (any_of HT_.out (by kernel_rfl)) (fun _ _ _ h => h) (Or.inr ⟨by rfl, rfl⟩) ?_ ?_
               rotate_left
               ·simp only [Act.put, List.setIfInBounds_toArray, List.set_cons_zero, List.set_cons_succ, i64_w, i32_w]; rfl
               refine pure_ (i := 27) (N := some 68) (v := undef) (a' := ?_) q28_ rfl rfl (any_of HT_.out (by kernel_rfl)) (fun _ _ _ h => h) (Or.inr ⟨by rfl, rfl⟩) ?_ ?_
               rotate_left
               ·simp only [Act.put, List.setIfInBounds_toArray, List.set_cons_zero, List.set_cons_succ, i64_w, i32_w]; rfl
               refine pure_ (i := 28) (N := some 69) (v := undef) (a' := ?_) q29_ rfl rfl (any_of HT_.out (by kernel_rfl)) (fun _ _ _ h => h) (Or.inr ⟨by rfl, rfl⟩) ?_ ?_
               rotate_left
               ·simp only [Act.put, List.setIfInBounds_toArray, List.set_cons_zero, List.set_cons_succ, i64_w, i32_w]; rfl
               refine pure_ (i := 29) (N := some 70) (v := undef) (a' := ?_) q30_ rfl rfl (any_of HT_.out (by kernel_rfl)) (fun _ _ _ h => h) (Or.inr ⟨by rfl, rfl⟩) ?_ ?_
               rotate_left
               ·simp only [Act.put, List.setIfInBounds_toArray, List.set_cons_zero, List.set_cons_succ, i64_w, i32_w]; rfl
               refine pure_ (i := 30) (N := some 71) (v := undef) (a' := ?_) q31_ rfl rfl (any_of HT_.out (by kernel_rfl)) (fun _ _ _ h => h) (Or.inr ⟨by rfl, rfl⟩) ?_ ?_
               rotate_left
               ·simp only [Act.put, List.setIfInBounds_toArray, List.set_cons_zero, List.set_cons_succ, i64_w, i32_w]; rfl
               refine pure_ (i := 31) (N := some 72) (v := undef) (a' := ?_) q32_ rfl rfl (any_of HT_.out (by kernel_rfl)) (fun _ _ _ h => h) (Or.inr ⟨by rfl, rfl⟩) ?_ ?_
               rotate_left
               ·simp only [Act.put, List.setIfInBounds_toArray, List.set_cons_zero, List.set_cons_succ, i64_w, i32_w]; rfl
               refine pure_ (i := 32) (N := some 73) (v := undef) (a' := ?_) q33_ rfl rfl (any_of HT_.out (by kernel_rfl)) (fun _ _ _ h => h) (Or.inr ⟨by rfl, rfl⟩) ?_ ?_
               rotate_left
               ·simp only [Act.put, List.setIfInBounds_toArray, List.set_cons_zero, List.set_cons_succ, i64_w, i32_w]; rfl
               refine pure_ (i := 33) (N := some 74) (v := undef) (a' := ?_) q34_ rfl rfl (any_of HT_.out (by kernel_rfl)) (fun _ _ _ h => h) (Or.inr ⟨by rfl, rfl⟩) ?_ ?_
               rotate_left
               ·simp only [Act.put, List.setIfInBounds_toArray, List.set_cons_zero, List.set_cons_succ, i64_w, i32_w]; rfl
               refine pure_ (i := 34) (N := some 75) (v := ?_) (a' := ?_) q35_ rfl rfl (any_of HT_.out (by kernel_rfl)) (fun _ _ _ h => h) (Or.inl ⟨by rfl, ?_⟩) ?_ ?_
               rotate_left
               ·intro w'; go_simp; with_reducible rfl
               rotate_left
               ·simp only [Act.put, List.setIfInBounds_toArray, List.set_cons_zero, List.set_cons_succ, i64_w, i32_w]; rfl
               refine pure_ (i := 35) (N := some 76) (v := ?_) (a' := ?_) q36_ rfl rfl (any_of HT_.out (by kernel_rfl)) (fun _ _ _ h => h) (Or.inl ⟨by rfl, ?_⟩) ?_ ?_
               rotate_left
               ·intro w'; go_simp; with_reducible rfl
               rotate_left
               ·simp only [Act.put, List.setIfInBounds_toArray, List.set_cons_zero, List.set_cons_succ, i64_w, i32_w]; rfl
               refine pure_ (i := 36) (N := some 77) (v := undef) (a' := ?_) q37_ rfl rfl (any_of HT_.out (by kernel_rfl)) (fun _ _ _ h => h) (Or.inr ⟨by rfl, rfl⟩) ?_ ?_
               rotate_left
               ·simp only [Act.put, List.setIfInBounds_toArray, List.set_cons_zero, List.set_cons_succ, i64_w, i32_w]; rfl
               refine pure_ (i := 37) (N := some 78) (v := undef) (a' := ?_) q38_ rfl rfl (any_of HT_.out (by kernel_rfl)) (fun _ _ _ h => h) (Or.inr ⟨by rfl, rfl⟩) ?_ ?_
               rotate_left
               ·simp only [Act.put, List.setIfInBounds_toArray, List.set_cons_zero, List.set_cons_succ, i64_w, i32_w]; rfl
               refine pure_ (i := 38) (N := some 79) (v := undef) (a' := ?_) q39_ rfl rfl (any_of HT_.out (by kernel_rfl)) (fun _ _ _ h => h) (Or.inr ⟨by rfl, rfl⟩) ?_ ?_
               rotate_left
               ·simp only [Act.put, List.setIfInBounds_toArray, List.set_cons_zero, List.set_cons_succ, i64_w, i32_w]; rfl
               refine pure_ (i := 39) (N := some 80) (v := undef) (a' := ?_) q40_ rfl rfl (any_of HT_.out (by kernel_rfl)) (fun _ _ _ h => h) (Or.inr ⟨by rfl, rfl⟩) ?_ ?_
               rotate_left
               ·simp only [Act.put, List.setIfInBounds_toArray, List.set_cons_zero, List.set_cons_succ, i64_w, i32_w]; rfl
               refine pure_ (i := 40) (N := some 81) (v := undef) (a' := ?_) q41_ rfl rfl (any_of HT_.out (by kernel_rfl)) (fun _ _ _ h => h) (Or.inr ⟨by rfl, rfl⟩) ?_ ?_
               rotate_left
               ·simp only [Act.put, List.setIfInBounds_toArray, List.set_cons_zero, List.set_cons_succ, i64_w, i32_w]; rfl
               refine pure_ (i := 41) (N := some 82) (v := undef) (a' := ?_) q42_ rfl rfl (any_of HT_.out (by kernel_rfl)) (fun _ _ _ h => h) (Or.inr ⟨by rfl, rfl⟩) ?_ ?_
               rotate_left
               ·simp only [Act.put, List.setIfInBounds_toArray, List.set_cons_zero, List.set_cons_succ, i64_w, i32_w]; rfl
               refine pure_ (i := 42) (N := some 83) (v := undef) (a' := ?_) q43_ rfl rfl (any_of HT_.out (by kernel_rfl)) (fun _ _ _ h => h) (Or.inr ⟨by rfl, rfl⟩) ?_ ?_
               rotate_left
               ·simp only [Act.put, List.setIfInBounds_toArray, List.set_cons_zero, List.set_cons_succ, i64_w, i32_w]; rfl
               refine pure_ (i := 43) (N := some 84) (v := undef) (a' := ?_) q44_ rfl rfl (any_of HT_.out (by kernel_rfl)) (fun _ _ _ h => h) (Or.inr ⟨by rfl, rfl⟩) ?_ ?_
               rotate_left
               ·simp only [Act.put, List.setIfInBounds_toArray, List.set_cons_zero, List.set_cons_succ, i64_w, i32_w]; rfl
               refine pure_ (i := 44) (N := some 85) (v := undef) (a' := ?_) q45_ rfl rfl (any_of HT_.out (by kernel_rfl)) (fun _ _ _ h => h) (Or.inr ⟨by rfl, rfl⟩) ?_ ?_
               rotate_left
               ·simp only [Act.put, List.setIfInBounds_toArray, List.set_cons_zero, List.set_cons_succ, i64_w, i32_w]; rfl
               refine pure_ (i := 45) (N := some 86) (v := undef) (a' := ?_) q46_ rfl rfl (any_of HT_.out (by kernel_rfl)) (fun _ _ _ h => h) (Or.inr ⟨by rfl, rfl⟩) ?_ ?_
               rotate_left
               ·simp only [Act.put, List.setIfInBounds_toArray, List.set_cons_zero, List.set_cons_succ, i64_w, i32_w]; rfl
               refine pure_ (i := 46) (N := some 87) (v := undef) (a' := ?_) q47_ rfl rfl (any_of HT_.out (by kernel_rfl)) (fun _ _ _ h => h) (Or.inr ⟨by rfl, rfl⟩) ?_ ?_
               rotate_left
               ·simp only [Act.put, List.setIfInBounds_toArray, List.set_cons_zero, List.set_cons_succ, i64_w, i32_w]; rfl
               refine pure_ (i := 47) (N := some 88) (v := undef) (a' := ?_) q48_ rfl rfl (any_of HT_.out (by kernel_rfl)) (fun _ _ _ h => h) (Or.inr ⟨by rfl, rfl⟩) ?_ ?_
               rotate_left
               ·simp only [Act.put, List.setIfInBounds_toArray, List.set_cons_zero, List.set_cons_succ, i64_w, i32_w]; rfl
               refine pure_ (i := 48) (N := some 89) (v := undef) (a' := ?_) q49_ rfl rfl (any_of HT_.out (by kernel_rfl)) (fun _ _ _ h => h) (Or.inr ⟨by rfl, rfl⟩) ?_ ?_
               rotate_left
               ·simp only [Act.put, List.setIfInBounds_toArray, List.set_cons_zero, List.set_cons_succ, i64_w, i32_w]; rfl
               refine pure_ (i := 49) (N := some 90) (v := undef) (a' := ?_) q50_ rfl rfl (any_of HT_.out (by kernel_rfl)) (fun _ _ _ h => h) (Or.inr ⟨by rfl, rfl⟩) ?_ ?_
               rotate_left
               ·simp only [Act.put, List.setIfInBounds_toArray, List.set_cons_zero, List.set_cons_succ, i64_w, i32_w]; rfl
               refine pure_ (i := 50) (N := some 91) (v := undef) (a' := ?_) q51_ rfl rfl (any_of HT_.out (by kernel_rfl)) (fun _ _ _ h => h) (Or.inr ⟨by rfl, rfl⟩) ?_ ?_
               rotate_left
               ·simp only [Act.put, List.setIfInBounds_toArray, List.set_cons_zero, List.set_cons_succ, i64_w, i32_w]; rfl
               refine pure_ (i := 51) (N := some 92) (v := undef) (a' := ?_) q52_ rfl rfl (any_of HT_.out (by kernel_rfl)) (fun _ _ _ h => h) (Or.inr ⟨by rfl, rfl⟩) ?_ ?_
               rotate_left
               ·simp only [Act.put, List.setIfInBounds_toArray, List.set_cons_zero, List.set_cons_succ, i64_w, i32_w]; rfl
               refine pure_ (i := 52) (N := some 93) (v := ?_) (a' := ?_) q53_ rfl rfl (any_of HT_.out (by kernel_rfl)) (fun _ _ _ h => h) (Or.inl ⟨by rfl, ?_⟩) ?_ ?_
               rotate_left
               ·intro w'; go_simp; with_reducible rfl
               rotate_left
               ·simp only [Act.put, List.setIfInBounds_toArray, List.set_cons_zero, List.set_cons_succ, i64_w, i32_w]; rfl
               refine done_ (done_of HT_.out (by kernel_rfl)) ?_
               try go_wp2
               go_meet
               case rel => exact ⟨_, (true), (by first | rfl | (simp; done) | (simp [*]; done) | (simp [bne_nil_hyb]; done) | (simp [bne_nil_hyb, *]; done)), (by first | exact H' | (rw [hji34]; exact H') | (rw [hji39]; exact H') | (rw [hji80]; exact H')), ⟨by have := HJ3.out; first | omega | exact Nat.le_refl _⟩, ⟨by repeat (first | (with_reducible first | exact HB.out | apply below_alloc | apply pw_below_drewN | apply below_drew1) | exact HB.out)⟩⟩
              ·rw [if_neg c44] at H
               have c44b0 : (t106 == t107) = false := by simpa using c44
               (try (have c44b1 : decide (t106 = t107) = false := by simpa using c44))
               (try (have c44b2 : (t106 == t107) = false := by simpa using c44))
               (try (have c44b3 : ¬ (t106 = t107) := by simpa using c44))
               clear c44
               have c46b0 := eq_true (of_decide_eq_true (by first | (with_reducible assumption) | assumption) : 0 ≤ (ji39))
               have c47b0 := eq_true (of_decide_eq_true (by first | (with_reducible assumption) | assumption) : (ji39) ≤ (wrap64 ((ji39) + 1)))
               have c48b0 := eq_true (of_decide_eq_true (by first | (with_reducible assumption) | assumption) : (wrap64 ((ji39) + 1)) ≤ (a0.size : Int))
               replace H := Option.bind_eq_some_iff.mp H
               obtain ⟨t108, A490, H⟩ := H
               replace H : (if t108 = true then ((laws_words.f kj3 (a0.extract ((ji34) : Int).toNat ((ji39) : Int).toNat)).bind fun t109 => (if t109 = true then (laws_FnPackagistPoints.j1 kj3 a0 ji39 false) else ((laws_digits.f kj3 (a0.extract ((ji34) : Int).toNat ((ji39) : Int).toNat)).bind fun t110 => (laws_FnPackagistPoints.j1 kj3 a0 ji39 (!t110))))) else ((laws_digits.f kj3 (a0.extract ((ji39) : Int).toNat ((wrap64 ((ji39) + 1)) : Int).toNat)).bind fun t111 => (if t111 = true then ((laws_words.f kj3 (a0.extract ((ji34) : Int).toNat ((ji39) : Int).toNat)).bind fun t112 => (if t112 = true then (laws_FnPackagistPoints.j1 kj3 a0 ji39 false) else ((laws_digits.f kj3 (a0.extract ((ji34) : Int).toNat ((ji39) : Int).toNat)).bind fun t113 => (laws_FnPackagistPoints.j1 kj3 a0 ji39 (!t113))))) else (laws_FnPackagistPoints.j1 kj3 a0 ji39 true)))) = some r := H
               have A49 := Aside0.mk A490
               clear A490
               by_cases c50 : t108 = true
               ·subst c50
                have H1 : ((laws_words.f kj3 (a0.extract ((ji34) : Int).toNat ((ji39) : Int).toNat)).bind fun t109 => (if t109 = true then (laws_FnPackagistPoints.j1 kj3 a0 ji39 false) else ((laws_digits.f kj3 (a0.extract ((ji34) : Int).toNat ((ji39) : Int).toNat)).bind fun t110 => (laws_FnPackagistPoints.j1 kj3 a0 ji39 (!t110))))) = some r := by rw [if_pos rfl] at H; exact H
                clear H
                have H := H1
                clear H1
                have c51b0 := eq_true (of_decide_eq_true (by first | (with_reducible assumption) | assumption) : 0 ≤ (ji34))
                have c52b0 := eq_true (of_decide_eq_true (by first | (with_reducible assumption) | assumption) : (ji34) ≤ (ji39))
                have c53b0 := eq_true (of_decide_eq_true (by first | (with_reducible assumption) | assumption) : (ji39) ≤ (a0.size : Int))
                replace H := Option.bind_eq_some_iff.mp H
                obtain ⟨t109, A540, H⟩ := H
                replace H : (if t109 = true then (laws_FnPackagistPoints.j1 kj3 a0 ji39 false) else ((laws_digits.f kj3 (a0.extract ((ji34) : Int).toNat ((ji39) : Int).toNat)).bind fun t110 => (laws_FnPackagistPoints.j1 kj3 a0 ji39 (!t110)))) = some r := H
                have A54 := Aside0.mk A540
                clear A540
                by_cases c55 : t109 = true
                ·subst c55
                 have H1 : (laws_FnPackagistPoints.j1 kj3 a0 ji39 false) = some r := by rw [if_pos rfl] at H; exact H
                 clear H
                 have H := H1
                 clear H1
                 have H' := Aside0.mk H
                 clear H
                 try go_wp2
                 have n0_ := Aside0.mk (below_drew1 HB.out)
                 clear HB
                 have HB := n0_
                 clear n0_
                 refine start_ (n := 53) (S := fun w' => True) (ds := []) q0_ (by kernel_rfl) rfl rfl trivial (fun hHeld => ?_); refine with_tabW laws_FnPackagistPoints.tab6 laws_FnPackagistPoints.bits6 (fun HT_ HW_ => ?_)
                 generalize wc.drew = w56 at HB hHeld ⊢
                 refine pure_ (i := 0) (N := some 41) (v := ?_) (a' := ?_) q1_ rfl rfl (any_of HT_.out (by kernel_rfl)) (fun _ _ _ h => h) (Or.inl ⟨by rfl, ?_⟩) ?_ ?_
                 rotate_left
                 ·intro w'; go_simp; with_reducible rfl
                 rotate_left
                 ·simp only [Act.put, List.setIfInBounds_toArray, List.set_cons_zero, List.set_cons_succ, i64_w, i32_w]; rfl
                 refine pure_ (i := 1) (N := some 42) (v := ?_) (a' := ?_) q2_ rfl rfl (any_of HT_.out (by kernel_rfl)) (fun _ _ _ h => h) (Or.inl ⟨by rfl, ?_⟩) ?_ ?_
                 rotate_left
                 ·intro w'; go_simp; with_reducible rfl
                 rotate_left
                 ·simp only [Act.put, List.setIfInBounds_toArray, List.set_cons_zero, List.set_cons_succ, i64_w, i32_w]; rfl
                 refine pure_ (i := 2) (N := some 43) (v := ?_) (a' := ?_) q3_ rfl rfl (any_of HT_.out (by kernel_rfl)) (fun _ _ _ h => h) (Or.inl ⟨by rfl, ?_⟩) ?_ ?_
                 rotate_left
                 ·intro w'; go_simp; with_reducible rfl
                 rotate_left
                 ·simp only [Act.put, List.setIfInBounds_toArray, List.set_cons_zero, List.set_cons_succ, i64_w, i32_w]; rfl
                 refine pure_ (i := 3) (N := some 44) (v := ?_) (a' := ?_) q4_ rfl rfl (any_of HT_.out (by kernel_rfl)) (fun _ _ _ h => h) (Or.inl ⟨by rfl, ?_⟩) ?_ ?_
                 rotate_left
                 ·intro w'; go_simp; with_reducible rfl
                 rotate_left
                 ·simp only [Act.put, List.setIfInBounds_toArray, List.set_cons_zero, List.set_cons_succ, i64_w, i32_w]; rfl
                 refine pure_ (i := 4) (N := some 45) (v := ?_) (a' := ?_) q5_ rfl rfl (any_of HT_.out (by kernel_rfl)) (fun _ _ _ h => h) (Or.inl ⟨by rfl, ?_⟩) ?_ ?_
                 rotate_left
                 ·intro w'; go_simp; with_reducible rfl
                 rotate_left
                 ·simp only [Act.put, List.setIfInBounds_toArray, List.set_cons_zero, List.set_cons_succ, i64_w, i32_w]; rfl
                 refine pure_ (i := 5) (N := some 46) (v := ?_) (a' := ?_) q6_ rfl rfl (any_of HT_.out (by kernel_rfl)) (fun _ _ _ h => h) (Or.inl ⟨by rfl, ?_⟩) ?_ ?_
                 rotate_left
                 ·intro w'; go_simp; with_reducible rfl
                 rotate_left
                 ·simp only [Act.put, List.setIfInBounds_toArray, List.set_cons_zero, List.set_cons_succ, i64_w, i32_w]; rfl
                 refine pure_ (i := 6) (N := some 47) (v := ?_) (a' := ?_) q7_ rfl rfl (any_of HT_.out (by kernel_rfl)) (fun _ _ _ h => h) (Or.inl ⟨by rfl, ?_⟩) ?_ ?_
                 rotate_left
                 ·intro w'; go_simp; with_reducible rfl
                 rotate_left
                 ·simp only [Act.put, List.setIfInBounds_toArray, List.set_cons_zero, List.set_cons_succ, i64_w, i32_w]; rfl
                 refine pure_ (i := 7) (N := some 48) (v := ?_) (a' := ?_) q8_ rfl rfl (any_of HT_.out (by kernel_rfl)) (fun _ _ _ h => h) (Or.inl ⟨by rfl, ?_⟩) ?_ ?_
                 rotate_left
                 ·intro w'; go_simp; with_reducible rfl
                 rotate_left
                 ·simp only [Act.put, List.setIfInBounds_toArray, List.set_cons_zero, List.set_cons_succ, i64_w, i32_w]; rfl
                 refine pure_ (i := 9) (N := some 50) (v := ?_) (a' := ?_) q54_ rfl rfl (any_of HT_.out (by kernel_rfl)) (fun _ _ _ h => h) (Or.inl ⟨by rfl, ?_⟩) ?_ ?_
                 rotate_left
                 ·intro w'; go_simp; with_reducible rfl
                 rotate_left
                 ·simp only [Act.put, List.setIfInBounds_toArray, List.set_cons_zero, List.set_cons_succ, i64_w, i32_w]; rfl
                 refine pure_ (i := 10) (N := some 51) (v := ?_) (a' := ?_) q55_ rfl rfl (any_of HT_.out (by kernel_rfl)) (fun _ _ _ h => h) (Or.inl ⟨by rfl, ?_⟩) ?_ ?_
                 rotate_left
                 ·intro w'; go_simp; with_reducible rfl
                 rotate_left
                 ·simp only [Act.put, List.setIfInBounds_toArray, List.set_cons_zero, List.set_cons_succ, i64_w, i32_w]; rfl
                 refine pure_ (i := 11) (N := some 52) (v := ?_) (a' := ?_) q56_ rfl rfl (any_of HT_.out (by kernel_rfl)) (fun _ _ _ h => h) (Or.inl ⟨by rfl, ?_⟩) ?_ ?_
                 rotate_left
                 ·intro w'; go_simp; with_reducible rfl
                 rotate_left
                 ·simp only [Act.put, List.setIfInBounds_toArray, List.set_cons_zero, List.set_cons_succ, i64_w, i32_w]; rfl
                 refine pure_ (i := 12) (N := some 53) (v := ?_) (a' := ?_) q57_ rfl rfl (any_of HT_.out (by kernel_rfl)) (fun _ _ _ h => h) (Or.inl ⟨by rfl, ?_⟩) ?_ ?_
                 rotate_left
                 ·intro w'; go_simp; with_reducible rfl
                 rotate_left
                 ·simp only [Act.put, List.setIfInBounds_toArray, List.set_cons_zero, List.set_cons_succ, i64_w, i32_w]; rfl
                 refine pure_ (i := 13) (N := some 54) (v := ?_) (a' := ?_) q58_ rfl rfl (any_of HT_.out (by kernel_rfl)) (fun _ _ _ h => h) (Or.inl ⟨by rfl, ?_⟩) ?_ ?_
                 rotate_left
                 ·intro w'; go_simp; with_reducible rfl
                 rotate_left
                 ·simp only [Act.put, List.setIfInBounds_toArray, List.set_cons_zero, List.set_cons_succ, i64_w, i32_w]; rfl
                 refine one_ (i := 8) (N := some 49) q14_ rfl rfl (one_of HT_.out (by kernel_rfl)) (by decide) (fun K hK => ?_)
                 refine goes_ Tryd.func14 (by kernel_rfl) rfl #[.string (a0.extract ((ji34) : Int).toNat ((ji39) : Int).toNat)] (by rfl) rfl rfl (by (try simp only [List.map_toArray, List.map_cons, List.map_nil]); first | done | (simp only [hji34, hji39]; rfl) | rfl | (simp only [List.length_drop, List.length_take]; rfl)) ?_
                 with_reducible refine (laws_digits.calls kj3 (a0.extract ((ji34) : Int).toNat ((ji39) : Int).toNat) t106 _ A38.out).mono ?_
                 rintro e w' ⟨rfl, ⟨nd, rfl⟩⟩
                 refine ⟨_, rfl, ?_⟩
                 refine hK.out _ _ trivial (fun hHeld => ?_)
                 clear hK K
                 refine norm_ (a' := ?_) ?_ ?_
                 rotate_left
                 ·show Act.put _ (some 49) _ = _
                  simp only [Act.put, List.setIfInBounds_toArray, List.set_cons_zero, List.set_cons_succ, i64_w, i32_w]
                  rfl
                 refine one_ (i := 14) (N := some 55) q15_ rfl rfl (one_of HT_.out (by kernel_rfl)) (by decide) (fun K hK => ?_)
                 refine goes_ Tryd.func14 (by kernel_rfl) rfl #[.string (a0.extract ((ji39) : Int).toNat ((wrap64 ((ji39) + 1)) : Int).toNat)] (by rfl) rfl rfl (by (try simp only [List.map_toArray, List.map_cons, List.map_nil]); first | done | (simp only [hji39]; rfl) | rfl | (simp only [List.length_drop, List.length_take]; rfl)) ?_
                 with_reducible refine (laws_digits.calls kj3 (a0.extract ((ji39) : Int).toNat ((wrap64 ((ji39) + 1)) : Int).toNat) t107 _ A43.out).mono ?_
                 rintro e w' ⟨rfl, ⟨nd, rfl⟩⟩
                 refine ⟨_, rfl, ?_⟩
                 refine hK.out _ _ trivial (fun hHeld => ?_)
                 clear hK K
                 refine norm_ (a' := ?_) ?_ ?_
                 rotate_left
                 ·show Act.put _ (some 55) _ = _
                  simp only [Act.put, List.setIfInBounds_toArray, List.set_cons_zero, List.set_cons_succ, i64_w, i32_w]
                  rfl
                 refine pure_ (i := 15) (N := some 56) (v := ?_) (a' := ?_) q16_ rfl rfl (any_of HT_.out (by kernel_rfl)) (fun _ _ _ h => h) (Or.inl ⟨by rfl, ?_⟩) ?_ ?_
                 rotate_left
                 ·intro w'; go_simp; with_reducible rfl
                 rotate_left
                 ·simp only [Act.put, List.setIfInBounds_toArray, List.set_cons_zero, List.set_cons_succ, i64_w, i32_w]; rfl
                 refine pure_ (i := 16) (N := some 57) (v := ?_) (a' := ?_) q17_ rfl rfl (any_of HT_.out (by kernel_rfl)) (fun _ _ _ h => h) (Or.inl ⟨by rfl, ?_⟩) ?_ ?_
                 rotate_left
                 ·intro w'; go_simp; with_reducible rfl
                 rotate_left
                 ·simp only [Act.put, List.setIfInBounds_toArray, List.set_cons_zero, List.set_cons_succ, i64_w, i32_w]; rfl
                 refine pure_ (i := 17) (N := some 58) (v := ?_) (a' := ?_) q18_ rfl rfl (any_of HT_.out (by kernel_rfl)) (fun _ _ _ h => h) (Or.inl ⟨by rfl, ?_⟩) ?_ ?_
                 rotate_left
                 ·intro w'; go_simp; with_reducible rfl
                 rotate_left
                 ·simp only [Act.put, List.setIfInBounds_toArray, List.set_cons_zero, List.set_cons_succ, i64_w, i32_w]; rfl
                 refine pure_ (i := 18) (N := some 59) (v := ?_) (a' := ?_) q19_ rfl rfl (any_of HT_.out (by kernel_rfl)) (fun _ _ _ h => h) (Or.inl ⟨by rfl, ?_⟩) ?_ ?_
                 rotate_left
                 ·intro w'; go_simp; with_reducible rfl
                 rotate_left
                 ·simp only [Act.put, List.setIfInBounds_toArray, List.set_cons_zero, List.set_cons_succ, i64_w, i32_w]; rfl
                 refine pure_ (i := 19) (N := some 60) (v := ?_) (a' := ?_) q20_ rfl rfl (any_of HT_.out (by kernel_rfl)) (fun _ _ _ h => h) (Or.inl ⟨by rfl, ?_⟩) ?_ ?_
                 rotate_left
                 ·intro w'; go_simp; with_reducible rfl
                 rotate_left
                 ·simp only [Act.put, List.setIfInBounds_toArray, List.set_cons_zero, List.set_cons_succ, i64_w, i32_w]; rfl
                 refine pure_ (i := 20) (N := some 61) (v := ?_) (a' := ?_) q21_ rfl rfl (any_of HT_.out (by kernel_rfl)) (fun _ _ _ h => h) (Or.inl ⟨by rfl, ?_⟩) ?_ ?_
                 rotate_left
                 ·intro w'; go_simp; with_reducible rfl
                 rotate_left
                 ·simp only [Act.put, List.setIfInBounds_toArray, List.set_cons_zero, List.set_cons_succ, i64_w, i32_w]; rfl
                 refine pure_ (i := 21) (N := some 62) (v := ?_) (a' := ?_) q22_ rfl rfl (any_of HT_.out (by kernel_rfl)) (fun _ _ _ h => h) (Or.inl ⟨by rfl, ?_⟩) ?_ ?_
                 rotate_left
                 ·intro w'; go_simp; with_reducible rfl
                 rotate_left
                 ·simp only [Act.put, List.setIfInBounds_toArray, List.set_cons_zero, List.set_cons_succ, i64_w, i32_w]; rfl
                 refine pure_ (i := 22) (N := some 63) (v := ?_) (a' := ?_) q23_ rfl rfl (any_of HT_.out (by kernel_rfl)) (fun _ _ _ h => h) (Or.inl ⟨by rfl, ?_⟩) ?_ ?_
                 rotate_left
                 ·intro w'; go_simp; with_reducible rfl
                 rotate_left
                 ·simp only [Act.put, List.setIfInBounds_toArray, List.set_cons_zero, List.set_cons_succ, i64_w, i32_w]; rfl
                 refine one_ (i := 23) (N := some 64) q24_ rfl rfl (one_of HT_.out (by kernel_rfl)) (by decide) (fun K hK => ?_)
                 refine goes_ Tryd.func13 (by kernel_rfl) rfl #[.string (a0.extract ((ji39) : Int).toNat ((wrap64 ((ji39) + 1)) : Int).toNat)] (by rfl) rfl rfl (by (try simp only [List.map_toArray, List.map_cons, List.map_nil]); first | done | (simp only [hji39]; rfl) | rfl | (simp only [List.length_drop, List.length_take]; rfl)) ?_
                 with_reducible refine (laws_words.calls kj3 (a0.extract ((ji39) : Int).toNat ((wrap64 ((ji39) + 1)) : Int).toNat) true _ A49.out).mono ?_
                 rintro e w' ⟨rfl, ⟨nd, rfl⟩⟩
                 refine ⟨_, rfl, ?_⟩
                 refine hK.out _ _ trivial (fun hHeld => ?_)
                 clear hK K
                 refine norm_ (a' := ?_) ?_ ?_
                 rotate_left
                 ·show Act.put _ (some 64) _ = _
                  simp only [Act.put, List.setIfInBounds_toArray, List.set_cons_zero, List.set_cons_succ, i64_w, i32_w]
                  rfl
                 refine pure_ (i := 24) (N := some 65) (v := ?_) (a' := ?_) q25_ rfl rfl (any_of HT_.out (by kernel_rfl)) (fun _ _ _ h => h) (Or.inl ⟨by rfl, ?_⟩) ?_ ?_
                 rotate_left
                 ·intro w'; go_simp; with_reducible rfl
                 rotate_left
                 ·simp only [Act.put, List.setIfInBounds_toArray, List.set_cons_zero, List.set_cons_succ, i64_w, i32_w]; rfl
                 refine pure_ (i := 25) (N := some 66) (v := ?_) (a' := ?_) q26_ rfl rfl (any_of HT_.out (by kernel_rfl)) (fun _ _ _ h => h) (Or.inl ⟨by rfl, ?_⟩) ?_ ?_
                 rotate_left
                 ·intro w'; go_simp; with_reducible rfl
                 rotate_left
                 ·simp only [Act.put, List.setIfInBounds_toArray, List.set_cons_zero, List.set_cons_succ, i64_w, i32_w]; rfl
                 refine pure_ (i := 26) (N := some 67) (v := undef) (a' := ?_) q27_ rfl rfl (any_of HT_.out (by kernel_rfl)) (fun _ _ _ h => h) (Or.inr ⟨by rfl, rfl⟩) ?_ ?_
                 rotate_left
                 ·simp only [Act.put, List.setIfInBounds_toArray, List.set_cons_zero, List.set_cons_succ, i64_w, i32_w]; rfl
                 refine pure_ (i := 27) (N := some 68) (v := undef) (a' := ?_) q28_ rfl rfl (any_of HT_.out (by kernel_rfl)) (fun _ _ _ h => h) (Or.inr ⟨by rfl, rfl⟩) ?_ ?_
                 rotate_left
                 ·simp only [Act.put, List.setIfInBounds_toArray, List.set_cons_zero, List.set_cons_succ, i64_w, i32_w]; rfl
                 refine pure_ (i := 28) (N := some 69) (v := undef) (a' := ?_) q29_ rfl rfl (any_of HT_.out (by kernel_rfl)) (fun _ _ _ h => h) (Or.inr ⟨by rfl, rfl⟩) ?_ ?_
                 rotate_left
                 ·simp only [Act.put, List.setIfInBounds_toArray, List.set_cons_zero, List.set_cons_succ, i64_w, i32_w]; rfl
                 refine pure_ (i := 29) (N := some 70) (v := undef) (a' := ?_) q30_ rfl rfl (any_of HT_.out (by kernel_rfl)) (fun _ _ _ h => h) (Or.inr ⟨by rfl, rfl⟩) ?_ ?_
                 rotate_left
                 ·simp only [Act.put, List.setIfInBounds_toArray, List.set_cons_zero, List.set_cons_succ, i64_w, i32_w]; rfl
                 refine pure_ (i := 30) (N := some 71) (v := undef) (a' := ?_) q31_ rfl rfl (any_of HT_.out (by kernel_rfl)) (fun _ _ _ h => h) (Or.inr ⟨by rfl, rfl⟩) ?_ ?_
                 rotate_left
                 ·simp only [Act.put, List.setIfInBounds_toArray, List.set_cons_zero, List.set_cons_succ, i64_w, i32_w]; rfl
                 refine pure_ (i := 31) (N := some 72) (v := undef) (a' := ?_) q32_ rfl rfl (any_of HT_.out (by kernel_rfl)) (fun _ _ _ h => h) (Or.inr ⟨by rfl, rfl⟩) ?_ ?_
                 rotate_left
                 ·simp only [Act.put, List.setIfInBounds_toArray, List.set_cons_zero, List.set_cons_succ, i64_w, i32_w]; rfl
                 refine pure_ (i := 32) (N := some 73) (v := undef) (a' := ?_) q33_ rfl rfl (any_of HT_.out (by kernel_rfl)) (fun _ _ _ h => h) (Or.inr ⟨by rfl, rfl⟩) ?_ ?_
                 rotate_left
                 ·simp only [Act.put, List.setIfInBounds_toArray, List.set_cons_zero, List.set_cons_succ, i64_w, i32_w]; rfl
                 refine pure_ (i := 33) (N := some 74) (v := ?_) (a' := ?_) q34_ rfl rfl (any_of HT_.out (by kernel_rfl)) (fun _ _ _ h => h) (Or.inl ⟨by rfl, ?_⟩) ?_ ?_
                 rotate_left
                 ·intro w'; go_simp; with_reducible rfl
                 rotate_left
                 ·simp only [Act.put, List.setIfInBounds_toArray, List.set_cons_zero, List.set_cons_succ, i64_w, i32_w]; rfl
                 refine pure_ (i := 34) (N := some 75) (v := ?_) (a' := ?_) q35_ rfl rfl (any_of HT_.out (by kernel_rfl)) (fun _ _ _ h => h) (Or.inl ⟨by rfl, ?_⟩) ?_ ?_
                 rotate_left
                 ·intro w'; go_simp; with_reducible rfl
                 rotate_left
                 ·simp only [Act.put, List.setIfInBounds_toArray, List.set_cons_zero, List.set_cons_succ, i64_w, i32_w]; rfl
                 refine pure_ (i := 35) (N := some 76) (v := ?_) (a' := ?_) q36_ rfl rfl (any_of HT_.out (by kernel_rfl)) (fun _ _ _ h => h) (Or.inl ⟨by rfl, ?_⟩) ?_ ?_
                 rotate_left
                 ·intro w'; go_simp; with_reducible rfl
                 rotate_left
                 ·simp only [Act.put, List.setIfInBounds_toArray, List.set_cons_zero, List.set_cons_succ, i64_w, i32_w]; rfl
                 refine pure_ (i := 36) (N := some 77) (v := ?_) (a' := ?_) q37_ rfl rfl (any_of HT_.out (by kernel_rfl)) (fun _ _ _ h => h) (Or.inl ⟨by rfl, ?_⟩) ?_ ?_
                 rotate_left
                 ·intro w'; go_simp; with_reducible rfl
                 rotate_left
                 ·simp only [Act.put, List.setIfInBounds_toArray, List.set_cons_zero, List.set_cons_succ, i64_w, i32_w]; rfl
                 refine pure_ (i := 37) (N := some 78) (v := ?_) (a' := ?_) q38_ rfl rfl (any_of HT_.out (by kernel_rfl)) (fun _ _ _ h => h) (Or.inl ⟨by rfl, ?_⟩) ?_ ?_
                 rotate_left
                 ·intro w'; go_simp; with_reducible rfl
                 rotate_left
                 ·simp only [Act.put, List.setIfInBounds_toArray, List.set_cons_zero, List.set_cons_succ, i64_w, i32_w]; rfl
                 refine pure_ (i := 38) (N := some 79) (v := ?_) (a' := ?_) q39_ rfl rfl (any_of HT_.out (by kernel_rfl)) (fun _ _ _ h => h) (Or.inl ⟨by rfl, ?_⟩) ?_ ?_
                 rotate_left
                 ·intro w'; go_simp; with_reducible rfl
                 rotate_left
                 ·simp only [Act.put, List.setIfInBounds_toArray, List.set_cons_zero, List.set_cons_succ, i64_w, i32_w]; rfl
                 refine pure_ (i := 39) (N := some 80) (v := ?_) (a' := ?_) q40_ rfl rfl (any_of HT_.out (by kernel_rfl)) (fun _ _ _ h => h) (Or.inl ⟨by rfl, ?_⟩) ?_ ?_
                 rotate_left
                 ·intro w'; go_simp; with_reducible rfl
                 rotate_left
                 ·simp only [Act.put, List.setIfInBounds_toArray, List.set_cons_zero, List.set_cons_succ, i64_w, i32_w]; rfl
                 refine pure_ (i := 40) (N := some 81) (v := ?_) (a' := ?_) q41_ rfl rfl (any_of HT_.out (by kernel_rfl)) (fun _ _ _ h => h) (Or.inl ⟨by rfl, ?_⟩) ?_ ?_
                 rotate_left
                 ·intro w'; go_simp; with_reducible rfl
                 rotate_left
                 ·simp only [Act.put, List.setIfInBounds_toArray, List.set_cons_zero, List.set_cons_succ, i64_w, i32_w]; rfl
                 refine one_ (i := 41) (N := some 82) q42_ rfl rfl (one_of HT_.out (by kernel_rfl)) (by decide) (fun K hK => ?_)
                 refine goes_ Tryd.func13 (by kernel_rfl) rfl #[.string (a0.extract ((ji34) : Int).toNat ((ji39) : Int).toNat)] (by rfl) rfl rfl (by (try simp only [List.map_toArray, List.map_cons, List.map_nil]); first | done | (simp only [hji34, hji39]; rfl) | rfl | (simp only [List.length_drop, List.length_take]; rfl)) ?_
                 with_reducible refine (laws_words.calls kj3 (a0.extract ((ji34) : Int).toNat ((ji39) : Int).toNat) true _ A54.out).mono ?_
                 rintro e w' ⟨rfl, ⟨nd, rfl⟩⟩
                 refine ⟨_, rfl, ?_⟩
                 refine hK.out _ _ trivial (fun hHeld => ?_)
                 clear hK K
                 refine norm_ (a' := ?_) ?_ ?_
                 rotate_left
                 ·show Act.put _ (some 82) _ = _
                  simp only [Act.put, List.setIfInBounds_toArray, List.set_cons_zero, List.set_cons_succ, i64_w, i32_w]
                  rfl
                 refine pure_ (i := 42) (N := some 83) (v := ?_) (a' := ?_) q43_ rfl rfl (any_of HT_.out (by kernel_rfl)) (fun _ _ _ h => h) (Or.inl ⟨by rfl, ?_⟩) ?_ ?_
                 rotate_left
                 ·intro w'; go_simp; with_reducible rfl
                 rotate_left
                 ·simp only [Act.put, List.setIfInBounds_toArray, List.set_cons_zero, List.set_cons_succ, i64_w, i32_w]; rfl
                 refine pure_ (i := 43) (N := some 84) (v := ?_) (a' := ?_) q44_ rfl rfl (any_of HT_.out (by kernel_rfl)) (fun _ _ _ h => h) (Or.inl ⟨by rfl, ?_⟩) ?_ ?_
                 rotate_left
                 ·intro w'; go_simp; with_reducible rfl
                 rotate_left
                 ·simp only [Act.put, List.setIfInBounds_toArray, List.set_cons_zero, List.set_cons_succ, i64_w, i32_w]; rfl
                 refine pure_ (i := 44) (N := some 85) (v := undef) (a' := ?_) q45_ rfl rfl (any_of HT_.out (by kernel_rfl)) (fun _ _ _ h => h) (Or.inr ⟨by rfl, rfl⟩) ?_ ?_
                 rotate_left
                 ·simp only [Act.put, List.setIfInBounds_toArray, List.set_cons_zero, List.set_cons_succ, i64_w, i32_w]; rfl
                 refine pure_ (i := 45) (N := some 86) (v := undef) (a' := ?_) q46_ rfl rfl (any_of HT_.out (by kernel_rfl)) (fun _ _ _ h => h) (Or.inr ⟨by rfl, rfl⟩) ?_ ?_
                 rotate_left
                 ·simp only [Act.put, List.setIfInBounds_toArray, List.set_cons_zero, List.set_cons_succ, i64_w, i32_w]; rfl
                 refine pure_ (i := 46) (N := some 87) (v := undef) (a' := ?_) q47_ rfl rfl (any_of HT_.out (by kernel_rfl)) (fun _ _ _ h => h) (Or.inr ⟨by rfl, rfl⟩) ?_ ?_
                 rotate_left
                 ·simp only [Act.put, List.setIfInBounds_toArray, List.set_cons_zero, List.set_cons_succ, i64_w, i32_w]; rfl
                 refine pure_ (i := 47) (N := some 88) (v := undef) (a' := ?_) q48_ rfl rfl (any_of HT_.out (by kernel_rfl)) (fun _ _ _ h => h) (Or.inr ⟨by rfl, rfl⟩) ?_ ?_
                 rotate_left
                 ·simp only [Act.put, List.setIfInBounds_toArray, List.set_cons_zero, List.set_cons_succ, i64_w, i32_w]; rfl
                 refine pure_ (i := 48) (N := some 89) (v := undef) (a' := ?_) q49_ rfl rfl (any_of HT_.out (by kernel_rfl)) (fun _ _ _ h => h) (Or.inr ⟨by rfl, rfl⟩) ?_ ?_
                 rotate_left
                 ·simp only [Act.put, List.setIfInBounds_toArray, List.set_cons_zero, List.set_cons_succ, i64_w, i32_w]; rfl
                 refine pure_ (i := 49) (N := some 90) (v := undef) (a' := ?_) q50_ rfl rfl (any_of HT_.out (by kernel_rfl)) (fun _ _ _ h => h) (Or.inr ⟨by rfl, rfl⟩) ?_ ?_
                 rotate_left
                 ·simp only [Act.put, List.setIfInBounds_toArray, List.set_cons_zero, List.set_cons_succ, i64_w, i32_w]; rfl
                 refine pure_ (i := 50) (N := some 91) (v := undef) (a' := ?_) q51_ rfl rfl (any_of HT_.out (by kernel_rfl)) (fun _ _ _ h => h) (Or.inr ⟨by rfl, rfl⟩) ?_ ?_
                 rotate_left
                 ·simp only [Act.put, List.setIfInBounds_toArray, List.set_cons_zero, List.set_cons_succ, i64_w, i32_w]; rfl
                 refine pure_ (i := 51) (N := some 92) (v := ?_) (a' := ?_) q52_ rfl rfl (any_of HT_.out (by kernel_rfl)) (fun _ _ _ h => h) (Or.inl ⟨by rfl, ?_⟩) ?_ ?_
                 rotate_left
                 ·intro w'; go_simp; with_reducible rfl
                 rotate_left
                 ·simp only [Act.put, List.setIfInBounds_toArray, List.set_cons_zero, List.set_cons_succ, i64_w, i32_w]; rfl
                 refine pure_ (i := 52) (N := some 93) (v := ?_) (a' := ?_) q53_ rfl rfl (any_of HT_.out (by kernel_rfl)) (fun _ _ _ h => h) (Or.inl ⟨by rfl, ?_⟩) ?_ ?_
                 rotate_left
                 ·intro w'; go_simp; with_reducible rfl
                 rotate_left
                 ·simp only [Act.put, List.setIfInBounds_toArray, List.set_cons_zero, List.set_cons_succ, i64_w, i32_w]; rfl
                 refine done_ (done_of HT_.out (by kernel_rfl)) ?_
                 try go_wp2
                 go_meet
                 case rel => exact ⟨_, (false), (by first | rfl | (simp; done) | (simp [*]; done) | (simp [bne_nil_hyb]; done) | (simp [bne_nil_hyb, *]; done)), (by first | exact H' | (rw [hji34]; exact H') | (rw [hji39]; exact H') | (rw [hji80]; exact H')), ⟨by have := HJ3.out; first | omega | exact Nat.le_refl _⟩, ⟨by repeat (first | (with_reducible first | exact HB.out | apply below_alloc | apply pw_below_drewN | apply below_drew1) | exact HB.out)⟩⟩
                ·replace c55 := Bool.eq_false_iff.mpr c55
                 subst c55
                 have H1 : ((laws_digits.f kj3 (a0.extract ((ji34) : Int).toNat ((ji39) : Int).toNat)).bind fun t110 => (laws_FnPackagistPoints.j1 kj3 a0 ji39 (!t110))) = some r := by rw [if_neg (show ¬ (false = true) by decide)] at H; exact H
                 clear H
                 have H := H1
                 clear H1
                 have c57b0 := eq_true (of_decide_eq_true (by first | (with_reducible assumption) | assumption) : 0 ≤ (ji34))
                 have c58b0 := eq_true (of_decide_eq_true (by first | (with_reducible assumption) | assumption) : (ji34) ≤ (ji39))
                 have c59b0 := eq_true (of_decide_eq_true (by first | (with_reducible assumption) | assumption) : (ji39) ≤ (a0.size : Int))
                 replace H := Option.bind_eq_some_iff.mp H
                 obtain ⟨t110, A600, H⟩ := H
                 replace H : (laws_FnPackagistPoints.j1 kj3 a0 ji39 (!t110)) = some r := H
                 have A60 := Aside0.mk A600
                 clear A600
                 have H' := Aside0.mk H
                 clear H
                 try go_wp2
                 have n0_ := Aside0.mk (below_drew1 HB.out)
                 clear HB
                 have HB := n0_
                 clear n0_
                 refine start_ (n := 53) (S := fun w' => True) (ds := []) q0_ (by kernel_rfl) rfl rfl trivial (fun hHeld => ?_); refine with_tabW laws_FnPackagistPoints.tab6 laws_FnPackagistPoints.bits6 (fun HT_ HW_ => ?_)
                 generalize wc.drew = w61 at HB hHeld ⊢
                 refine pure_ (i := 0) (N := some 41) (v := ?_) (a' := ?_) q1_ rfl rfl (any_of HT_.out (by kernel_rfl)) (fun _ _ _ h => h) (Or.inl ⟨by rfl, ?_⟩) ?_ ?_
                 rotate_left
                 ·intro w'; go_simp; with_reducible rfl
                 rotate_left
                 ·simp only [Act.put, List.setIfInBounds_toArray, List.set_cons_zero, List.set_cons_succ, i64_w, i32_w]; rfl
                 refine pure_ (i := 1) (N := some 42) (v := ?_) (a' := ?_) q2_ rfl rfl (any_of HT_.out (by kernel_rfl)) (fun _ _ _ h => h) (Or.inl ⟨by rfl, ?_⟩) ?_ ?_
                 rotate_left
                 ·intro w'; go_simp; with_reducible rfl
                 rotate_left
                 ·simp only [Act.put, List.setIfInBounds_toArray, List.set_cons_zero, List.set_cons_succ, i64_w, i32_w]; rfl
                 refine pure_ (i := 2) (N := some 43) (v := ?_) (a' := ?_) q3_ rfl rfl (any_of HT_.out (by kernel_rfl)) (fun _ _ _ h => h) (Or.inl ⟨by rfl, ?_⟩) ?_ ?_
                 rotate_left
                 ·intro w'; go_simp; with_reducible rfl
                 rotate_left
                 ·simp only [Act.put, List.setIfInBounds_toArray, List.set_cons_zero, List.set_cons_succ, i64_w, i32_w]; rfl
                 refine pure_ (i := 3) (N := some 44) (v := ?_) (a' := ?_) q4_ rfl rfl (any_of HT_.out (by kernel_rfl)) (fun _ _ _ h => h) (Or.inl ⟨by rfl, ?_⟩) ?_ ?_
                 rotate_left
                 ·intro w'; go_simp; with_reducible rfl
                 rotate_left
                 ·simp only [Act.put, List.setIfInBounds_toArray, List.set_cons_zero, List.set_cons_succ, i64_w, i32_w]; rfl
                 refine pure_ (i := 4) (N := some 45) (v := ?_) (a' := ?_) q5_ rfl rfl (any_of HT_.out (by kernel_rfl)) (fun _ _ _ h => h) (Or.inl ⟨by rfl, ?_⟩) ?_ ?_
                 rotate_left
                 ·intro w'; go_simp; with_reducible rfl
                 rotate_left
                 ·simp only [Act.put, List.setIfInBounds_toArray, List.set_cons_zero, List.set_cons_succ, i64_w, i32_w]; rfl
                 refine pure_ (i := 5) (N := some 46) (v := ?_) (a' := ?_) q6_ rfl rfl (any_of HT_.out (by kernel_rfl)) (fun _ _ _ h => h) (Or.inl ⟨by rfl, ?_⟩) ?_ ?_
                 rotate_left
                 ·intro w'; go_simp; with_reducible rfl
                 rotate_left
                 ·simp only [Act.put, List.setIfInBounds_toArray, List.set_cons_zero, List.set_cons_succ, i64_w, i32_w]; rfl
                 refine pure_ (i := 6) (N := some 47) (v := ?_) (a' := ?_) q7_ rfl rfl (any_of HT_.out (by kernel_rfl)) (fun _ _ _ h => h) (Or.inl ⟨by rfl, ?_⟩) ?_ ?_
                 rotate_left
                 ·intro w'; go_simp; with_reducible rfl
                 rotate_left
                 ·simp only [Act.put, List.setIfInBounds_toArray, List.set_cons_zero, List.set_cons_succ, i64_w, i32_w]; rfl
                 refine pure_ (i := 7) (N := some 48) (v := ?_) (a' := ?_) q8_ rfl rfl (any_of HT_.out (by kernel_rfl)) (fun _ _ _ h => h) (Or.inl ⟨by rfl, ?_⟩) ?_ ?_
                 rotate_left
                 ·intro w'; go_simp; with_reducible rfl
                 rotate_left
                 ·simp only [Act.put, List.setIfInBounds_toArray, List.set_cons_zero, List.set_cons_succ, i64_w, i32_w]; rfl
                 refine pure_ (i := 9) (N := some 50) (v := ?_) (a' := ?_) q54_ rfl rfl (any_of HT_.out (by kernel_rfl)) (fun _ _ _ h => h) (Or.inl ⟨by rfl, ?_⟩) ?_ ?_
                 rotate_left
                 ·intro w'; go_simp; with_reducible rfl
                 rotate_left
                 ·simp only [Act.put, List.setIfInBounds_toArray, List.set_cons_zero, List.set_cons_succ, i64_w, i32_w]; rfl
                 refine pure_ (i := 10) (N := some 51) (v := ?_) (a' := ?_) q55_ rfl rfl (any_of HT_.out (by kernel_rfl)) (fun _ _ _ h => h) (Or.inl ⟨by rfl, ?_⟩) ?_ ?_
                 rotate_left
                 ·intro w'; go_simp; with_reducible rfl
                 rotate_left
                 ·simp only [Act.put, List.setIfInBounds_toArray, List.set_cons_zero, List.set_cons_succ, i64_w, i32_w]; rfl
                 refine pure_ (i := 11) (N := some 52) (v := ?_) (a' := ?_) q56_ rfl rfl (any_of HT_.out (by kernel_rfl)) (fun _ _ _ h => h) (Or.inl ⟨by rfl, ?_⟩) ?_ ?_
                 rotate_left
                 ·intro w'; go_simp; with_reducible rfl
                 rotate_left
                 ·simp only [Act.put, List.setIfInBounds_toArray, List.set_cons_zero, List.set_cons_succ, i64_w, i32_w]; rfl
                 refine pure_ (i := 12) (N := some 53) (v := ?_) (a' := ?_) q57_ rfl rfl (any_of HT_.out (by kernel_rfl)) (fun _ _ _ h => h) (Or.inl ⟨by rfl, ?_⟩) ?_ ?_
                 rotate_left
                 ·intro w'; go_simp; with_reducible rfl
                 rotate_left
                 ·simp only [Act.put, List.setIfInBounds_toArray, List.set_cons_zero, List.set_cons_succ, i64_w, i32_w]; rfl
                 refine pure_ (i := 13) (N := some 54) (v := ?_) (a' := ?_) q58_ rfl rfl (any_of HT_.out (by kernel_rfl)) (fun _ _ _ h => h) (Or.inl ⟨by rfl, ?_⟩) ?_ ?_
                 rotate_left
                 ·intro w'; go_simp; with_reducible rfl
                 rotate_left
                 ·simp only [Act.put, List.setIfInBounds_toArray, List.set_cons_zero, List.set_cons_succ, i64_w, i32_w]; rfl
                 refine one_ (i := 8) (N := some 49) q14_ rfl rfl (one_of HT_.out (by kernel_rfl)) (by decide) (fun K hK => ?_)
                 refine goes_ Tryd.func14 (by kernel_rfl) rfl #[.string (a0.extract ((ji34) : Int).toNat ((ji39) : Int).toNat)] (by rfl) rfl rfl (by (try simp only [List.map_toArray, List.map_cons, List.map_nil]); first | done | (simp only [hji34, hji39]; rfl) | rfl | (simp only [List.length_drop, List.length_take]; rfl)) ?_
                 with_reducible refine (laws_digits.calls kj3 (a0.extract ((ji34) : Int).toNat ((ji39) : Int).toNat) t106 _ A38.out).mono ?_
                 rintro e w' ⟨rfl, ⟨nd, rfl⟩⟩
                 refine ⟨_, rfl, ?_⟩
                 refine hK.out _ _ trivial (fun hHeld => ?_)
                 clear hK K
                 refine norm_ (a' := ?_) ?_ ?_
                 rotate_left
                 ·show Act.put _ (some 49) _ = _
                  simp only [Act.put, List.setIfInBounds_toArray, List.set_cons_zero, List.set_cons_succ, i64_w, i32_w]
                  rfl
                 refine one_ (i := 14) (N := some 55) q15_ rfl rfl (one_of HT_.out (by kernel_rfl)) (by decide) (fun K hK => ?_)
                 refine goes_ Tryd.func14 (by kernel_rfl) rfl #[.string (a0.extract ((ji39) : Int).toNat ((wrap64 ((ji39) + 1)) : Int).toNat)] (by rfl) rfl rfl (by (try simp only [List.map_toArray, List.map_cons, List.map_nil]); first | done | (simp only [hji39]; rfl) | rfl | (simp only [List.length_drop, List.length_take]; rfl)) ?_
                 with_reducible refine (laws_digits.calls kj3 (a0.extract ((ji39) : Int).toNat ((wrap64 ((ji39) + 1)) : Int).toNat) t107 _ A43.out).mono ?_
                 rintro e w' ⟨rfl, ⟨nd, rfl⟩⟩
                 refine ⟨_, rfl, ?_⟩
                 refine hK.out _ _ trivial (fun hHeld => ?_)
                 clear hK K
                 refine norm_ (a' := ?_) ?_ ?_
                 rotate_left
                 ·show Act.put _ (some 55) _ = _
                  simp only [Act.put, List.setIfInBounds_toArray, List.set_cons_zero, List.set_cons_succ, i64_w, i32_w]
                  rfl
                 refine pure_ (i := 15) (N := some 56) (v := ?_) (a' := ?_) q16_ rfl rfl (any_of HT_.out (by kernel_rfl)) (fun _ _ _ h => h) (Or.inl ⟨by rfl, ?_⟩) ?_ ?_
                 rotate_left
                 ·intro w'; go_simp; with_reducible rfl
                 rotate_left
                 ·simp only [Act.put, List.setIfInBounds_toArray, List.set_cons_zero, List.set_cons_succ, i64_w, i32_w]; rfl
                 refine pure_ (i := 16) (N := some 57) (v := ?_) (a' := ?_) q17_ rfl rfl (any_of HT_.out (by kernel_rfl)) (fun _ _ _ h => h) (Or.inl ⟨by rfl, ?_⟩) ?_ ?_
                 rotate_left
                 ·intro w'; go_simp; with_reducible rfl
                 rotate_left
                 ·simp only [Act.put, List.setIfInBounds_toArray, List.set_cons_zero, List.set_cons_succ, i64_w, i32_w]; rfl
                 refine pure_ (i := 17) (N := some 58) (v := ?_) (a' := ?_) q18_ rfl rfl (any_of HT_.out (by kernel_rfl)) (fun _ _ _ h => h) (Or.inl ⟨by rfl, ?_⟩) ?_ ?_
                 rotate_left
                 ·intro w'; go_simp; with_reducible rfl
                 rotate_left
                 ·simp only [Act.put, List.setIfInBounds_toArray, List.set_cons_zero, List.set_cons_succ, i64_w, i32_w]; rfl
                 refine pure_ (i := 18) (N := some 59) (v := ?_) (a' := ?_) q19_ rfl rfl (any_of HT_.out (by kernel_rfl)) (fun _ _ _ h => h) (Or.inl ⟨by rfl, ?_⟩) ?_ ?_
                 rotate_left
                 ·intro w'; go_simp; with_reducible rfl
                 rotate_left
                 ·simp only [Act.put, List.setIfInBounds_toArray, List.set_cons_zero, List.set_cons_succ, i64_w, i32_w]; rfl
                 refine pure_ (i := 19) (N := some 60) (v := ?_) (a' := ?_) q20_ rfl rfl (any_of HT_.out (by kernel_rfl)) (fun _ _ _ h => h) (Or.inl ⟨by rfl, ?_⟩) ?_ ?_
                 rotate_left
                 ·intro w'; go_simp; with_reducible rfl
                 rotate_left
                 ·simp only [Act.put, List.setIfInBounds_toArray, List.set_cons_zero, List.set_cons_succ, i64_w, i32_w]; rfl
                 refine pure_ (i := 20) (N := some 61) (v := ?_) (a' := ?_) q21_ rfl rfl (any_of HT_.out (by kernel_rfl)) (fun _ _ _ h => h) (Or.inl ⟨by rfl, ?_⟩) ?_ ?_
                 rotate_left
                 ·intro w'; go_simp; with_reducible rfl
                 rotate_left
                 ·simp only [Act.put, List.setIfInBounds_toArray, List.set_cons_zero, List.set_cons_succ, i64_w, i32_w]; rfl
                 refine pure_ (i := 21) (N := some 62) (v := ?_) (a' := ?_) q22_ rfl rfl (any_of HT_.out (by kernel_rfl)) (fun _ _ _ h => h) (Or.inl ⟨by rfl, ?_⟩) ?_ ?_
                 rotate_left
                 ·intro w'; go_simp; with_reducible rfl
                 rotate_left
                 ·simp only [Act.put, List.setIfInBounds_toArray, List.set_cons_zero, List.set_cons_succ, i64_w, i32_w]; rfl
                 refine pure_ (i := 22) (N := some 63) (v := ?_) (a' := ?_) q23_ rfl rfl (any_of HT_.out (by kernel_rfl)) (fun _ _ _ h => h) (Or.inl ⟨by rfl, ?_⟩) ?_ ?_
                 rotate_left
                 ·intro w'; go_simp; with_reducible rfl
                 rotate_left
                 ·simp only [Act.put, List.setIfInBounds_toArray, List.set_cons_zero, List.set_cons_succ, i64_w, i32_w]; rfl
                 refine one_ (i := 23) (N := some 64) q24_ rfl rfl (one_of HT_.out (by kernel_rfl)) (by decide) (fun K hK => ?_)
                 refine goes_ Tryd.func13 (by kernel_rfl) rfl #[.string (a0.extract ((ji39) : Int).toNat ((wrap64 ((ji39) + 1)) : Int).toNat)] (by rfl) rfl rfl (by (try simp only [List.map_toArray, List.map_cons, List.map_nil]); first | done | (simp only [hji39]; rfl) | rfl | (simp only [List.length_drop, List.length_take]; rfl)) ?_
                 with_reducible refine (laws_words.calls kj3 (a0.extract ((ji39) : Int).toNat ((wrap64 ((ji39) + 1)) : Int).toNat) true _ A49.out).mono ?_
                 rintro e w' ⟨rfl, ⟨nd, rfl⟩⟩
                 refine ⟨_, rfl, ?_⟩
                 refine hK.out _ _ trivial (fun hHeld => ?_)
                 clear hK K
                 refine norm_ (a' := ?_) ?_ ?_
                 rotate_left
                 ·show Act.put _ (some 64) _ = _
                  simp only [Act.put, List.setIfInBounds_toArray, List.set_cons_zero, List.set_cons_succ, i64_w, i32_w]
                  rfl
                 refine pure_ (i := 24) (N := some 65) (v := ?_) (a' := ?_) q25_ rfl rfl (any_of HT_.out (by kernel_rfl)) (fun _ _ _ h => h) (Or.inl ⟨by rfl, ?_⟩) ?_ ?_
                 rotate_left
                 ·intro w'; go_simp; with_reducible rfl
                 rotate_left
                 ·simp only [Act.put, List.setIfInBounds_toArray, List.set_cons_zero, List.set_cons_succ, i64_w, i32_w]; rfl
                 refine pure_ (i := 25) (N := some 66) (v := ?_) (a' := ?_) q26_ rfl rfl (any_of HT_.out (by kernel_rfl)) (fun _ _ _ h => h) (Or.inl ⟨by rfl, ?_⟩) ?_ ?_
                 rotate_left
                 ·intro w'; go_simp; with_reducible rfl
                 rotate_left
                 ·simp only [Act.put, List.setIfInBounds_toArray, List.set_cons_zero, List.set_cons_succ, i64_w, i32_w]; rfl
                 refine pure_ (i := 26) (N := some 67) (v := undef) (a' := ?_) q27_ rfl rfl (any_of HT_.out (by kernel_rfl)) (fun _ _ _ h => h) (Or.inr ⟨by rfl, rfl⟩) ?_ ?_
                 rotate_left
                 ·simp only [Act.put, List.setIfInBounds_toArray, List.set_cons_zero, List.set_cons_succ, i64_w, i32_w]; rfl
                 refine pure_ (i := 27) (N := some 68) (v := undef) (a' := ?_) q28_ rfl rfl (any_of HT_.out (by kernel_rfl)) (fun _ _ _ h => h) (Or.inr ⟨by rfl, rfl⟩) ?_ ?_
                 rotate_left
                 ·simp only [Act.put, List.setIfInBounds_toArray, List.set_cons_zero, List.set_cons_succ, i64_w, i32_w]; rfl
                 refine pure_ (i := 28) (N := some 69) (v := undef) (a' := ?_) q29_ rfl rfl (any_of HT_.out (by kernel_rfl)) (fun _ _ _ h => h) (Or.inr ⟨by rfl, rfl⟩) ?_ ?_
                 rotate_left
                 ·simp only [Act.put, List.setIfInBounds_toArray, List.set_cons_zero, List.set_cons_succ, i64_w, i32_w]; rfl
                 refine pure_ (i := 29) (N := some 70) (v := undef) (a' := ?_) q30_ rfl rfl (any_of HT_.out (by kernel_rfl)) (fun _ _ _ h => h) (Or.inr ⟨by rfl, rfl⟩) ?_ ?_
                 rotate_left
                 ·simp only [Act.put, List.setIfInBounds_toArray, List.set_cons_zero, List.set_cons_succ, i64_w, i32_w]; rfl
                 refine pure_ (i := 30) (N := some 71) (v := undef) (a' := ?_) q31_ rfl rfl (any_of HT_.out (by kernel_rfl)) (fun _ _ _ h => h) (Or.inr ⟨by rfl, rfl⟩) ?_ ?_
                 rotate_left
                 ·simp only [Act.put, List.setIfInBounds_toArray, List.set_cons_zero, List.set_cons_succ, i64_w, i32_w]; rfl
                 refine pure_ (i := 31) (N := some 72) (v := undef) (a' := ?_) q32_ rfl rfl (any_of HT_.out (by kernel_rfl)) (fun _ _ _ h => h) (Or.inr ⟨by rfl, rfl⟩) ?_ ?_
                 rotate_left
                 ·simp only [Act.put, List.setIfInBounds_toArray, List.set_cons_zero, List.set_cons_succ, i64_w, i32_w]; rfl
                 refine pure_ (i := 32) (N := some 73) (v := undef) (a' := ?_) q33_ rfl rfl (any_of HT_.out (by kernel_rfl)) (fun _ _ _ h => h) (Or.inr ⟨by rfl, rfl⟩) ?_ ?_
                 rotate_left
                 ·simp only [Act.put, List.setIfInBounds_toArray, List.set_cons_zero, List.set_cons_succ, i64_w, i32_w]; rfl
                 refine pure_ (i := 33) (N := some 74) (v := ?_) (a' := ?_) q34_ rfl rfl (any_of HT_.out (by kernel_rfl)) (fun _ _ _ h => h) (Or.inl ⟨by rfl, ?_⟩) ?_ ?_
                 rotate_left
                 ·intro w'; go_simp; with_reducible rfl
                 rotate_left
                 ·simp only [Act.put, List.setIfInBounds_toArray, List.set_cons_zero, List.set_cons_succ, i64_w, i32_w]; rfl
                 refine pure_ (i := 34) (N := some 75) (v := ?_) (a' := ?_) q35_ rfl rfl (any_of HT_.out (by kernel_rfl)) (fun _ _ _ h => h) (Or.inl ⟨by rfl, ?_⟩) ?_ ?_
                 rotate_left
                 ·intro w'; go_simp; with_reducible rfl
                 rotate_left
                 ·simp only [Act.put, List.setIfInBounds_toArray, List.set_cons_zero, List.set_cons_succ, i64_w, i32_w]; rfl
                 refine pure_ (i := 35) (N := some 76) (v := ?_) (a' := ?_) q36_ rfl rfl (any_of HT_.out (by kernel_rfl)) (fun _ _ _ h => h) (Or.inl ⟨by rfl, ?_⟩) ?_ ?_
                 rotate_left
                 ·intro w'; go_simp; with_reducible rfl
                 rotate_left
                 ·simp only [Act.put, List.setIfInBounds_toArray, List.set_cons_zero, List.set_cons_succ, i64_w, i32_w]; rfl
                 refine pure_ (i := 36) (N := some 77) (v := ?_) (a' := ?_) q37_ rfl rfl (any_of HT_.out (by kernel_rfl)) (fun _ _ _ h => h) (Or.inl ⟨by rfl, ?_⟩) ?_ ?_
                 rotate_left
                 ·intro w'; go_simp; with_reducible rfl
                 rotate_left
                 ·simp only [Act.put, List.setIfInBounds_toArray, List.set_cons_zero, List.set_cons_succ, i64_w, i32_w]; rfl
                 refine pure_ (i := 37) (N := some 78) (v := ?_) (a' := ?_) q38_ rfl rfl (any_of HT_.out (by kernel_rfl)) (fun _ _ _ h => h) (Or.inl ⟨by rfl, ?_⟩) ?_ ?_
                 rotate_left
                 ·intro w'; go_simp; with_reducible rfl
                 rotate_left
                 ·simp only [Act.put, List.setIfInBounds_toArray, List.set_cons_zero, List.set_cons_succ, i64_w, i32_w]; rfl
                 refine pure_ (i := 38) (N := some 79) (v := ?_) (a' := ?_) q39_ rfl rfl (any_of HT_.out (by kernel_rfl)) (fun _ _ _ h => h) (Or.inl ⟨by rfl, ?_⟩) ?_ ?_
                 rotate_left
                 ·intro w'; go_simp; with_reducible rfl
                 rotate_left
                 ·simp only [Act.put, List.setIfInBounds_toArray, List.set_cons_zero, List.set_cons_succ, i64_w, i32_w]; rfl
                 refine pure_ (i := 39) (N := some 80) (v := ?_) (a' := ?_) q40_ rfl rfl (any_of HT_.out (by kernel_rfl)) (fun _ _ _ h => h) (Or.inl ⟨by rfl, ?_⟩) ?_ ?_
                 rotate_left
                 ·intro w'; go_simp; with_reducible rfl
                 rotate_left
                 ·simp only [Act.put, List.setIfInBounds_toArray, List.set_cons_zero, List.set_cons_succ, i64_w, i32_w]; rfl
                 refine pure_ (i := 40) (N := some 81) (v := ?_) (a' := ?_) q41_ rfl rfl (any_of HT_.out (by kernel_rfl)) (fun _ _ _ h => h) (Or.inl ⟨by rfl, ?_⟩) ?_ ?_
                 rotate_left
                 ·intro w'; go_simp; with_reducible rfl
                 rotate_left
                 ·simp only [Act.put, List.setIfInBounds_toArray, List.set_cons_zero, List.set_cons_succ, i64_w, i32_w]; rfl
                 refine one_ (i := 41) (N := some 82) q42_ rfl rfl (one_of HT_.out (by kernel_rfl)) (by decide) (fun K hK => ?_)
                 refine goes_ Tryd.func13 (by kernel_rfl) rfl #[.string (a0.extract ((ji34) : Int).toNat ((ji39) : Int).toNat)] (by rfl) rfl rfl (by (try simp only [List.map_toArray, List.map_cons, List.map_nil]); first | done | (simp only [hji34, hji39]; rfl) | rfl | (simp only [List.length_drop, List.length_take]; rfl)) ?_
                 with_reducible refine (laws_words.calls kj3 (a0.extract ((ji34) : Int).toNat ((ji39) : Int).toNat) false _ A54.out).mono ?_
                 rintro e w' ⟨rfl, ⟨nd, rfl⟩⟩
                 refine ⟨_, rfl, ?_⟩
                 refine hK.out _ _ trivial (fun hHeld => ?_)
                 clear hK K
                 refine norm_ (a' := ?_) ?_ ?_
                 rotate_left
                 ·show Act.put _ (some 82) _ = _
                  simp only [Act.put, List.setIfInBounds_toArray, List.set_cons_zero, List.set_cons_succ, i64_w, i32_w]
                  rfl
                 refine pure_ (i := 42) (N := some 83) (v := ?_) (a' := ?_) q43_ rfl rfl (any_of HT_.out (by kernel_rfl)) (fun _ _ _ h => h) (Or.inl ⟨by rfl, ?_⟩) ?_ ?_
                 rotate_left
                 ·intro w'; go_simp; with_reducible rfl
                 rotate_left
                 ·simp only [Act.put, List.setIfInBounds_toArray, List.set_cons_zero, List.set_cons_succ, i64_w, i32_w]; rfl
                 refine pure_ (i := 43) (N := some 84) (v := ?_) (a' := ?_) q44_ rfl rfl (any_of HT_.out (by kernel_rfl)) (fun _ _ _ h => h) (Or.inl ⟨by rfl, ?_⟩) ?_ ?_
                 rotate_left
                 ·intro w'; go_simp; with_reducible rfl
                 rotate_left
                 ·simp only [Act.put, List.setIfInBounds_toArray, List.set_cons_zero, List.set_cons_succ, i64_w, i32_w]; rfl
                 refine pure_ (i := 44) (N := some 85) (v := ?_) (a' := ?_) q45_ rfl rfl (any_of HT_.out (by kernel_rfl)) (fun _ _ _ h => h) (Or.inl ⟨by rfl, ?_⟩) ?_ ?_
                 rotate_left
                 ·intro w'; go_simp; with_reducible rfl
                 rotate_left
                 ·simp only [Act.put, List.setIfInBounds_toArray, List.set_cons_zero, List.set_cons_succ, i64_w, i32_w]; rfl
                 refine pure_ (i := 45) (N := some 86) (v := ?_) (a' := ?_) q46_ rfl rfl (any_of HT_.out (by kernel_rfl)) (fun _ _ _ h => h) (Or.inl ⟨by rfl, ?_⟩) ?_ ?_
                 rotate_left
                 ·intro w'; go_simp; with_reducible rfl
                 rotate_left
                 ·simp only [Act.put, List.setIfInBounds_toArray, List.set_cons_zero, List.set_cons_succ, i64_w, i32_w]; rfl
                 refine pure_ (i := 46) (N := some 87) (v := ?_) (a' := ?_) q47_ rfl rfl (any_of HT_.out (by kernel_rfl)) (fun _ _ _ h => h) (Or.inl ⟨by rfl, ?_⟩) ?_ ?_
                 rotate_left
                 ·intro w'; go_simp; with_reducible rfl
                 rotate_left
                 ·simp only [Act.put, List.setIfInBounds_toArray, List.set_cons_zero, List.set_cons_succ, i64_w, i32_w]; rfl
                 refine pure_ (i := 47) (N := some 88) (v := ?_) (a' := ?_) q48_ rfl rfl (any_of HT_.out (by kernel_rfl)) (fun _ _ _ h => h) (Or.inl ⟨by rfl, ?_⟩) ?_ ?_
                 rotate_left
                 ·intro w'; go_simp; with_reducible rfl
                 rotate_left
                 ·simp only [Act.put, List.setIfInBounds_toArray, List.set_cons_zero, List.set_cons_succ, i64_w, i32_w]; rfl
                 refine pure_ (i := 48) (N := some 89) (v := ?_) (a' := ?_) q49_ rfl rfl (any_of HT_.out (by kernel_rfl)) (fun _ _ _ h => h) (Or.inl ⟨by rfl, ?_⟩) ?_ ?_
                 rotate_left
                 ·intro w'; go_simp; with_reducible rfl
                 rotate_left
                 ·simp only [Act.put, List.setIfInBounds_toArray, List.set_cons_zero, List.set_cons_succ, i64_w, i32_w]; rfl
                 refine one_ (i := 49) (N := some 90) q50_ rfl rfl (one_of HT_.out (by kernel_rfl)) (by decide) (fun K hK => ?_)
                 refine goes_ Tryd.func14 (by kernel_rfl) rfl #[.string (a0.extract ((ji34) : Int).toNat ((ji39) : Int).toNat)] (by rfl) rfl rfl (by (try simp only [List.map_toArray, List.map_cons, List.map_nil]); first | done | (simp only [hji34, hji39]; rfl) | rfl | (simp only [List.length_drop, List.length_take]; rfl)) ?_
                 with_reducible refine (laws_digits.calls kj3 (a0.extract ((ji34) : Int).toNat ((ji39) : Int).toNat) t110 _ A60.out).mono ?_
                 rintro e w' ⟨rfl, ⟨nd, rfl⟩⟩
                 refine ⟨_, rfl, ?_⟩
                 refine hK.out _ _ trivial (fun hHeld => ?_)
                 clear hK K
                 refine norm_ (a' := ?_) ?_ ?_
                 rotate_left
                 ·show Act.put _ (some 90) _ = _
                  simp only [Act.put, List.setIfInBounds_toArray, List.set_cons_zero, List.set_cons_succ, i64_w, i32_w]
                  rfl
                 refine pure_ (i := 50) (N := some 91) (v := ?_) (a' := ?_) q51_ rfl rfl (any_of HT_.out (by kernel_rfl)) (fun _ _ _ h => h) (Or.inl ⟨by rfl, ?_⟩) ?_ ?_
                 rotate_left
                 ·intro w'; go_simp; with_reducible rfl
                 rotate_left
                 ·simp only [Act.put, List.setIfInBounds_toArray, List.set_cons_zero, List.set_cons_succ, i64_w, i32_w]; rfl
                 refine pure_ (i := 51) (N := some 92) (v := ?_) (a' := ?_) q52_ rfl rfl (any_of HT_.out (by kernel_rfl)) (fun _ _ _ h => h) (Or.inl ⟨by rfl, ?_⟩) ?_ ?_
                 rotate_left
                 ·intro w'; go_simp; with_reducible rfl
                 rotate_left
                 ·simp only [Act.put, List.setIfInBounds_toArray, List.set_cons_zero, List.set_cons_succ, i64_w, i32_w]; rfl
                 refine pure_ (i := 52) (N := some 93) (v := ?_) (a' := ?_) q53_ rfl rfl (any_of HT_.out (by kernel_rfl)) (fun _ _ _ h => h) (Or.inl ⟨by rfl, ?_⟩) ?_ ?_
                 rotate_left
                 ·intro w'; go_simp; with_reducible rfl
                 rotate_left
                 ·simp only [Act.put, List.setIfInBounds_toArray, List.set_cons_zero, List.set_cons_succ, i64_w, i32_w]; rfl
                 refine done_ (done_of HT_.out (by kernel_rfl)) ?_
                 try go_wp2
                 go_meet
                 case rel => exact ⟨_, (!t110), (by first | rfl | (simp; done) | (simp [*]; done) | (simp [bne_nil_hyb]; done) | (simp [bne_nil_hyb, *]; done)), (by first | exact H' | (rw [hji34]; exact H') | (rw [hji39]; exact H') | (rw [hji80]; exact H')), ⟨by have := HJ3.out; first | omega | exact Nat.le_refl _⟩, ⟨by repeat (first | (with_reducible first | exact HB.out | apply below_alloc | apply pw_below_drewN | apply below_drew1) | exact HB.out)⟩⟩
               ·replace c50 := Bool.eq_false_iff.mpr c50
                subst c50
                have H1 : ((laws_digits.f kj3 (a0.extract ((ji39) : Int).toNat ((wrap64 ((ji39) + 1)) : Int).toNat)).bind fun t111 => (if t111 = true then ((laws_words.f kj3 (a0.extract ((ji34) : Int).toNat ((ji39) : Int).toNat)).bind fun t112 => (if t112 = true then (laws_FnPackagistPoints.j1 kj3 a0 ji39 false) else ((laws_digits.f kj3 (a0.extract ((ji34) : Int).toNat ((ji39) : Int).toNat)).bind fun t113 => (laws_FnPackagistPoints.j1 kj3 a0 ji39 (!t113))))) else (laws_FnPackagistPoints.j1 kj3 a0 ji39 true))) = some r := by rw [if_neg (show ¬ (false = true) by decide)] at H; exact H
                clear H
                have H := H1
                clear H1
                have c62b0 := eq_true (of_decide_eq_true (by first | (with_reducible assumption) | assumption) : 0 ≤ (ji39))
                have c63b0 := eq_true (of_decide_eq_true (by first | (with_reducible assumption) | assumption) : (ji39) ≤ (wrap64 ((ji39) + 1)))
                have c64b0 := eq_true (of_decide_eq_true (by first | (with_reducible assumption) | assumption) : (wrap64 ((ji39) + 1)) ≤ (a0.size : Int))
                replace H := Option.bind_eq_some_iff.mp H
                obtain ⟨t111, A650, H⟩ := H
                replace H : (if t111 = true then ((laws_words.f kj3 (a0.extract ((ji34) : Int).toNat ((ji39) : Int).toNat)).bind fun t112 => (if t112 = true then (laws_FnPackagistPoints.j1 kj3 a0 ji39 false) else ((laws_digits.f kj3 (a0.extract ((ji34) : Int).toNat ((ji39) : Int).toNat)).bind fun t113 => (laws_FnPackagistPoints.j1 kj3 a0 ji39 (!t113))))) else (laws_FnPackagistPoints.j1 kj3 a0 ji39 true)) = some r := H
                have A65 := Aside0.mk A650
                clear A650
                by_cases c66 : t111 = true
                ·subst c66
                 have H1 : ((laws_words.f kj3 (a0.extract ((ji34) : Int).toNat ((ji39) : Int).toNat)).bind fun t112 => (if t112 = true then (laws_FnPackagistPoints.j1 kj3 a0 ji39 false) else ((laws_digits.f kj3 (a0.extract ((ji34) : Int).toNat ((ji39) : Int).toNat)).bind fun t113 => (laws_FnPackagistPoints.j1 kj3 a0 ji39 (!t113))))) = some r := by rw [if_pos rfl] at H; exact H
                 clear H
                 have H := H1
                 clear H1
                 have c67b0 := eq_true (of_decide_eq_true (by first | (with_reducible assumption) | assumption) : 0 ≤ (ji34))
                 have c68b0 := eq_true (of_decide_eq_true (by first | (with_reducible assumption) | assumption) : (ji34) ≤ (ji39))
                 have c69b0 := eq_true (of_decide_eq_true (by first | (with_reducible assumption) | assumption) : (ji39) ≤ (a0.size : Int))
                 replace H := Option.bind_eq_some_iff.mp H
                 obtain ⟨t112, A700, H⟩ := H
                 replace H : (if t112 = true then (laws_FnPackagistPoints.j1 kj3 a0 ji39 false) else ((laws_digits.f kj3 (a0.extract ((ji34) : Int).toNat ((ji39) : Int).toNat)).bind fun t113 => (laws_FnPackagistPoints.j1 kj3 a0 ji39 (!t113)))) = some r := H
                 have A70 := Aside0.mk A700
                 clear A700
                 by_cases c71 : t112 = true
                 ·subst c71
                  have H1 : (laws_FnPackagistPoints.j1 kj3 a0 ji39 false) = some r := by rw [if_pos rfl] at H; exact H
                  clear H
                  have H := H1
                  clear H1
                  have H' := Aside0.mk H
                  clear H
                  try go_wp2
                  have n0_ := Aside0.mk (below_drew1 HB.out)
                  clear HB
                  have HB := n0_
                  clear n0_
                  refine start_ (n := 53) (S := fun w' => True) (ds := []) q0_ (by kernel_rfl) rfl rfl trivial (fun hHeld => ?_); refine with_tabW laws_FnPackagistPoints.tab6 laws_FnPackagistPoints.bits6 (fun HT_ HW_ => ?_)
                  generalize wc.drew = w72 at HB hHeld ⊢
                  refine pure_ (i := 0) (N := some 41) (v := ?_) (a' := ?_) q1_ rfl rfl (any_of HT_.out (by kernel_rfl)) (fun _ _ _ h => h) (Or.inl ⟨by rfl, ?_⟩) ?_ ?_
                  rotate_left
                  ·intro w'; go_simp; with_reducible rfl
                  rotate_left
                  ·simp only [Act.put, List.setIfInBounds_toArray, List.set_cons_zero, List.set_cons_succ, i64_w, i32_w]; rfl
                  refine pure_ (i := 1) (N := some 42) (v := ?_) (a' := ?_) q2_ rfl rfl (any_of HT_.out (by kernel_rfl)) (fun _ _ _ h => h) (Or.inl ⟨by rfl, ?_⟩) ?_ ?_
                  rotate_left
                  ·intro w'; go_simp; with_reducible rfl
                  rotate_left
                  ·simp only [Act.put, List.setIfInBounds_toArray, List.set_cons_zero, List.set_cons_succ, i64_w, i32_w]; rfl
                  refine pure_ (i := 2) (N := some 43) (v := ?_) (a' := ?_) q3_ rfl rfl (any_of HT_.out (by kernel_rfl)) (fun _ _ _ h => h) (Or.inl ⟨by rfl, ?_⟩) ?_ ?_
                  rotate_left
                  ·intro w'; go_simp; with_reducible rfl
                  rotate_left
                  ·simp only [Act.put, List.setIfInBounds_toArray, List.set_cons_zero, List.set_cons_succ, i64_w, i32_w]; rfl
                  refine pure_ (i := 3) (N := some 44) (v := ?_) (a' := ?_) q4_ rfl rfl (any_of HT_.out (by kernel_rfl)) (fun _ _ _ h => h) (Or.inl ⟨by rfl, ?_⟩) ?_ ?_
                  rotate_left
                  ·intro w'; go_simp; with_reducible rfl
                  rotate_left
                  ·simp only [Act.put, List.setIfInBounds_toArray, List.set_cons_zero, List.set_cons_succ, i64_w, i32_w]; rfl
                  refine pure_ (i := 4) (N := some 45) (v := ?_) (a' := ?_) q5_ rfl rfl (any_of HT_.out (by kernel_rfl)) (fun _ _ _ h => h) (Or.inl ⟨by rfl, ?_⟩) ?_ ?_
                  rotate_left
                  ·intro w'; go_simp; with_reducible rfl
                  rotate_left
                  ·simp only [Act.put, List.setIfInBounds_toArray, List.set_cons_zero, List.set_cons_succ, i64_w, i32_w]; rfl
                  refine pure_ (i := 5) (N := some 46) (v := ?_) (a' := ?_) q6_ rfl rfl (any_of HT_.out (by kernel_rfl)) (fun _ _ _ h => h) (Or.inl ⟨by rfl, ?_⟩) ?_ ?_
                  rotate_left
                  ·intro w'; go_simp; with_reducible rfl
                  rotate_left
                  ·simp only [Act.put, List.setIfInBounds_toArray, List.set_cons_zero, List.set_cons_succ, i64_w, i32_w]; rfl
                  refine pure_ (i := 6) (N := some 47) (v := ?_) (a' := ?_) q7_ rfl rfl (any_of HT_.out (by kernel_rfl)) (fun _ _ _ h => h) (Or.inl ⟨by rfl, ?_⟩) ?_ ?_
                  rotate_left
                  ·intro w'; go_simp; with_reducible rfl
                  rotate_left
                  ·simp only [Act.put, List.setIfInBounds_toArray, List.set_cons_zero, List.set_cons_succ, i64_w, i32_w]; rfl
                  refine pure_ (i := 7) (N := some 48) (v := ?_) (a' := ?_) q8_ rfl rfl (any_of HT_.out (by kernel_rfl)) (fun _ _ _ h => h) (Or.inl ⟨by rfl, ?_⟩) ?_ ?_
                  rotate_left
                  ·intro w'; go_simp; with_reducible rfl
                  rotate_left
                  ·simp only [Act.put, List.setIfInBounds_toArray, List.set_cons_zero, List.set_cons_succ, i64_w, i32_w]; rfl
                  refine pure_ (i := 9) (N := some 50) (v := ?_) (a' := ?_) q54_ rfl rfl (any_of HT_.out (by kernel_rfl)) (fun _ _ _ h => h) (Or.inl ⟨by rfl, ?_⟩) ?_ ?_
                  rotate_left
                  ·intro w'; go_simp; with_reducible rfl
                  rotate_left
                  ·simp only [Act.put, List.setIfInBounds_toArray, List.set_cons_zero, List.set_cons_succ, i64_w, i32_w]; rfl
                  refine pure_ (i := 10) (N := some 51) (v := ?_) (a' := ?_) q55_ rfl rfl (any_of HT_.out (by kernel_rfl)) (fun _ _ _ h => h) (Or.inl ⟨by rfl, ?_⟩) ?_ ?_
                  rotate_left
                  ·intro w'; go_simp; with_reducible rfl
                  rotate_left
                  ·simp only [Act.put, List.setIfInBounds_toArray, List.set_cons_zero, List.set_cons_succ, i64_w, i32_w]; rfl
                  refine pure_ (i := 11) (N := some 52) (v := ?_) (a' := ?_) q56_ rfl rfl (any_of HT_.out (by kernel_rfl)) (fun _ _ _ h => h) (Or.inl ⟨by rfl, ?_⟩) ?_ ?_
                  rotate_left
                  ·intro w'; go_simp; with_reducible rfl
                  rotate_left
                  ·simp only [Act.put, List.setIfInBounds_toArray, List.set_cons_zero, List.set_cons_succ, i64_w, i32_w]; rfl
                  refine pure_ (i := 12) (N := some 53) (v := ?_) (a' := ?_) q57_ rfl rfl (any_of HT_.out (by kernel_rfl)) (fun _ _ _ h => h) (Or.inl ⟨by rfl, ?_⟩) ?_ ?_
                  rotate_left
                  ·intro w'; go_simp; with_reducible rfl
                  rotate_left
                  ·simp only [Act.put, List.setIfInBounds_toArray, List.set_cons_zero, List.set_cons_succ, i64_w, i32_w]; rfl
                  refine pure_ (i := 13) (N := some 54) (v := ?_) (a' := ?_) q58_ rfl rfl (any_of HT_.out (by kernel_rfl)) (fun _ _ _ h => h) (Or.inl ⟨by rfl, ?_⟩) ?_ ?_
                  rotate_left
                  ·intro w'; go_simp; with_reducible rfl
                  rotate_left
                  ·simp only [Act.put, List.setIfInBounds_toArray, List.set_cons_zero, List.set_cons_succ, i64_w, i32_w]; rfl
                  refine one_ (i := 8) (N := some 49) q14_ rfl rfl (one_of HT_.out (by kernel_rfl)) (by decide) (fun K hK => ?_)
                  refine goes_ Tryd.func14 (by kernel_rfl) rfl #[.string (a0.extract ((ji34) : Int).toNat ((ji39) : Int).toNat)] (by rfl) rfl rfl (by (try simp only [List.map_toArray, List.map_cons, List.map_nil]); first | done | (simp only [hji34, hji39]; rfl) | rfl | (simp only [List.length_drop, List.length_take]; rfl)) ?_
                  with_reducible refine (laws_digits.calls kj3 (a0.extract ((ji34) : Int).toNat ((ji39) : Int).toNat) t106 _ A38.out).mono ?_
                  rintro e w' ⟨rfl, ⟨nd, rfl⟩⟩
                  refine ⟨_, rfl, ?_⟩
                  refine hK.out _ _ trivial (fun hHeld => ?_)
                  clear hK K
                  refine norm_ (a' := ?_) ?_ ?_
                  rotate_left
                  ·show Act.put _ (some 49) _ = _
                   simp only [Act.put, List.setIfInBounds_toArray, List.set_cons_zero, List.set_cons_succ, i64_w, i32_w]
                   rfl
                  refine one_ (i := 14) (N := some 55) q15_ rfl rfl (one_of HT_.out (by kernel_rfl)) (by decide) (fun K hK => ?_)
                  refine goes_ Tryd.func14 (by kernel_rfl) rfl #[.string (a0.extract ((ji39) : Int).toNat ((wrap64 ((ji39) + 1)) : Int).toNat)] (by rfl) rfl rfl (by (try simp only [List.map_toArray, List.map_cons, List.map_nil]); first | done | (simp only [hji39]; rfl) | rfl | (simp only [List.length_drop, List.length_take]; rfl)) ?_
                  with_reducible refine (laws_digits.calls kj3 (a0.extract ((ji39) : Int).toNat ((wrap64 ((ji39) + 1)) : Int).toNat) t107 _ A43.out).mono ?_
                  rintro e w' ⟨rfl, ⟨nd, rfl⟩⟩
                  refine ⟨_, rfl, ?_⟩
                  refine hK.out _ _ trivial (fun hHeld => ?_)
                  clear hK K
                  refine norm_ (a' := ?_) ?_ ?_
                  rotate_left
                  ·show Act.put _ (some 55) _ = _
                   simp only [Act.put, List.setIfInBounds_toArray, List.set_cons_zero, List.set_cons_succ, i64_w, i32_w]
                   rfl
                  refine pure_ (i := 15) (N := some 56) (v := ?_) (a' := ?_) q16_ rfl rfl (any_of HT_.out (by kernel_rfl)) (fun _ _ _ h => h) (Or.inl ⟨by rfl, ?_⟩) ?_ ?_
                  rotate_left
                  ·intro w'; go_simp; with_reducible rfl
                  rotate_left
                  ·simp only [Act.put, List.setIfInBounds_toArray, List.set_cons_zero, List.set_cons_succ, i64_w, i32_w]; rfl
                  refine pure_ (i := 16) (N := some 57) (v := ?_) (a' := ?_) q17_ rfl rfl (any_of HT_.out (by kernel_rfl)) (fun _ _ _ h => h) (Or.inl ⟨by rfl, ?_⟩) ?_ ?_
                  rotate_left
                  ·intro w'; go_simp; with_reducible rfl
                  rotate_left
                  ·simp only [Act.put, List.setIfInBounds_toArray, List.set_cons_zero, List.set_cons_succ, i64_w, i32_w]; rfl
                  refine pure_ (i := 17) (N := some 58) (v := ?_) (a' := ?_) q18_ rfl rfl (any_of HT_.out (by kernel_rfl)) (fun _ _ _ h => h) (Or.inl ⟨by rfl, ?_⟩) ?_ ?_
                  rotate_left
                  ·intro w'; go_simp; with_reducible rfl
                  rotate_left
                  ·simp only [Act.put, List.setIfInBounds_toArray, List.set_cons_zero, List.set_cons_succ, i64_w, i32_w]; rfl
                  refine pure_ (i := 18) (N := some 59) (v := ?_) (a' := ?_) q19_ rfl rfl (any_of HT_.out (by kernel_rfl)) (fun _ _ _ h => h) (Or.inl ⟨by rfl, ?_⟩) ?_ ?_
                  rotate_left
                  ·intro w'; go_simp; with_reducible rfl
                  rotate_left
                  ·simp only [Act.put, List.setIfInBounds_toArray, List.set_cons_zero, List.set_cons_succ, i64_w, i32_w]; rfl
                  refine pure_ (i := 19) (N := some 60) (v := ?_) (a' := ?_) q20_ rfl rfl (any_of HT_.out (by kernel_rfl)) (fun _ _ _ h => h) (Or.inl ⟨by rfl, ?_⟩) ?_ ?_
                  rotate_left
                  ·intro w'; go_simp; with_reducible rfl
                  rotate_left
                  ·simp only [Act.put, List.setIfInBounds_toArray, List.set_cons_zero, List.set_cons_succ, i64_w, i32_w]; rfl
                  refine pure_ (i := 20) (N := some 61) (v := ?_) (a' := ?_) q21_ rfl rfl (any_of HT_.out (by kernel_rfl)) (fun _ _ _ h => h) (Or.inl ⟨by rfl, ?_⟩) ?_ ?_
                  rotate_left
                  ·intro w'; go_simp; with_reducible rfl
                  rotate_left
                  ·simp only [Act.put, List.setIfInBounds_toArray, List.set_cons_zero, List.set_cons_succ, i64_w, i32_w]; rfl
                  refine pure_ (i := 21) (N := some 62) (v := ?_) (a' := ?_) q22_ rfl rfl (any_of HT_.out (by kernel_rfl)) (fun _ _ _ h => h) (Or.inl ⟨by rfl, ?_⟩) ?_ ?_
                  rotate_left
                  ·intro w'; go_simp; with_reducible rfl
                  rotate_left
                  ·simp only [Act.put, List.setIfInBounds_toArray, List.set_cons_zero, List.set_cons_succ, i64_w, i32_w]; rfl
                  refine pure_ (i := 22) (N := some 63) (v := ?_) (a' := ?_) q23_ rfl rfl (any_of HT_.out (by kernel_rfl)) (fun _ _ _ h => h) (Or.inl ⟨by rfl, ?_⟩) ?_ ?_
                  rotate_left
                  ·intro w'; go_simp; with_reducible rfl
                  rotate_left
                  ·simp only [Act.put, List.setIfInBounds_toArray, List.set_cons_zero, List.set_cons_succ, i64_w, i32_w]; rfl
                  refine one_ (i := 23) (N := some 64) q24_ rfl rfl (one_of HT_.out (by kernel_rfl)) (by decide) (fun K hK => ?_)
                  refine goes_ Tryd.func13 (by kernel_rfl) rfl #[.string (a0.extract ((ji39) : Int).toNat ((wrap64 ((ji39) + 1)) : Int).toNat)] (by rfl) rfl rfl (by (try simp only [List.map_toArray, List.map_cons, List.map_nil]); first | done | (simp only [hji39]; rfl) | rfl | (simp only [List.length_drop, List.length_take]; rfl)) ?_
                  with_reducible refine (laws_words.calls kj3 (a0.extract ((ji39) : Int).toNat ((wrap64 ((ji39) + 1)) : Int).toNat) false _ A49.out).mono ?_
                  rintro e w' ⟨rfl, ⟨nd, rfl⟩⟩
                  refine ⟨_, rfl, ?_⟩
                  refine hK.out _ _ trivial (fun hHeld => ?_)
                  clear hK K
                  refine norm_ (a' := ?_) ?_ ?_
                  rotate_left
                  ·show Act.put _ (some 64) _ = _
                   simp only [Act.put, List.setIfInBounds_toArray, List.set_cons_zero, List.set_cons_succ, i64_w, i32_w]
                   rfl
                  refine pure_ (i := 24) (N := some 65) (v := ?_) (a' := ?_) q25_ rfl rfl (any_of HT_.out (by kernel_rfl)) (fun _ _ _ h => h) (Or.inl ⟨by rfl, ?_⟩) ?_ ?_
                  rotate_left
                  ·intro w'; go_simp; with_reducible rfl
                  rotate_left
                  ·simp only [Act.put, List.setIfInBounds_toArray, List.set_cons_zero, List.set_cons_succ, i64_w, i32_w]; rfl
                  refine pure_ (i := 25) (N := some 66) (v := ?_) (a' := ?_) q26_ rfl rfl (any_of HT_.out (by kernel_rfl)) (fun _ _ _ h => h) (Or.inl ⟨by rfl, ?_⟩) ?_ ?_
                  rotate_left
                  ·intro w'; go_simp; with_reducible rfl
                  rotate_left
                  ·simp only [Act.put, List.setIfInBounds_toArray, List.set_cons_zero, List.set_cons_succ, i64_w, i32_w]; rfl
                  refine pure_ (i := 26) (N := some 67) (v := ?_) (a' := ?_) q27_ rfl rfl (any_of HT_.out (by kernel_rfl)) (fun _ _ _ h => h) (Or.inl ⟨by rfl, ?_⟩) ?_ ?_
                  rotate_left
                  ·intro w'; go_simp; with_reducible rfl
                  rotate_left
                  ·simp only [Act.put, List.setIfInBounds_toArray, List.set_cons_zero, List.set_cons_succ, i64_w, i32_w]; rfl
                  refine pure_ (i := 27) (N := some 68) (v := ?_) (a' := ?_) q28_ rfl rfl (any_of HT_.out (by kernel_rfl)) (fun _ _ _ h => h) (Or.inl ⟨by rfl, ?_⟩) ?_ ?_
                  rotate_left
                  ·intro w'; go_simp; with_reducible rfl
                  rotate_left
                  ·simp only [Act.put, List.setIfInBounds_toArray, List.set_cons_zero, List.set_cons_succ, i64_w, i32_w]; rfl
                  refine pure_ (i := 28) (N := some 69) (v := ?_) (a' := ?_) q29_ rfl rfl (any_of HT_.out (by kernel_rfl)) (fun _ _ _ h => h) (Or.inl ⟨by rfl, ?_⟩) ?_ ?_
                  rotate_left
                  ·intro w'; go_simp; with_reducible rfl
                  rotate_left
                  ·simp only [Act.put, List.setIfInBounds_toArray, List.set_cons_zero, List.set_cons_succ, i64_w, i32_w]; rfl
                  refine pure_ (i := 29) (N := some 70) (v := ?_) (a' := ?_) q30_ rfl rfl (any_of HT_.out (by kernel_rfl)) (fun _ _ _ h => h) (Or.inl ⟨by rfl, ?_⟩) ?_ ?_
                  rotate_left
                  ·intro w'; go_simp; with_reducible rfl
                  rotate_left
                  ·simp only [Act.put, List.setIfInBounds_toArray, List.set_cons_zero, List.set_cons_succ, i64_w, i32_w]; rfl
                  refine pure_ (i := 30) (N := some 71) (v := ?_) (a' := ?_) q31_ rfl rfl (any_of HT_.out (by kernel_rfl)) (fun _ _ _ h => h) (Or.inl ⟨by rfl, ?_⟩) ?_ ?_
                  rotate_left
                  ·intro w'; go_simp; with_reducible rfl
                  rotate_left
                  ·simp only [Act.put, List.setIfInBounds_toArray, List.set_cons_zero, List.set_cons_succ, i64_w, i32_w]; rfl
                  refine one_ (i := 31) (N := some 72) q32_ rfl rfl (one_of HT_.out (by kernel_rfl)) (by decide) (fun K hK => ?_)
                  refine goes_ Tryd.func14 (by kernel_rfl) rfl #[.string (a0.extract ((ji39) : Int).toNat ((wrap64 ((ji39) + 1)) : Int).toNat)] (by rfl) rfl rfl (by (try simp only [List.map_toArray, List.map_cons, List.map_nil]); first | done | (simp only [hji39]; rfl) | rfl | (simp only [List.length_drop, List.length_take]; rfl)) ?_
                  with_reducible refine (laws_digits.calls kj3 (a0.extract ((ji39) : Int).toNat ((wrap64 ((ji39) + 1)) : Int).toNat) true _ A65.out).mono ?_
                  rintro e w' ⟨rfl, ⟨nd, rfl⟩⟩
                  refine ⟨_, rfl, ?_⟩
                  refine hK.out _ _ trivial (fun hHeld => ?_)
                  clear hK K
                  refine norm_ (a' := ?_) ?_ ?_
                  rotate_left
                  ·show Act.put _ (some 72) _ = _
                   simp only [Act.put, List.setIfInBounds_toArray, List.set_cons_zero, List.set_cons_succ, i64_w, i32_w]
                   rfl
                  refine pure_ (i := 32) (N := some 73) (v := ?_) (a' := ?_) q33_ rfl rfl (any_of HT_.out (by kernel_rfl)) (fun _ _ _ h => h) (Or.inl ⟨by rfl, ?_⟩) ?_ ?_
                  rotate_left
                  ·intro w'; go_simp; with_reducible rfl
                  rotate_left
                  ·simp only [Act.put, List.setIfInBounds_toArray, List.set_cons_zero, List.set_cons_succ, i64_w, i32_w]; rfl
                  refine pure_ (i := 33) (N := some 74) (v := ?_) (a' := ?_) q34_ rfl rfl (any_of HT_.out (by kernel_rfl)) (fun _ _ _ h => h) (Or.inl ⟨by rfl, ?_⟩) ?_ ?_
                  rotate_left
                  ·intro w'; go_simp; with_reducible rfl
                  rotate_left
                  ·simp only [Act.put, List.setIfInBounds_toArray, List.set_cons_zero, List.set_cons_succ, i64_w, i32_w]; rfl
                  refine pure_ (i := 34) (N := some 75) (v := ?_) (a' := ?_) q35_ rfl rfl (any_of HT_.out (by kernel_rfl)) (fun _ _ _ h => h) (Or.inl ⟨by rfl, ?_⟩) ?_ ?_
                  rotate_left
                  ·intro w'; go_simp; with_reducible rfl
                  rotate_left
                  ·simp only [Act.put, List.setIfInBounds_toArray, List.set_cons_zero, List.set_cons_succ, i64_w, i32_w]; rfl
                  refine pure_ (i := 35) (N := some 76) (v := ?_) (a' := ?_) q36_ rfl rfl (any_of HT_.out (by kernel_rfl)) (fun _ _ _ h => h) (Or.inl ⟨by rfl, ?_⟩) ?_ ?_
                  rotate_left
                  ·intro w'; go_simp; with_reducible rfl
                  rotate_left
                  ·simp only [Act.put, List.setIfInBounds_toArray, List.set_cons_zero, List.set_cons_succ, i64_w, i32_w]; rfl
                  refine pure_ (i := 36) (N := some 77) (v := ?_) (a' := ?_) q37_ rfl rfl (any_of HT_.out (by kernel_rfl)) (fun _ _ _ h => h) (Or.inl ⟨by rfl, ?_⟩) ?_ ?_
                  rotate_left
                  ·intro w'; go_simp; with_reducible rfl
                  rotate_left
                  ·simp only [Act.put, List.setIfInBounds_toArray, List.set_cons_zero, List.set_cons_succ, i64_w, i32_w]; rfl
                  refine pure_ (i := 37) (N := some 78) (v := ?_) (a' := ?_) q38_ rfl rfl (any_of HT_.out (by kernel_rfl)) (fun _ _ _ h => h) (Or.inl ⟨by rfl, ?_⟩) ?_ ?_
                  rotate_left
                  ·intro w'; go_simp; with_reducible rfl
                  rotate_left
                  ·simp only [Act.put, List.setIfInBounds_toArray, List.set_cons_zero, List.set_cons_succ, i64_w, i32_w]; rfl
                  refine pure_ (i := 38) (N := some 79) (v := ?_) (a' := ?_) q39_ rfl rfl (any_of HT_.out (by kernel_rfl)) (fun _ _ _ h => h) (Or.inl ⟨by rfl, ?_⟩) ?_ ?_
                  rotate_left
                  ·intro w'; go_simp; with_reducible rfl
                  rotate_left
                  ·simp only [Act.put, List.setIfInBounds_toArray, List.set_cons_zero, List.set_cons_succ, i64_w, i32_w]; rfl
                  refine pure_ (i := 39) (N := some 80) (v := ?_) (a' := ?_) q40_ rfl rfl (any_of HT_.out (by kernel_rfl)) (fun _ _ _ h => h) (Or.inl ⟨by rfl, ?_⟩) ?_ ?_
                  rotate_left
                  ·intro w'; go_simp; with_reducible rfl
                  rotate_left
                  ·simp only [Act.put, List.setIfInBounds_toArray, List.set_cons_zero, List.set_cons_succ, i64_w, i32_w]; rfl
                  refine pure_ (i := 40) (N := some 81) (v := ?_) (a' := ?_) q41_ rfl rfl (any_of HT_.out (by kernel_rfl)) (fun _ _ _ h => h) (Or.inl ⟨by rfl, ?_⟩) ?_ ?_
                  rotate_left
                  ·intro w'; go_simp; with_reducible rfl
                  rotate_left
                  ·simp only [Act.put, List.setIfInBounds_toArray, List.set_cons_zero, List.set_cons_succ, i64_w, i32_w]; rfl
                  refine one_ (i := 41) (N := some 82) q42_ rfl rfl (one_of HT_.out (by kernel_rfl)) (by decide) (fun K hK => ?_)
                  refine goes_ Tryd.func13 (by kernel_rfl) rfl #[.string (a0.extract ((ji34) : Int).toNat ((ji39) : Int).toNat)] (by rfl) rfl rfl (by (try simp only [List.map_toArray, List.map_cons, List.map_nil]); first | done | (simp only [hji34, hji39]; rfl) | rfl | (simp only [List.length_drop, List.length_take]; rfl)) ?_
                  with_reducible refine (laws_words.calls kj3 (a0.extract ((ji34) : Int).toNat ((ji39) : Int).toNat) true _ A70.out).mono ?_
                  rintro e w' ⟨rfl, ⟨nd, rfl⟩⟩
                  refine ⟨_, rfl, ?_⟩
                  refine hK.out _ _ trivial (fun hHeld => ?_)
                  clear hK K
                  refine norm_ (a' := ?_) ?_ ?_
                  rotate_left
                  ·show Act.put _ (some 82) _ = _
                   simp only [Act.put, List.setIfInBounds_toArray, List.set_cons_zero, List.set_cons_succ, i64_w, i32_w]
                   rfl
                  refine pure_ (i := 42) (N := some 83) (v := ?_) (a' := ?_) q43_ rfl rfl (any_of HT_.out (by kernel_rfl)) (fun _ _ _ h => h) (Or.inl ⟨by rfl, ?_⟩) ?_ ?_
                  rotate_left
                  ·intro w'; go_simp; with_reducible rfl
                  rotate_left
                  ·simp only [Act.put, List.setIfInBounds_toArray, List.set_cons_zero, List.set_cons_succ, i64_w, i32_w]; rfl
                  refine pure_ (i := 43) (N := some 84) (v := ?_) (a' := ?_) q44_ rfl rfl (any_of HT_.out (by kernel_rfl)) (fun _ _ _ h => h) (Or.inl ⟨by rfl, ?_⟩) ?_ ?_
                  rotate_left
                  ·intro w'; go_simp; with_reducible rfl
                  rotate_left
                  ·simp only [Act.put, List.setIfInBounds_toArray, List.set_cons_zero, List.set_cons_succ, i64_w, i32_w]; rfl
                  refine pure_ (i := 44) (N := some 85) (v := undef) (a' := ?_) q45_ rfl rfl (any_of HT_.out (by kernel_rfl)) (fun _ _ _ h => h) (Or.inr ⟨by rfl, rfl⟩) ?_ ?_
                  rotate_left
                  ·simp only [Act.put, List.setIfInBounds_toArray, List.set_cons_zero, List.set_cons_succ, i64_w, i32_w]; rfl
                  refine pure_ (i := 45) (N := some 86) (v := undef) (a' := ?_) q46_ rfl rfl (any_of HT_.out (by kernel_rfl)) (fun _ _ _ h => h) (Or.inr ⟨by rfl, rfl⟩) ?_ ?_
                  rotate_left
                  ·simp only [Act.put, List.setIfInBounds_toArray, List.set_cons_zero, List.set_cons_succ, i64_w, i32_w]; rfl
                  refine pure_ (i := 46) (N := some 87) (v := undef) (a' := ?_) q47_ rfl rfl (any_of HT_.out (by kernel_rfl)) (fun _ _ _ h => h) (Or.inr ⟨by rfl, rfl⟩) ?_ ?_
                  rotate_left
                  ·simp only [Act.put, List.setIfInBounds_toArray, List.set_cons_zero, List.set_cons_succ, i64_w, i32_w]; rfl
                  refine pure_ (i := 47) (N := some 88) (v := undef) (a' := ?_) q48_ rfl rfl (any_of HT_.out (by kernel_rfl)) (fun _ _ _ h => h) (Or.inr ⟨by rfl, rfl⟩) ?_ ?_
                  rotate_left
                  ·simp only [Act.put, List.setIfInBounds_toArray, List.set_cons_zero, List.set_cons_succ, i64_w, i32_w]; rfl
                  refine pure_ (i := 48) (N := some 89) (v := undef) (a' := ?_) q49_ rfl rfl (any_of HT_.out (by kernel_rfl)) (fun _ _ _ h => h) (Or.inr ⟨by rfl, rfl⟩) ?_ ?_
                  rotate_left
                  ·simp only [Act.put, List.setIfInBounds_toArray, List.set_cons_zero, List.set_cons_succ, i64_w, i32_w]; rfl
                  refine pure_ (i := 49) (N := some 90) (v := undef) (a' := ?_) q50_ rfl rfl (any_of HT_.out (by kernel_rfl)) (fun _ _ _ h => h) (Or.inr ⟨by rfl, rfl⟩) ?_ ?_
                  rotate_left
                  ·simp only [Act.put, List.setIfInBounds_toArray, List.set_cons_zero, List.set_cons_succ, i64_w, i32_w]; rfl
                  refine pure_ (i := 50) (N := some 91) (v := undef) (a' := ?_) q51_ rfl rfl (any_of HT_.out (by kernel_rfl)) (fun _ _ _ h => h) (Or.inr ⟨by rfl, rfl⟩) ?_ ?_
                  rotate_left
                  ·simp only [Act.put, List.setIfInBounds_toArray, List.set_cons_zero, List.set_cons_succ, i64_w, i32_w]; rfl
                  refine pure_ (i := 51) (N := some 92) (v := ?_) (a' := ?_) q52_ rfl rfl (any_of HT_.out (by kernel_rfl)) (fun _ _ _ h => h) (Or.inl ⟨by rfl, ?_⟩) ?_ ?_
                  rotate_left
                  ·intro w'; go_simp; with_reducible rfl
                  rotate_left
                  ·simp only [Act.put, List.setIfInBounds_toArray, List.set_cons_zero, List.set_cons_succ, i64_w, i32_w]; rfl
                  refine pure_ (i := 52) (N := some 93) (v := ?_) (a' := ?_) q53_ rfl rfl (any_of HT_.out (by kernel_rfl)) (fun _ _ _ h => h) (Or.inl ⟨by rfl, ?_⟩) ?_ ?_
                  rotate_left
                  ·intro w'; go_simp; with_reducible rfl
                  rotate_left
                  ·simp only [Act.put, List.setIfInBounds_toArray, List.set_cons_zero, List.set_cons_succ, i64_w, i32_w]; rfl
                  refine done_ (done_of HT_.out (by kernel_rfl)) ?_
                  try go_wp2
                  go_meet
                  case rel => exact ⟨_, (false), (by first | rfl | (simp; done) | (simp [*]; done) | (simp [bne_nil_hyb]; done) | (simp [bne_nil_hyb, *]; done)), (by first | exact H' | (rw [hji34]; exact H') | (rw [hji39]; exact H') | (rw [hji80]; exact H')), ⟨by have := HJ3.out; first | omega | exact Nat.le_refl _⟩, ⟨by repeat (first | (with_reducible first | exact HB.out | apply below_alloc | apply pw_below_drewN | apply below_drew1) | exact HB.out)⟩⟩
                 ·replace c71 := Bool.eq_false_iff.mpr c71
                  subst c71
                  have H1 : ((laws_digits.f kj3 (a0.extract ((ji34) : Int).toNat ((ji39) : Int).toNat)).bind fun t113 => (laws_FnPackagistPoints.j1 kj3 a0 ji39 (!t113))) = some r := by rw [if_neg (show ¬ (false = true) by decide)] at H; exact H
                  clear H
                  have H := H1
                  clear H1
                  have c73b0 := eq_true (of_decide_eq_true (by first | (with_reducible assumption) | assumption) : 0 ≤ (ji34))
                  have c74b0 := eq_true (of_decide_eq_true (by first | (with_reducible assumption) | assumption) : (ji34) ≤ (ji39))
                  have c75b0 := eq_true (of_decide_eq_true (by first | (with_reducible assumption) | assumption) : (ji39) ≤ (a0.size : Int))
                  replace H := Option.bind_eq_some_iff.mp H
                  obtain ⟨t113, A760, H⟩ := H
                  replace H : (laws_FnPackagistPoints.j1 kj3 a0 ji39 (!t113)) = some r := H
                  have A76 := Aside0.mk A760
                  clear A760
                  have H' := Aside0.mk H
                  clear H
                  try go_wp2
                  have n0_ := Aside0.mk (below_drew1 HB.out)
                  clear HB
                  have HB := n0_
                  clear n0_
                  refine start_ (n := 53) (S := fun w' => True) (ds := []) q0_ (by kernel_rfl) rfl rfl trivial (fun hHeld => ?_); refine with_tabW laws_FnPackagistPoints.tab6 laws_FnPackagistPoints.bits6 (fun HT_ HW_ => ?_)
                  generalize wc.drew = w77 at HB hHeld ⊢
                  refine pure_ (i := 0) (N := some 41) (v := ?_) (a' := ?_) q1_ rfl rfl (any_of HT_.out (by kernel_rfl)) (fun _ _ _ h => h) (Or.inl ⟨by rfl, ?_⟩) ?_ ?_
                  rotate_left
                  ·intro w'; go_simp; with_reducible rfl
                  rotate_left
                  ·simp only [Act.put, List.setIfInBounds_toArray, List.set_cons_zero, List.set_cons_succ, i64_w, i32_w]; rfl
                  refine pure_ (i := 1) (N := some 42) (v := ?_) (a' := ?_) q2_ rfl rfl (any_of HT_.out (by kernel_rfl)) (fun _ _ _ h => h) (Or.inl ⟨by rfl, ?_⟩) ?_ ?_
                  rotate_left
                  ·intro w'; go_simp; with_reducible rfl
                  rotate_left
                  ·simp only [Act.put, List.setIfInBounds_toArray, List.set_cons_zero, List.set_cons_succ, i64_w, i32_w]; rfl
                  refine pure_ (i := 2) (N := some 43) (v := ?_) (a' := ?_) q3_ rfl rfl (any_of HT_.out (by kernel_rfl)) (fun _ _ _ h => h) (Or.inl ⟨by rfl, ?_⟩) ?_ ?_
                  rotate_left
                  ·intro w'; go_simp; with_reducible rfl
                  rotate_left
                  ·simp only [Act.put, List.setIfInBounds_toArray, List.set_cons_zero, List.set_cons_succ, i64_w, i32_w]; rfl
                  refine pure_ (i := 3) (N := some 44) (v := ?_) (a' := ?_) q4_ rfl rfl (any_of HT_.out (by kernel_rfl)) (fun _ _ _ h => h) (Or.inl ⟨by rfl, ?_⟩) ?_ ?_
                  rotate_left
                  ·intro w'; go_simp; with_reducible rfl
                  rotate_left
                  ·simp only [Act.put, List.setIfInBounds_toArray, List.set_cons_zero, List.set_cons_succ, i64_w, i32_w]; rfl
                  refine pure_ (i := 4) (N := some 45) (v := ?_) (a' := ?_) q5_ rfl rfl (any_of HT_.out (by kernel_rfl)) (fun _ _ _ h => h) (Or.inl ⟨by rfl, ?_⟩) ?_ ?_
                  rotate_left
                  ·intro w'; go_simp; with_reducible rfl
                  rotate_left
                  ·simp only [Act.put, List.setIfInBounds_toArray, List.set_cons_zero, List.set_cons_succ, i64_w, i32_w]; rfl
                  refine pure_ (i := 5) (N := some 46) (v := ?_) (a' := ?_) q6_ rfl rfl (any_of HT_.out (by kernel_rfl)) (fun _ _ _ h => h) (Or.inl ⟨by rfl, ?_⟩) ?_ ?_
                  rotate_left
                  ·intro w'; go_simp; with_reducible rfl
                  rotate_left
                  ·simp only [Act.put, List.setIfInBounds_toArray, List.set_cons_zero, List.set_cons_succ, i64_w, i32_w]; rfl
                  refine pure_ (i := 6) (N := some 47) (v := ?_) (a' := ?_) q7_ rfl rfl (any_of HT_.out (by kernel_rfl)) (fun _ _ _ h => h) (Or.inl ⟨by rfl, ?_⟩) ?_ ?_
                  rotate_left
                  ·intro w'; go_simp; with_reducible rfl
                  rotate_left
                  ·simp only [Act.put, List.setIfInBounds_toArray, List.set_cons_zero, List.set_cons_succ, i64_w, i32_w]; rfl
                  refine pure_ (i := 7) (N := some 48) (v := ?_) (a' := ?_) q8_ rfl rfl (any_of HT_.out (by kernel_rfl)) (fun _ _ _ h => h) (Or.inl ⟨by rfl, ?_⟩) ?_ ?_
                  rotate_left
                  ·intro w'; go_simp; with_reducible rfl
                  rotate_left
                  ·simp only [Act.put, List.setIfInBounds_toArray, List.set_cons_zero, List.set_cons_succ, i64_w, i32_w]; rfl
                  refine pure_ (i := 9) (N := some 50) (v := ?_) (a' := ?_) q54_ rfl rfl (any_of HT_.out (by kernel_rfl)) (fun _ _ _ h => h) (Or.inl ⟨by rfl, ?_⟩) ?_ ?_
                  rotate_left
                  ·intro w'; go_simp; with_reducible rfl
                  rotate_left
                  ·simp only [Act.put, List.setIfInBounds_toArray, List.set_cons_zero, List.set_cons_succ, i64_w, i32_w]; rfl
                  refine pure_ (i := 10) (N := some 51) (v := ?_) (a' := ?_) q55_ rfl rfl (any_of HT_.out (by kernel_rfl)) (fun _ _ _ h => h) (Or.inl ⟨by rfl, ?_⟩) ?_ ?_
                  rotate_left
                  ·intro w'; go_simp; with_reducible rfl
                  rotate_left
                  ·simp only [Act.put, List.setIfInBounds_toArray, List.set_cons_zero, List.set_cons_succ, i64_w, i32_w]; rfl
                  refine pure_ (i := 11) (N := some 52) (v := ?_) (a' := ?_) q56_ rfl rfl (any_of HT_.out (by kernel_rfl)) (fun _ _ _ h => h) (Or.inl ⟨by rfl, ?_⟩) ?_ ?_
                  rotate_left
                  ·intro w'; go_simp; with_reducible rfl
                  rotate_left
                  ·simp only [Act.put, List.setIfInBounds_toArray, List.set_cons_zero, List.set_cons_succ, i64_w, i32_w]; rfl
                  refine pure_ (i := 12) (N := some 53) (v := ?_) (a' := ?_) q57_ rfl rfl (any_of HT_.out (by kernel_rfl)) (fun _ _ _ h => h) (Or.inl ⟨by rfl, ?_⟩) ?_ ?_
                  rotate_left
                  ·intro w'; go_simp; with_reducible rfl
                  rotate_left
                  ·simp only [Act.put, List.setIfInBounds_toArray, List.set_cons_zero, List.set_cons_succ, i64_w, i32_w]; rfl
                  refine pure_ (i := 13) (N := some 54) (v := ?_) (a' := ?_) q58_ rfl rfl (any_of HT_.out (by kernel_rfl)) (fun _ _ _ h => h) (Or.inl ⟨by rfl, ?_⟩) ?_ ?_
                  rotate_left
                  ·intro w'; go_simp; with_reducible rfl
                  rotate_left
                  ·simp only [Act.put, List.setIfInBounds_toArray, List.set_cons_zero, List.set_cons_succ, i64_w, i32_w]; rfl
                  refine one_ (i := 8) (N := some 49) q14_ rfl rfl (one_of HT_.out (by kernel_rfl)) (by decide) (fun K hK => ?_)
                  refine goes_ Tryd.func14 (by kernel_rfl) rfl #[.string (a0.extract ((ji34) : Int).toNat ((ji39) : Int).toNat)] (by rfl) rfl rfl (by (try simp only [List.map_toArray, List.map_cons, List.map_nil]); first | done | (simp only [hji34, hji39]; rfl) | rfl | (simp only [List.length_drop, List.length_take]; rfl)) ?_
                  with_reducible refine (laws_digits.calls kj3 (a0.extract ((ji34) : Int).toNat ((ji39) : Int).toNat) t106 _ A38.out).mono ?_
                  rintro e w' ⟨rfl, ⟨nd, rfl⟩⟩
                  refine ⟨_, rfl, ?_⟩
                  refine hK.out _ _ trivial (fun hHeld => ?_)
                  clear hK K
                  refine norm_ (a' := ?_) ?_ ?_
                  rotate_left
                  ·show Act.put _ (some 49) _ = _
                   simp only [Act.put, List.setIfInBounds_toArray, List.set_cons_zero, List.set_cons_succ, i64_w, i32_w]
                   rfl
                  refine one_ (i := 14) (N := some 55) q15_ rfl rfl (one_of HT_.out (by kernel_rfl)) (by decide) (fun K hK => ?_)
                  refine goes_ Tryd.func14 (by kernel_rfl) rfl #[.string (a0.extract ((ji39) : Int).toNat ((wrap64 ((ji39) + 1)) : Int).toNat)] (by rfl) rfl rfl (by (try simp only [List.map_toArray, List.map_cons, List.map_nil]); first | done | (simp only [hji39]; rfl) | rfl | (simp only [List.length_drop, List.length_take]; rfl)) ?_
                  with_reducible refine (laws_digits.calls kj3 (a0.extract ((ji39) : Int).toNat ((wrap64 ((ji39) + 1)) : Int).toNat) t107 _ A43.out).mono ?_
                  rintro e w' ⟨rfl, ⟨nd, rfl⟩⟩
                  refine ⟨_, rfl, ?_⟩
                  refine hK.out _ _ trivial (fun hHeld => ?_)
                  clear hK K
                  refine norm_ (a' := ?_) ?_ ?_
                  rotate_left
                  ·show Act.put _ (some 55) _ = _
                   simp only [Act.put, List.setIfInBounds_toArray, List.set_cons_zero, List.set_cons_succ, i64_w, i32_w]
                   rfl
                  refine pure_ (i := 15) (N := some 56) (v := ?_) (a' := ?_) q16_ rfl rfl (any_of HT_.out (by kernel_rfl)) (fun _ _ _ h => h) (Or.inl ⟨by rfl, ?_⟩) ?_ ?_
                  rotate_left
                  ·intro w'; go_simp; with_reducible rfl
                  rotate_left
                  ·simp only [Act.put, List.setIfInBounds_toArray, List.set_cons_zero, List.set_cons_succ, i64_w, i32_w]; rfl
                  refine pure_ (i := 16) (N := some 57) (v := ?_) (a' := ?_) q17_ rfl rfl (any_of HT_.out (by kernel_rfl)) (fun _ _ _ h => h) (Or.inl ⟨by rfl, ?_⟩) ?_ ?_
                  rotate_left
                  ·intro w'; go_simp; with_reducible rfl
                  rotate_left
                  ·simp only [Act.put, List.setIfInBounds_toArray, List.set_cons_zero, List.set_cons_succ, i64_w, i32_w]; rfl
                  refine pure_ (i := 17) (N := some 58) (v := ?_) (a' := ?_) q18_ rfl rfl (any_of HT_.out (by kernel_rfl)) (fun _ _ _ h => h) (Or.inl ⟨by rfl, ?_⟩) ?_ ?_
                  rotate_left
                  ·intro w'; go_simp; with_reducible rfl
                  rotate_left
                  ·simp only [Act.put, List.setIfInBounds_toArray, List.set_cons_zero, List.set_cons_succ, i64_w, i32_w]; rfl
                  refine pure_ (i := 18) (N := some 59) (v := ?_) (a' := ?_) q19_ rfl rfl (any_of HT_.out (by kernel_rfl)) (fun _ _ _ h => h) (Or.inl ⟨by rfl, ?_⟩) ?_ ?_
                  rotate_left
                  ·intro w'; go_simp; with_reducible rfl
                  rotate_left
                  ·simp only [Act.put, List.setIfInBounds_toArray, List.set_cons_zero, List.set_cons_succ, i64_w, i32_w]; rfl
                  refine pure_ (i := 19) (N := some 60) (v := ?_) (a' := ?_) q20_ rfl rfl (any_of HT_.out (by kernel_rfl)) (fun _ _ _ h => h) (Or.inl ⟨by rfl, ?_⟩) ?_ ?_
                  rotate_left
                  ·intro w'; go_simp; with_reducible rfl
                  rotate_left
                  ·simp only [Act.put, List.setIfInBounds_toArray, List.set_cons_zero, List.set_cons_succ, i64_w, i32_w]; rfl
                  refine pure_ (i := 20) (N := some 61) (v := ?_) (a' := ?_) q21_ rfl rfl (any_of HT_.out (by kernel_rfl)) (fun _ _ _ h => h) (Or.inl ⟨by rfl, ?_⟩) ?_ ?_
                  rotate_left
                  ·intro w'; go_simp; with_reducible rfl
                  rotate_left
                  ·simp only [Act.put, List.setIfInBounds_toArray, List.set_cons_zero, List.set_cons_succ, i64_w, i32_w]; rfl
                  refine pure_ (i := 21) (N := some 62) (v := ?_) (a' := ?_) q22_ rfl rfl (any_of HT_.out (by kernel_rfl)) (fun _ _ _ h => h) (Or.inl ⟨by rfl, ?_⟩) ?_ ?_
                  rotate_left
                  ·intro w'; go_simp; with_reducible rfl
                  rotate_left
                  ·simp only [Act.put, List.setIfInBounds_toArray, List.set_cons_zero, List.set_cons_succ, i64_w, i32_w]; rfl
                  refine pure_ (i := 22) (N := some 63) (v := ?_) (a' := ?_) q23_ rfl rfl (any_of HT_.out (by kernel_rfl)) (fun _ _ _ h => h) (Or.inl ⟨by rfl, ?_⟩) ?_ ?_
                  rotate_left
                  ·intro w'; go_simp; with_reducible rfl
                  rotate_left
                  ·simp only [Act.put, List.setIfInBounds_toArray, List.set_cons_zero, List.set_cons_succ, i64_w, i32_w]; rfl
                  refine one_ (i := 23) (N := some 64) q24_ rfl rfl (one_of HT_.out (by kernel_rfl)) (by decide) (fun K hK => ?_)
                  refine goes_ Tryd.func13 (by kernel_rfl) rfl #[.string (a0.extract ((ji39) : Int).toNat ((wrap64 ((ji39) + 1)) : Int).toNat)] (by rfl) rfl rfl (by (try simp only [List.map_toArray, List.map_cons, List.map_nil]); first | done | (simp only [hji39]; rfl) | rfl | (simp only [List.length_drop, List.length_take]; rfl)) ?_
                  with_reducible refine (laws_words.calls kj3 (a0.extract ((ji39) : Int).toNat ((wrap64 ((ji39) + 1)) : Int).toNat) false _ A49.out).mono ?_
                  rintro e w' ⟨rfl, ⟨nd, rfl⟩⟩
                  refine ⟨_, rfl, ?_⟩
                  refine hK.out _ _ trivial (fun hHeld => ?_)
                  clear hK K
                  refine norm_ (a' := ?_) ?_ ?_
                  rotate_left
                  ·show Act.put _ (some 64) _ = _
                   simp only [Act.put, List.setIfInBounds_toArray, List.set_cons_zero, List.set_cons_succ, i64_w, i32_w]
                   rfl
                  refine pure_ (i := 24) (N := some 65) (v := ?_) (a' := ?_) q25_ rfl rfl (any_of HT_.out (by kernel_rfl)) (fun _ _ _ h => h) (Or.inl ⟨by rfl, ?_⟩) ?_ ?_
                  rotate_left
                  ·intro w'; go_simp; with_reducible rfl
                  rotate_left
                  ·simp only [Act.put, List.setIfInBounds_toArray, List.set_cons_zero, List.set_cons_succ, i64_w, i32_w]; rfl
                  refine pure_ (i := 25) (N := some 66) (v := ?_) (a' := ?_) q26_ rfl rfl (any_of HT_.out (by kernel_rfl)) (fun _ _ _ h => h) (Or.inl ⟨by rfl, ?_⟩) ?_ ?_
                  rotate_left
                  ·intro w'; go_simp; with_reducible rfl
                  rotate_left
                  ·simp only [Act.put, List.setIfInBounds_toArray, List.set_cons_zero, List.set_cons_succ, i64_w, i32_w]; rfl
                  refine pure_ (i := 26) (N := some 67) (v := ?_) (a' := ?_) q27_ rfl rfl (any_of HT_.out (by kernel_rfl)) (fun _ _ _ h => h) (Or.inl ⟨by rfl, ?_⟩) ?_ ?_
                  rotate_left
                  ·intro w'; go_simp; with_reducible rfl
                  rotate_left
                  ·simp only [Act.put, List.setIfInBounds_toArray, List.set_cons_zero, List.set_cons_succ, i64_w, i32_w]; rfl
                  refine pure_ (i := 27) (N := some 68) (v := ?_) (a' := ?_) q28_ rfl rfl (any_of HT_.out (by kernel_rfl)) (fun _ _ _ h => h) (Or.inl ⟨by rfl, ?_⟩) ?_ ?_
                  rotate_left
                  ·intro w'; go_simp; with_reducible rfl
                  rotate_left
                  ·simp only [Act.put, List.setIfInBounds_toArray, List.set_cons_zero, List.set_cons_succ, i64_w, i32_w]; rfl
                  refine pure_ (i := 28) (N := some 69) (v := ?_) (a' := ?_) q29_ rfl rfl (any_of HT_.out (by kernel_rfl)) (fun _ _ _ h => h) (Or.inl ⟨by rfl, ?_⟩) ?_ ?_
                  rotate_left
                  ·intro w'; go_simp; with_reducible rfl
                  rotate_left
                  ·simp only [Act.put, List.setIfInBounds_toArray, List.set_cons_zero, List.set_cons_succ, i64_w, i32_w]; rfl
                  refine pure_ (i := 29) (N := some 70) (v := ?_) (a' := ?_) q30_ rfl rfl (any_of HT_.out (by kernel_rfl)) (fun _ _ _ h => h) (Or.inl ⟨by rfl, ?_⟩) ?_ ?_
                  rotate_left
                  ·intro w'; go_simp; with_reducible rfl
                  rotate_left
                  ·simp only [Act.put, List.setIfInBounds_toArray, List.set_cons_zero, List.set_cons_succ, i64_w, i32_w]; rfl
                  refine pure_ (i := 30) (N := some 71) (v := ?_) (a' := ?_) q31_ rfl rfl (any_of HT_.out (by kernel_rfl)) (fun _ _ _ h => h) (Or.inl ⟨by rfl, ?_⟩) ?_ ?_
                  rotate_left
                  ·intro w'; go_simp; with_reducible rfl
                  rotate_left
                  ·simp only [Act.put, List.setIfInBounds_toArray, List.set_cons_zero, List.set_cons_succ, i64_w, i32_w]; rfl
                  refine one_ (i := 31) (N := some 72) q32_ rfl rfl (one_of HT_.out (by kernel_rfl)) (by decide) (fun K hK => ?_)
                  refine goes_ Tryd.func14 (by kernel_rfl) rfl #[.string (a0.extract ((ji39) : Int).toNat ((wrap64 ((ji39) + 1)) : Int).toNat)] (by rfl) rfl rfl (by (try simp only [List.map_toArray, List.map_cons, List.map_nil]); first | done | (simp only [hji39]; rfl) | rfl | (simp only [List.length_drop, List.length_take]; rfl)) ?_
                  with_reducible refine (laws_digits.calls kj3 (a0.extract ((ji39) : Int).toNat ((wrap64 ((ji39) + 1)) : Int).toNat) true _ A65.out).mono ?_
                  rintro e w' ⟨rfl, ⟨nd, rfl⟩⟩
                  refine ⟨_, rfl, ?_⟩
                  refine hK.out _ _ trivial (fun hHeld => ?_)
                  clear hK K
                  refine norm_ (a' := ?_) ?_ ?_
                  rotate_left
                  ·show Act.put _ (some 72) _ = _
                   simp only [Act.put, List.setIfInBounds_toArray, List.set_cons_zero, List.set_cons_succ, i64_w, i32_w]
                   rfl
                  refine pure_ (i := 32) (N := some 73) (v := ?_) (a' := ?_) q33_ rfl rfl (any_of HT_.out (by kernel_rfl)) (fun _ _ _ h => h) (Or.inl ⟨by rfl, ?_⟩) ?_ ?_
                  rotate_left
                  ·intro w'; go_simp; with_reducible rfl
                  rotate_left
                  ·simp only [Act.put, List.setIfInBounds_toArray, List.set_cons_zero, List.set_cons_succ, i64_w, i32_w]; rfl
                  refine pure_ (i := 33) (N := some 74) (v := ?_) (a' := ?_) q34_ rfl rfl (any_of HT_.out (by kernel_rfl)) (fun _ _ _ h => h) (Or.inl ⟨by rfl, ?_⟩) ?_ ?_
                  rotate_left
                  ·intro w'; go_simp; with_reducible rfl
                  rotate_left
                  ·simp only [Act.put, List.setIfInBounds_toArray, List.set_cons_zero, List.set_cons_succ, i64_w, i32_w]; rfl
                  refine pure_ (i := 34) (N := some 75) (v := ?_) (a' := ?_) q35_ rfl rfl (any_of HT_.out (by kernel_rfl)) (fun _ _ _ h => h) (Or.inl ⟨by rfl, ?_⟩) ?_ ?_
                  rotate_left
                  ·intro w'; go_simp; with_reducible rfl
                  rotate_left
                  ·simp only [Act.put, List.setIfInBounds_toArray, List.set_cons_zero, List.set_cons_succ, i64_w, i32_w]; rfl
                  refine pure_ (i := 35) (N := some 76) (v := ?_) (a' := ?_) q36_ rfl rfl (any_of HT_.out (by kernel_rfl)) (fun _ _ _ h => h) (Or.inl ⟨by rfl, ?_⟩) ?_ ?_
                  rotate_left
                  ·intro w'; go_simp; with_reducible rfl
                  rotate_left
                  ·simp only [Act.put, List.setIfInBounds_toArray, List.set_cons_zero, List.set_cons_succ, i64_w, i32_w]; rfl
                  refine pure_ (i := 36) (N := some 77) (v := ?_) (a' := ?_) q37_ rfl rfl (any_of HT_.out (by kernel_rfl)) (fun _ _ _ h => h) (Or.inl ⟨by rfl, ?_⟩) ?_ ?_
                  rotate_left
                  ·intro w'; go_simp; with_reducible rfl
                  rotate_left
                  ·simp only [Act.put, List.setIfInBounds_toArray, List.set_cons_zero, List.set_cons_succ, i64_w, i32_w]; rfl
                  refine pure_ (i := 37) (N := some 78) (v := ?_) (a' := ?_) q38_ rfl rfl (any_of HT_.out (by kernel_rfl)) (fun _ _ _ h => h) (Or.inl ⟨by rfl, ?_⟩) ?_ ?_
                  rotate_left
                  ·intro w'; go_simp; with_reducible rfl
                  rotate_left
                  ·simp only [Act.put, List.setIfInBounds_toArray, List.set_cons_zero, List.set_cons_succ, i64_w, i32_w]; rfl
                  refine pure_ (i := 38) (N := some 79) (v := ?_) (a' := ?_) q39_ rfl rfl (any_of HT_.out (by kernel_rfl)) (fun _ _ _ h => h) (Or.inl ⟨by rfl, ?_⟩) ?_ ?_
                  rotate_left
                  ·intro w'; go_simp; with_reducible rfl
                  rotate_left
                  ·simp only [Act.put, List.setIfInBounds_toArray, List.set_cons_zero, List.set_cons_succ, i64_w, i32_w]; rfl
                  refine pure_ (i := 39) (N := some 80) (v := ?_) (a' := ?_) q40_ rfl rfl (any_of HT_.out (by kernel_rfl)) (fun _ _ _ h => h) (Or.inl ⟨by rfl, ?_⟩) ?_ ?_
                  rotate_left
                  ·intro w'; go_simp; with_reducible rfl
                  rotate_left
                  ·simp only [Act.put, List.setIfInBounds_toArray, List.set_cons_zero, List.set_cons_succ, i64_w, i32_w]; rfl
                  refine pure_ (i := 40) (N := some 81) (v := ?_) (a' := ?_) q41_ rfl rfl (any_of HT_.out (by kernel_rfl)) (fun _ _ _ h => h) (Or.inl ⟨by rfl, ?_⟩) ?_ ?_
                  rotate_left
                  ·intro w'; go_simp; with_reducible rfl
                  rotate_left
                  ·simp only [Act.put, List.setIfInBounds_toArray, List.set_cons_zero, List.set_cons_succ, i64_w, i32_w]; rfl
                  refine one_ (i := 41) (N := some 82) q42_ rfl rfl (one_of HT_.out (by kernel_rfl)) (by decide) (fun K hK => ?_)
                  refine goes_ Tryd.func13 (by kernel_rfl) rfl #[.string (a0.extract ((ji34) : Int).toNat ((ji39) : Int).toNat)] (by rfl) rfl rfl (by (try simp only [List.map_toArray, List.map_cons, List.map_nil]); first | done | (simp only [hji34, hji39]; rfl) | rfl | (simp only [List.length_drop, List.length_take]; rfl)) ?_
                  with_reducible refine (laws_words.calls kj3 (a0.extract ((ji34) : Int).toNat ((ji39) : Int).toNat) false _ A70.out).mono ?_
                  rintro e w' ⟨rfl, ⟨nd, rfl⟩⟩
                  refine ⟨_, rfl, ?_⟩
                  refine hK.out _ _ trivial (fun hHeld => ?_)
                  clear hK K
                  refine norm_ (a' := ?_) ?_ ?_
                  rotate_left
                  ·show Act.put _ (some 82) _ = _
                   simp only [Act.put, List.setIfInBounds_toArray, List.set_cons_zero, List.set_cons_succ, i64_w, i32_w]
                   rfl
                  refine pure_ (i := 42) (N := some 83) (v := ?_) (a' := ?_) q43_ rfl rfl (any_of HT_.out (by kernel_rfl)) (fun _ _ _ h => h) (Or.inl ⟨by rfl, ?_⟩) ?_ ?_
                  rotate_left
                  ·intro w'; go_simp; with_reducible rfl
                  rotate_left
                  ·simp only [Act.put, List.setIfInBounds_toArray, List.set_cons_zero, List.set_cons_succ, i64_w, i32_w]; rfl
                  refine pure_ (i := 43) (N := some 84) (v := ?_) (a' := ?_) q44_ rfl rfl (any_of HT_.out (by kernel_rfl)) (fun _ _ _ h => h) (Or.inl ⟨by rfl, ?_⟩) ?_ ?_
                  rotate_left
                  ·intro w'; go_simp; with_reducible rfl
                  rotate_left
                  ·simp only [Act.put, List.setIfInBounds_toArray, List.set_cons_zero, List.set_cons_succ, i64_w, i32_w]; rfl
                  refine pure_ (i := 44) (N := some 85) (v := ?_) (a' := ?_) q45_ rfl rfl (any_of HT_.out (by kernel_rfl)) (fun _ _ _ h => h) (Or.inl ⟨by rfl, ?_⟩) ?_ ?_
                  rotate_left
                  ·intro w'; go_simp; with_reducible rfl
                  rotate_left
                  ·simp only [Act.put, List.setIfInBounds_toArray, List.set_cons_zero, List.set_cons_succ, i64_w, i32_w]; rfl
                  refine pure_ (i := 45) (N := some 86) (v := ?_) (a' := ?_) q46_ rfl rfl (any_of HT_.out (by kernel_rfl)) (fun _ _ _ h => h) (Or.inl ⟨by rfl, ?_⟩) ?_ ?_
                  rotate_left
                  ·intro w'; go_simp; with_reducible rfl
                  rotate_left
                  ·simp only [Act.put, List.setIfInBounds_toArray, List.set_cons_zero, List.set_cons_succ, i64_w, i32_w]; rfl
                  refine pure_ (i := 46) (N := some 87) (v := ?_) (a' := ?_) q47_ rfl rfl (any_of HT_.out (by kernel_rfl)) (fun _ _ _ h => h) (Or.inl ⟨by rfl, ?_⟩) ?_ ?_
                  rotate_left
                  ·intro w'; go_simp; with_reducible rfl
                  rotate_left
                  ·simp only [Act.put, List.setIfInBounds_toArray, List.set_cons_zero, List.set_cons_succ, i64_w, i32_w]; rfl
                  refine pure_ (i := 47) (N := some 88) (v := ?_) (a' := ?_) q48_ rfl rfl (any_of HT_.out (by kernel_rfl)) (fun _ _ _ h => h) (Or.inl ⟨by rfl, ?_⟩) ?_ ?_
                  rotate_left
                  ·intro w'; go_simp; with_reducible rfl
                  rotate_left
                  ·simp only [Act.put, List.setIfInBounds_toArray, List.set_cons_zero, List.set_cons_succ, i64_w, i32_w]; rfl
                  refine pure_ (i := 48) (N := some 89) (v := ?_) (a' := ?_) q49_ rfl rfl (any_of HT_.out (by kernel_rfl)) (fun _ _ _ h => h) (Or.inl ⟨by rfl, ?_⟩) ?_ ?_
                  rotate_left
                  ·intro w'; go_simp; with_reducible rfl
                  rotate_left
                  ·simp only [Act.put, List.setIfInBounds_toArray, List.set_cons_zero, List.set_cons_succ, i64_w, i32_w]; rfl
                  refine one_ (i := 49) (N := some 90) q50_ rfl rfl (one_of HT_.out (by kernel_rfl)) (by decide) (fun K hK => ?_)
                  refine goes_ Tryd.func14 (by kernel_rfl) rfl #[.string (a0.extract ((ji34) : Int).toNat ((ji39) : Int).toNat)] (by rfl) rfl rfl (by (try simp only [List.map_toArray, List.map_cons, List.map_nil]); first | done | (simp only [hji34, hji39]; rfl) | rfl | (simp only [List.length_drop, List.length_take]; rfl)) ?_
                  with_reducible refine (laws_digits.calls kj3 (a0.extract ((ji34) : Int).toNat ((ji39) : Int).toNat) t113 _ A76.out).mono ?_
                  rintro e w' ⟨rfl, ⟨nd, rfl⟩⟩
                  refine ⟨_, rfl, ?_⟩
                  refine hK.out _ _ trivial (fun hHeld => ?_)
                  clear hK K
                  refine norm_ (a' := ?_) ?_ ?_
                  rotate_left
                  ·show Act.put _ (some 90) _ = _
                   simp only [Act.put, List.setIfInBounds_toArray, List.set_cons_zero, List.set_cons_succ, i64_w, i32_w]
                   rfl
                  refine pure_ (i := 50) (N := some 91) (v := ?_) (a' := ?_) q51_ rfl rfl (any_of HT_.out (by kernel_rfl)) (fun _ _ _ h => h) (Or.inl ⟨by rfl, ?_⟩) ?_ ?_
                  rotate_left
                  ·intro w'; go_simp; with_reducible rfl
                  rotate_left
                  ·simp only [Act.put, List.setIfInBounds_toArray, List.set_cons_zero, List.set_cons_succ, i64_w, i32_w]; rfl
                  refine pure_ (i := 51) (N := some 92) (v := ?_) (a' := ?_) q52_ rfl rfl (any_of HT_.out (by kernel_rfl)) (fun _ _ _ h => h) (Or.inl ⟨by rfl, ?_⟩) ?_ ?_
                  rotate_left
                  ·intro w'; go_simp; with_reducible rfl
                  rotate_left
                  ·simp only [Act.put, List.setIfInBounds_toArray, List.set_cons_zero, List.set_cons_succ, i64_w, i32_w]; rfl
                  refine pure_ (i := 52) (N := some 93) (v := ?_) (a' := ?_) q53_ rfl rfl (any_of HT_.out (by kernel_rfl)) (fun _ _ _ h => h) (Or.inl ⟨by rfl, ?_⟩) ?_ ?_
                  rotate_left
                  ·intro w'; go_simp; with_reducible rfl
                  rotate_left
                  ·simp only [Act.put, List.setIfInBounds_toArray, List.set_cons_zero, List.set_cons_succ, i64_w, i32_w]; rfl
                  refine done_ (done_of HT_.out (by kernel_rfl)) ?_
                  try go_wp2
                  go_meet
                  case rel => exact ⟨_, (!t113), (by first | rfl | (simp; done) | (simp [*]; done) | (simp [bne_nil_hyb]; done) | (simp [bne_nil_hyb, *]; done)), (by first | exact H' | (rw [hji34]; exact H') | (rw [hji39]; exact H') | (rw [hji80]; exact H')), ⟨by have := HJ3.out; first | omega | exact Nat.le_refl _⟩, ⟨by repeat (first | (with_reducible first | exact HB.out | apply below_alloc | apply pw_below_drewN | apply below_drew1) | exact HB.out)⟩⟩
                ·replace c66 := Bool.eq_false_iff.mpr c66
                 subst c66
                 have H1 : (laws_FnPackagistPoints.j1 kj3 a0 ji39 true) = some r := by rw [if_neg (show ¬ (false = true) by decide)] at H; exact H
                 clear H
                 have H := H1
                 clear H1
                 have H' := Aside0.mk H
                 clear H
                 try go_wp2
                 have n0_ := Aside0.mk (below_drew1 HB.out)
                 clear HB
                 have HB := n0_
                 clear n0_
                 refine start_ (n := 53) (S := fun w' => True) (ds := []) q0_ (by kernel_rfl) rfl rfl trivial (fun hHeld => ?_); refine with_tabW laws_FnPackagistPoints.tab6 laws_FnPackagistPoints.bits6 (fun HT_ HW_ => ?_)
                 generalize wc.drew = w78 at HB hHeld ⊢
                 refine pure_ (i := 0) (N := some 41) (v := ?_) (a' := ?_) q1_ rfl rfl (any_of HT_.out (by kernel_rfl)) (fun _ _ _ h => h) (Or.inl ⟨by rfl, ?_⟩) ?_ ?_
                 rotate_left
                 ·intro w'; go_simp; with_reducible rfl
                 rotate_left
                 ·simp only [Act.put, List.setIfInBounds_toArray, List.set_cons_zero, List.set_cons_succ, i64_w, i32_w]; rfl
                 refine pure_ (i := 1) (N := some 42) (v := ?_) (a' := ?_) q2_ rfl rfl (any_of HT_.out (by kernel_rfl)) (fun _ _ _ h => h) (Or.inl ⟨by rfl, ?_⟩) ?_ ?_
                 rotate_left
                 ·intro w'; go_simp; with_reducible rfl
                 rotate_left
                 ·simp only [Act.put, List.setIfInBounds_toArray, List.set_cons_zero, List.set_cons_succ, i64_w, i32_w]; rfl
                 refine pure_ (i := 2) (N := some 43) (v := ?_) (a' := ?_) q3_ rfl rfl (any_of HT_.out (by kernel_rfl)) (fun _ _ _ h => h) (Or.inl ⟨by rfl, ?_⟩) ?_ ?_
                 rotate_left
                 ·intro w'; go_simp; with_reducible rfl
                 rotate_left
                 ·simp only [Act.put, List.setIfInBounds_toArray, List.set_cons_zero, List.set_cons_succ, i64_w, i32_w]; rfl
                 refine pure_ (i := 3) (N := some 44) (v := ?_) (a' := ?_) q4_ rfl rfl (any_of HT_.out (by kernel_rfl)) (fun _ _ _ h => h) (Or.inl ⟨by rfl, ?_⟩) ?_ ?_
                 rotate_left
                 ·intro w'; go_simp; with_reducible rfl
                 rotate_left
                 ·simp only [Act.put, List.setIfInBounds_toArray, List.set_cons_zero, List.set_cons_succ, i64_w, i32_w]; rfl
                 refine pure_ (i := 4) (N := some 45) (v := ?_) (a' := ?_) q5_ rfl rfl (any_of HT_.out (by kernel_rfl)) (fun _ _ _ h => h) (Or.inl ⟨by rfl, ?_⟩) ?_ ?_
                 rotate_left
                 ·intro w'; go_simp; with_reducible rfl
                 rotate_left
                 ·simp only [Act.put, List.setIfInBounds_toArray, List.set_cons_zero, List.set_cons_succ, i64_w, i32_w]; rfl
                 refine pure_ (i := 5) (N := some 46) (v := ?_) (a' := ?_) q6_ rfl rfl (any_of HT_.out (by kernel_rfl)) (fun _ _ _ h => h) (Or.inl ⟨by rfl, ?_⟩) ?_ ?_
                 rotate_left
                 ·intro w'; go_simp; with_reducible rfl
                 rotate_left
                 ·simp only [Act.put, List.setIfInBounds_toArray, List.set_cons_zero, List.set_cons_succ, i64_w, i32_w]; rfl
                 refine pure_ (i := 6) (N := some 47) (v := ?_) (a' := ?_) q7_ rfl rfl (any_of HT_.out (by kernel_rfl)) (fun _ _ _ h => h) (Or.inl ⟨by rfl, ?_⟩) ?_ ?_
                 rotate_left
                 ·intro w'; go_simp; with_reducible rfl
                 rotate_left
                 ·simp only [Act.put, List.setIfInBounds_toArray, List.set_cons_zero, List.set_cons_succ, i64_w, i32_w]; rfl
                 refine pure_ (i := 7) (N := some 48) (v := ?_) (a' := ?_) q8_ rfl rfl (any_of HT_.out (by kernel_rfl)) (fun _ _ _ h => h) (Or.inl ⟨by rfl, ?_⟩) ?_ ?_
                 rotate_left
                 ·intro w'; go_simp; with_reducible rfl
                 rotate_left
                 ·simp only [Act.put, List.setIfInBounds_toArray, List.set_cons_zero, List.set_cons_succ, i64_w, i32_w]; rfl
                 refine pure_ (i := 9) (N := some 50) (v := ?_) (a' := ?_) q54_ rfl rfl (any_of HT_.out (by kernel_rfl)) (fun _ _ _ h => h) (Or.inl ⟨by rfl, ?_⟩) ?_ ?_
                 rotate_left
                 ·intro w'; go_simp; with_reducible rfl
                 rotate_left
                 ·simp only [Act.put, List.setIfInBounds_toArray, List.set_cons_zero, List.set_cons_succ, i64_w, i32_w]; rfl
                 refine pure_ (i := 10) (N := some 51) (v := ?_) (a' := ?_) q55_ rfl rfl (any_of HT_.out (by kernel_rfl)) (fun _ _ _ h => h) (Or.inl ⟨by rfl, ?_⟩) ?_ ?_
                 rotate_left
                 ·intro w'; go_simp; with_reducible rfl
                 rotate_left
                 ·simp only [Act.put, List.setIfInBounds_toArray, List.set_cons_zero, List.set_cons_succ, i64_w, i32_w]; rfl
                 refine pure_ (i := 11) (N := some 52) (v := ?_) (a' := ?_) q56_ rfl rfl (any_of HT_.out (by kernel_rfl)) (fun _ _ _ h => h) (Or.inl ⟨by rfl, ?_⟩) ?_ ?_
                 rotate_left
                 ·intro w'; go_simp; with_reducible rfl
                 rotate_left
                 ·simp only [Act.put, List.setIfInBounds_toArray, List.set_cons_zero, List.set_cons_succ, i64_w, i32_w]; rfl
                 refine pure_ (i := 12) (N := some 53) (v := ?_) (a' := ?_) q57_ rfl rfl (any_of HT_.out (by kernel_rfl)) (fun _ _ _ h => h) (Or.inl ⟨by rfl, ?_⟩) ?_ ?_
                 rotate_left
                 ·intro w'; go_simp; with_reducible rfl
                 rotate_left
                 ·simp only [Act.put, List.setIfInBounds_toArray, List.set_cons_zero, List.set_cons_succ, i64_w, i32_w]; rfl
                 refine pure_ (i := 13) (N := some 54) (v := ?_) (a' := ?_) q58_ rfl rfl (any_of HT_.out (by kernel_rfl)) (fun _ _ _ h => h) (Or.inl ⟨by rfl, ?_⟩) ?_ ?_
                 rotate_left
                 ·intro w'; go_simp; with_reducible rfl
                 rotate_left
                 ·simp only [Act.put, List.setIfInBounds_toArray, List.set_cons_zero, List.set_cons_succ, i64_w, i32_w]; rfl
                 refine one_ (i := 8) (N := some 49) q14_ rfl rfl (one_of HT_.out (by kernel_rfl)) (by decide) (fun K hK => ?_)
                 refine goes_ Tryd.func14 (by kernel_rfl) rfl #[.string (a0.extract ((ji34) : Int).toNat ((ji39) : Int).toNat)] (by rfl) rfl rfl (by (try simp only [List.map_toArray, List.map_cons, List.map_nil]); first | done | (simp only [hji34, hji39]; rfl) | rfl | (simp only [List.length_drop, List.length_take]; rfl)) ?_
                 with_reducible refine (laws_digits.calls kj3 (a0.extract ((ji34) : Int).toNat ((ji39) : Int).toNat) t106 _ A38.out).mono ?_
                 rintro e w' ⟨rfl, ⟨nd, rfl⟩⟩
                 refine ⟨_, rfl, ?_⟩
                 refine hK.out _ _ trivial (fun hHeld => ?_)
                 clear hK K
                 refine norm_ (a' := ?_) ?_ ?_
                 rotate_left
                 ·show Act.put _ (some 49) _ = _
                  simp only [Act.put, List.setIfInBounds_toArray, List.set_cons_zero, List.set_cons_succ, i64_w, i32_w]
                  rfl
                 refine one_ (i := 14) (N := some 55) q15_ rfl rfl (one_of HT_.out (by kernel_rfl)) (by decide) (fun K hK => ?_)
                 refine goes_ Tryd.func14 (by kernel_rfl) rfl #[.string (a0.extract ((ji39) : Int).toNat ((wrap64 ((ji39) + 1)) : Int).toNat)] (by rfl) rfl rfl (by (try simp only [List.map_toArray, List.map_cons, List.map_nil]); first | done | (simp only [hji39]; rfl) | rfl | (simp only [List.length_drop, List.length_take]; rfl)) ?_
                 with_reducible refine (laws_digits.calls kj3 (a0.extract ((ji39) : Int).toNat ((wrap64 ((ji39) + 1)) : Int).toNat) t107 _ A43.out).mono ?_
                 rintro e w' ⟨rfl, ⟨nd, rfl⟩⟩
                 refine ⟨_, rfl, ?_⟩
                 refine hK.out _ _ trivial (fun hHeld => ?_)
                 clear hK K
                 refine norm_ (a' := ?_) ?_ ?_
                 rotate_left
                 ·show Act.put _ (some 55) _ = _
                  simp only [Act.put, List.setIfInBounds_toArray, List.set_cons_zero, List.set_cons_succ, i64_w, i32_w]
                  rfl
                 refine pure_ (i := 15) (N := some 56) (v := ?_) (a' := ?_) q16_ rfl rfl (any_of HT_.out (by kernel_rfl)) (fun _ _ _ h => h) (Or.inl ⟨by rfl, ?_⟩) ?_ ?_
                 rotate_left
                 ·intro w'; go_simp; with_reducible rfl
                 rotate_left
                 ·simp only [Act.put, List.setIfInBounds_toArray, List.set_cons_zero, List.set_cons_succ, i64_w, i32_w]; rfl
                 refine pure_ (i := 16) (N := some 57) (v := ?_) (a' := ?_) q17_ rfl rfl (any_of HT_.out (by kernel_rfl)) (fun _ _ _ h => h) (Or.inl ⟨by rfl, ?_⟩) ?_ ?_
                 rotate_left
                 ·intro w'; go_simp; with_reducible rfl
                 rotate_left
                 ·simp only [Act.put, List.setIfInBounds_toArray, List.set_cons_zero, List.set_cons_succ, i64_w, i32_w]; rfl
                 refine pure_ (i := 17) (N := some 58) (v := ?_) (a' := ?_) q18_ rfl rfl (any_of HT_.out (by kernel_rfl)) (fun _ _ _ h => h) (Or.inl ⟨by rfl, ?_⟩) ?_ ?_
                 rotate_left
                 ·intro w'; go_simp; with_reducible rfl
                 rotate_left
                 ·simp only [Act.put, List.setIfInBounds_toArray, List.set_cons_zero, List.set_cons_succ, i64_w, i32_w]; rfl
                 refine pure_ (i := 18) (N := some 59) (v := ?_) (a' := ?_) q19_ rfl rfl (any_of HT_.out (by kernel_rfl)) (fun _ _ _ h => h) (Or.inl ⟨by rfl, ?_⟩) ?_ ?_
                 rotate_left
                 ·intro w'; go_simp; with_reducible rfl
                 rotate_left
                 ·simp only [Act.put, List.setIfInBounds_toArray, List.set_cons_zero, List.set_cons_succ, i64_w, i32_w]; rfl
                 refine pure_ (i := 19) (N := some 60) (v := ?_) (a' := ?_) q20_ rfl rfl (any_of HT_.out (by kernel_rfl)) (fun _ _ _ h => h) (Or.inl ⟨by rfl, ?_⟩) ?_ ?_
                 rotate_left
                 ·intro w'; go_simp; with_reducible rfl
                 rotate_left
                 ·simp only [Act.put, List.setIfInBounds_toArray, List.set_cons_zero, List.set_cons_succ, i64_w, i32_w]; rfl
                 refine pure_ (i := 20) (N := some 61) (v := ?_) (a' := ?_) q21_ rfl rfl (any_of HT_.out (by kernel_rfl)) (fun _ _ _ h => h) (Or.inl ⟨by rfl, ?_⟩) ?_ ?_
                 rotate_left
                 ·intro w'; go_simp; with_reducible rfl
                 rotate_left
                 ·simp only [Act.put, List.setIfInBounds_toArray, List.set_cons_zero, List.set_cons_succ, i64_w, i32_w]; rfl
                 refine pure_ (i := 21) (N := some 62) (v := ?_) (a' := ?_) q22_ rfl rfl (any_of HT_.out (by kernel_rfl)) (fun _ _ _ h => h) (Or.inl ⟨by rfl, ?_⟩) ?_ ?_
                 rotate_left
                 ·intro w'; go_simp; with_reducible rfl
                 rotate_left
                 ·simp only [Act.put, List.setIfInBounds_toArray, List.set_cons_zero, List.set_cons_succ, i64_w, i32_w]; rfl
                 refine pure_ (i := 22) (N := some 63) (v := ?_) (a' := ?_) q23_ rfl rfl (any_of HT_.out (by kernel_rfl)) (fun _ _ _ h => h) (Or.inl ⟨by rfl, ?_⟩) ?_ ?_
                 rotate_left
                 ·intro w'; go_simp; with_reducible rfl
                 rotate_left
                 ·simp only [Act.put, List.setIfInBounds_toArray, List.set_cons_zero, List.set_cons_succ, i64_w, i32_w]; rfl
                 refine one_ (i := 23) (N := some 64) q24_ rfl rfl (one_of HT_.out (by kernel_rfl)) (by decide) (fun K hK => ?_)
                 refine goes_ Tryd.func13 (by kernel_rfl) rfl #[.string (a0.extract ((ji39) : Int).toNat ((wrap64 ((ji39) + 1)) : Int).toNat)] (by rfl) rfl rfl (by (try simp only [List.map_toArray, List.map_cons, List.map_nil]); first | done | (simp only [hji39]; rfl) | rfl | (simp only [List.length_drop, List.length_take]; rfl)) ?_
                 with_reducible refine (laws_words.calls kj3 (a0.extract ((ji39) : Int).toNat ((wrap64 ((ji39) + 1)) : Int).toNat) false _ A49.out).mono ?_
                 rintro e w' ⟨rfl, ⟨nd, rfl⟩⟩
                 refine ⟨_, rfl, ?_⟩
                 refine hK.out _ _ trivial (fun hHeld => ?_)
                 clear hK K
                 refine norm_ (a' := ?_) ?_ ?_
                 rotate_left
                 ·show Act.put _ (some 64) _ = _
                  simp only [Act.put, List.setIfInBounds_toArray, List.set_cons_zero, List.set_cons_succ, i64_w, i32_w]
                  rfl
                 refine pure_ (i := 24) (N := some 65) (v := ?_) (a' := ?_) q25_ rfl rfl (any_of HT_.out (by kernel_rfl)) (fun _ _ _ h => h) (Or.inl ⟨by rfl, ?_⟩) ?_ ?_
                 rotate_left
                 ·intro w'; go_simp; with_reducible rfl
                 rotate_left
                 ·simp only [Act.put, List.setIfInBounds_toArray, List.set_cons_zero, List.set_cons_succ, i64_w, i32_w]; rfl
                 refine pure_ (i := 25) (N := some 66) (v := ?_) (a' := ?_) q26_ rfl rfl (any_of HT_.out (by kernel_rfl)) (fun _ _ _ h => h) (Or.inl ⟨by rfl, ?_⟩) ?_ ?_
                 rotate_left
                 ·intro w'; go_simp; with_reducible rfl
                 rotate_left
                 ·simp only [Act.put, List.setIfInBounds_toArray, List.set_cons_zero, List.set_cons_succ, i64_w, i32_w]; rfl
                 refine pure_ (i := 26) (N := some 67) (v := ?_) (a' := ?_) q27_ rfl rfl (any_of HT_.out (by kernel_rfl)) (fun _ _ _ h => h) (Or.inl ⟨by rfl, ?_⟩) ?_ ?_
                 rotate_left
                 ·intro w'; go_simp; with_reducible rfl
                 rotate_left
                 ·simp only [Act.put, List.setIfInBounds_toArray, List.set_cons_zero, List.set_cons_succ, i64_w, i32_w]; rfl
                 refine pure_ (i := 27) (N := some 68) (v := ?_) (a' := ?_) q28_ rfl rfl (any_of HT_.out (by kernel_rfl)) (fun _ _ _ h => h) (Or.inl ⟨by rfl, ?_⟩) ?_ ?_
                 rotate_left
                 ·intro w'; go_simp; with_reducible rfl
                 rotate_left
                 ·simp only [Act.put, List.setIfInBounds_toArray, List.set_cons_zero, List.set_cons_succ, i64_w, i32_w]; rfl
                 refine pure_ (i := 28) (N := some 69) (v := ?_) (a' := ?_) q29_ rfl rfl (any_of HT_.out (by kernel_rfl)) (fun _ _ _ h => h) (Or.inl ⟨by rfl, ?_⟩) ?_ ?_
                 rotate_left
                 ·intro w'; go_simp; with_reducible rfl
                 rotate_left
                 ·simp only [Act.put, List.setIfInBounds_toArray, List.set_cons_zero, List.set_cons_succ, i64_w, i32_w]; rfl
                 refine pure_ (i := 29) (N := some 70) (v := ?_) (a' := ?_) q30_ rfl rfl (any_of HT_.out (by kernel_rfl)) (fun _ _ _ h => h) (Or.inl ⟨by rfl, ?_⟩) ?_ ?_
                 rotate_left
                 ·intro w'; go_simp; with_reducible rfl
                 rotate_left
                 ·simp only [Act.put, List.setIfInBounds_toArray, List.set_cons_zero, List.set_cons_succ, i64_w, i32_w]; rfl
                 refine pure_ (i := 30) (N := some 71) (v := ?_) (a' := ?_) q31_ rfl rfl (any_of HT_.out (by kernel_rfl)) (fun _ _ _ h => h) (Or.inl ⟨by rfl, ?_⟩) ?_ ?_
                 rotate_left
                 ·intro w'; go_simp; with_reducible rfl
                 rotate_left
                 ·simp only [Act.put, List.setIfInBounds_toArray, List.set_cons_zero, List.set_cons_succ, i64_w, i32_w]; rfl
                 refine one_ (i := 31) (N := some 72) q32_ rfl rfl (one_of HT_.out (by kernel_rfl)) (by decide) (fun K hK => ?_)
                 refine goes_ Tryd.func14 (by kernel_rfl) rfl #[.string (a0.extract ((ji39) : Int).toNat ((wrap64 ((ji39) + 1)) : Int).toNat)] (by rfl) rfl rfl (by (try simp only [List.map_toArray, List.map_cons, List.map_nil]); first | done | (simp only [hji39]; rfl) | rfl | (simp only [List.length_drop, List.length_take]; rfl)) ?_
                 with_reducible refine (laws_digits.calls kj3 (a0.extract ((ji39) : Int).toNat ((wrap64 ((ji39) + 1)) : Int).toNat) false _ A65.out).mono ?_
                 rintro e w' ⟨rfl, ⟨nd, rfl⟩⟩
                 refine ⟨_, rfl, ?_⟩
                 refine hK.out _ _ trivial (fun hHeld => ?_)
                 clear hK K
                 refine norm_ (a' := ?_) ?_ ?_
                 rotate_left
                 ·show Act.put _ (some 72) _ = _
                  simp only [Act.put, List.setIfInBounds_toArray, List.set_cons_zero, List.set_cons_succ, i64_w, i32_w]
                  rfl
                 refine pure_ (i := 32) (N := some 73) (v := ?_) (a' := ?_) q33_ rfl rfl (any_of HT_.out (by kernel_rfl)) (fun _ _ _ h => h) (Or.inl ⟨by rfl, ?_⟩) ?_ ?_
                 rotate_left
                 ·intro w'; go_simp; with_reducible rfl
                 rotate_left
                 ·simp only [Act.put, List.setIfInBounds_toArray, List.set_cons_zero, List.set_cons_succ, i64_w, i32_w]; rfl
                 refine pure_ (i := 33) (N := some 74) (v := ?_) (a' := ?_) q34_ rfl rfl (any_of HT_.out (by kernel_rfl)) (fun _ _ _ h => h) (Or.inl ⟨by rfl, ?_⟩) ?_ ?_
                 rotate_left
                 ·intro w'; go_simp; with_reducible rfl
                 rotate_left
                 ·simp only [Act.put, List.setIfInBounds_toArray, List.set_cons_zero, List.set_cons_succ, i64_w, i32_w]; rfl
                 refine pure_ (i := 34) (N := some 75) (v := ?_) (a' := ?_) q35_ rfl rfl (any_of HT_.out (by kernel_rfl)) (fun _ _ _ h => h) (Or.inl ⟨by rfl, ?_⟩) ?_ ?_
                 rotate_left
                 ·intro w'; go_simp; with_reducible rfl
                 rotate_left
                 ·simp only [Act.put, List.setIfInBounds_toArray, List.set_cons_zero, List.set_cons_succ, i64_w, i32_w]; rfl
                 refine pure_ (i := 35) (N := some 76) (v := ?_) (a' := ?_) q36_ rfl rfl (any_of HT_.out (by kernel_rfl)) (fun _ _ _ h => h) (Or.inl ⟨by rfl, ?_⟩) ?_ ?_
                 rotate_left
                 ·intro w'; go_simp; with_reducible rfl
                 rotate_left
                 ·simp only [Act.put, List.setIfInBounds_toArray, List.set_cons_zero, List.set_cons_succ, i64_w, i32_w]; rfl
                 refine pure_ (i := 36) (N := some 77) (v := undef) (a' := ?_) q37_ rfl rfl (any_of HT_.out (by kernel_rfl)) (fun _ _ _ h => h) (Or.inr ⟨by rfl, rfl⟩) ?_ ?_
                 rotate_left
                 ·simp only [Act.put, List.setIfInBounds_toArray, List.set_cons_zero, List.set_cons_succ, i64_w, i32_w]; rfl
                 refine pure_ (i := 37) (N := some 78) (v := undef) (a' := ?_) q38_ rfl rfl (any_of HT_.out (by kernel_rfl)) (fun _ _ _ h => h) (Or.inr ⟨by rfl, rfl⟩) ?_ ?_
                 rotate_left
                 ·simp only [Act.put, List.setIfInBounds_toArray, List.set_cons_zero, List.set_cons_succ, i64_w, i32_w]; rfl
                 refine pure_ (i := 38) (N := some 79) (v := undef) (a' := ?_) q39_ rfl rfl (any_of HT_.out (by kernel_rfl)) (fun _ _ _ h => h) (Or.inr ⟨by rfl, rfl⟩) ?_ ?_
                 rotate_left
                 ·simp only [Act.put, List.setIfInBounds_toArray, List.set_cons_zero, List.set_cons_succ, i64_w, i32_w]; rfl
                 refine pure_ (i := 39) (N := some 80) (v := undef) (a' := ?_) q40_ rfl rfl (any_of HT_.out (by kernel_rfl)) (fun _ _ _ h => h) (Or.inr ⟨by rfl, rfl⟩) ?_ ?_
                 rotate_left
                 ·simp only [Act.put, List.setIfInBounds_toArray, List.set_cons_zero, List.set_cons_succ, i64_w, i32_w]; rfl
                 refine pure_ (i := 40) (N := some 81) (v := undef) (a' := ?_) q41_ rfl rfl (any_of HT_.out (by kernel_rfl)) (fun _ _ _ h => h) (Or.inr ⟨by rfl, rfl⟩) ?_ ?_
                 rotate_left
                 ·simp only [Act.put, List.setIfInBounds_toArray, List.set_cons_zero, List.set_cons_succ, i64_w, i32_w]; rfl
                 refine pure_ (i := 41) (N := some 82) (v := undef) (a' := ?_) q42_ rfl rfl (any_of HT_.out (by kernel_rfl)) (fun _ _ _ h => h) (Or.inr ⟨by rfl, rfl⟩) ?_ ?_
                 rotate_left
                 ·simp only [Act.put, List.setIfInBounds_toArray, List.set_cons_zero, List.set_cons_succ, i64_w, i32_w]; rfl
                 refine pure_ (i := 42) (N := some 83) (v := undef) (a' := ?_) q43_ rfl rfl (any_of HT_.out (by kernel_rfl)) (fun _ _ _ h => h) (Or.inr ⟨by rfl, rfl⟩) ?_ ?_
                 rotate_left
                 ·simp only [Act.put, List.setIfInBounds_toArray, List.set_cons_zero, List.set_cons_succ, i64_w, i32_w]; rfl
                 refine pure_ (i := 43) (N := some 84) (v := undef) (a' := ?_) q44_ rfl rfl (any_of HT_.out (by kernel_rfl)) (fun _ _ _ h => h) (Or.inr ⟨by rfl, rfl⟩) ?_ ?_
                 rotate_left
                 ·simp only [Act.put, List.setIfInBounds_toArray, List.set_cons_zero, List.set_cons_succ, i64_w, i32_w]; rfl
                 refine pure_ (i := 44) (N := some 85) (v := undef) (a' := ?_) q45_ rfl rfl (any_of HT_.out (by kernel_rfl)) (fun _ _ _ h => h) (Or.inr ⟨by rfl, rfl⟩) ?_ ?_
                 rotate_left
                 ·simp only [Act.put, List.setIfInBounds_toArray, List.set_cons_zero, List.set_cons_succ, i64_w, i32_w]; rfl
                 refine pure_ (i := 45) (N := some 86) (v := undef) (a' := ?_) q46_ rfl rfl (any_of HT_.out (by kernel_rfl)) (fun _ _ _ h => h) (Or.inr ⟨by rfl, rfl⟩) ?_ ?_
                 rotate_left
                 ·simp only [Act.put, List.setIfInBounds_toArray, List.set_cons_zero, List.set_cons_succ, i64_w, i32_w]; rfl
                 refine pure_ (i := 46) (N := some 87) (v := undef) (a' := ?_) q47_ rfl rfl (any_of HT_.out (by kernel_rfl)) (fun _ _ _ h => h) (Or.inr ⟨by rfl, rfl⟩) ?_ ?_
                 rotate_left
                 ·simp only [Act.put, List.setIfInBounds_toArray, List.set_cons_zero, List.set_cons_succ, i64_w, i32_w]; rfl
                 refine pure_ (i := 47) (N := some 88) (v := undef) (a' := ?_) q48_ rfl rfl (any_of HT_.out (by kernel_rfl)) (fun _ _ _ h => h) (Or.inr ⟨by rfl, rfl⟩) ?_ ?_
                 rotate_left
                 ·simp only [Act.put, List.setIfInBounds_toArray, List.set_cons_zero, List.set_cons_succ, i64_w, i32_w]; rfl
                 refine pure_ (i := 48) (N := some 89) (v := undef) (a' := ?_) q49_ rfl rfl (any_of HT_.out (by kernel_rfl)) (fun _ _ _ h => h) (Or.inr ⟨by rfl, rfl⟩) ?_ ?_
                 rotate_left
                 ·simp only [Act.put, List.setIfInBounds_toArray, List.set_cons_zero, List.set_cons_succ, i64_w, i32_w]; rfl
                 refine pure_ (i := 49) (N := some 90) (v := undef) (a' := ?_) q50_ rfl rfl (any_of HT_.out (by kernel_rfl)) (fun _ _ _ h => h) (Or.inr ⟨by rfl, rfl⟩) ?_ ?_
                 rotate_left
                 ·simp only [Act.put, List.setIfInBounds_toArray, List.set_cons_zero, List.set_cons_succ, i64_w, i32_w]; rfl
                 refine pure_ (i := 50) (N := some 91) (v := undef) (a' := ?_) q51_ rfl rfl (any_of HT_.out (by kernel_rfl)) (fun _ _ _ h => h) (Or.inr ⟨by rfl, rfl⟩) ?_ ?_
                 rotate_left
                 ·simp only [Act.put, List.setIfInBounds_toArray, List.set_cons_zero, List.set_cons_succ, i64_w, i32_w]; rfl
                 refine pure_ (i := 51) (N := some 92) (v := undef) (a' := ?_) q52_ rfl rfl (any_of HT_.out (by kernel_rfl)) (fun _ _ _ h => h) (Or.inr ⟨by rfl, rfl⟩) ?_ ?_
                 rotate_left
                 ·simp only [Act.put, List.setIfInBounds_toArray, List.set_cons_zero, List.set_cons_succ, i64_w, i32_w]; rfl
                 refine pure_ (i := 52) (N := some 93) (v := ?_) (a' := ?_) q53_ rfl rfl (any_of HT_.out (by kernel_rfl)) (fun _ _ _ h => h) (Or.inl ⟨by rfl, ?_⟩) ?_ ?_
                 rotate_left
                 ·intro w'; go_simp; with_reducible rfl
                 rotate_left
                 ·simp only [Act.put, List.setIfInBounds_toArray, List.set_cons_zero, List.set_cons_succ, i64_w, i32_w]; rfl
                 refine done_ (done_of HT_.out (by kernel_rfl)) ?_
                 try go_wp2
                 go_meet
                 case rel => exact ⟨_, (true), (by first | rfl | (simp; done) | (simp [*]; done) | (simp [bne_nil_hyb]; done) | (simp [bne_nil_hyb, *]; done)), (by first | exact H' | (rw [hji34]; exact H') | (rw [hji39]; exact H') | (rw [hji80]; exact H')), ⟨by have := HJ3.out; first | omega | exact Nat.le_refl _⟩, ⟨by repeat (first | (with_reducible first | exact HB.out | apply below_alloc | apply pw_below_drewN | apply below_drew1) | exact HB.out)⟩⟩
             ·rw [if_neg c42] at H
              exact absurd H (by simp)
            ·rw [if_neg c41] at H
             exact absurd H (by simp)
           ·rw [if_neg c40] at H
            exact absurd H (by simp)
          ·rw [if_neg c37] at H
           exact absurd H (by simp)
         ·rw [if_neg c36] at H
          exact absurd H (by simp)
        ·rw [if_neg c35] at H
         exact absurd H (by simp)
      case rest =>
       clear HC31
       try clear c1
       try clear p2
       try clear c3
       try clear c4
       try clear c6
       try clear p6
       try clear c13
       try clear c14
       try clear c35
       try clear c36
       try clear c37
       try clear c40
       try clear c41
       try clear c42
       try clear p64
       try clear c66
       obtain ⟨kq, x93_30, rfl, HA, HJ30, HB⟩ := hcut
       cases kq with
       | zero => exact absurd HA.out (by simp [laws_FnPackagistPoints.j1])
       | succ kj30 =>
        have H := HA.out
        clear HA
        simp only [laws_FnPackagistPoints.j1] at H
        by_cases c79 : x93_30 = true
        ·subst c79
         have H1 : (some true) = some r := by rw [if_pos rfl] at H; exact H
         clear H
         have H := H1
         clear H1
         obtain rfl := Option.some.inj H
         go_wp2
         go_ret
         exact ⟨by first | rfl | (simp [errW_none, errW_some] <;> rfl) | (simp [*, errW_none, errW_some] <;> rfl) | (simp [bne_nil_hyb]; done), by repeat (first | (with_reducible first | exact HB.out | apply below_alloc | apply pw_below_drewN | apply below_drew1) | exact HB.out)⟩
        ·replace c79 := Bool.eq_false_iff.mpr c79
         subst c79
         have H1 : (if 0 ≤ (Int.tmod (wrap64 (a1)) (a0.size : Int)) then (if (Int.tmod (wrap64 (a1)) (a0.size : Int)) ≤ (a0.size : Int) then (if (a0.extract 0 ((Int.tmod (wrap64 (a1)) (a0.size : Int)) : Int).toNat).size + 1 ≤ 9223372036854775807 then (if ((a0.extract 0 ((Int.tmod (wrap64 (a1)) (a0.size : Int)) : Int).toNat) ++ (⟨#[46]⟩ : ByteArray)).size + (a0.extract ((Int.tmod (wrap64 (a1)) (a0.size : Int)) : Int).toNat a0.size).size ≤ 9223372036854775807 then ((impl_PackagistCanonical.f kj30 a0).bind fun t114 => ((impl_PackagistCompareText.f kj30 a0 (((a0.extract 0 ((Int.tmod (wrap64 (a1)) (a0.size : Int)) : Int).toNat) ++ (⟨#[46]⟩ : ByteArray)) ++ (a0.extract ((Int.tmod (wrap64 (a1)) (a0.size : Int)) : Int).toNat a0.size))).bind fun bt115 => (if t114.toList = ([] : List UInt8) then (some false) else ((impl_PackagistCanonical.f kj30 (((a0.extract 0 ((Int.tmod (wrap64 (a1)) (a0.size : Int)) : Int).toNat) ++ (⟨#[46]⟩ : ByteArray)) ++ (a0.extract ((Int.tmod (wrap64 (a1)) (a0.size : Int)) : Int).toNat a0.size))).bind fun t117 => (if t117.toList = t114.toList then (if bt115.2 = true then (some (bt115.1 == 0)) else (some false)) else (some false)))))) else (none)) else (none)) else (none)) else (none)) = some r := by rw [if_neg (show ¬ (false = true) by decide)] at H; exact H
         clear H
         have H := H1
         clear H1
         obtain ⟨ji80, hji80⟩ : ∃ j_ : Int, (Int.tmod (wrap64 (a1)) (a0.size : Int)) = j_ := ⟨_, rfl⟩
         (try rw [hji80] at hji34)
         (try rw [hji80] at hji39)
         (try rw [hji80] at hji34w)
         (try rw [hji80] at hji39w)
         replace H : (if 0 ≤ (ji80) then (if (ji80) ≤ (a0.size : Int) then (if (a0.extract 0 ((ji80) : Int).toNat).size + 1 ≤ 9223372036854775807 then (if ((a0.extract 0 ((ji80) : Int).toNat) ++ (⟨#[46]⟩ : ByteArray)).size + (a0.extract ((ji80) : Int).toNat a0.size).size ≤ 9223372036854775807 then ((impl_PackagistCanonical.f kj30 a0).bind fun t114 => ((impl_PackagistCompareText.f kj30 a0 (((a0.extract 0 ((ji80) : Int).toNat) ++ (⟨#[46]⟩ : ByteArray)) ++ (a0.extract ((ji80) : Int).toNat a0.size))).bind fun bt115 => (if t114.toList = ([] : List UInt8) then (some false) else ((impl_PackagistCanonical.f kj30 (((a0.extract 0 ((ji80) : Int).toNat) ++ (⟨#[46]⟩ : ByteArray)) ++ (a0.extract ((ji80) : Int).toNat a0.size))).bind fun t117 => (if t117.toList = t114.toList then (if bt115.2 = true then (some (bt115.1 == 0)) else (some false)) else (some false)))))) else (none)) else (none)) else (none)) else (none)) = some r := by first | (rw [hji80] at H; exact H) | (simp only [hji80] at H ⊢; exact H)
         by_cases c81 : 0 ≤ (ji80)
         ·rw [if_pos c81] at H
          have c81b0 := eq_true c81
          have c81b1 : decide (0 ≤ (ji80)) = true := decide_eq_true c81
          clear c81
          by_cases c82 : (ji80) ≤ (a0.size : Int)
          ·rw [if_pos c82] at H
           have c82b0 := eq_true c82
           have c82b1 : decide ((ji80) ≤ (a0.size : Int)) = true := decide_eq_true c82
           clear c82
           by_cases c83 : (a0.extract 0 ((ji80) : Int).toNat).size + 1 ≤ 9223372036854775807
           ·rw [if_pos c83] at H
            have c83b0 := eq_true c83
            have c83b1 : decide ((a0.extract 0 ((ji80) : Int).toNat).size + 1 ≤ 9223372036854775807) = true := decide_eq_true c83
            try have c83b2 : (9223372036854775807 < (a0.extract 0 ((ji80) : Int).toNat).size + 1) = False := eq_false (Nat.not_lt.2 c83)
            try have c83b5 : (9223372036854775807 < ji80.toNat + 1) = False := eq_false (by have h_ := c83; have g0_ : ji80 ≤ (a0.size : Int) := of_decide_eq_true (by first | (with_reducible assumption) | assumption); simp only [ByteArray.size_append, ByteArray.size_extract] at h_; omega)
            try have c83b6 : (ji80.toNat + 1 ≤ 9223372036854775807) = True := eq_true (by have h_ := c83; have g0_ : ji80 ≤ (a0.size : Int) := of_decide_eq_true (by first | (with_reducible assumption) | assumption); simp only [ByteArray.size_append, ByteArray.size_extract] at h_; omega)
            have c84b0 := eq_true (of_decide_eq_true (by first | (with_reducible assumption) | assumption) : 0 ≤ (ji80))
            have c85b0 := eq_true (of_decide_eq_true (by first | (with_reducible assumption) | assumption) : (ji80) ≤ (a0.size : Int))
            by_cases c86 : ((a0.extract 0 ((ji80) : Int).toNat) ++ (⟨#[46]⟩ : ByteArray)).size + (a0.extract ((ji80) : Int).toNat a0.size).size ≤ 9223372036854775807
            ·rw [if_pos c86] at H
             have c86b0 := eq_true c86
             have c86b1 : decide (((a0.extract 0 ((ji80) : Int).toNat) ++ (⟨#[46]⟩ : ByteArray)).size + (a0.extract ((ji80) : Int).toNat a0.size).size ≤ 9223372036854775807) = true := decide_eq_true c86
             try have c86b2 : (9223372036854775807 < ((a0.extract 0 ((ji80) : Int).toNat) ++ (⟨#[46]⟩ : ByteArray)).size + (a0.extract ((ji80) : Int).toNat a0.size).size) = False := eq_false (Nat.not_lt.2 c86)
             try have c86b3 : (9223372036854775807 < (a0.extract 0 ((ji80) : Int).toNat).size + 1 + (a0.extract ((ji80) : Int).toNat a0.size).size) = False := eq_false (by have h_ := c86; simp only [ByteArray.size_append] at h_; have e0_ : (⟨#[46]⟩ : ByteArray).size = 1 := rfl; omega)
             try have c86b4 : ((a0.extract 0 ((ji80) : Int).toNat).size + 1 + (a0.extract ((ji80) : Int).toNat a0.size).size ≤ 9223372036854775807) = True := eq_true (by have h_ := c86; simp only [ByteArray.size_append] at h_; have e0_ : (⟨#[46]⟩ : ByteArray).size = 1 := rfl; omega)
             try have c86b5 : (9223372036854775807 < ji80.toNat + 1 + (a0.size - ji80.toNat)) = False := eq_false (by have h_ := c86; have g0_ : ji80 ≤ (a0.size : Int) := of_decide_eq_true (by first | (with_reducible assumption) | assumption); simp only [ByteArray.size_append, ByteArray.size_extract] at h_; have e0_ : (⟨#[46]⟩ : ByteArray).size = 1 := rfl; omega)
             try have c86b6 : (ji80.toNat + 1 + (a0.size - ji80.toNat) ≤ 9223372036854775807) = True := eq_true (by have h_ := c86; have g0_ : ji80 ≤ (a0.size : Int) := of_decide_eq_true (by first | (with_reducible assumption) | assumption); simp only [ByteArray.size_append, ByteArray.size_extract] at h_; have e0_ : (⟨#[46]⟩ : ByteArray).size = 1 := rfl; omega)
             replace H := Option.bind_eq_some_iff.mp H
             obtain ⟨t114, A870, H⟩ := H
             replace H : ((impl_PackagistCompareText.f kj30 a0 (((a0.extract 0 ((ji80) : Int).toNat) ++ (⟨#[46]⟩ : ByteArray)) ++ (a0.extract ((ji80) : Int).toNat a0.size))).bind fun bt115 => (if t114.toList = ([] : List UInt8) then (some false) else ((impl_PackagistCanonical.f kj30 (((a0.extract 0 ((ji80) : Int).toNat) ++ (⟨#[46]⟩ : ByteArray)) ++ (a0.extract ((ji80) : Int).toNat a0.size))).bind fun t117 => (if t117.toList = t114.toList then (if bt115.2 = true then (some (bt115.1 == 0)) else (some false)) else (some false))))) = some r := H
             have A87 := Aside0.mk A870
             clear A870
             replace H := Option.bind_eq_some_iff.mp H
             obtain ⟨⟨t115, t116⟩, A880, H⟩ := H
             replace H : (if t114.toList = ([] : List UInt8) then (some false) else ((impl_PackagistCanonical.f kj30 (((a0.extract 0 ((ji80) : Int).toNat) ++ (⟨#[46]⟩ : ByteArray)) ++ (a0.extract ((ji80) : Int).toNat a0.size))).bind fun t117 => (if t117.toList = t114.toList then (if t116 = true then (some (t115 == 0)) else (some false)) else (some false)))) = some r := H
             have A88 := Aside0.mk A880
             clear A880
             by_cases c89 : t114.toList = ([] : List UInt8)
             ·rw [if_pos c89] at H
              have c89b0 : (t114.toList == ([] : List UInt8)) = true := beq_iff_eq.mpr c89
              have c89b1 : (t114.toList != ([] : List UInt8)) = false := bne_eq_false_iff_eq.mpr c89
              clear c89
              obtain rfl := Option.some.inj H
              try go_wp2
              have n0_ := Aside0.mk (below_drew1 HB.out)
              clear HB
              have HB := n0_
              clear n0_
              refine start_ (n := 9) (S := fun w' => True) (ds := []) q59_ (by kernel_rfl) rfl rfl trivial (fun hHeld => ?_); refine with_tabW laws_FnPackagistPoints.tab8 laws_FnPackagistPoints.bits8 (fun HT_ HW_ => ?_)
              generalize wc.drew = w90 at HB hHeld ⊢
              refine pure_ (i := 0) (N := some 94) (v := ?_) (a' := ?_) q60_ rfl rfl (any_of HT_.out (by kernel_rfl)) (fun _ _ _ h => h) (Or.inl ⟨by rfl, ?_⟩) ?_ ?_
              rotate_left
              ·intro w'; go_simp; with_reducible rfl
              rotate_left
              ·simp only [Act.put, List.setIfInBounds_toArray, List.set_cons_zero, List.set_cons_succ, i64_w, i32_w]; rfl
              refine pure_ (i := 1) (N := some 95) (v := ?_) (a' := ?_) q61_ rfl rfl (any_of HT_.out (by kernel_rfl)) (fun _ _ _ h => h) (Or.inl ⟨by rfl, ?_⟩) ?_ ?_
              rotate_left
              ·intro w'; go_simp; with_reducible rfl
              rotate_left
              ·simp only [Act.put, List.setIfInBounds_toArray, List.set_cons_zero, List.set_cons_succ, i64_w, i32_w]; rfl
              refine pure_ (i := 2) (N := some 96) (v := ?_) (a' := ?_) q62_ rfl rfl (any_of HT_.out (by kernel_rfl)) (fun _ _ _ h => h) (Or.inl ⟨by rfl, ?_⟩) ?_ ?_
              rotate_left
              ·intro w'; go_simp; with_reducible rfl
              rotate_left
              ·simp only [Act.put, List.setIfInBounds_toArray, List.set_cons_zero, List.set_cons_succ, i64_w, i32_w]; rfl
              refine pure_ (i := 3) (N := some 97) (v := ?_) (a' := ?_) q63_ rfl rfl (any_of HT_.out (by kernel_rfl)) (fun _ _ _ h => h) (Or.inl ⟨by rfl, ?_⟩) ?_ ?_
              rotate_left
              ·intro w'; go_simp; with_reducible rfl
              rotate_left
              ·simp only [Act.put, List.setIfInBounds_toArray, List.set_cons_zero, List.set_cons_succ, i64_w, i32_w]; rfl
              refine pure_ (i := 4) (N := some 98) (v := ?_) (a' := ?_) #[true, true, true, true, true, false, false, false, false] rfl rfl (any_of HT_.out (by kernel_rfl)) (fun _ _ _ h => h) (Or.inl ⟨by rfl, ?_⟩) ?_ ?_
              rotate_left
              ·intro w'; go_simp; with_reducible rfl
              rotate_left
              ·simp only [Act.put, List.setIfInBounds_toArray, List.set_cons_zero, List.set_cons_succ, i64_w, i32_w]; rfl
              refine pure_ (i := 5) (N := some 99) (v := ?_) (a' := ?_) #[true, true, true, true, true, true, false, false, false] rfl rfl (any_of HT_.out (by kernel_rfl)) (fun _ _ _ h => h) (Or.inl ⟨by rfl, ?_⟩) ?_ ?_
              rotate_left
              ·intro w'; go_simp; with_reducible rfl
              rotate_left
              ·simp only [Act.put, List.setIfInBounds_toArray, List.set_cons_zero, List.set_cons_succ, i64_w, i32_w]; rfl
              refine pure_ (i := 6) (N := some 100) (v := ?_) (a' := ?_) #[true, true, true, true, true, true, true, false, false] rfl rfl (any_of HT_.out (by kernel_rfl)) (fun _ _ _ h => h) (Or.inl ⟨by rfl, ?_⟩) ?_ ?_
              rotate_left
              ·intro w'; go_simp; with_reducible rfl
              rotate_left
              ·simp only [Act.put, List.setIfInBounds_toArray, List.set_cons_zero, List.set_cons_succ, i64_w, i32_w]; rfl
              refine pure_ (i := 7) (N := some 101) (v := ?_) (a' := ?_) #[true, true, true, true, true, true, true, true, false] rfl rfl (any_of HT_.out (by kernel_rfl)) (fun _ _ _ h => h) (Or.inl ⟨by rfl, ?_⟩) ?_ ?_
              rotate_left
              ·intro w'; go_simp; with_reducible rfl
              rotate_left
              ·simp only [Act.put, List.setIfInBounds_toArray, List.set_cons_zero, List.set_cons_succ, i64_w, i32_w]; rfl
              refine pure_ (i := 8) (N := some 6) (v := ?_) (a' := ?_) #[true, true, true, true, true, true, true, true, true] rfl rfl (any_of HT_.out (by kernel_rfl)) (fun _ _ _ h => h) (Or.inl ⟨by rfl, ?_⟩) ?_ ?_
              rotate_left
              ·intro w'; go_simp; with_reducible rfl
              rotate_left
              ·simp only [Act.put, List.setIfInBounds_toArray, List.set_cons_zero, List.set_cons_succ, i64_w, i32_w]; rfl
              refine done_ (done_of HT_.out (by kernel_rfl)) ?_
              try go_wp2_with (first | ((with_reducible refine gate_callee (f := 19) rfl ?_); refine goesL_ (some 103) rfl rfl Tryd.func19 (by kernel_rfl) rfl #[.string a0] rfl (by (try simp only [List.map_toArray, List.map_cons, List.map_nil]); first | done | rfl | (simp only [List.length_drop, List.length_take]; rfl)) ?_; (with_reducible refine (impl_PackagistCanonical.calls kj30 a0 t114 _ A87.out).mono ?_); rintro e w91 ⟨rfl, hb⟩; refine ⟨_, rfl, ?_⟩; have n0_ := Aside0.mk (below_step (by repeat (first | (with_reducible first | exact HB.out | apply below_alloc | apply pw_below_drewN | apply below_drew1) | exact HB.out)) hb); clear HB; have HB := n0_; clear n0_; (try clear hb); (try clear hb2); (try clear hk); (try clear hi)) | ((with_reducible refine gate_callee (f := 9) rfl ?_); refine goesL_ (some 107) rfl rfl Tryd.func9 (by kernel_rfl) rfl #[.string a0, .string (((a0.extract 0 ((ji80) : Int).toNat) ++ (⟨#[46]⟩ : ByteArray)) ++ (a0.extract ((ji80) : Int).toNat a0.size))] rfl (by (try simp only [List.map_toArray, List.map_cons, List.map_nil]); first | done | (simp only [hji80]; rfl) | rfl | (simp only [List.length_drop, List.length_take]; rfl)) ?_; (with_reducible refine (impl_PackagistCompareText.calls kj30 a0 (((a0.extract 0 ((ji80) : Int).toNat) ++ (⟨#[46]⟩ : ByteArray)) ++ (a0.extract ((ji80) : Int).toNat a0.size)) t115 t116 _ A88.out (by first | exact GL.at HG.out (by repeat (first | (with_reducible first | exact HB.out | apply below_alloc | apply pw_below_drewN | apply below_drew1) | exact HB.out)) | exact HG.out)).mono ?_); rintro e w92 ⟨rfl, hb⟩; refine ⟨_, rfl, ?_⟩; have n0_ := Aside0.mk (below_step (by repeat (first | (with_reducible first | exact HB.out | apply below_alloc | apply pw_below_drewN | apply below_drew1) | exact HB.out)) hb); clear HB; have HB := n0_; clear n0_; (try clear hb); (try clear hb2); (try clear hk); (try clear hi)))
              go_ret
              exact ⟨by first | rfl | (simp [errW_none, errW_some] <;> rfl) | (simp only [← hji80]; first | rfl | (simp [errW_none, errW_some] <;> rfl)) | (simp [*, errW_none, errW_some] <;> rfl) | (simp [bne_nil_hyb]; done), by repeat (first | (with_reducible first | exact HB.out | apply below_alloc | apply pw_below_drewN | apply below_drew1) | exact HB.out)⟩
             ·rw [if_neg c89] at H
              have c89b0 : (t114.toList == ([] : List UInt8)) = false := beq_eq_false_iff_ne.mpr c89
              have c89b1 : (t114.toList != ([] : List UInt8)) = true := bne_iff_ne.mpr c89
              replace H := Option.bind_eq_some_iff.mp H
              obtain ⟨t117, A930, H⟩ := H
              replace H : (if t117.toList = t114.toList then (if t116 = true then (some (t115 == 0)) else (some false)) else (some false)) = some r := H
              have A93 := Aside0.mk A930
              clear A930
              by_cases c94 : t117.toList = t114.toList
              ·rw [if_pos c94] at H
               have c94b0 : (t117.toList == t114.toList) = true := beq_iff_eq.mpr c94
               have c94b1 : (t117.toList != t114.toList) = false := bne_eq_false_iff_eq.mpr c94
               clear c94
               by_cases c95 : t116 = true
               ·subst c95
                have H1 : (some (t115 == 0)) = some r := by rw [if_pos rfl] at H; exact H
                clear H
                have H := H1
                clear H1
                obtain rfl := Option.some.inj H
                try go_wp2
                have n0_ := Aside0.mk (below_drew1 HB.out)
                clear HB
                have HB := n0_
                clear n0_
                refine start_ (n := 9) (S := fun w' => True) (ds := []) q59_ (by kernel_rfl) rfl rfl trivial (fun hHeld => ?_); refine with_tabW laws_FnPackagistPoints.tab8 laws_FnPackagistPoints.bits8 (fun HT_ HW_ => ?_)
                generalize wc.drew = w96 at HB hHeld ⊢
                refine pure_ (i := 0) (N := some 94) (v := ?_) (a' := ?_) q60_ rfl rfl (any_of HT_.out (by kernel_rfl)) (fun _ _ _ h => h) (Or.inl ⟨by rfl, ?_⟩) ?_ ?_
                rotate_left
                ·intro w'; go_simp; with_reducible rfl
                rotate_left
                ·simp only [Act.put, List.setIfInBounds_toArray, List.set_cons_zero, List.set_cons_succ, i64_w, i32_w]; rfl
                refine pure_ (i := 1) (N := some 95) (v := ?_) (a' := ?_) q61_ rfl rfl (any_of HT_.out (by kernel_rfl)) (fun _ _ _ h => h) (Or.inl ⟨by rfl, ?_⟩) ?_ ?_
                rotate_left
                ·intro w'; go_simp; with_reducible rfl
                rotate_left
                ·simp only [Act.put, List.setIfInBounds_toArray, List.set_cons_zero, List.set_cons_succ, i64_w, i32_w]; rfl
                refine pure_ (i := 2) (N := some 96) (v := ?_) (a' := ?_) q62_ rfl rfl (any_of HT_.out (by kernel_rfl)) (fun _ _ _ h => h) (Or.inl ⟨by rfl, ?_⟩) ?_ ?_
                rotate_left
                ·intro w'; go_simp; with_reducible rfl
                rotate_left
                ·simp only [Act.put, List.setIfInBounds_toArray, List.set_cons_zero, List.set_cons_succ, i64_w, i32_w]; rfl
                refine pure_ (i := 3) (N := some 97) (v := ?_) (a' := ?_) q63_ rfl rfl (any_of HT_.out (by kernel_rfl)) (fun _ _ _ h => h) (Or.inl ⟨by rfl, ?_⟩) ?_ ?_
                rotate_left
                ·intro w'; go_simp; with_reducible rfl
                rotate_left
                ·simp only [Act.put, List.setIfInBounds_toArray, List.set_cons_zero, List.set_cons_succ, i64_w, i32_w]; rfl
                refine pure_ (i := 4) (N := some 98) (v := ?_) (a' := ?_) #[true, true, true, true, true, false, false, false, false] rfl rfl (any_of HT_.out (by kernel_rfl)) (fun _ _ _ h => h) (Or.inl ⟨by rfl, ?_⟩) ?_ ?_
                rotate_left
                ·intro w'; go_simp; with_reducible rfl
                rotate_left
                ·simp only [Act.put, List.setIfInBounds_toArray, List.set_cons_zero, List.set_cons_succ, i64_w, i32_w]; rfl
                refine pure_ (i := 5) (N := some 99) (v := ?_) (a' := ?_) #[true, true, true, true, true, true, false, false, false] rfl rfl (any_of HT_.out (by kernel_rfl)) (fun _ _ _ h => h) (Or.inl ⟨by rfl, ?_⟩) ?_ ?_
                rotate_left
                ·intro w'; go_simp; with_reducible rfl
                rotate_left
                ·simp only [Act.put, List.setIfInBounds_toArray, List.set_cons_zero, List.set_cons_succ, i64_w, i32_w]; rfl
                refine pure_ (i := 6) (N := some 100) (v := ?_) (a' := ?_) #[true, true, true, true, true, true, true, false, false] rfl rfl (any_of HT_.out (by kernel_rfl)) (fun _ _ _ h => h) (Or.inl ⟨by rfl, ?_⟩) ?_ ?_
                rotate_left
                ·intro w'; go_simp; with_reducible rfl
                rotate_left
                ·simp only [Act.put, List.setIfInBounds_toArray, List.set_cons_zero, List.set_cons_succ, i64_w, i32_w]; rfl
                refine pure_ (i := 7) (N := some 101) (v := ?_) (a' := ?_) #[true, true, true, true, true, true, true, true, false] rfl rfl (any_of HT_.out (by kernel_rfl)) (fun _ _ _ h => h) (Or.inl ⟨by rfl, ?_⟩) ?_ ?_
                rotate_left
                ·intro w'; go_simp; with_reducible rfl
                rotate_left
                ·simp only [Act.put, List.setIfInBounds_toArray, List.set_cons_zero, List.set_cons_succ, i64_w, i32_w]; rfl
                refine pure_ (i := 8) (N := some 6) (v := ?_) (a' := ?_) #[true, true, true, true, true, true, true, true, true] rfl rfl (any_of HT_.out (by kernel_rfl)) (fun _ _ _ h => h) (Or.inl ⟨by rfl, ?_⟩) ?_ ?_
                rotate_left
                ·intro w'; go_simp; with_reducible rfl
                rotate_left
                ·simp only [Act.put, List.setIfInBounds_toArray, List.set_cons_zero, List.set_cons_succ, i64_w, i32_w]; rfl
                refine done_ (done_of HT_.out (by kernel_rfl)) ?_
                try go_wp2_with (first | ((with_reducible refine gate_callee (f := 19) rfl ?_); refine goesL_ (some 103) rfl rfl Tryd.func19 (by kernel_rfl) rfl #[.string a0] rfl (by (try simp only [List.map_toArray, List.map_cons, List.map_nil]); first | done | rfl | (simp only [List.length_drop, List.length_take]; rfl)) ?_; (with_reducible refine (impl_PackagistCanonical.calls kj30 a0 t114 _ A87.out).mono ?_); rintro e w97 ⟨rfl, hb⟩; refine ⟨_, rfl, ?_⟩; have n0_ := Aside0.mk (below_step (by repeat (first | (with_reducible first | exact HB.out | apply below_alloc | apply pw_below_drewN | apply below_drew1) | exact HB.out)) hb); clear HB; have HB := n0_; clear n0_; (try clear hb); (try clear hb2); (try clear hk); (try clear hi)) | ((with_reducible refine gate_callee (f := 9) rfl ?_); refine goesL_ (some 107) rfl rfl Tryd.func9 (by kernel_rfl) rfl #[.string a0, .string (((a0.extract 0 ((ji80) : Int).toNat) ++ (⟨#[46]⟩ : ByteArray)) ++ (a0.extract ((ji80) : Int).toNat a0.size))] rfl (by (try simp only [List.map_toArray, List.map_cons, List.map_nil]); first | done | (simp only [hji80]; rfl) | rfl | (simp only [List.length_drop, List.length_take]; rfl)) ?_; (with_reducible refine (impl_PackagistCompareText.calls kj30 a0 (((a0.extract 0 ((ji80) : Int).toNat) ++ (⟨#[46]⟩ : ByteArray)) ++ (a0.extract ((ji80) : Int).toNat a0.size)) t115 true _ A88.out (by first | exact GL.at HG.out (by repeat (first | (with_reducible first | exact HB.out | apply below_alloc | apply pw_below_drewN | apply below_drew1) | exact HB.out)) | exact HG.out)).mono ?_); rintro e w98 ⟨rfl, hb⟩; refine ⟨_, rfl, ?_⟩; have n0_ := Aside0.mk (below_step (by repeat (first | (with_reducible first | exact HB.out | apply below_alloc | apply pw_below_drewN | apply below_drew1) | exact HB.out)) hb); clear HB; have HB := n0_; clear n0_; (try clear hb); (try clear hb2); (try clear hk); (try clear hi)) | (go_at_call 19; (with_reducible refine (impl_PackagistCanonical.calls kj30 (((a0.extract 0 ((ji80) : Int).toNat) ++ (⟨#[46]⟩ : ByteArray)) ++ (a0.extract ((ji80) : Int).toNat a0.size)) t117 _ A93.out).mono ?_); rintro e w99 ⟨rfl, hb⟩; have n0_ := Aside0.mk (below_step (by repeat (first | (with_reducible first | exact HB.out | apply below_alloc | apply pw_below_drewN | apply below_drew1) | exact HB.out)) hb); clear HB; have HB := n0_; clear n0_; (try clear hb); (try clear hb2); (try clear hk); (try clear hi)))
                go_ret
                exact ⟨by first | rfl | (simp [errW_none, errW_some] <;> rfl) | (simp only [← hji80]; first | rfl | (simp [errW_none, errW_some] <;> rfl)) | (simp [*, errW_none, errW_some] <;> rfl) | (simp [bne_nil_hyb]; done), by repeat (first | (with_reducible first | exact HB.out | apply below_alloc | apply pw_below_drewN | apply below_drew1) | exact HB.out)⟩
               ·replace c95 := Bool.eq_false_iff.mpr c95
                subst c95
                have H1 : (some false) = some r := by rw [if_neg (show ¬ (false = true) by decide)] at H; exact H
                clear H
                have H := H1
                clear H1
                obtain rfl := Option.some.inj H
                try go_wp2
                have n0_ := Aside0.mk (below_drew1 HB.out)
                clear HB
                have HB := n0_
                clear n0_
                refine start_ (n := 9) (S := fun w' => True) (ds := []) q59_ (by kernel_rfl) rfl rfl trivial (fun hHeld => ?_); refine with_tabW laws_FnPackagistPoints.tab8 laws_FnPackagistPoints.bits8 (fun HT_ HW_ => ?_)
                generalize wc.drew = w100 at HB hHeld ⊢
                refine pure_ (i := 0) (N := some 94) (v := ?_) (a' := ?_) q60_ rfl rfl (any_of HT_.out (by kernel_rfl)) (fun _ _ _ h => h) (Or.inl ⟨by rfl, ?_⟩) ?_ ?_
                rotate_left
                ·intro w'; go_simp; with_reducible rfl
                rotate_left
                ·simp only [Act.put, List.setIfInBounds_toArray, List.set_cons_zero, List.set_cons_succ, i64_w, i32_w]; rfl
                refine pure_ (i := 1) (N := some 95) (v := ?_) (a' := ?_) q61_ rfl rfl (any_of HT_.out (by kernel_rfl)) (fun _ _ _ h => h) (Or.inl ⟨by rfl, ?_⟩) ?_ ?_
                rotate_left
                ·intro w'; go_simp; with_reducible rfl
                rotate_left
                ·simp only [Act.put, List.setIfInBounds_toArray, List.set_cons_zero, List.set_cons_succ, i64_w, i32_w]; rfl
                refine pure_ (i := 2) (N := some 96) (v := ?_) (a' := ?_) q62_ rfl rfl (any_of HT_.out (by kernel_rfl)) (fun _ _ _ h => h) (Or.inl ⟨by rfl, ?_⟩) ?_ ?_
                rotate_left
                ·intro w'; go_simp; with_reducible rfl
                rotate_left
                ·simp only [Act.put, List.setIfInBounds_toArray, List.set_cons_zero, List.set_cons_succ, i64_w, i32_w]; rfl
                refine pure_ (i := 3) (N := some 97) (v := ?_) (a' := ?_) q63_ rfl rfl (any_of HT_.out (by kernel_rfl)) (fun _ _ _ h => h) (Or.inl ⟨by rfl, ?_⟩) ?_ ?_
                rotate_left
                ·intro w'; go_simp; with_reducible rfl
                rotate_left
                ·simp only [Act.put, List.setIfInBounds_toArray, List.set_cons_zero, List.set_cons_succ, i64_w, i32_w]; rfl
                refine pure_ (i := 4) (N := some 98) (v := ?_) (a' := ?_) #[true, true, true, true, true, false, false, false, false] rfl rfl (any_of HT_.out (by kernel_rfl)) (fun _ _ _ h => h) (Or.inl ⟨by rfl, ?_⟩) ?_ ?_
                rotate_left
                ·intro w'; go_simp; with_reducible rfl
                rotate_left
                ·simp only [Act.put, List.setIfInBounds_toArray, List.set_cons_zero, List.set_cons_succ, i64_w, i32_w]; rfl
                refine pure_ (i := 5) (N := some 99) (v := ?_) (a' := ?_) #[true, true, true, true, true, true, false, false, false] rfl rfl (any_of HT_.out (by kernel_rfl)) (fun _ _ _ h => h) (Or.inl ⟨by rfl, ?_⟩) ?_ ?_
                rotate_left
                ·intro w'; go_simp; with_reducible rfl
                rotate_left
                ·simp only [Act.put, List.setIfInBounds_toArray, List.set_cons_zero, List.set_cons_succ, i64_w, i32_w]; rfl
                refine pure_ (i := 6) (N := some 100) (v := ?_) (a' := ?_) #[true, true, true, true, true, true, true, false, false] rfl rfl (any_of HT_.out (by kernel_rfl)) (fun _ _ _ h => h) (Or.inl ⟨by rfl, ?_⟩) ?_ ?_
                rotate_left
                ·intro w'; go_simp; with_reducible rfl
                rotate_left
                ·simp only [Act.put, List.setIfInBounds_toArray, List.set_cons_zero, List.set_cons_succ, i64_w, i32_w]; rfl
                refine pure_ (i := 7) (N := some 101) (v := ?_) (a' := ?_) #[true, true, true, true, true, true, true, true, false] rfl rfl (any_of HT_.out (by kernel_rfl)) (fun _ _ _ h => h) (Or.inl ⟨by rfl, ?_⟩) ?_ ?_
                rotate_left
                ·intro w'; go_simp; with_reducible rfl
                rotate_left
                ·simp only [Act.put, List.setIfInBounds_toArray, List.set_cons_zero, List.set_cons_succ, i64_w, i32_w]; rfl
                refine pure_ (i := 8) (N := some 6) (v := ?_) (a' := ?_) #[true, true, true, true, true, true, true, true, true] rfl rfl (any_of HT_.out (by kernel_rfl)) (fun _ _ _ h => h) (Or.inl ⟨by rfl, ?_⟩) ?_ ?_
                rotate_left
                ·intro w'; go_simp; with_reducible rfl
                rotate_left
                ·simp only [Act.put, List.setIfInBounds_toArray, List.set_cons_zero, List.set_cons_succ, i64_w, i32_w]; rfl
                refine done_ (done_of HT_.out (by kernel_rfl)) ?_
                try go_wp2_with (first | ((with_reducible refine gate_callee (f := 19) rfl ?_); refine goesL_ (some 103) rfl rfl Tryd.func19 (by kernel_rfl) rfl #[.string a0] rfl (by (try simp only [List.map_toArray, List.map_cons, List.map_nil]); first | done | rfl | (simp only [List.length_drop, List.length_take]; rfl)) ?_; (with_reducible refine (impl_PackagistCanonical.calls kj30 a0 t114 _ A87.out).mono ?_); rintro e w101 ⟨rfl, hb⟩; refine ⟨_, rfl, ?_⟩; have n0_ := Aside0.mk (below_step (by repeat (first | (with_reducible first | exact HB.out | apply below_alloc | apply pw_below_drewN | apply below_drew1) | exact HB.out)) hb); clear HB; have HB := n0_; clear n0_; (try clear hb); (try clear hb2); (try clear hk); (try clear hi)) | ((with_reducible refine gate_callee (f := 9) rfl ?_); refine goesL_ (some 107) rfl rfl Tryd.func9 (by kernel_rfl) rfl #[.string a0, .string (((a0.extract 0 ((ji80) : Int).toNat) ++ (⟨#[46]⟩ : ByteArray)) ++ (a0.extract ((ji80) : Int).toNat a0.size))] rfl (by (try simp only [List.map_toArray, List.map_cons, List.map_nil]); first | done | (simp only [hji80]; rfl) | rfl | (simp only [List.length_drop, List.length_take]; rfl)) ?_; (with_reducible refine (impl_PackagistCompareText.calls kj30 a0 (((a0.extract 0 ((ji80) : Int).toNat) ++ (⟨#[46]⟩ : ByteArray)) ++ (a0.extract ((ji80) : Int).toNat a0.size)) t115 false _ A88.out (by first | exact GL.at HG.out (by repeat (first | (with_reducible first | exact HB.out | apply below_alloc | apply pw_below_drewN | apply below_drew1) | exact HB.out)) | exact HG.out)).mono ?_); rintro e w102 ⟨rfl, hb⟩; refine ⟨_, rfl, ?_⟩; have n0_ := Aside0.mk (below_step (by repeat (first | (with_reducible first | exact HB.out | apply below_alloc | apply pw_below_drewN | apply below_drew1) | exact HB.out)) hb); clear HB; have HB := n0_; clear n0_; (try clear hb); (try clear hb2); (try clear hk); (try clear hi)) | (go_at_call 19; (with_reducible refine (impl_PackagistCanonical.calls kj30 (((a0.extract 0 ((ji80) : Int).toNat) ++ (⟨#[46]⟩ : ByteArray)) ++ (a0.extract ((ji80) : Int).toNat a0.size)) t117 _ A93.out).mono ?_); rintro e w103 ⟨rfl, hb⟩; have n0_ := Aside0.mk (below_step (by repeat (first | (with_reducible first | exact HB.out | apply below_alloc | apply pw_below_drewN | apply below_drew1) | exact HB.out)) hb); clear HB; have HB := n0_; clear n0_; (try clear hb); (try clear hb2); (try clear hk); (try clear hi)))
                go_ret
                exact ⟨by first | rfl | (simp [errW_none, errW_some] <;> rfl) | (simp only [← hji80]; first | rfl | (simp [errW_none, errW_some] <;> rfl)) | (simp [*, errW_none, errW_some] <;> rfl) | (simp [bne_nil_hyb]; done), by repeat (first | (with_reducible first | exact HB.out | apply below_alloc | apply pw_below_drewN | apply below_drew1) | exact HB.out)⟩
              ·rw [if_neg c94] at H
               have c94b0 : (t117.toList == t114.toList) = false := beq_eq_false_iff_ne.mpr c94
               have c94b1 : (t117.toList != t114.toList) = true := bne_iff_ne.mpr c94
               obtain rfl := Option.some.inj H
               try go_wp2
               have n0_ := Aside0.mk (below_drew1 HB.out)
               clear HB
               have HB := n0_
               clear n0_
               refine start_ (n := 9) (S := fun w' => True) (ds := []) q59_ (by kernel_rfl) rfl rfl trivial (fun hHeld => ?_); refine with_tabW laws_FnPackagistPoints.tab8 laws_FnPackagistPoints.bits8 (fun HT_ HW_ => ?_)
               generalize wc.drew = w104 at HB hHeld ⊢
               refine pure_ (i := 0) (N := some 94) (v := ?_) (a' := ?_) q60_ rfl rfl (any_of HT_.out (by kernel_rfl)) (fun _ _ _ h => h) (Or.inl ⟨by rfl, ?_⟩) ?_ ?_
               rotate_left
               ·intro w'; go_simp; with_reducible rfl
               rotate_left
               ·simp only [Act.put, List.setIfInBounds_toArray, List.set_cons_zero, List.set_cons_succ, i64_w, i32_w]; rfl
               refine pure_ (i := 1) (N := some 95) (v := ?_) (a' := ?_) q61_ rfl rfl (any_of HT_.out (by kernel_rfl)) (fun _ _ _ h => h) (Or.inl ⟨by rfl, ?_⟩) ?_ ?_
               rotate_left
               ·intro w'; go_simp; with_reducible rfl
               rotate_left
               ·simp only [Act.put, List.setIfInBounds_toArray, List.set_cons_zero, List.set_cons_succ, i64_w, i32_w]; rfl
               refine pure_ (i := 2) (N := some 96) (v := ?_) (a' := ?_) q62_ rfl rfl (any_of HT_.out (by kernel_rfl)) (fun _ _ _ h => h) (Or.inl ⟨by rfl, ?_⟩) ?_ ?_
               rotate_left
               ·intro w'; go_simp; with_reducible rfl
               rotate_left
               ·simp only [Act.put, List.setIfInBounds_toArray, List.set_cons_zero, List.set_cons_succ, i64_w, i32_w]; rfl
               refine pure_ (i := 3) (N := some 97) (v := ?_) (a' := ?_) q63_ rfl rfl (any_of HT_.out (by kernel_rfl)) (fun _ _ _ h => h) (Or.inl ⟨by rfl, ?_⟩) ?_ ?_
               rotate_left
               ·intro w'; go_simp; with_reducible rfl
               rotate_left
               ·simp only [Act.put, List.setIfInBounds_toArray, List.set_cons_zero, List.set_cons_succ, i64_w, i32_w]; rfl
               refine pure_ (i := 4) (N := some 98) (v := ?_) (a' := ?_) #[true, true, true, true, true, false, false, false, false] rfl rfl (any_of HT_.out (by kernel_rfl)) (fun _ _ _ h => h) (Or.inl ⟨by rfl, ?_⟩) ?_ ?_
               rotate_left
               ·intro w'; go_simp; with_reducible rfl
               rotate_left
               ·simp only [Act.put, List.setIfInBounds_toArray, List.set_cons_zero, List.set_cons_succ, i64_w, i32_w]; rfl
               refine pure_ (i := 5) (N := some 99) (v := ?_) (a' := ?_) #[true, true, true, true, true, true, false, false, false] rfl rfl (any_of HT_.out (by kernel_rfl)) (fun _ _ _ h => h) (Or.inl ⟨by rfl, ?_⟩) ?_ ?_
               rotate_left
               ·intro w'; go_simp; with_reducible rfl
               rotate_left
               ·simp only [Act.put, List.setIfInBounds_toArray, List.set_cons_zero, List.set_cons_succ, i64_w, i32_w]; rfl
               refine pure_ (i := 6) (N := some 100) (v := ?_) (a' := ?_) #[true, true, true, true, true, true, true, false, false] rfl rfl (any_of HT_.out (by kernel_rfl)) (fun _ _ _ h => h) (Or.inl ⟨by rfl, ?_⟩) ?_ ?_
               rotate_left
               ·intro w'; go_simp; with_reducible rfl
               rotate_left
               ·simp only [Act.put, List.setIfInBounds_toArray, List.set_cons_zero, List.set_cons_succ, i64_w, i32_w]; rfl
               refine pure_ (i := 7) (N := some 101) (v := ?_) (a' := ?_) #[true, true, true, true, true, true, true, true, false] rfl rfl (any_of HT_.out (by kernel_rfl)) (fun _ _ _ h => h) (Or.inl ⟨by rfl, ?_⟩) ?_ ?_
               rotate_left
               ·intro w'; go_simp; with_reducible rfl
               rotate_left
               ·simp only [Act.put, List.setIfInBounds_toArray, List.set_cons_zero, List.set_cons_succ, i64_w, i32_w]; rfl
               refine pure_ (i := 8) (N := some 6) (v := ?_) (a' := ?_) #[true, true, true, true, true, true, true, true, true] rfl rfl (any_of HT_.out (by kernel_rfl)) (fun _ _ _ h => h) (Or.inl ⟨by rfl, ?_⟩) ?_ ?_
               rotate_left
               ·intro w'; go_simp; with_reducible rfl
               rotate_left
               ·simp only [Act.put, List.setIfInBounds_toArray, List.set_cons_zero, List.set_cons_succ, i64_w, i32_w]; rfl
               refine done_ (done_of HT_.out (by kernel_rfl)) ?_
               try go_wp2_with (first | ((with_reducible refine gate_callee (f := 19) rfl ?_); refine goesL_ (some 103) rfl rfl Tryd.func19 (by kernel_rfl) rfl #[.string a0] rfl (by (try simp only [List.map_toArray, List.map_cons, List.map_nil]); first | done | rfl | (simp only [List.length_drop, List.length_take]; rfl)) ?_; (with_reducible refine (impl_PackagistCanonical.calls kj30 a0 t114 _ A87.out).mono ?_); rintro e w105 ⟨rfl, hb⟩; refine ⟨_, rfl, ?_⟩; have n0_ := Aside0.mk (below_step (by repeat (first | (with_reducible first | exact HB.out | apply below_alloc | apply pw_below_drewN | apply below_drew1) | exact HB.out)) hb); clear HB; have HB := n0_; clear n0_; (try clear hb); (try clear hb2); (try clear hk); (try clear hi)) | ((with_reducible refine gate_callee (f := 9) rfl ?_); refine goesL_ (some 107) rfl rfl Tryd.func9 (by kernel_rfl) rfl #[.string a0, .string (((a0.extract 0 ((ji80) : Int).toNat) ++ (⟨#[46]⟩ : ByteArray)) ++ (a0.extract ((ji80) : Int).toNat a0.size))] rfl (by (try simp only [List.map_toArray, List.map_cons, List.map_nil]); first | done | (simp only [hji80]; rfl) | rfl | (simp only [List.length_drop, List.length_take]; rfl)) ?_; (with_reducible refine (impl_PackagistCompareText.calls kj30 a0 (((a0.extract 0 ((ji80) : Int).toNat) ++ (⟨#[46]⟩ : ByteArray)) ++ (a0.extract ((ji80) : Int).toNat a0.size)) t115 t116 _ A88.out (by first | exact GL.at HG.out (by repeat (first | (with_reducible first | exact HB.out | apply below_alloc | apply pw_below_drewN | apply below_drew1) | exact HB.out)) | exact HG.out)).mono ?_); rintro e w106 ⟨rfl, hb⟩; refine ⟨_, rfl, ?_⟩; have n0_ := Aside0.mk (below_step (by repeat (first | (with_reducible first | exact HB.out | apply below_alloc | apply pw_below_drewN | apply below_drew1) | exact HB.out)) hb); clear HB; have HB := n0_; clear n0_; (try clear hb); (try clear hb2); (try clear hk); (try clear hi)) | (go_at_call 19; (with_reducible refine (impl_PackagistCanonical.calls kj30 (((a0.extract 0 ((ji80) : Int).toNat) ++ (⟨#[46]⟩ : ByteArray)) ++ (a0.extract ((ji80) : Int).toNat a0.size)) t117 _ A93.out).mono ?_); rintro e w107 ⟨rfl, hb⟩; have n0_ := Aside0.mk (below_step (by repeat (first | (with_reducible first | exact HB.out | apply below_alloc | apply pw_below_drewN | apply below_drew1) | exact HB.out)) hb); clear HB; have HB := n0_; clear n0_; (try clear hb); (try clear hb2); (try clear hk); (try clear hi)))
               go_ret
               exact ⟨by first | rfl | (simp [errW_none, errW_some] <;> rfl) | (simp only [← hji80]; first | rfl | (simp [errW_none, errW_some] <;> rfl)) | (simp [*, errW_none, errW_some] <;> rfl) | (simp [bne_nil_hyb]; done), by repeat (first | (with_reducible first | exact HB.out | apply below_alloc | apply pw_below_drewN | apply below_drew1) | exact HB.out)⟩
            ·rw [if_neg c86] at H
             exact absurd H (by simp)
           ·rw [if_neg c83] at H
            exact absurd H (by simp)
          ·rw [if_neg c82] at H
           exact absurd H (by simp)
         ·rw [if_neg c81] at H
          exact absurd H (by simp)

/-- THE ONE PURE STATEMENT of laws_FnPackagistPoints: yours. -/
def laws_FnPackagistPoints.Pure : Prop := ∀ (a0 : ByteArray) (a1 : Int), a0.size ≤ 140737488351232 → (Lit.int .u16 a1).wf = true → ∃ k, laws_FnPackagistPoints.f k a0 a1 = some true
theorem laws_FnPackagistPoints.walk (P : laws_FnPackagistPoints.Pure) (a0 : ByteArray) (a1 : Int) (w : World) (w0 : a0.size ≤ 140737488351232) (w1 : (Lit.int .u16 a1).wf = true) (hG : GL w) :
  Calls Tryd.prog 6 #[.string a0, .int .u16 a1] w fun e w' => e = .returned (.bool true) ∧ Below w.heap.size w w' := by
 obtain ⟨k, h⟩ := P a0 a1 w0 w1
 refine (laws_FnPackagistPoints.calls k a0 a1 true w h hG).mono ?_
 rintro e w' ⟨rfl, hd⟩
 exact ⟨rfl, hd⟩

end Go.Proofs.YtdjkekgfeadmoaaDoor.T
