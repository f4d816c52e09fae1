/- Proved here: each Go function that is named in this text, called as its theorem 'calls' says, returns what its Lean function 'f' tells, and of the memory that was there nothing is changed (a row of a law: the law returns true). Conditions: those that stand in each theorem; where 'f' tells none, nothing is said. Laid by a program of this seat's prover out of the translation; Lean checks it. -/
import Derived.Test.YtdjkekgfeadmoaaDoorTx0
namespace Go.Proofs.YtdjkekgfeadmoaaDoor.T
open Go.RowKit Go.Proofs.YtdjkekgfeadmoaaDoorH Go.Proofs.YtdjkekgfeadmoaaDoorG Go.Proofs.YtdjkekgfeadmoaaDoor.Q Go.Proofs.YtdjkekgfeadmoaaDoorW.PrintWords Go.Proofs.YtdjkekgfeadmoaaDoorW.PrintLast Go.Proofs.YtdjkekgfeadmoaaDoorW.PrintMore
attribute [local go_sem] max2_int min2_int max_two min_two max_three min_three max_four min_four   -- for this text's walks alone
set_option linter.unusedVariables false
set_option linter.unusedSimpArgs false

-- BY HAND: function 7 (laws_short)

-- LEFT OUT: function 30 (semantic_zzIndex)

-- LEFT OUT: function 26 (semantic_zzSplit)

-- LEFT OUT: function 42 (stringslite_HasPrefix)

-- LEFT OUT: function 35 (stringslite_TrimPrefix)

-- LEFT OUT: function 31 (strings_TrimPrefix)

-- LEFT OUT: function 32 (semantic_zzPointed)

-- LEFT OUT: function 43 (utf8_decodeRuneInStringSlow)

-- LEFT OUT: function 36 (utf8_DecodeRuneInString)

-- LEFT OUT: function 37 (semantic_zzDigit)

-- LEFT OUT: function 33 (semantic_zzParted)

-- LEFT OUT: function 27 (semantic_canonicalizePackagistVersion)

-- LEFT OUT: function 20 (semantic_ParsePackagistVersion)

-- LEFT OUT: function 62 (bigall_scanSign)

-- LEFT OUT: function 67 (bigall_maxPow)

-- LEFT OUT: function 71 (bigall_nat_norm)

-- LEFT OUT: function 75 (bigall_nat_make)

-- LEFT OUT: function 74 (bigall_nat_setWord)

-- LEFT OUT: function 97 (bits_Mul32)

-- LEFT OUT: function 98 (bits_Mul64)

-- LEFT OUT: function 95 (bits_Mul)

-- LEFT OUT: function 99 (bits_Add32)

-- LEFT OUT: function 100 (bits_Add64)

-- LEFT OUT: function 96 (bits_Add)

-- LEFT OUT: function 92 (bigall_mulAddWWW_g)

-- LEFT OUT: function 85 (bigall_mulAddVWW_g)

-- LEFT OUT: function 76 (bigall_mulAddVWW)

-- LEFT OUT: function 68 (bigall_nat_mulAddWW)

-- LEFT OUT: function 69 (bigall_pow)

-- LEFT OUT: function 70 (bigall_Word)

-- LEFT OUT: function 77 (bigall_same)

-- LEFT OUT: function 78 (bigall_alias)

-- LEFT OUT: function 79 (bigall_nat_set)

-- LEFT OUT: function 86 (bigall_rshVU_g)

-- LEFT OUT: function 80 (bigall_rshVU)

-- LEFT OUT: function 72 (bigall_nat_rsh)

-- LEFT OUT: function 63 (bigall_nat_scan)

-- LEFT OUT: function 57 (bigall_Int_scan)

-- LEFT OUT: function 49 (bigall_Int_setFromScanner)

-- LEFT OUT: function 50 (strings_NewReader)

-- LEFT OUT: function 44 (bigall_Int_SetString)

-- LEFT OUT: function 38 (semantic_convertToBigInt)

-- LEFT OUT: function 45 (bigall_nat_cmp)

-- LEFT OUT: function 39 (bigall_Int_Cmp)

-- LEFT OUT: function 51 (strings_HasPrefix)

-- LEFT OUT: function 46 (semantic_weighPackagistBuildCharacter)

-- LEFT OUT: function 40 (semantic_comparePackagistSpecialVersions)

-- LEFT OUT: function 64 (strconv_lower)

-- LEFT OUT: function 65 (strconv_underscoreOK)

-- LEFT OUT: function 58 (strconv_ParseUint)

-- LEFT OUT: function 52 (strconv_ParseInt)

-- LEFT OUT: function 47 (strconv_Atoi_47)

-- LEFT OUT: function 59 (stringslite_Clone)

-- LEFT OUT: function 53 (strconv_syntaxError)

-- LEFT OUT: function 54 (strconv_rangeError)

-- LEFT OUT: function 60 (errors_New)

-- LEFT OUT: function 81 (strconv_small)

-- LEFT OUT: function 87 (strconv_log10Pow2)

-- LEFT OUT: function 88 (bits_Len64)

-- LEFT OUT: function 89 (strconv_bool2_int)

-- LEFT OUT: function 82 (strconv_numDigits)

-- LEFT OUT: function 83 (strconv_formatBase10)

-- LEFT OUT: function 90 (strconv_isPowerOfTwo)

-- LEFT OUT: function 93 (bits_TrailingZeros32)

-- LEFT OUT: function 94 (bits_TrailingZeros64)

-- LEFT OUT: function 91 (bits_TrailingZeros)

-- LEFT OUT: function 84 (strconv_formatBits)

-- LEFT OUT: function 73 (strconv_FormatInt)

-- LEFT OUT: function 66 (strconv_Itoa_66)

-- LEFT OUT: function 61 (strconv_Itoa_61)

-- LEFT OUT: function 55 (strconv_baseError)

-- LEFT OUT: function 56 (strconv_bitSizeError)

-- LEFT OUT: function 48 (strconv_toError)

-- LEFT OUT: function 41 (strconv_Atoi_41)

-- LEFT OUT: function 34 (semantic_comparePackagistComponents)

-- LEFT OUT: function 28 (semantic_PackagistVersion_compare)

-- LEFT OUT: function 21 (semantic_PackagistVersion_CompareStr)

-- BY HAND: function 9 (impl_PackagistCompareText)

/-! ### laws_words: function 13 -/
def laws_words.l0 : Nat → ByteArray → Int → Option (Bool)
  | 0, _, _ => none
  | k + 1, x0, x3 => if x3 < (x0.size : Int) then (if 0 ≤ x3 then (if (bt x0 x3) ≥ 97 then (if (bt x0 x3) ≤ 122 then (laws_words.l0 k x0 (wrap64 (x3 + 1))) else (if (bt x0 x3) ≥ 65 then (if ((bt x0 x3) ≤ 90) then (laws_words.l0 k x0 (wrap64 (x3 + 1))) else (some false)) else (some false))) else (if (bt x0 x3) ≥ 65 then (if ((bt x0 x3) ≤ 90) then (laws_words.l0 k x0 (wrap64 (x3 + 1))) else (some false)) else (some false))) else (none)) else (some (x0.toList != ([] : List UInt8)))
def laws_words.f (k : Nat) (a0 : ByteArray) : Option (Bool) := laws_words.l0 k a0 0
theorem laws_words.mono_l : ∀ k, (∀ y0 y1, LeO (laws_words.l0 k y0 y1) (laws_words.l0 (k + 1) y0 y1))
  | 0 => fun _ _ r h => by simp [laws_words.l0] at h
  | k + 1 => by
    have ih0 := laws_words.mono_l k
    · intro y0 y1
      unfold laws_words.l0
      repeat' first
      | (with_reducible exact ih0 _ _)
      | (with_reducible exact LeO.refl _)
      | (with_reducible exact LeO.none _)
      | (with_reducible refine LeO.ite ?_ ?_)
      | (with_reducible refine LeO.bind ?_ (fun _ => ?_))
      | exact ih0 _ _
      | exact LeO.none _
      | refine LeO.ite ?_ ?_
      | refine LeO.bind ?_ (fun _ => ?_)
theorem laws_words.mono : ∀ a0 k, LeO (laws_words.f k a0) (laws_words.f (k + 1) a0) := by
  intro a0 k
  have ih0 := laws_words.mono_l k
  unfold laws_words.f
  repeat' first
      | (with_reducible exact ih0 _ _)
      | (with_reducible exact LeO.refl _)
      | (with_reducible exact LeO.none _)
      | (with_reducible refine LeO.ite ?_ ?_)
      | (with_reducible refine LeO.bind ?_ (fun _ => ?_))
      | exact ih0 _ _
      | exact LeO.none _
      | refine LeO.ite ?_ ?_
      | refine LeO.bind ?_ (fun _ => ?_)
set_option maxHeartbeats 8000000 in
set_option maxRecDepth 100000 in
theorem laws_words.calls (k : Nat) (a0 : ByteArray) (r : Bool) (w : World) (h : laws_words.f k a0 = some r) :
    Calls Tryd.prog 13 #[.string a0] w fun e w' => e = .returned (.bool r) ∧ Drawn0 w w' := by
  have H : (laws_words.l0 k a0 0) = some r := h
  clear h
  have H' := Aside0.mk H
  clear H
  go_enter Tryd.func13, Tryd.ntmps13
  go_wp2
  (try simp only [Act.put, List.setIfInBounds_toArray, List.set_cons_zero, List.set_cons_succ])
  go_loopg [3] k (fun kq v3 w' => ∃ (x3_1 : Int), v3 = .int .i64 x3_1 ∧ Aside0 (laws_words.l0 kq a0 x3_1 = some r) ∧ Aside0 (kq ≤ k) ∧ Drawn0 w w')
  case atStart => exact ⟨(0), (by first | rfl | (simp; done) | (simp [*]; done) | (simp [bne_nil_hyb]; done) | (simp [bne_nil_hyb, *]; done)), H', ⟨Nat.le_refl _⟩, by repeat (first | exact Drawn0.refl _ | apply Drawn0.step)⟩
  case round =>
    clear H'
    try clear c1
    obtain ⟨x3_1, rfl, HA, HK1, ⟨m1, rfl⟩⟩ := hrel
    cases gk with
    | zero => exact absurd HA.out (by simp [laws_words.l0])
    | succ k1 =>
      have H := HA.out
      clear HA
      simp only [laws_words.l0] at H
      by_cases c2 : x3_1 < (a0.size : Int)
      · rw [if_pos c2] at H
        have c2b0 : decide (x3_1 < (a0.size : Int)) = true := decide_eq_true c2
        clear c2
        by_cases c3 : 0 ≤ x3_1
        · rw [if_pos c3] at H
          have c3b0 : decide (0 ≤ x3_1) = true := decide_eq_true c3
          clear c3
          by_cases c5 : (bt a0 x3_1) ≥ 97
          · rw [if_pos c5] at H
            have c5b0 : decide (97 ≤ (bt a0 x3_1)) = true := decide_eq_true c5
            clear c5
            by_cases c6 : (bt a0 x3_1) ≤ 122
            · rw [if_pos c6] at H
              have c6b0 : decide ((bt a0 x3_1) ≤ 122) = true := decide_eq_true c6
              clear c6
              have H' := Aside0.mk H
              clear H
              have p4 : 0 ≤ (x3_1 : Int) := of_decide_eq_true (by first | (with_reducible assumption) | assumption)
              have q4 : x3_1 < (a0.size : Int) := of_decide_eq_true (by first | (with_reducible assumption) | assumption)
              have hx4 := bt_at a0 x3_1
              replace p4 := eq_true p4
              replace q4 := eq_true q4
              go_wp2
              go_roundg k1
              case measure => have := HK1.out; omega
              case rel => exact ⟨(wrap64 (x3_1 + 1)), (by first | rfl | (simp; done) | (simp [*]; done) | (simp [bne_nil_hyb]; done) | (simp [bne_nil_hyb, *]; done)), H', ⟨by have := HK1.out; omega⟩, by repeat (first | exact Drawn0.refl _ | apply Drawn0.step)⟩
            · rw [if_neg c6] at H
              have c6b0 : decide ((bt a0 x3_1) ≤ 122) = false := decide_eq_false c6
              clear c6
              by_cases c7 : (bt a0 x3_1) ≥ 65
              · rw [if_pos c7] at H
                have c7b0 : decide (65 ≤ (bt a0 x3_1)) = true := decide_eq_true c7
                clear c7
                by_cases c8 : ((bt a0 x3_1) ≤ 90)
                · rw [if_pos c8] at H
                  have c8b0 : decide ((bt a0 x3_1) ≤ 90) = true := decide_eq_true c8
                  clear c8
                  have H' := Aside0.mk H
                  clear H
                  have p4 : 0 ≤ (x3_1 : Int) := of_decide_eq_true (by first | (with_reducible assumption) | assumption)
                  have q4 : x3_1 < (a0.size : Int) := of_decide_eq_true (by first | (with_reducible assumption) | assumption)
                  have hx4 := bt_at a0 x3_1
                  replace p4 := eq_true p4
                  replace q4 := eq_true q4
                  go_wp2
                  go_roundg k1
                  case measure => have := HK1.out; omega
                  case rel => exact ⟨(wrap64 (x3_1 + 1)), (by first | rfl | (simp; done) | (simp [*]; done) | (simp [bne_nil_hyb]; done) | (simp [bne_nil_hyb, *]; done)), H', ⟨by have := HK1.out; omega⟩, by repeat (first | exact Drawn0.refl _ | apply Drawn0.step)⟩
                · rw [if_neg c8] at H
                  have c8b0 : decide ((bt a0 x3_1) ≤ 90) = false := decide_eq_false c8
                  clear c8
                  obtain rfl := Option.some.inj H
                  have p4 : 0 ≤ (x3_1 : Int) := of_decide_eq_true (by first | (with_reducible assumption) | assumption)
                  have q4 : x3_1 < (a0.size : Int) := of_decide_eq_true (by first | (with_reducible assumption) | assumption)
                  have hx4 := bt_at a0 x3_1
                  replace p4 := eq_true p4
                  replace q4 := eq_true q4
                  go_wp2
                  go_ret
                  exact ⟨by first | rfl | (simp; done) | (simp [*]; done) | (simp [bne_nil_hyb]; done) | (simp [bne_nil_hyb, *]; done), by repeat (first | exact Drawn0.refl _ | apply Drawn0.step)⟩
              · rw [if_neg c7] at H
                have c7b0 : decide (65 ≤ (bt a0 x3_1)) = false := decide_eq_false c7
                clear c7
                obtain rfl := Option.some.inj H
                have p4 : 0 ≤ (x3_1 : Int) := of_decide_eq_true (by first | (with_reducible assumption) | assumption)
                have q4 : x3_1 < (a0.size : Int) := of_decide_eq_true (by first | (with_reducible assumption) | assumption)
                have hx4 := bt_at a0 x3_1
                replace p4 := eq_true p4
                replace q4 := eq_true q4
                go_wp2
                go_ret
                exact ⟨by first | rfl | (simp; done) | (simp [*]; done) | (simp [bne_nil_hyb]; done) | (simp [bne_nil_hyb, *]; done), by repeat (first | exact Drawn0.refl _ | apply Drawn0.step)⟩
          · rw [if_neg c5] at H
            have c5b0 : decide (97 ≤ (bt a0 x3_1)) = false := decide_eq_false c5
            clear c5
            by_cases c9 : (bt a0 x3_1) ≥ 65
            · rw [if_pos c9] at H
              have c9b0 : decide (65 ≤ (bt a0 x3_1)) = true := decide_eq_true c9
              clear c9
              by_cases c10 : ((bt a0 x3_1) ≤ 90)
              · rw [if_pos c10] at H
                have c10b0 : decide ((bt a0 x3_1) ≤ 90) = true := decide_eq_true c10
                clear c10
                have H' := Aside0.mk H
                clear H
                have p4 : 0 ≤ (x3_1 : Int) := of_decide_eq_true (by first | (with_reducible assumption) | assumption)
                have q4 : x3_1 < (a0.size : Int) := of_decide_eq_true (by first | (with_reducible assumption) | assumption)
                have hx4 := bt_at a0 x3_1
                replace p4 := eq_true p4
                replace q4 := eq_true q4
                go_wp2
                go_roundg k1
                case measure => have := HK1.out; omega
                case rel => exact ⟨(wrap64 (x3_1 + 1)), (by first | rfl | (simp; done) | (simp [*]; done) | (simp [bne_nil_hyb]; done) | (simp [bne_nil_hyb, *]; done)), H', ⟨by have := HK1.out; omega⟩, by repeat (first | exact Drawn0.refl _ | apply Drawn0.step)⟩
              · rw [if_neg c10] at H
                have c10b0 : decide ((bt a0 x3_1) ≤ 90) = false := decide_eq_false c10
                clear c10
                obtain rfl := Option.some.inj H
                have p4 : 0 ≤ (x3_1 : Int) := of_decide_eq_true (by first | (with_reducible assumption) | assumption)
                have q4 : x3_1 < (a0.size : Int) := of_decide_eq_true (by first | (with_reducible assumption) | assumption)
                have hx4 := bt_at a0 x3_1
                replace p4 := eq_true p4
                replace q4 := eq_true q4
                go_wp2
                go_ret
                exact ⟨by first | rfl | (simp; done) | (simp [*]; done) | (simp [bne_nil_hyb]; done) | (simp [bne_nil_hyb, *]; done), by repeat (first | exact Drawn0.refl _ | apply Drawn0.step)⟩
            · rw [if_neg c9] at H
              have c9b0 : decide (65 ≤ (bt a0 x3_1)) = false := decide_eq_false c9
              clear c9
              obtain rfl := Option.some.inj H
              have p4 : 0 ≤ (x3_1 : Int) := of_decide_eq_true (by first | (with_reducible assumption) | assumption)
              have q4 : x3_1 < (a0.size : Int) := of_decide_eq_true (by first | (with_reducible assumption) | assumption)
              have hx4 := bt_at a0 x3_1
              replace p4 := eq_true p4
              replace q4 := eq_true q4
              go_wp2
              go_ret
              exact ⟨by first | rfl | (simp; done) | (simp [*]; done) | (simp [bne_nil_hyb]; done) | (simp [bne_nil_hyb, *]; done), by repeat (first | exact Drawn0.refl _ | apply Drawn0.step)⟩
        · rw [if_neg c3] at H
          exact absurd H (by simp)
      · rw [if_neg c2] at H
        have c2b0 : decide (x3_1 < (a0.size : Int)) = false := decide_eq_false c2
        clear c2
        obtain rfl := Option.some.inj H
        go_wp2
        go_ret
        exact ⟨by first | rfl | (simp; done) | (simp [*]; done) | (simp [bne_nil_hyb]; done) | (simp [bne_nil_hyb, *]; done), by repeat (first | exact Drawn0.refl _ | apply Drawn0.step)⟩

-- BY HAND: function 14 (laws_digits)

-- LEFT OUT: function 24 (spec_Ascii)

-- BY HAND: function 18 (spec_PackagistTextKnown)

-- LEFT OUT: function 25 (semantic_ZZPackagistCanonical)

-- BY HAND: function 19 (impl_PackagistCanonical)

end Go.Proofs.YtdjkekgfeadmoaaDoor.T
