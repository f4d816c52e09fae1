/- Proved here, for the row of the law FnPyPIStages: contracts of the Go functions that it reaches, each as its theorem 'calls' says, and the words and plain laws that they need (Qx24, ZA, ZB, Y10, ZC, YR, ZD, ZE, PureFnPyPIStages, K19, WSized). -/
import Derived.Test.YtlijjnjpomnphaaGreatDoorFnPyPIStagesE
import Derived.Test.YtlijjnjpomnphaaGreatDoorRows
import Derived.Stop.LaidErr
import Derived.Stop.Joined
import Derived.LaidSub
import Derived.MakeChecks
import Derived.SizedLaws
import Derived.ChangeSlices
set_option linter.unusedVariables false
set_option linter.unusedSimpArgs false
set_option maxHeartbeats 8000000
set_option maxRecDepth 100000
section
namespace Go.Proofs.YtlijjnjpomnphaaGreatDoor.Q
open Go.RowKit YtlijjnjpomnphaaGreatDoorH YtlijjnjpomnphaaGreatDoorG YtlijjnjpomnphaaGreatDoorW.PrintWords YtlijjnjpomnphaaGreatDoorW.PrintLast YtlijjnjpomnphaaGreatDoorW.PrintMore YtlijjnjpomnphaaGreatDoorC
attribute [local go_sem] zhd zid zud ztd ztc zuc zgd zkd
mutual
def zn.l0 : Nat → List ByteArray → Int → Int → Option (Bool)
 | 0, _, _, _ => none
 | k + 1, x9, x57, x58 => if x58 < x57 then (zn.l1 k x9 x58 x57 x58 (x9.length : Int) 0) else (some true)
def zn.l1 : Nat → List ByteArray → Int → Int → Int → Int → Int → Option (Bool)
 | 0, _, _, _, _, _, _ => none
 | k + 1, x9, x10, x57, x58, x62, x63 => if x63 < x62 then (if 0 ≤ x10 then (if x10 < (x9.length : Int) then (if 0 ≤ x63 then (if x63 < (x9.length : Int) then ((zvb.f (rdOf ByteArray.empty x9 x10) (rdOf ByteArray.empty x9 x63)).bind fun bt809 => (if bt809.2 = true then (if bt809.1 = (mx (-1) (mn 1 (wrap64 (x10 - x63)))) then (zn.l1 k x9 x10 x57 x58 x62 (wrap64 (x63 + 1))) else (some false)) else (some false))) else (none)) else (none)) else (none)) else (none)) else (zn.l0 k x9 x57 (wrap64 (x58 + 1)))
end
def zn.f (k : Nat) (l0 : List Int) (a1 : Int) : Option (Bool) := if (l0.length : Int) > 2147483647 then (some true) else ((ze.f k 0 l0 0 0 0 0 false false ([] : List ByteArray)).bind fun bt777 => (if bt777.2.2.2.2.2.2.2.2.2.2.2.2.2.2.2.2.2.2 = true then ((zab.f k a1).bind fun t803 => (if bt777.1.size + 4 ≤ 9223372036854775807 then (if (bt777.1 ++ (⟨#[46, 100, 101, 118]⟩ : ByteArray)).size + t803.size ≤ 9223372036854775807 then (if bt777.1.size + 1 ≤ 9223372036854775807 then (if (bt777.1 ++ (⟨#[97]⟩ : ByteArray)).size + t803.size ≤ 9223372036854775807 then (if (bt777.1 ++ (⟨#[98]⟩ : ByteArray)).size + t803.size ≤ 9223372036854775807 then (if bt777.1.size + 2 ≤ 9223372036854775807 then (if (bt777.1 ++ (⟨#[114, 99]⟩ : ByteArray)).size + t803.size ≤ 9223372036854775807 then (if (bt777.1 ++ (⟨#[43]⟩ : ByteArray)).size + t803.size ≤ 9223372036854775807 then (if bt777.1.size + 5 ≤ 9223372036854775807 then (if (bt777.1 ++ (⟨#[46, 112, 111, 115, 116]⟩ : ByteArray)).size + t803.size ≤ 9223372036854775807 then (if 2 + bt777.1.size ≤ 9223372036854775807 then ((some (([(bt777.1 ++ (⟨#[46, 100, 101, 118]⟩ : ByteArray)) ++ t803, (bt777.1 ++ (⟨#[97]⟩ : ByteArray)) ++ t803, (bt777.1 ++ (⟨#[98]⟩ : ByteArray)) ++ t803, (bt777.1 ++ (⟨#[114, 99]⟩ : ByteArray)) ++ t803, bt777.1, (bt777.1 ++ (⟨#[43]⟩ : ByteArray)) ++ t803, (bt777.1 ++ (⟨#[46, 112, 111, 115, 116]⟩ : ByteArray)) ++ t803, (⟨#[49, 33]⟩ : ByteArray) ++ bt777.1] : List ByteArray) : List ByteArray)).bind fun y804 => (zn.l0 k y804 (y804.length : Int) 0)) else (none)) else (none)) else (none)) else (none)) else (none)) else (none)) else (none)) else (none)) else (none)) else (none)) else (none))) else (some true)))
def zn.T14 : Bool × List (List Nat × List Nat) := (true, [([], []), ([], []), ([0, 1], [0, 1]), ([2], [2]), ([], []), ([], []), ([4, 5], [4, 5]), ([6], [6]), ([3, 7], [3, 7]), ([8], [8]), ([9], [9]), ([9], [9]), ([10, 8, 0, 1, 2, 3, 4, 5, 6, 7, 8, 9, 10], [10]), ([11, 12, 0, 1, 2, 3, 4, 5, 6, 7, 8, 9, 10, 11, 12], [11])])
def zn.B14 : List Nat := [0, 0, 3, 7, 0, 0, 48, 112, 255, 511, 1023, 1023, 2047, 8191]
theorem zn.tab14 : rtab .any (opsOf Tryz.f9 14) = zn.T14 := by kernel_rfl
theorem zn.bits14 : waitsOk zn.T14.2 zn.B14 = true := by kernel_rfl
theorem zn.calls (k : Nat) (A0 : Option Addr) (c0 : Nat) (l0 : List Int) (a1 : Int) (r : Bool) (w : World) (hr0 : Kd.C (Kd.int .u16) w A0 l0.length l0) (hc0 : l0.length ≤ c0) (h : zn.f k l0 a1 = some r) (hG : GL w) :
  Calls Tryz.prog 9 #[.slice A0 l0.length c0, .int .u16 a1] w fun e w' => e = .returned (.bool r) ∧ Below w.heap.size w w' := by
 have HG := za.mk hG
 clear hG
 have hu26 := Tryz.underlying26
 have hu34 := Tryz.underlying34
 have HR0 := za.mk hr0
 have HC0 := za.mk hc0
 clear hr0 hc0
 have HB := za.mk (Below.refl w.heap.size w)
 have H : (if (l0.length : Int) > 2147483647 then (some true) else ((ze.f k 0 l0 0 0 0 0 false false ([] : List ByteArray)).bind fun bt777 => (if bt777.2.2.2.2.2.2.2.2.2.2.2.2.2.2.2.2.2.2 = true then ((zab.f k a1).bind fun t803 => (if bt777.1.size + 4 ≤ 9223372036854775807 then (if (bt777.1 ++ (⟨#[46, 100, 101, 118]⟩ : ByteArray)).size + t803.size ≤ 9223372036854775807 then (if bt777.1.size + 1 ≤ 9223372036854775807 then (if (bt777.1 ++ (⟨#[97]⟩ : ByteArray)).size + t803.size ≤ 9223372036854775807 then (if (bt777.1 ++ (⟨#[98]⟩ : ByteArray)).size + t803.size ≤ 9223372036854775807 then (if bt777.1.size + 2 ≤ 9223372036854775807 then (if (bt777.1 ++ (⟨#[114, 99]⟩ : ByteArray)).size + t803.size ≤ 9223372036854775807 then (if (bt777.1 ++ (⟨#[43]⟩ : ByteArray)).size + t803.size ≤ 9223372036854775807 then (if bt777.1.size + 5 ≤ 9223372036854775807 then (if (bt777.1 ++ (⟨#[46, 112, 111, 115, 116]⟩ : ByteArray)).size + t803.size ≤ 9223372036854775807 then (if 2 + bt777.1.size ≤ 9223372036854775807 then ((some (([(bt777.1 ++ (⟨#[46, 100, 101, 118]⟩ : ByteArray)) ++ t803, (bt777.1 ++ (⟨#[97]⟩ : ByteArray)) ++ t803, (bt777.1 ++ (⟨#[98]⟩ : ByteArray)) ++ t803, (bt777.1 ++ (⟨#[114, 99]⟩ : ByteArray)) ++ t803, bt777.1, (bt777.1 ++ (⟨#[43]⟩ : ByteArray)) ++ t803, (bt777.1 ++ (⟨#[46, 112, 111, 115, 116]⟩ : ByteArray)) ++ t803, (⟨#[49, 33]⟩ : ByteArray) ++ bt777.1] : List ByteArray) : List ByteArray)).bind fun y804 => (zn.l0 k y804 (y804.length : Int) 0)) else (none)) else (none)) else (none)) else (none)) else (none)) else (none)) else (none)) else (none)) else (none)) else (none)) else (none))) else (some true)))) = some r := h
 clear h
 by_cases c3 : (l0.length : Int) > 2147483647
 ·rw [if_pos c3] at H
  have c3b0 : decide (2147483647 < (l0.length : Int)) = true := decide_eq_true c3
  have c3b1 : decide (2147483647 < l0.length) = true := decide_eq_true (by omega)
  clear c3
  obtain rfl := Option.some.inj H
  go_enter Tryz.func9, Tryz.ntmps9
  go_wp2
  go_ret
  exact ⟨by rfl, by (with_reducible exact HB.out)⟩
 ·rw [if_neg c3] at H
  have c3b0 : decide (2147483647 < (l0.length : Int)) = false := decide_eq_false c3
  have c3b1 : decide (2147483647 < l0.length) = false := decide_eq_false (by omega)
  clear c3
  replace H := Option.bind_eq_some_iff.mp H
  obtain ⟨⟨t777, t778, t779, t780, t783, t784, t785, t786, t787, t788, t789, t790, t791, t792, t793, t794, t795, t798, t801⟩, A40, H⟩ := H
  replace H : (if t801 = true then ((zab.f k a1).bind fun t803 => (if t777.size + 4 ≤ 9223372036854775807 then (if (t777 ++ (⟨#[46, 100, 101, 118]⟩ : ByteArray)).size + t803.size ≤ 9223372036854775807 then (if t777.size + 1 ≤ 9223372036854775807 then (if (t777 ++ (⟨#[97]⟩ : ByteArray)).size + t803.size ≤ 9223372036854775807 then (if (t777 ++ (⟨#[98]⟩ : ByteArray)).size + t803.size ≤ 9223372036854775807 then (if t777.size + 2 ≤ 9223372036854775807 then (if (t777 ++ (⟨#[114, 99]⟩ : ByteArray)).size + t803.size ≤ 9223372036854775807 then (if (t777 ++ (⟨#[43]⟩ : ByteArray)).size + t803.size ≤ 9223372036854775807 then (if t777.size + 5 ≤ 9223372036854775807 then (if (t777 ++ (⟨#[46, 112, 111, 115, 116]⟩ : ByteArray)).size + t803.size ≤ 9223372036854775807 then (if 2 + t777.size ≤ 9223372036854775807 then ((some (([(t777 ++ (⟨#[46, 100, 101, 118]⟩ : ByteArray)) ++ t803, (t777 ++ (⟨#[97]⟩ : ByteArray)) ++ t803, (t777 ++ (⟨#[98]⟩ : ByteArray)) ++ t803, (t777 ++ (⟨#[114, 99]⟩ : ByteArray)) ++ t803, t777, (t777 ++ (⟨#[43]⟩ : ByteArray)) ++ t803, (t777 ++ (⟨#[46, 112, 111, 115, 116]⟩ : ByteArray)) ++ t803, (⟨#[49, 33]⟩ : ByteArray) ++ t777] : List ByteArray) : List ByteArray)).bind fun y804 => (zn.l0 k y804 (y804.length : Int) 0)) else (none)) else (none)) else (none)) else (none)) else (none)) else (none)) else (none)) else (none)) else (none)) else (none)) else (none))) else (some true)) = some r := H
  have A4 := za.mk A40
  clear A40
  by_cases c5 : t801 = true
  ·subst c5
   have H1 : ((zab.f k a1).bind fun t803 => (if t777.size + 4 ≤ 9223372036854775807 then (if (t777 ++ (⟨#[46, 100, 101, 118]⟩ : ByteArray)).size + t803.size ≤ 9223372036854775807 then (if t777.size + 1 ≤ 9223372036854775807 then (if (t777 ++ (⟨#[97]⟩ : ByteArray)).size + t803.size ≤ 9223372036854775807 then (if (t777 ++ (⟨#[98]⟩ : ByteArray)).size + t803.size ≤ 9223372036854775807 then (if t777.size + 2 ≤ 9223372036854775807 then (if (t777 ++ (⟨#[114, 99]⟩ : ByteArray)).size + t803.size ≤ 9223372036854775807 then (if (t777 ++ (⟨#[43]⟩ : ByteArray)).size + t803.size ≤ 9223372036854775807 then (if t777.size + 5 ≤ 9223372036854775807 then (if (t777 ++ (⟨#[46, 112, 111, 115, 116]⟩ : ByteArray)).size + t803.size ≤ 9223372036854775807 then (if 2 + t777.size ≤ 9223372036854775807 then ((some (([(t777 ++ (⟨#[46, 100, 101, 118]⟩ : ByteArray)) ++ t803, (t777 ++ (⟨#[97]⟩ : ByteArray)) ++ t803, (t777 ++ (⟨#[98]⟩ : ByteArray)) ++ t803, (t777 ++ (⟨#[114, 99]⟩ : ByteArray)) ++ t803, t777, (t777 ++ (⟨#[43]⟩ : ByteArray)) ++ t803, (t777 ++ (⟨#[46, 112, 111, 115, 116]⟩ : ByteArray)) ++ t803, (⟨#[49, 33]⟩ : ByteArray) ++ t777] : List ByteArray) : List ByteArray)).bind fun y804 => (zn.l0 k y804 (y804.length : Int) 0)) else (none)) else (none)) else (none)) else (none)) else (none)) else (none)) else (none)) else (none)) else (none)) else (none)) else (none))) = some r := by rw [if_pos rfl] at H; exact H
   clear H
   have H := H1
   clear H1
   replace H := Option.bind_eq_some_iff.mp H
   obtain ⟨t803, A60, H⟩ := H
   replace H : (if t777.size + 4 ≤ 9223372036854775807 then (if (t777 ++ (⟨#[46, 100, 101, 118]⟩ : ByteArray)).size + t803.size ≤ 9223372036854775807 then (if t777.size + 1 ≤ 9223372036854775807 then (if (t777 ++ (⟨#[97]⟩ : ByteArray)).size + t803.size ≤ 9223372036854775807 then (if (t777 ++ (⟨#[98]⟩ : ByteArray)).size + t803.size ≤ 9223372036854775807 then (if t777.size + 2 ≤ 9223372036854775807 then (if (t777 ++ (⟨#[114, 99]⟩ : ByteArray)).size + t803.size ≤ 9223372036854775807 then (if (t777 ++ (⟨#[43]⟩ : ByteArray)).size + t803.size ≤ 9223372036854775807 then (if t777.size + 5 ≤ 9223372036854775807 then (if (t777 ++ (⟨#[46, 112, 111, 115, 116]⟩ : ByteArray)).size + t803.size ≤ 9223372036854775807 then (if 2 + t777.size ≤ 9223372036854775807 then ((some (([(t777 ++ (⟨#[46, 100, 101, 118]⟩ : ByteArray)) ++ t803, (t777 ++ (⟨#[97]⟩ : ByteArray)) ++ t803, (t777 ++ (⟨#[98]⟩ : ByteArray)) ++ t803, (t777 ++ (⟨#[114, 99]⟩ : ByteArray)) ++ t803, t777, (t777 ++ (⟨#[43]⟩ : ByteArray)) ++ t803, (t777 ++ (⟨#[46, 112, 111, 115, 116]⟩ : ByteArray)) ++ t803, (⟨#[49, 33]⟩ : ByteArray) ++ t777] : List ByteArray) : List ByteArray)).bind fun y804 => (zn.l0 k y804 (y804.length : Int) 0)) else (none)) else (none)) else (none)) else (none)) else (none)) else (none)) else (none)) else (none)) else (none)) else (none)) else (none)) = some r := H
   have A6 := za.mk A60
   clear A60
   by_cases c7 : t777.size + 4 ≤ 9223372036854775807
   ·rw [if_pos c7] at H
    have c7b0 := eq_true c7
    have c7b1 : decide (t777.size + 4 ≤ 9223372036854775807) = true := decide_eq_true c7
    try have c7b2 : (9223372036854775807 < t777.size + 4) = False := eq_false (Nat.not_lt.2 c7)
    by_cases c8 : (t777 ++ (⟨#[46, 100, 101, 118]⟩ : ByteArray)).size + t803.size ≤ 9223372036854775807
    ·rw [if_pos c8] at H
     have c8b0 := eq_true c8
     have c8b1 : decide ((t777 ++ (⟨#[46, 100, 101, 118]⟩ : ByteArray)).size + t803.size ≤ 9223372036854775807) = true := decide_eq_true c8
     try have c8b2 : (9223372036854775807 < (t777 ++ (⟨#[46, 100, 101, 118]⟩ : ByteArray)).size + t803.size) = False := eq_false (Nat.not_lt.2 c8)
     try have c8b3 : (9223372036854775807 < t777.size + 4 + t803.size) = False := eq_false (by have h_ := c8; simp only [ByteArray.size_append] at h_; have e0_ : (⟨#[46, 100, 101, 118]⟩ : ByteArray).size = 4 := rfl; omega)
     try have c8b4 : (t777.size + 4 + t803.size ≤ 9223372036854775807) = True := eq_true (by have h_ := c8; simp only [ByteArray.size_append] at h_; have e0_ : (⟨#[46, 100, 101, 118]⟩ : ByteArray).size = 4 := rfl; omega)
     by_cases c9 : t777.size + 1 ≤ 9223372036854775807
     ·rw [if_pos c9] at H
      have c9b0 := eq_true c9
      have c9b1 : decide (t777.size + 1 ≤ 9223372036854775807) = true := decide_eq_true c9
      try have c9b2 : (9223372036854775807 < t777.size + 1) = False := eq_false (Nat.not_lt.2 c9)
      by_cases c10 : (t777 ++ (⟨#[97]⟩ : ByteArray)).size + t803.size ≤ 9223372036854775807
      ·rw [if_pos c10] at H
       have c10b0 := eq_true c10
       have c10b1 : decide ((t777 ++ (⟨#[97]⟩ : ByteArray)).size + t803.size ≤ 9223372036854775807) = true := decide_eq_true c10
       try have c10b2 : (9223372036854775807 < (t777 ++ (⟨#[97]⟩ : ByteArray)).size + t803.size) = False := eq_false (Nat.not_lt.2 c10)
       try have c10b3 : (9223372036854775807 < t777.size + 1 + t803.size) = False := eq_false (by have h_ := c10; simp only [ByteArray.size_append] at h_; have e0_ : (⟨#[97]⟩ : ByteArray).size = 1 := rfl; omega)
       try have c10b4 : (t777.size + 1 + t803.size ≤ 9223372036854775807) = True := eq_true (by have h_ := c10; simp only [ByteArray.size_append] at h_; have e0_ : (⟨#[97]⟩ : ByteArray).size = 1 := rfl; omega)
       by_cases c11 : (t777 ++ (⟨#[98]⟩ : ByteArray)).size + t803.size ≤ 9223372036854775807
       ·rw [if_pos c11] at H
        have c11b0 := eq_true c11
        have c11b1 : decide ((t777 ++ (⟨#[98]⟩ : ByteArray)).size + t803.size ≤ 9223372036854775807) = true := decide_eq_true c11
        try have c11b2 : (9223372036854775807 < (t777 ++ (⟨#[98]⟩ : ByteArray)).size + t803.size) = False := eq_false (Nat.not_lt.2 c11)
        try have c11b3 : (9223372036854775807 < t777.size + 1 + t803.size) = False := eq_false (by have h_ := c11; simp only [ByteArray.size_append] at h_; have e0_ : (⟨#[98]⟩ : ByteArray).size = 1 := rfl; omega)
        try have c11b4 : (t777.size + 1 + t803.size ≤ 9223372036854775807) = True := eq_true (by have h_ := c11; simp only [ByteArray.size_append] at h_; have e0_ : (⟨#[98]⟩ : ByteArray).size = 1 := rfl; omega)
        by_cases c12 : t777.size + 2 ≤ 9223372036854775807
        ·rw [if_pos c12] at H
         have c12b0 := eq_true c12
         have c12b1 : decide (t777.size + 2 ≤ 9223372036854775807) = true := decide_eq_true c12
         try have c12b2 : (9223372036854775807 < t777.size + 2) = False := eq_false (Nat.not_lt.2 c12)
         by_cases c13 : (t777 ++ (⟨#[114, 99]⟩ : ByteArray)).size + t803.size ≤ 9223372036854775807
         ·rw [if_pos c13] at H
          have c13b0 := eq_true c13
          have c13b1 : decide ((t777 ++ (⟨#[114, 99]⟩ : ByteArray)).size + t803.size ≤ 9223372036854775807) = true := decide_eq_true c13
          try have c13b2 : (9223372036854775807 < (t777 ++ (⟨#[114, 99]⟩ : ByteArray)).size + t803.size) = False := eq_false (Nat.not_lt.2 c13)
          try have c13b3 : (9223372036854775807 < t777.size + 2 + t803.size) = False := eq_false (by have h_ := c13; simp only [ByteArray.size_append] at h_; have e0_ : (⟨#[114, 99]⟩ : ByteArray).size = 2 := rfl; omega)
          try have c13b4 : (t777.size + 2 + t803.size ≤ 9223372036854775807) = True := eq_true (by have h_ := c13; simp only [ByteArray.size_append] at h_; have e0_ : (⟨#[114, 99]⟩ : ByteArray).size = 2 := rfl; omega)
          by_cases c14 : (t777 ++ (⟨#[43]⟩ : ByteArray)).size + t803.size ≤ 9223372036854775807
          ·rw [if_pos c14] at H
           have c14b0 := eq_true c14
           have c14b1 : decide ((t777 ++ (⟨#[43]⟩ : ByteArray)).size + t803.size ≤ 9223372036854775807) = true := decide_eq_true c14
           try have c14b2 : (9223372036854775807 < (t777 ++ (⟨#[43]⟩ : ByteArray)).size + t803.size) = False := eq_false (Nat.not_lt.2 c14)
           try have c14b3 : (9223372036854775807 < t777.size + 1 + t803.size) = False := eq_false (by have h_ := c14; simp only [ByteArray.size_append] at h_; have e0_ : (⟨#[43]⟩ : ByteArray).size = 1 := rfl; omega)
           try have c14b4 : (t777.size + 1 + t803.size ≤ 9223372036854775807) = True := eq_true (by have h_ := c14; simp only [ByteArray.size_append] at h_; have e0_ : (⟨#[43]⟩ : ByteArray).size = 1 := rfl; omega)
           by_cases c15 : t777.size + 5 ≤ 9223372036854775807
           ·rw [if_pos c15] at H
            have c15b0 := eq_true c15
            have c15b1 : decide (t777.size + 5 ≤ 9223372036854775807) = true := decide_eq_true c15
            try have c15b2 : (9223372036854775807 < t777.size + 5) = False := eq_false (Nat.not_lt.2 c15)
            by_cases c16 : (t777 ++ (⟨#[46, 112, 111, 115, 116]⟩ : ByteArray)).size + t803.size ≤ 9223372036854775807
            ·rw [if_pos c16] at H
             have c16b0 := eq_true c16
             have c16b1 : decide ((t777 ++ (⟨#[46, 112, 111, 115, 116]⟩ : ByteArray)).size + t803.size ≤ 9223372036854775807) = true := decide_eq_true c16
             try have c16b2 : (9223372036854775807 < (t777 ++ (⟨#[46, 112, 111, 115, 116]⟩ : ByteArray)).size + t803.size) = False := eq_false (Nat.not_lt.2 c16)
             try have c16b3 : (9223372036854775807 < t777.size + 5 + t803.size) = False := eq_false (by have h_ := c16; simp only [ByteArray.size_append] at h_; have e0_ : (⟨#[46, 112, 111, 115, 116]⟩ : ByteArray).size = 5 := rfl; omega)
             try have c16b4 : (t777.size + 5 + t803.size ≤ 9223372036854775807) = True := eq_true (by have h_ := c16; simp only [ByteArray.size_append] at h_; have e0_ : (⟨#[46, 112, 111, 115, 116]⟩ : ByteArray).size = 5 := rfl; omega)
             by_cases c17 : 2 + t777.size ≤ 9223372036854775807
             ·rw [if_pos c17] at H
              have c17b0 := eq_true c17
              have c17b1 : decide (2 + t777.size ≤ 9223372036854775807) = true := decide_eq_true c17
              try have c17b2 : (9223372036854775807 < 2 + t777.size) = False := eq_false (Nat.not_lt.2 c17)
              obtain ⟨y804, hy804⟩ : ∃ y_ : List ByteArray, y_ = (([(t777 ++ (⟨#[46, 100, 101, 118]⟩ : ByteArray)) ++ t803, (t777 ++ (⟨#[97]⟩ : ByteArray)) ++ t803, (t777 ++ (⟨#[98]⟩ : ByteArray)) ++ t803, (t777 ++ (⟨#[114, 99]⟩ : ByteArray)) ++ t803, t777, (t777 ++ (⟨#[43]⟩ : ByteArray)) ++ t803, (t777 ++ (⟨#[46, 112, 111, 115, 116]⟩ : ByteArray)) ++ t803, (⟨#[49, 33]⟩ : ByteArray) ++ t777] : List ByteArray)) := ⟨_, rfl⟩
              replace H : (zn.l0 k y804 (y804.length : Int) 0) = some r := by (have H2_ := (Option.bind_some _ _).symm.trans H; rw [hy804]; with_reducible exact H2_)
              have Ny804 := za.mk hy804
              clear hy804
              have H' := za.mk H
              clear H
              go_enter Tryz.func9, Tryz.ntmps9
              go_wp2_with (first | ((with_reducible refine zcb (f := 15) rfl ?_); refine zxb (some 20) rfl rfl Tryz.func15 (by kernel_rfl) rfl #[.agg #[.int .u16 0, .slice A0 l0.length c0, .int .u8 0, .int .u16 0, .int .u16 0, .int .u16 0, .bool false, .bool false, .slice none 0 0]] rfl (by (try simp only [List.map_toArray, List.map_cons, List.map_nil]); first | done | rfl | (simp only [List.length_drop, List.length_take]; rfl)) ?_; (refine (ze.calls0 k 0 _ _ l0 0 0 0 0 false false _ _ ([] : List ByteArray) t777 t778 t779 t780 t783 t784 t785 t786 t787 t788 t789 t790 t791 t792 t793 t794 t795 t798 true _ ?side1 ?side2 ?side3 ?side4 A4.out ⟨rfl, rfl, rfl, rfl, rfl⟩).mono ?_); (case side1 => repeat (first | exact HR0.out | (with_reducible refine Kd.C_alloc ?_ _) | (with_reducible refine Kd.C_drewN ?_ _) | (with_reducible refine Kd.C_drew ?_))); (case side2 => exact HC0.out); (case side3 => exact Kd.C_nil _ _); (case side4 => exact Nat.le_refl _); rintro e w18 ⟨v781, v796, v799, rfl, ho0, ho1, ho2, hb⟩; refine ⟨_, rfl, ?_⟩; have HO782 := za.mk (Kd.R_lower ho0 (zdb (by (with_reducible exact HB.out)))); have HO797 := za.mk (Kd.R_lower ho1 (zdb (by (with_reducible exact HB.out)))); have HO800 := za.mk (Kd.R_lower ho2 (zdb (by (with_reducible exact HB.out)))); replace HB := za.mk (zeb (by (with_reducible exact HB.out)) hb); (try clear hb); (try clear hb2); (try clear hk); (try clear hi); (try clear ho0); (try clear ho1); (try clear ho2)) | ((with_reducible refine zxc (N := 6) rfl ?_); (try (refine zkc (by rfl) ?_; dsimp only)); refine zld ?hg (N := 6) ?hd (cs := #[.bool false, .string ⟨#[]⟩, .slice none 0 0, .bool false, .string ⟨#[]⟩, .bool false, .string ⟨#[]⟩, .bool false, .string ⟨#[]⟩, .bool false, .string ⟨#[]⟩, .bool false, .string ⟨#[]⟩, .bool false, .string ⟨#[]⟩, .slice none 0 0, .slice none 0 0]) (t := 34) ?hr ?_; (case hd => rfl); (case hg => rfl); (case hr => first | (go_simp; done) | (go_simp; rfl)); intro gb802 hg w19 hbox hb; replace HO782 := za.mk (Kd.R_below (by (with_reducible repeat (first | apply Kd.R_alloc | apply Kd.R_drewN | apply Kd.R_drew)); exact HO782.out) hb); replace HO797 := za.mk (Kd.R_below (by (with_reducible repeat (first | apply Kd.R_alloc | apply Kd.R_drewN | apply Kd.R_drew)); exact HO797.out) hb); replace HO800 := za.mk (Kd.R_below (by (with_reducible repeat (first | apply Kd.R_alloc | apply Kd.R_drewN | apply Kd.R_drew)); exact HO800.out) hb); have BK802 := za.mk hbox; have GW802 := za.mk ((by rw [hg]; exact (zdb (by (with_reducible exact HB.out))) : w.heap.size ≤ gb802)); have GE802 := za.mk ((by rw [hg]; exact (zdb (by (with_reducible exact HB.out))) : w.heap.size ≤ gb802)); replace HB := za.mk (zeb (by (with_reducible exact HB.out)) hb); clear hb hbox hg; have hcz20_0 : w19.cell? ⟨gb802, 0, none⟩ = some (.bool false) := (zd BK802.out 0).trans rfl; have hcz20_1 : w19.cell? ⟨gb802, 1, none⟩ = some (.string ⟨#[]⟩) := (zd BK802.out 1).trans rfl; have hcz20_2 : w19.cell? ⟨gb802, 2, none⟩ = some (.slice none 0 0) := (zd BK802.out 2).trans rfl; have hcz20_3 : w19.cell? ⟨gb802, 3, none⟩ = some (.bool false) := (zd BK802.out 3).trans rfl; have hcz20_4 : w19.cell? ⟨gb802, 4, none⟩ = some (.string ⟨#[]⟩) := (zd BK802.out 4).trans rfl; have hcz20_5 : w19.cell? ⟨gb802, 5, none⟩ = some (.bool false) := (zd BK802.out 5).trans rfl; have hcz20_6 : w19.cell? ⟨gb802, 6, none⟩ = some (.string ⟨#[]⟩) := (zd BK802.out 6).trans rfl; have hcz20_7 : w19.cell? ⟨gb802, 7, none⟩ = some (.bool false) := (zd BK802.out 7).trans rfl; have hcz20_8 : w19.cell? ⟨gb802, 8, none⟩ = some (.string ⟨#[]⟩) := (zd BK802.out 8).trans rfl; have hcz20_9 : w19.cell? ⟨gb802, 9, none⟩ = some (.bool false) := (zd BK802.out 9).trans rfl; have hcz20_10 : w19.cell? ⟨gb802, 10, none⟩ = some (.string ⟨#[]⟩) := (zd BK802.out 10).trans rfl; have hcz20_11 : w19.cell? ⟨gb802, 11, none⟩ = some (.bool false) := (zd BK802.out 11).trans rfl; have hcz20_12 : w19.cell? ⟨gb802, 12, none⟩ = some (.string ⟨#[]⟩) := (zd BK802.out 12).trans rfl; have hcz20_13 : w19.cell? ⟨gb802, 13, none⟩ = some (.bool false) := (zd BK802.out 13).trans rfl; have hcz20_14 : w19.cell? ⟨gb802, 14, none⟩ = some (.string ⟨#[]⟩) := (zd BK802.out 14).trans rfl; have hcz20_15 : w19.cell? ⟨gb802, 15, none⟩ = some (.slice none 0 0) := (zd BK802.out 15).trans rfl; have hcz20_16 : w19.cell? ⟨gb802, 16, none⟩ = some (.slice none 0 0) := (zd BK802.out 16).trans rfl; have hfz20_0 := zj BK802.out 0; have hfz20_1 := zj BK802.out 1; have hfz20_2 := zj BK802.out 2; have hfz20_3 := zj BK802.out 3; have hfz20_4 := zj BK802.out 4; have hfz20_5 := zj BK802.out 5; have hfz20_6 := zj BK802.out 6; have hfz20_7 := zj BK802.out 7; have hfz20_8 := zj BK802.out 8; have hfz20_9 := zj BK802.out 9; have hfz20_10 := zj BK802.out 10; have hfz20_11 := zj BK802.out 11; have hfz20_12 := zj BK802.out 12; have hfz20_13 := zj BK802.out 13; have hfz20_14 := zj BK802.out 14; have hfz20_15 := zj BK802.out 15; have hfz20_16 := zj BK802.out 16; obtain ⟨Ao21, co21, eo21⟩ := Kd.R_slice HO782.out; subst eo21; obtain ⟨Ao22, co22, eo22⟩ := Kd.R_slice HO797.out; subst eo22; obtain ⟨Ao23, co23, eo23⟩ := Kd.R_slice HO800.out; subst eo23) | ((with_reducible refine zcb (f := 21) rfl ?_); refine zxb (some 27) rfl rfl Tryz.func21 (by kernel_rfl) rfl #[.int .u16 a1] rfl (by (try simp only [List.map_toArray, List.map_cons, List.map_nil]); first | done | rfl | (simp only [List.length_drop, List.length_take]; rfl)) ?_; (with_reducible refine (zab.calls k a1 t803 _ A6.out).mono ?_); rintro e w' ⟨rfl, ⟨nd, rfl⟩⟩; refine ⟨_, rfl, ?_⟩) | ((with_reducible refine zxc (N := 55) rfl ?_); (try (refine zkc (by rfl) ?_; dsimp only)); refine Kd.R_lit Kd.string _ 9 ?hg (N := 55) ?hd (xs := ([(t777 ++ (⟨#[46, 100, 101, 118]⟩ : ByteArray)) ++ t803, (t777 ++ (⟨#[97]⟩ : ByteArray)) ++ t803, (t777 ++ (⟨#[98]⟩ : ByteArray)) ++ t803, (t777 ++ (⟨#[114, 99]⟩ : ByteArray)) ++ t803, t777, (t777 ++ (⟨#[43]⟩ : ByteArray)) ++ t803, (t777 ++ (⟨#[46, 112, 111, 115, 116]⟩ : ByteArray)) ++ t803, (⟨#[49, 33]⟩ : ByteArray) ++ t777] : List ByteArray)) (inner := [.string ((t777 ++ (⟨#[46, 100, 101, 118]⟩ : ByteArray)) ++ t803), .string ((t777 ++ (⟨#[97]⟩ : ByteArray)) ++ t803), .string ((t777 ++ (⟨#[98]⟩ : ByteArray)) ++ t803), .string ((t777 ++ (⟨#[114, 99]⟩ : ByteArray)) ++ t803), .string t777, .string ((t777 ++ (⟨#[43]⟩ : ByteArray)) ++ t803), .string ((t777 ++ (⟨#[46, 112, 111, 115, 116]⟩ : ByteArray)) ++ t803), .string ((⟨#[49, 33]⟩ : ByteArray) ++ t777)]) (ok := fun _ => True) (okp := fun _ => True) ?hr ?hp (fun _ hk => hk) trivial (Below.refl _ _) (Nat.le_refl _) (by simp) ?_; (case hd => rfl); (case hg => rfl); (case hr => first | (go_simp; done) | (go_simp; rfl)); (case hp => exact (Reps.one (show Kd.M Kd.string _ _ _ ((t777 ++ (⟨#[46, 100, 101, 118]⟩ : ByteArray)) ++ t803) [.string ((t777 ++ (⟨#[46, 100, 101, 118]⟩ : ByteArray)) ++ t803)] from rfl) (Reps.one (show Kd.M Kd.string _ _ _ ((t777 ++ (⟨#[97]⟩ : ByteArray)) ++ t803) [.string ((t777 ++ (⟨#[97]⟩ : ByteArray)) ++ t803)] from rfl) (Reps.one (show Kd.M Kd.string _ _ _ ((t777 ++ (⟨#[98]⟩ : ByteArray)) ++ t803) [.string ((t777 ++ (⟨#[98]⟩ : ByteArray)) ++ t803)] from rfl) (Reps.one (show Kd.M Kd.string _ _ _ ((t777 ++ (⟨#[114, 99]⟩ : ByteArray)) ++ t803) [.string ((t777 ++ (⟨#[114, 99]⟩ : ByteArray)) ++ t803)] from rfl) (Reps.one (show Kd.M Kd.string _ _ _ t777 [.string t777] from rfl) (Reps.one (show Kd.M Kd.string _ _ _ ((t777 ++ (⟨#[43]⟩ : ByteArray)) ++ t803) [.string ((t777 ++ (⟨#[43]⟩ : ByteArray)) ++ t803)] from rfl) (Reps.one (show Kd.M Kd.string _ _ _ ((t777 ++ (⟨#[46, 112, 111, 115, 116]⟩ : ByteArray)) ++ t803) [.string ((t777 ++ (⟨#[46, 112, 111, 115, 116]⟩ : ByteArray)) ++ t803)] from rfl) (Reps.one (show Kd.M Kd.string _ _ _ ((⟨#[49, 33]⟩ : ByteArray) ++ t777) [.string ((⟨#[49, 33]⟩ : ByteArray) ++ t777)] from rfl) (Reps.none _ _)))))))))); intro v805 w24 ho25 hb hg_ hnew_; clear hg_ hnew_; (first | rw [← Ny804.out] at ho25 | (simp only [Int.reduceToNat] at ho25; rw [← Ny804.out] at ho25)); have n0_ := za.mk (Kd.R_below (by (with_reducible repeat (first | apply Kd.R_alloc | apply Kd.R_drewN | apply Kd.R_drew)); exact (Kd.R_mono (farC12 (farC5 (Kd.R_types HO782.out BK802.out (by decide)))) (fun _ h_ => h_.1))) hb); have n1_ := za.mk (Kd.R_elder' (by (with_reducible repeat (first | apply Kd.R_alloc | apply Kd.R_drewN | apply Kd.R_drew)); exact (Kd.R_mono (farC12 (farC5 (Kd.R_types HO797.out BK802.out (by decide)))) (fun _ h_ => h_.1))) (Kd.R_base ho25) hb); have n2_ := za.mk (Kd.R_elder' (by (with_reducible repeat (first | apply Kd.R_alloc | apply Kd.R_drewN | apply Kd.R_drew)); exact (Kd.R_mono (farC12 (farC5 (Kd.R_types HO800.out BK802.out (by decide)))) (fun _ h_ => h_.1))) (Kd.R_base ho25) hb); have n3_ := za.mk (Kd.R_lower (Kd.R_new' (Kd.R_new' ho25 (Kd.R_lt (by (with_reducible repeat (first | apply Kd.R_alloc | apply Kd.R_drewN | apply Kd.R_drew)); exact (Kd.R_mono (farC12 (farC5 (Kd.R_types HO797.out BK802.out (by decide)))) (fun _ h_ => h_.1))))) (Kd.R_lt (by (with_reducible repeat (first | apply Kd.R_alloc | apply Kd.R_drewN | apply Kd.R_drew)); exact (Kd.R_mono (farC12 (farC5 (Kd.R_types HO800.out BK802.out (by decide)))) (fun _ h_ => h_.1))))) (zdb (by repeat (first | (with_reducible first | exact HB.out | apply zm | apply zg | apply zu | refine zbb ?_ GE802.out) | exact HB.out)))); have n4_ := za.mk (zh (g := gb802) (o := .cells #[.bool t778, .string t779, .slice Ao21 t780.length co21, .bool t783, .string t784, .bool t785, .string t786, .bool t787, .string t788, .bool t789, .string t790, .bool t791, .string t792, .bool t793, .string t794, .slice Ao22 t795.length co22, .slice Ao23 t798.length co23] 34 (0, 0)) (by (with_reducible (refine zw ?_ _)); refine zl (cs := #[.bool t778, .string t779, .slice Ao21 t780.length co21, .bool t783, .string t784, .bool t785, .string t786, .bool t787, .string t788, .bool t789, .string t790, .bool t791, .string t792, .bool t793, .string t794, .slice Ao22 t795.length co22, .slice none 0 0]) ?_ 16 _ rfl; refine zl (cs := #[.bool t778, .string t779, .slice Ao21 t780.length co21, .bool t783, .string t784, .bool t785, .string t786, .bool t787, .string t788, .bool t789, .string t790, .bool t791, .string t792, .bool t793, .string t794, .slice none 0 0, .slice none 0 0]) ?_ 15 _ rfl; refine zl (cs := #[.bool t778, .string t779, .slice Ao21 t780.length co21, .bool t783, .string t784, .bool t785, .string t786, .bool t787, .string t788, .bool t789, .string t790, .bool t791, .string t792, .bool t793, .string ⟨#[]⟩, .slice none 0 0, .slice none 0 0]) ?_ 14 _ rfl; refine zl (cs := #[.bool t778, .string t779, .slice Ao21 t780.length co21, .bool t783, .string t784, .bool t785, .string t786, .bool t787, .string t788, .bool t789, .string t790, .bool t791, .string t792, .bool false, .string ⟨#[]⟩, .slice none 0 0, .slice none 0 0]) ?_ 13 _ rfl; refine zl (cs := #[.bool t778, .string t779, .slice Ao21 t780.length co21, .bool t783, .string t784, .bool t785, .string t786, .bool t787, .string t788, .bool t789, .string t790, .bool t791, .string ⟨#[]⟩, .bool false, .string ⟨#[]⟩, .slice none 0 0, .slice none 0 0]) ?_ 12 _ rfl; refine zl (cs := #[.bool t778, .string t779, .slice Ao21 t780.length co21, .bool t783, .string t784, .bool t785, .string t786, .bool t787, .string t788, .bool t789, .string t790, .bool false, .string ⟨#[]⟩, .bool false, .string ⟨#[]⟩, .slice none 0 0, .slice none 0 0]) ?_ 11 _ rfl; refine zl (cs := #[.bool t778, .string t779, .slice Ao21 t780.length co21, .bool t783, .string t784, .bool t785, .string t786, .bool t787, .string t788, .bool t789, .string ⟨#[]⟩, .bool false, .string ⟨#[]⟩, .bool false, .string ⟨#[]⟩, .slice none 0 0, .slice none 0 0]) ?_ 10 _ rfl; refine zl (cs := #[.bool t778, .string t779, .slice Ao21 t780.length co21, .bool t783, .string t784, .bool t785, .string t786, .bool t787, .string t788, .bool false, .string ⟨#[]⟩, .bool false, .string ⟨#[]⟩, .bool false, .string ⟨#[]⟩, .slice none 0 0, .slice none 0 0]) ?_ 9 _ rfl; refine zl (cs := #[.bool t778, .string t779, .slice Ao21 t780.length co21, .bool t783, .string t784, .bool t785, .string t786, .bool t787, .string ⟨#[]⟩, .bool false, .string ⟨#[]⟩, .bool false, .string ⟨#[]⟩, .bool false, .string ⟨#[]⟩, .slice none 0 0, .slice none 0 0]) ?_ 8 _ rfl; refine zl (cs := #[.bool t778, .string t779, .slice Ao21 t780.length co21, .bool t783, .string t784, .bool t785, .string t786, .bool false, .string ⟨#[]⟩, .bool false, .string ⟨#[]⟩, .bool false, .string ⟨#[]⟩, .bool false, .string ⟨#[]⟩, .slice none 0 0, .slice none 0 0]) ?_ 7 _ rfl; refine zl (cs := #[.bool t778, .string t779, .slice Ao21 t780.length co21, .bool t783, .string t784, .bool t785, .string ⟨#[]⟩, .bool false, .string ⟨#[]⟩, .bool false, .string ⟨#[]⟩, .bool false, .string ⟨#[]⟩, .bool false, .string ⟨#[]⟩, .slice none 0 0, .slice none 0 0]) ?_ 6 _ rfl; refine zl (cs := #[.bool t778, .string t779, .slice Ao21 t780.length co21, .bool t783, .string t784, .bool false, .string ⟨#[]⟩, .bool false, .string ⟨#[]⟩, .bool false, .string ⟨#[]⟩, .bool false, .string ⟨#[]⟩, .bool false, .string ⟨#[]⟩, .slice none 0 0, .slice none 0 0]) ?_ 5 _ rfl; refine zl (cs := #[.bool t778, .string t779, .slice Ao21 t780.length co21, .bool t783, .string ⟨#[]⟩, .bool false, .string ⟨#[]⟩, .bool false, .string ⟨#[]⟩, .bool false, .string ⟨#[]⟩, .bool false, .string ⟨#[]⟩, .bool false, .string ⟨#[]⟩, .slice none 0 0, .slice none 0 0]) ?_ 4 _ rfl; refine zl (cs := #[.bool t778, .string t779, .slice Ao21 t780.length co21, .bool false, .string ⟨#[]⟩, .bool false, .string ⟨#[]⟩, .bool false, .string ⟨#[]⟩, .bool false, .string ⟨#[]⟩, .bool false, .string ⟨#[]⟩, .bool false, .string ⟨#[]⟩, .slice none 0 0, .slice none 0 0]) ?_ 3 _ rfl; refine zl (cs := #[.bool t778, .string t779, .slice none 0 0, .bool false, .string ⟨#[]⟩, .bool false, .string ⟨#[]⟩, .bool false, .string ⟨#[]⟩, .bool false, .string ⟨#[]⟩, .bool false, .string ⟨#[]⟩, .bool false, .string ⟨#[]⟩, .slice none 0 0, .slice none 0 0]) ?_ 2 _ rfl; refine zl (cs := #[.bool t778, .string ⟨#[]⟩, .slice none 0 0, .bool false, .string ⟨#[]⟩, .bool false, .string ⟨#[]⟩, .bool false, .string ⟨#[]⟩, .bool false, .string ⟨#[]⟩, .bool false, .string ⟨#[]⟩, .bool false, .string ⟨#[]⟩, .slice none 0 0, .slice none 0 0]) ?_ 1 _ rfl; refine zl (cs := #[.bool false, .string ⟨#[]⟩, .slice none 0 0, .bool false, .string ⟨#[]⟩, .bool false, .string ⟨#[]⟩, .bool false, .string ⟨#[]⟩, .bool false, .string ⟨#[]⟩, .bool false, .string ⟨#[]⟩, .bool false, .string ⟨#[]⟩, .slice none 0 0, .slice none 0 0]) ?_ 0 _ rfl; exact BK802.out) hb); have n5_ := za.mk (zeb (by repeat (first | (with_reducible first | exact HB.out | apply zm | apply zg | apply zu | refine zbb ?_ GE802.out) | exact HB.out)) hb); clear HO782; clear HO797; clear HO800; clear BK802; clear HB; have HO782 := n0_; have HO797 := n1_; have HO800 := n2_; have HO806 := n3_; have BK802 := n4_; have HB := n5_; clear n0_ n1_ n2_ n3_ n4_ n5_; clear hb ho25; obtain ⟨Ao26, co26, eo26⟩ := Kd.R_slice HO806.out; subst eo26))
              (try simp only [Act.put, List.setIfInBounds_toArray, List.set_cons_zero, List.set_cons_succ])
              go_loopg [58] k (fun kq v58 w' => ∃ (x58_1 : Int), v58 = .int .i64 x58_1 ∧ za (zn.l0 kq y804 (y804.length : Int) x58_1 = some r) ∧ za (kq ≤ k) ∧ za (Kd.R Kd.string 9 w' w.heap.size (fun k_ => some k_ ≠ ((.slice Ao22 t795.length co22) : Value).ownBlock ∧ some k_ ≠ ((.slice Ao23 t798.length co23) : Value).ownBlock) (.slice Ao26 y804.length co26) y804) ∧ za (Kd.R k29 29 w' w.heap.size (fun _ => True) (.slice Ao21 t780.length co21) t780) ∧ za (Kd.R Kd.string 9 w' w.heap.size (fun k_ => some k_ ≠ ((.slice Ao26 y804.length co26) : Value).ownBlock ∧ some k_ ≠ ((.slice Ao23 t798.length co23) : Value).ownBlock) (.slice Ao22 t795.length co22) t795) ∧ za (Kd.R Kd.string 9 w' w.heap.size (fun k_ => some k_ ≠ ((.slice Ao26 y804.length co26) : Value).ownBlock ∧ some k_ ≠ ((.slice Ao22 t795.length co22) : Value).ownBlock) (.slice Ao23 t798.length co23) t798) ∧ za (w'.heap[gb802]? = some (.cells #[.bool t778, .string t779, (.slice Ao21 t780.length co21), .bool t783, .string t784, .bool t785, .string t786, .bool t787, .string t788, .bool t789, .string t790, .bool t791, .string t792, .bool t793, .string t794, (.slice Ao22 t795.length co22), (.slice Ao23 t798.length co23)] 34 (0, 0))) ∧ za (Below w.heap.size w w'))
              case atStart => exact ⟨(0), (by rfl), H', ⟨Nat.le_refl _⟩, ⟨by (with_reducible repeat (first | apply Kd.R_alloc | apply Kd.R_drewN | apply Kd.R_drew)); exact Kd.R_mono HO806.out (fun _ hk => ⟨hk.1.2, hk.2⟩)⟩, ⟨by (with_reducible repeat (first | apply Kd.R_alloc | apply Kd.R_drewN | apply Kd.R_drew)); exact HO782.out⟩, ⟨by (with_reducible repeat (first | apply Kd.R_alloc | apply Kd.R_drewN | apply Kd.R_drew)); exact Kd.R_mono HO797.out (fun _ hk => ⟨hk.2, hk.1⟩)⟩, ⟨by (with_reducible repeat (first | apply Kd.R_alloc | apply Kd.R_drewN | apply Kd.R_drew)); exact Kd.R_mono HO800.out (fun _ hk => ⟨hk.2, hk.1⟩)⟩, ⟨by exact BK802.out⟩, ⟨by (with_reducible exact HB.out)⟩⟩
              case round =>
               clear H'
               clear c3b0 c3b1 c7 c7b0 c7b1 c7b2 c8 c8b0 c8b1 c8b2 c9 c9b0 c9b1 c9b2 c10 c10b0 c10b1 c10b2 c11 c11b0 c11b1 c11b2 c12 c12b0 c12b1 c12b2 c13 c13b0 c13b1 c13b2 c14 c14b0 c14b1 c14b2 c15 c15b0 c15b1 c15b2 c16 c16b0 c16b1 c16b2 c17 c17b0 c17b1 c17b2 hcz20_0 hcz20_1 hcz20_10 hcz20_11 hcz20_12 hcz20_13 hcz20_14 hcz20_15 hcz20_16 hcz20_2 hcz20_3 hcz20_4 hcz20_5 hcz20_6 hcz20_7 hcz20_8 hcz20_9 hfz20_0 hfz20_1 hfz20_10 hfz20_11 hfz20_12 hfz20_13 hfz20_14 hfz20_15 hfz20_16 hfz20_2 hfz20_3 hfz20_4 hfz20_5 hfz20_6 hfz20_7 hfz20_8 hfz20_9
               obtain ⟨x58_1, rfl, HA, HK1, HO_9, HO_803002, HO_803015, HO_803016, BK802, HB⟩ := hrel
               cases gk with
               | zero => exact absurd HA.out (by simp [zn.l0])
               | succ k1 =>
                have H := HA.out
                clear HA
                simp only [zn.l0] at H
                by_cases c27 : x58_1 < (y804.length : Int)
                ·rw [if_pos c27] at H
                 have c27b0 : decide (x58_1 < (y804.length : Int)) = true := decide_eq_true c27
                 clear c27
                 have H' := za.mk H
                 clear H
                 go_wp2
                 (try simp only [Act.put, List.setIfInBounds_toArray, List.set_cons_zero, List.set_cons_succ])
                 go_loopg [63] k1 (fun kq v63 w' => ∃ (x63_2 : Int), v63 = .int .i64 x63_2 ∧ za (zn.l1 kq y804 x58_1 (y804.length : Int) x58_1 (y804.length : Int) x63_2 = some r) ∧ za (kq ≤ k1) ∧ za (Kd.R Kd.string 9 w' w.heap.size (fun k_ => some k_ ≠ ((.slice Ao22 t795.length co22) : Value).ownBlock ∧ some k_ ≠ ((.slice Ao23 t798.length co23) : Value).ownBlock) (.slice Ao26 y804.length co26) y804) ∧ za (Kd.R k29 29 w' w.heap.size (fun _ => True) (.slice Ao21 t780.length co21) t780) ∧ za (Kd.R Kd.string 9 w' w.heap.size (fun k_ => some k_ ≠ ((.slice Ao26 y804.length co26) : Value).ownBlock ∧ some k_ ≠ ((.slice Ao23 t798.length co23) : Value).ownBlock) (.slice Ao22 t795.length co22) t795) ∧ za (Kd.R Kd.string 9 w' w.heap.size (fun k_ => some k_ ≠ ((.slice Ao26 y804.length co26) : Value).ownBlock ∧ some k_ ≠ ((.slice Ao22 t795.length co22) : Value).ownBlock) (.slice Ao23 t798.length co23) t798) ∧ za (w'.heap[gb802]? = some (.cells #[.bool t778, .string t779, (.slice Ao21 t780.length co21), .bool t783, .string t784, .bool t785, .string t786, .bool t787, .string t788, .bool t789, .string t790, .bool t791, .string t792, .bool t793, .string t794, (.slice Ao22 t795.length co22), (.slice Ao23 t798.length co23)] 34 (0, 0))) ∧ za (Below w.heap.size w w'))
                 case atStart => exact ⟨(0), (by rfl), H', ⟨Nat.le_refl _⟩, ⟨by (with_reducible repeat (first | apply Kd.R_alloc | apply Kd.R_drewN | apply Kd.R_drew)); exact HO_9.out⟩, ⟨by (with_reducible repeat (first | apply Kd.R_alloc | apply Kd.R_drewN | apply Kd.R_drew)); exact HO_803002.out⟩, ⟨by (with_reducible repeat (first | apply Kd.R_alloc | apply Kd.R_drewN | apply Kd.R_drew)); exact HO_803015.out⟩, ⟨by (with_reducible repeat (first | apply Kd.R_alloc | apply Kd.R_drewN | apply Kd.R_drew)); exact HO_803016.out⟩, ⟨by exact BK802.out⟩, ⟨by (with_reducible exact HB.out)⟩⟩
                 case round =>
                  clear H'
                  clear c27b0
                  obtain ⟨x63_2, rfl, HA, HK2, HO_9, HO_803002, HO_803015, HO_803016, BK802, HB⟩ := hrel
                  cases gk with
                  | zero => exact absurd HA.out (by simp [zn.l1])
                  | succ k2 =>
                   have H := HA.out
                   clear HA
                   simp only [zn.l1] at H
                   by_cases c28 : x63_2 < (y804.length : Int)
                   ·rw [if_pos c28] at H
                    have c28b0 : decide (x63_2 < (y804.length : Int)) = true := decide_eq_true c28
                    clear c28
                    by_cases c29 : 0 ≤ x58_1
                    ·rw [if_pos c29] at H
                     have c29b0 : decide (0 ≤ x58_1) = true := decide_eq_true c29
                     clear c29
                     by_cases c30 : x58_1 < (y804.length : Int)
                     ·rw [if_pos c30] at H
                      have c30b0 : decide (x58_1 < (y804.length : Int)) = true := decide_eq_true c30
                      clear c30
                      by_cases c31 : 0 ≤ x63_2
                      ·rw [if_pos c31] at H
                       have c31b0 : decide (0 ≤ x63_2) = true := decide_eq_true c31
                       clear c31
                       by_cases c32 : x63_2 < (y804.length : Int)
                       ·rw [if_pos c32] at H
                        have c32b0 : decide (x63_2 < (y804.length : Int)) = true := decide_eq_true c32
                        clear c32
                        replace H := Option.bind_eq_some_iff.mp H
                        obtain ⟨⟨t809, t810⟩, A330, H⟩ := H
                        replace H : (if t810 = true then (if t809 = (mx (-1) (mn 1 (wrap64 (x58_1 - x63_2)))) then (zn.l1 k2 y804 x58_1 (y804.length : Int) x58_1 (y804.length : Int) (wrap64 (x63_2 + 1))) else (some false)) else (some false)) = some r := H
                        have A33 := za.mk A330
                        clear A330
                        by_cases c34 : t810 = true
                        ·subst c34
                         have H1 : (if t809 = (mx (-1) (mn 1 (wrap64 (x58_1 - x63_2)))) then (zn.l1 k2 y804 x58_1 (y804.length : Int) x58_1 (y804.length : Int) (wrap64 (x63_2 + 1))) else (some false)) = some r := by rw [if_pos rfl] at H; exact H
                         clear H
                         have H := H1
                         clear H1
                         obtain ⟨ji35, hji35⟩ : ∃ j_ : Int, (mn 1 (wrap64 (x58_1 - x63_2))) = j_ := ⟨_, rfl⟩
                         replace H : (if t809 = (mx (-1) (ji35)) then (zn.l1 k2 y804 x58_1 (y804.length : Int) x58_1 (y804.length : Int) (wrap64 (x63_2 + 1))) else (some false)) = some r := by (rw [hji35] at H; exact H)
                         (try rw [hji35] at A33)
                         have hji35_ : (if (wrap64 (x58_1 - x63_2)) < 1 then (wrap64 (x58_1 - x63_2)) else 1) = ji35 := hji35
                         obtain ⟨ji36, hji36⟩ : ∃ j_ : Int, (mx (-1) (ji35)) = j_ := ⟨_, rfl⟩
                         (try rw [hji36] at hji35)
                         (try rw [hji36] at hji35w)
                         replace H : (if t809 = (ji36) then (zn.l1 k2 y804 x58_1 (y804.length : Int) x58_1 (y804.length : Int) (wrap64 (x63_2 + 1))) else (some false)) = some r := by (rw [hji36] at H; exact H)
                         (try rw [hji36] at A33)
                         have hji36_ : (if (-1) < (ji35) then (ji35) else (-1)) = ji36 := hji36
                         by_cases c37 : t809 = (ji36)
                         ·rw [if_pos c37] at H
                          have c37b0 : (t809 == (ji36)) = true := beq_iff_eq.mpr c37
                          have c37b1 : (t809 != (ji36)) = false := bne_eq_false_iff_eq.mpr c37
                          clear c37
                          have H' := za.mk H
                          clear H
                          try go_wp2
                          replace HO_9 := za.mk (Kd.R_drew HO_9.out)
                          replace HO_803002 := za.mk (Kd.R_drew HO_803002.out)
                          replace HO_803015 := za.mk (Kd.R_drew HO_803015.out)
                          replace HO_803016 := za.mk (Kd.R_drew HO_803016.out)
                          replace BK802 := za.mk (zjd BK802.out)
                          replace HB := za.mk (zu HB.out)
                          have p807 : 0 ≤ (x58_1 : Int) := of_decide_eq_true (by (with_reducible assumption))
                          have q807 : x58_1 < (y804.length : Int) := of_decide_eq_true (by (with_reducible assumption))
                          obtain ⟨ad807, e807, hx807_0⟩ := Kd.at_string (Kd.R_reads' HO_9.out).2.2 x58_1 p807 q807
                          cases e807
                          replace p807 := eq_true p807
                          replace q807 := eq_true q807
                          have p808 : 0 ≤ (x63_2 : Int) := of_decide_eq_true (by (with_reducible assumption))
                          have q808 : x63_2 < (y804.length : Int) := of_decide_eq_true (by (with_reducible assumption))
                          obtain ⟨ad808, e808, hx808_0⟩ := Kd.at_string (Kd.R_reads' HO_9.out).2.2 x63_2 p808 q808
                          obtain rfl : ad807 = ad808 := (by injection e808)
                          replace p808 := eq_true p808
                          replace q808 := eq_true q808
                          refine start_ (n := 14) (S := fun w' => w'.cell? (ad807.add (x58_1).toNat) = some (.string (rdOf ByteArray.empty y804 x58_1)) ∧ w'.cell? (ad807.add (x63_2).toNat) = some (.string (rdOf ByteArray.empty y804 x63_2))) (ds := []) #[false, false, false, false, false, false, false, false, false, false, false, false, false, false] (by kernel_rfl) rfl rfl ⟨hx807_0, hx808_0⟩ (fun hHeld => ?_); refine zxf zn.tab14 zn.bits14 (fun HT_ HW_ => ?_)
                          generalize wr.drew = w38 at HO_9 HO_803002 HO_803015 HO_803016 BK802 HB hx807_0 hx808_0 hHeld ⊢
                          refine pure_ (i := 0) (N := some 67) (v := ?_) (a' := ?_) #[true, false, false, false, false, false, false, false, false, false, false, false, false, false] rfl rfl (zhc HT_.out (by kernel_rfl)) (fun _ _ _ h => h) (Or.inl ⟨by rfl, ?_⟩) ?_ ?_
                          rotate_left
                          ·intro w'
                           go_simp
                           with_reducible rfl
                          rotate_left
                          ·simp only [Act.put, List.setIfInBounds_toArray, List.set_cons_zero, List.set_cons_succ, i64_w, i32_w]
                           rfl
                          refine pure_ (i := 1) (N := some 68) (v := ?_) (a' := ?_) #[true, true, false, false, false, false, false, false, false, false, false, false, false, false] rfl rfl (zhc HT_.out (by kernel_rfl)) (fun _ _ _ h => h) (Or.inl ⟨by rfl, ?_⟩) ?_ ?_
                          rotate_left
                          ·intro w'
                           go_simp
                           with_reducible rfl
                          rotate_left
                          ·simp only [Act.put, List.setIfInBounds_toArray, List.set_cons_zero, List.set_cons_succ, i64_w, i32_w]
                           rfl
                          refine pure_ (i := 2) (N := some 69) (v := ?_) (a' := ?_) #[true, true, true, false, false, false, false, false, false, false, false, false, false, false] rfl rfl (zhc HT_.out (by kernel_rfl)) (fun _ _ _ h => h) (Or.inl ⟨by rfl, ?_⟩) ?_ ?_
                          rotate_left
                          ·intro w'
                           go_simp
                           with_reducible rfl
                          rotate_left
                          ·simp only [Act.put, List.setIfInBounds_toArray, List.set_cons_zero, List.set_cons_succ, i64_w, i32_w]
                           rfl
                          refine pure_ (i := 4) (N := some 71) (v := ?_) (a' := ?_) #[true, true, true, false, true, false, false, false, false, false, false, false, false, false] rfl rfl (zhc HT_.out (by kernel_rfl)) (fun _ _ _ h => h) (Or.inl ⟨by rfl, ?_⟩) ?_ ?_
                          rotate_left
                          ·intro w'
                           go_simp
                           with_reducible rfl
                          rotate_left
                          ·simp only [Act.put, List.setIfInBounds_toArray, List.set_cons_zero, List.set_cons_succ, i64_w, i32_w]
                           rfl
                          refine pure_ (i := 5) (N := some 72) (v := ?_) (a' := ?_) #[true, true, true, false, true, true, false, false, false, false, false, false, false, false] rfl rfl (zhc HT_.out (by kernel_rfl)) (fun _ _ _ h => h) (Or.inl ⟨by rfl, ?_⟩) ?_ ?_
                          rotate_left
                          ·intro w'
                           go_simp
                           with_reducible rfl
                          rotate_left
                          ·simp only [Act.put, List.setIfInBounds_toArray, List.set_cons_zero, List.set_cons_succ, i64_w, i32_w]
                           rfl
                          refine pure_ (i := 6) (N := some 73) (v := ?_) (a' := ?_) #[true, true, true, false, true, true, true, false, false, false, false, false, false, false] rfl rfl (zhc HT_.out (by kernel_rfl)) (fun _ _ _ h => h) (Or.inl ⟨by rfl, ?_⟩) ?_ ?_
                          rotate_left
                          ·intro w'
                           go_simp
                           with_reducible rfl
                          rotate_left
                          ·simp only [Act.put, List.setIfInBounds_toArray, List.set_cons_zero, List.set_cons_succ, i64_w, i32_w]
                           rfl
                          refine take_ (i := 3) (N := some 70) (v := ?_) (a' := ?_) #[true, true, true, true, true, true, true, false, false, false, false, false, false, false] rfl rfl (zpe HT_.out HW_.out (by kernel_rfl)) (fun _ _ _ h => h) (Or.inl ⟨by rfl, ?_⟩) hHeld ?_ ?_
                          rotate_left
                          ·rintro w' ⟨s0, s1⟩
                           go_simp
                           with_reducible rfl
                          rotate_left
                          ·simp only [Act.put, List.setIfInBounds_toArray, List.set_cons_zero, List.set_cons_succ, i64_w, i32_w]
                           rfl
                          refine take_ (i := 7) (N := some 74) (v := ?_) (a' := ?_) #[true, true, true, true, true, true, true, true, false, false, false, false, false, false] rfl rfl (zpe HT_.out HW_.out (by kernel_rfl)) (fun _ _ _ h => h) (Or.inl ⟨by rfl, ?_⟩) hHeld ?_ ?_
                          rotate_left
                          ·rintro w' ⟨s0, s1⟩
                           go_simp
                           with_reducible rfl
                          rotate_left
                          ·simp only [Act.put, List.setIfInBounds_toArray, List.set_cons_zero, List.set_cons_succ, i64_w, i32_w]
                           rfl
                          refine one_ (i := 8) (N := some 75) #[true, true, true, true, true, true, true, true, true, false, false, false, false, false] rfl rfl (zye HT_.out (by kernel_rfl)) (by decide) (fun K hK => ?_)
                          refine goes_ Tryz.func23 (by kernel_rfl) rfl #[.string (rdOf ByteArray.empty y804 x58_1), .string (rdOf ByteArray.empty y804 x63_2)] (by rfl) rfl rfl (by (try simp only [List.map_toArray, List.map_cons, List.map_nil]); first | done | rfl | (simp only [List.length_drop, List.length_take]; rfl)) ?_
                          with_reducible refine (zvb.calls (rdOf ByteArray.empty y804 x58_1) (rdOf ByteArray.empty y804 x63_2) t809 true _ A33.out (by exact GL.at HG.out (by repeat (first | (with_reducible first | exact HB.out | apply zm | apply zg | apply zu) | exact HB.out)))).mono ?_
                          rintro e w39 ⟨rfl, hb⟩
                          have HS0_ := (hb.cell (World.block_lt_of_cell? _ _ (hHeld.1))).trans (hHeld.1)
                          have HS1_ := (hb.cell (World.block_lt_of_cell? _ _ (hHeld.2))).trans (hHeld.2)
                          refine ⟨_, rfl, ?_⟩
                          replace HO_9 := za.mk (Kd.R_below (by (with_reducible repeat (first | apply Kd.R_alloc | apply Kd.R_drewN | apply Kd.R_drew)); exact HO_9.out) hb)
                          replace HO_803002 := za.mk (Kd.R_below (by (with_reducible repeat (first | apply Kd.R_alloc | apply Kd.R_drewN | apply Kd.R_drew)); exact HO_803002.out) hb)
                          replace HO_803015 := za.mk (Kd.R_below (by (with_reducible repeat (first | apply Kd.R_alloc | apply Kd.R_drewN | apply Kd.R_drew)); exact HO_803015.out) hb)
                          replace HO_803016 := za.mk (Kd.R_below (by (with_reducible repeat (first | apply Kd.R_alloc | apply Kd.R_drewN | apply Kd.R_drew)); exact HO_803016.out) hb)
                          replace BK802 := za.mk (zh BK802.out hb)
                          replace HB := za.mk (zeb (by (with_reducible exact HB.out)) hb)
                          (try clear hb)
                          (try clear hb2)
                          (try clear hk)
                          (try clear hi)
                          refine hK.out _ _ ⟨HS0_, HS1_⟩ (fun hHeld => ?_)
                          clear hK K
                          refine norm_ (a' := ?_) ?_ ?_
                          rotate_left
                          ·show Act.put _ (some 75) _ = _
                           simp only [Act.put, List.setIfInBounds_toArray, List.set_cons_zero, List.set_cons_succ, i64_w, i32_w]
                           rfl
                          refine pure_ (i := 9) (N := some 66) (v := ?_) (a' := ?_) #[true, true, true, true, true, true, true, true, true, true, false, false, false, false] rfl rfl (zhc HT_.out (by kernel_rfl)) (fun _ _ _ h => h) (Or.inl ⟨by rfl, ?_⟩) ?_ ?_
                          rotate_left
                          ·intro w'
                           go_simp
                           with_reducible rfl
                          rotate_left
                          ·simp only [Act.put, List.setIfInBounds_toArray, List.set_cons_zero, List.set_cons_succ, i64_w, i32_w]
                           rfl
                          refine pure_ (i := 10) (N := some 76) (v := ?_) (a' := ?_) #[true, true, true, true, true, true, true, true, true, true, true, false, false, false] rfl rfl (zhc HT_.out (by kernel_rfl)) (fun _ _ _ h => h) (Or.inl ⟨by rfl, ?_⟩) ?_ ?_
                          rotate_left
                          ·intro w'
                           go_simp
                           with_reducible rfl
                          rotate_left
                          ·simp only [Act.put, List.setIfInBounds_toArray, List.set_cons_zero, List.set_cons_succ, i64_w, i32_w]
                           rfl
                          refine pure_ (i := 11) (N := some 77) (v := ?_) (a' := ?_) #[true, true, true, true, true, true, true, true, true, true, true, true, false, false] rfl rfl (zhc HT_.out (by kernel_rfl)) (fun _ _ _ h => h) (Or.inl ⟨by rfl, ?_⟩) ?_ ?_
                          rotate_left
                          ·intro w'
                           go_simp
                           with_reducible rfl
                          rotate_left
                          ·simp only [Act.put, List.setIfInBounds_toArray, List.set_cons_zero, List.set_cons_succ, i64_w, i32_w]
                           rfl
                          refine pure_ (i := 12) (N := some 12) (v := ?_) (a' := ?_) #[true, true, true, true, true, true, true, true, true, true, true, true, true, false] rfl rfl (zhc HT_.out (by kernel_rfl)) (fun _ _ _ h => h) (Or.inl ⟨by rfl, ?_⟩) ?_ ?_
                          rotate_left
                          ·intro w'
                           go_simp
                           with_reducible rfl
                          rotate_left
                          ·simp only [Act.put, List.setIfInBounds_toArray, List.set_cons_zero, List.set_cons_succ, i64_w, i32_w]
                           rfl
                          refine pure_ (i := 13) (N := some 13) (v := ?_) (a' := ?_) #[true, true, true, true, true, true, true, true, true, true, true, true, true, true] rfl rfl (zhc HT_.out (by kernel_rfl)) (fun _ _ _ h => h) (Or.inl ⟨by rfl, ?_⟩) ?_ ?_
                          rotate_left
                          ·intro w'
                           go_simp
                           with_reducible rfl
                          rotate_left
                          ·simp only [Act.put, List.setIfInBounds_toArray, List.set_cons_zero, List.set_cons_succ, i64_w, i32_w]
                           rfl
                          refine done_ (done_of HT_.out (by kernel_rfl)) ?_
                          try go_wp2
                          go_roundg k2
                          case measure => have := HK1.out; have := HK2.out; omega
                          case rel => exact ⟨(wrap64 (x63_2 + 1)), (by rfl), H', ⟨by have := HK1.out; have := HK2.out; omega⟩, ⟨by (with_reducible repeat (first | apply Kd.R_alloc | apply Kd.R_drewN | apply Kd.R_drew)); exact HO_9.out⟩, ⟨by (with_reducible repeat (first | apply Kd.R_alloc | apply Kd.R_drewN | apply Kd.R_drew)); exact HO_803002.out⟩, ⟨by (with_reducible repeat (first | apply Kd.R_alloc | apply Kd.R_drewN | apply Kd.R_drew)); exact HO_803015.out⟩, ⟨by (with_reducible repeat (first | apply Kd.R_alloc | apply Kd.R_drewN | apply Kd.R_drew)); exact HO_803016.out⟩, ⟨by exact BK802.out⟩, ⟨by (with_reducible exact HB.out)⟩⟩
                         ·rw [if_neg c37] at H
                          have c37b0 : (t809 == (ji36)) = false := beq_eq_false_iff_ne.mpr c37
                          have c37b1 : (t809 != (ji36)) = true := bne_iff_ne.mpr c37
                          obtain rfl := Option.some.inj H
                          try go_wp2
                          replace HO_9 := za.mk (Kd.R_drew HO_9.out)
                          replace HO_803002 := za.mk (Kd.R_drew HO_803002.out)
                          replace HO_803015 := za.mk (Kd.R_drew HO_803015.out)
                          replace HO_803016 := za.mk (Kd.R_drew HO_803016.out)
                          replace BK802 := za.mk (zjd BK802.out)
                          replace HB := za.mk (zu HB.out)
                          have p807 : 0 ≤ (x58_1 : Int) := of_decide_eq_true (by (with_reducible assumption))
                          have q807 : x58_1 < (y804.length : Int) := of_decide_eq_true (by (with_reducible assumption))
                          obtain ⟨ad807, e807, hx807_0⟩ := Kd.at_string (Kd.R_reads' HO_9.out).2.2 x58_1 p807 q807
                          cases e807
                          replace p807 := eq_true p807
                          replace q807 := eq_true q807
                          have p808 : 0 ≤ (x63_2 : Int) := of_decide_eq_true (by (with_reducible assumption))
                          have q808 : x63_2 < (y804.length : Int) := of_decide_eq_true (by (with_reducible assumption))
                          obtain ⟨ad808, e808, hx808_0⟩ := Kd.at_string (Kd.R_reads' HO_9.out).2.2 x63_2 p808 q808
                          obtain rfl : ad807 = ad808 := (by injection e808)
                          replace p808 := eq_true p808
                          replace q808 := eq_true q808
                          refine start_ (n := 14) (S := fun w' => w'.cell? (ad807.add (x58_1).toNat) = some (.string (rdOf ByteArray.empty y804 x58_1)) ∧ w'.cell? (ad807.add (x63_2).toNat) = some (.string (rdOf ByteArray.empty y804 x63_2))) (ds := []) #[false, false, false, false, false, false, false, false, false, false, false, false, false, false] (by kernel_rfl) rfl rfl ⟨hx807_0, hx808_0⟩ (fun hHeld => ?_); refine zxf zn.tab14 zn.bits14 (fun HT_ HW_ => ?_)
                          generalize wr.drew = w40 at HO_9 HO_803002 HO_803015 HO_803016 BK802 HB hx807_0 hx808_0 hHeld ⊢
                          refine pure_ (i := 0) (N := some 67) (v := ?_) (a' := ?_) #[true, false, false, false, false, false, false, false, false, false, false, false, false, false] rfl rfl (zhc HT_.out (by kernel_rfl)) (fun _ _ _ h => h) (Or.inl ⟨by rfl, ?_⟩) ?_ ?_
                          rotate_left
                          ·intro w'
                           go_simp
                           with_reducible rfl
                          rotate_left
                          ·simp only [Act.put, List.setIfInBounds_toArray, List.set_cons_zero, List.set_cons_succ, i64_w, i32_w]
                           rfl
                          refine pure_ (i := 1) (N := some 68) (v := ?_) (a' := ?_) #[true, true, false, false, false, false, false, false, false, false, false, false, false, false] rfl rfl (zhc HT_.out (by kernel_rfl)) (fun _ _ _ h => h) (Or.inl ⟨by rfl, ?_⟩) ?_ ?_
                          rotate_left
                          ·intro w'
                           go_simp
                           with_reducible rfl
                          rotate_left
                          ·simp only [Act.put, List.setIfInBounds_toArray, List.set_cons_zero, List.set_cons_succ, i64_w, i32_w]
                           rfl
                          refine pure_ (i := 2) (N := some 69) (v := ?_) (a' := ?_) #[true, true, true, false, false, false, false, false, false, false, false, false, false, false] rfl rfl (zhc HT_.out (by kernel_rfl)) (fun _ _ _ h => h) (Or.inl ⟨by rfl, ?_⟩) ?_ ?_
                          rotate_left
                          ·intro w'
                           go_simp
                           with_reducible rfl
                          rotate_left
                          ·simp only [Act.put, List.setIfInBounds_toArray, List.set_cons_zero, List.set_cons_succ, i64_w, i32_w]
                           rfl
                          refine pure_ (i := 4) (N := some 71) (v := ?_) (a' := ?_) #[true, true, true, false, true, false, false, false, false, false, false, false, false, false] rfl rfl (zhc HT_.out (by kernel_rfl)) (fun _ _ _ h => h) (Or.inl ⟨by rfl, ?_⟩) ?_ ?_
                          rotate_left
                          ·intro w'
                           go_simp
                           with_reducible rfl
                          rotate_left
                          ·simp only [Act.put, List.setIfInBounds_toArray, List.set_cons_zero, List.set_cons_succ, i64_w, i32_w]
                           rfl
                          refine pure_ (i := 5) (N := some 72) (v := ?_) (a' := ?_) #[true, true, true, false, true, true, false, false, false, false, false, false, false, false] rfl rfl (zhc HT_.out (by kernel_rfl)) (fun _ _ _ h => h) (Or.inl ⟨by rfl, ?_⟩) ?_ ?_
                          rotate_left
                          ·intro w'
                           go_simp
                           with_reducible rfl
                          rotate_left
                          ·simp only [Act.put, List.setIfInBounds_toArray, List.set_cons_zero, List.set_cons_succ, i64_w, i32_w]
                           rfl
                          refine pure_ (i := 6) (N := some 73) (v := ?_) (a' := ?_) #[true, true, true, false, true, true, true, false, false, false, false, false, false, false] rfl rfl (zhc HT_.out (by kernel_rfl)) (fun _ _ _ h => h) (Or.inl ⟨by rfl, ?_⟩) ?_ ?_
                          rotate_left
                          ·intro w'
                           go_simp
                           with_reducible rfl
                          rotate_left
                          ·simp only [Act.put, List.setIfInBounds_toArray, List.set_cons_zero, List.set_cons_succ, i64_w, i32_w]
                           rfl
                          refine take_ (i := 3) (N := some 70) (v := ?_) (a' := ?_) #[true, true, true, true, true, true, true, false, false, false, false, false, false, false] rfl rfl (zpe HT_.out HW_.out (by kernel_rfl)) (fun _ _ _ h => h) (Or.inl ⟨by rfl, ?_⟩) hHeld ?_ ?_
                          rotate_left
                          ·rintro w' ⟨s0, s1⟩
                           go_simp
                           with_reducible rfl
                          rotate_left
                          ·simp only [Act.put, List.setIfInBounds_toArray, List.set_cons_zero, List.set_cons_succ, i64_w, i32_w]
                           rfl
                          refine take_ (i := 7) (N := some 74) (v := ?_) (a' := ?_) #[true, true, true, true, true, true, true, true, false, false, false, false, false, false] rfl rfl (zpe HT_.out HW_.out (by kernel_rfl)) (fun _ _ _ h => h) (Or.inl ⟨by rfl, ?_⟩) hHeld ?_ ?_
                          rotate_left
                          ·rintro w' ⟨s0, s1⟩
                           go_simp
                           with_reducible rfl
                          rotate_left
                          ·simp only [Act.put, List.setIfInBounds_toArray, List.set_cons_zero, List.set_cons_succ, i64_w, i32_w]
                           rfl
                          refine one_ (i := 8) (N := some 75) #[true, true, true, true, true, true, true, true, true, false, false, false, false, false] rfl rfl (zye HT_.out (by kernel_rfl)) (by decide) (fun K hK => ?_)
                          refine goes_ Tryz.func23 (by kernel_rfl) rfl #[.string (rdOf ByteArray.empty y804 x58_1), .string (rdOf ByteArray.empty y804 x63_2)] (by rfl) rfl rfl (by (try simp only [List.map_toArray, List.map_cons, List.map_nil]); first | done | rfl | (simp only [List.length_drop, List.length_take]; rfl)) ?_
                          with_reducible refine (zvb.calls (rdOf ByteArray.empty y804 x58_1) (rdOf ByteArray.empty y804 x63_2) t809 true _ A33.out (by exact GL.at HG.out (by repeat (first | (with_reducible first | exact HB.out | apply zm | apply zg | apply zu) | exact HB.out)))).mono ?_
                          rintro e w41 ⟨rfl, hb⟩
                          have HS0_ := (hb.cell (World.block_lt_of_cell? _ _ (hHeld.1))).trans (hHeld.1)
                          have HS1_ := (hb.cell (World.block_lt_of_cell? _ _ (hHeld.2))).trans (hHeld.2)
                          refine ⟨_, rfl, ?_⟩
                          replace HO_9 := za.mk (Kd.R_below (by (with_reducible repeat (first | apply Kd.R_alloc | apply Kd.R_drewN | apply Kd.R_drew)); exact HO_9.out) hb)
                          replace HO_803002 := za.mk (Kd.R_below (by (with_reducible repeat (first | apply Kd.R_alloc | apply Kd.R_drewN | apply Kd.R_drew)); exact HO_803002.out) hb)
                          replace HO_803015 := za.mk (Kd.R_below (by (with_reducible repeat (first | apply Kd.R_alloc | apply Kd.R_drewN | apply Kd.R_drew)); exact HO_803015.out) hb)
                          replace HO_803016 := za.mk (Kd.R_below (by (with_reducible repeat (first | apply Kd.R_alloc | apply Kd.R_drewN | apply Kd.R_drew)); exact HO_803016.out) hb)
                          replace BK802 := za.mk (zh BK802.out hb)
                          replace HB := za.mk (zeb (by (with_reducible exact HB.out)) hb)
                          (try clear hb)
                          (try clear hb2)
                          (try clear hk)
                          (try clear hi)
                          refine hK.out _ _ ⟨HS0_, HS1_⟩ (fun hHeld => ?_)
                          clear hK K
                          refine norm_ (a' := ?_) ?_ ?_
                          rotate_left
                          ·show Act.put _ (some 75) _ = _
                           simp only [Act.put, List.setIfInBounds_toArray, List.set_cons_zero, List.set_cons_succ, i64_w, i32_w]
                           rfl
                          refine pure_ (i := 9) (N := some 66) (v := ?_) (a' := ?_) #[true, true, true, true, true, true, true, true, true, true, false, false, false, false] rfl rfl (zhc HT_.out (by kernel_rfl)) (fun _ _ _ h => h) (Or.inl ⟨by rfl, ?_⟩) ?_ ?_
                          rotate_left
                          ·intro w'
                           go_simp
                           with_reducible rfl
                          rotate_left
                          ·simp only [Act.put, List.setIfInBounds_toArray, List.set_cons_zero, List.set_cons_succ, i64_w, i32_w]
                           rfl
                          refine pure_ (i := 10) (N := some 76) (v := ?_) (a' := ?_) #[true, true, true, true, true, true, true, true, true, true, true, false, false, false] rfl rfl (zhc HT_.out (by kernel_rfl)) (fun _ _ _ h => h) (Or.inl ⟨by rfl, ?_⟩) ?_ ?_
                          rotate_left
                          ·intro w'
                           go_simp
                           with_reducible rfl
                          rotate_left
                          ·simp only [Act.put, List.setIfInBounds_toArray, List.set_cons_zero, List.set_cons_succ, i64_w, i32_w]
                           rfl
                          refine pure_ (i := 11) (N := some 77) (v := ?_) (a' := ?_) #[true, true, true, true, true, true, true, true, true, true, true, true, false, false] rfl rfl (zhc HT_.out (by kernel_rfl)) (fun _ _ _ h => h) (Or.inl ⟨by rfl, ?_⟩) ?_ ?_
                          rotate_left
                          ·intro w'
                           go_simp
                           with_reducible rfl
                          rotate_left
                          ·simp only [Act.put, List.setIfInBounds_toArray, List.set_cons_zero, List.set_cons_succ, i64_w, i32_w]
                           rfl
                          refine pure_ (i := 12) (N := some 12) (v := ?_) (a' := ?_) #[true, true, true, true, true, true, true, true, true, true, true, true, true, false] rfl rfl (zhc HT_.out (by kernel_rfl)) (fun _ _ _ h => h) (Or.inl ⟨by rfl, ?_⟩) ?_ ?_
                          rotate_left
                          ·intro w'
                           go_simp
                           with_reducible rfl
                          rotate_left
                          ·simp only [Act.put, List.setIfInBounds_toArray, List.set_cons_zero, List.set_cons_succ, i64_w, i32_w]
                           rfl
                          refine pure_ (i := 13) (N := some 13) (v := ?_) (a' := ?_) #[true, true, true, true, true, true, true, true, true, true, true, true, true, true] rfl rfl (zhc HT_.out (by kernel_rfl)) (fun _ _ _ h => h) (Or.inl ⟨by rfl, ?_⟩) ?_ ?_
                          rotate_left
                          ·intro w'
                           go_simp
                           with_reducible rfl
                          rotate_left
                          ·simp only [Act.put, List.setIfInBounds_toArray, List.set_cons_zero, List.set_cons_succ, i64_w, i32_w]
                           rfl
                          refine done_ (done_of HT_.out (by kernel_rfl)) ?_
                          try go_wp2
                          go_ret
                          exact ⟨by rfl, by (with_reducible exact HB.out)⟩
                        ·replace c34 := Bool.eq_false_iff.mpr c34
                         subst c34
                         have H1 : (some false) = some r := by rw [if_neg (show ¬ (false = true) by decide)] at H; exact H
                         clear H
                         have H := H1
                         clear H1
                         obtain rfl := Option.some.inj H
                         try go_wp2
                         replace HO_9 := za.mk (Kd.R_drew HO_9.out)
                         replace HO_803002 := za.mk (Kd.R_drew HO_803002.out)
                         replace HO_803015 := za.mk (Kd.R_drew HO_803015.out)
                         replace HO_803016 := za.mk (Kd.R_drew HO_803016.out)
                         replace BK802 := za.mk (zjd BK802.out)
                         replace HB := za.mk (zu HB.out)
                         have p807 : 0 ≤ (x58_1 : Int) := of_decide_eq_true (by (with_reducible assumption))
                         have q807 : x58_1 < (y804.length : Int) := of_decide_eq_true (by (with_reducible assumption))
                         obtain ⟨ad807, e807, hx807_0⟩ := Kd.at_string (Kd.R_reads' HO_9.out).2.2 x58_1 p807 q807
                         cases e807
                         replace p807 := eq_true p807
                         replace q807 := eq_true q807
                         have p808 : 0 ≤ (x63_2 : Int) := of_decide_eq_true (by (with_reducible assumption))
                         have q808 : x63_2 < (y804.length : Int) := of_decide_eq_true (by (with_reducible assumption))
                         obtain ⟨ad808, e808, hx808_0⟩ := Kd.at_string (Kd.R_reads' HO_9.out).2.2 x63_2 p808 q808
                         obtain rfl : ad807 = ad808 := (by injection e808)
                         replace p808 := eq_true p808
                         replace q808 := eq_true q808
                         refine start_ (n := 14) (S := fun w' => w'.cell? (ad807.add (x58_1).toNat) = some (.string (rdOf ByteArray.empty y804 x58_1)) ∧ w'.cell? (ad807.add (x63_2).toNat) = some (.string (rdOf ByteArray.empty y804 x63_2))) (ds := []) #[false, false, false, false, false, false, false, false, false, false, false, false, false, false] (by kernel_rfl) rfl rfl ⟨hx807_0, hx808_0⟩ (fun hHeld => ?_); refine zxf zn.tab14 zn.bits14 (fun HT_ HW_ => ?_)
                         generalize wr.drew = w42 at HO_9 HO_803002 HO_803015 HO_803016 BK802 HB hx807_0 hx808_0 hHeld ⊢
                         refine pure_ (i := 0) (N := some 67) (v := ?_) (a' := ?_) #[true, false, false, false, false, false, false, false, false, false, false, false, false, false] rfl rfl (zhc HT_.out (by kernel_rfl)) (fun _ _ _ h => h) (Or.inl ⟨by rfl, ?_⟩) ?_ ?_
                         rotate_left
                         ·intro w'
                          go_simp
                          with_reducible rfl
                         rotate_left
                         ·simp only [Act.put, List.setIfInBounds_toArray, List.set_cons_zero, List.set_cons_succ, i64_w, i32_w]
                          rfl
                         refine pure_ (i := 1) (N := some 68) (v := ?_) (a' := ?_) #[true, true, false, false, false, false, false, false, false, false, false, false, false, false] rfl rfl (zhc HT_.out (by kernel_rfl)) (fun _ _ _ h => h) (Or.inl ⟨by rfl, ?_⟩) ?_ ?_
                         rotate_left
                         ·intro w'
                          go_simp
                          with_reducible rfl
                         rotate_left
                         ·simp only [Act.put, List.setIfInBounds_toArray, List.set_cons_zero, List.set_cons_succ, i64_w, i32_w]
                          rfl
                         refine pure_ (i := 2) (N := some 69) (v := ?_) (a' := ?_) #[true, true, true, false, false, false, false, false, false, false, false, false, false, false] rfl rfl (zhc HT_.out (by kernel_rfl)) (fun _ _ _ h => h) (Or.inl ⟨by rfl, ?_⟩) ?_ ?_
                         rotate_left
                         ·intro w'
                          go_simp
                          with_reducible rfl
                         rotate_left
                         ·simp only [Act.put, List.setIfInBounds_toArray, List.set_cons_zero, List.set_cons_succ, i64_w, i32_w]
                          rfl
                         refine pure_ (i := 4) (N := some 71) (v := ?_) (a' := ?_) #[true, true, true, false, true, false, false, false, false, false, false, false, false, false] rfl rfl (zhc HT_.out (by kernel_rfl)) (fun _ _ _ h => h) (Or.inl ⟨by rfl, ?_⟩) ?_ ?_
                         rotate_left
                         ·intro w'
                          go_simp
                          with_reducible rfl
                         rotate_left
                         ·simp only [Act.put, List.setIfInBounds_toArray, List.set_cons_zero, List.set_cons_succ, i64_w, i32_w]
                          rfl
                         refine pure_ (i := 5) (N := some 72) (v := ?_) (a' := ?_) #[true, true, true, false, true, true, false, false, false, false, false, false, false, false] rfl rfl (zhc HT_.out (by kernel_rfl)) (fun _ _ _ h => h) (Or.inl ⟨by rfl, ?_⟩) ?_ ?_
                         rotate_left
                         ·intro w'
                          go_simp
                          with_reducible rfl
                         rotate_left
                         ·simp only [Act.put, List.setIfInBounds_toArray, List.set_cons_zero, List.set_cons_succ, i64_w, i32_w]
                          rfl
                         refine pure_ (i := 6) (N := some 73) (v := ?_) (a' := ?_) #[true, true, true, false, true, true, true, false, false, false, false, false, false, false] rfl rfl (zhc HT_.out (by kernel_rfl)) (fun _ _ _ h => h) (Or.inl ⟨by rfl, ?_⟩) ?_ ?_
                         rotate_left
                         ·intro w'
                          go_simp
                          with_reducible rfl
                         rotate_left
                         ·simp only [Act.put, List.setIfInBounds_toArray, List.set_cons_zero, List.set_cons_succ, i64_w, i32_w]
                          rfl
                         refine take_ (i := 3) (N := some 70) (v := ?_) (a' := ?_) #[true, true, true, true, true, true, true, false, false, false, false, false, false, false] rfl rfl (zpe HT_.out HW_.out (by kernel_rfl)) (fun _ _ _ h => h) (Or.inl ⟨by rfl, ?_⟩) hHeld ?_ ?_
                         rotate_left
                         ·rintro w' ⟨s0, s1⟩
                          go_simp
                          with_reducible rfl
                         rotate_left
                         ·simp only [Act.put, List.setIfInBounds_toArray, List.set_cons_zero, List.set_cons_succ, i64_w, i32_w]
                          rfl
                         refine take_ (i := 7) (N := some 74) (v := ?_) (a' := ?_) #[true, true, true, true, true, true, true, true, false, false, false, false, false, false] rfl rfl (zpe HT_.out HW_.out (by kernel_rfl)) (fun _ _ _ h => h) (Or.inl ⟨by rfl, ?_⟩) hHeld ?_ ?_
                         rotate_left
                         ·rintro w' ⟨s0, s1⟩
                          go_simp
                          with_reducible rfl
                         rotate_left
                         ·simp only [Act.put, List.setIfInBounds_toArray, List.set_cons_zero, List.set_cons_succ, i64_w, i32_w]
                          rfl
                         refine one_ (i := 8) (N := some 75) #[true, true, true, true, true, true, true, true, true, false, false, false, false, false] rfl rfl (zye HT_.out (by kernel_rfl)) (by decide) (fun K hK => ?_)
                         refine goes_ Tryz.func23 (by kernel_rfl) rfl #[.string (rdOf ByteArray.empty y804 x58_1), .string (rdOf ByteArray.empty y804 x63_2)] (by rfl) rfl rfl (by (try simp only [List.map_toArray, List.map_cons, List.map_nil]); first | done | rfl | (simp only [List.length_drop, List.length_take]; rfl)) ?_
                         with_reducible refine (zvb.calls (rdOf ByteArray.empty y804 x58_1) (rdOf ByteArray.empty y804 x63_2) t809 false _ A33.out (by exact GL.at HG.out (by repeat (first | (with_reducible first | exact HB.out | apply zm | apply zg | apply zu) | exact HB.out)))).mono ?_
                         rintro e w43 ⟨rfl, hb⟩
                         have HS0_ := (hb.cell (World.block_lt_of_cell? _ _ (hHeld.1))).trans (hHeld.1)
                         have HS1_ := (hb.cell (World.block_lt_of_cell? _ _ (hHeld.2))).trans (hHeld.2)
                         refine ⟨_, rfl, ?_⟩
                         replace HO_9 := za.mk (Kd.R_below (by (with_reducible repeat (first | apply Kd.R_alloc | apply Kd.R_drewN | apply Kd.R_drew)); exact HO_9.out) hb)
                         replace HO_803002 := za.mk (Kd.R_below (by (with_reducible repeat (first | apply Kd.R_alloc | apply Kd.R_drewN | apply Kd.R_drew)); exact HO_803002.out) hb)
                         replace HO_803015 := za.mk (Kd.R_below (by (with_reducible repeat (first | apply Kd.R_alloc | apply Kd.R_drewN | apply Kd.R_drew)); exact HO_803015.out) hb)
                         replace HO_803016 := za.mk (Kd.R_below (by (with_reducible repeat (first | apply Kd.R_alloc | apply Kd.R_drewN | apply Kd.R_drew)); exact HO_803016.out) hb)
                         replace BK802 := za.mk (zh BK802.out hb)
                         replace HB := za.mk (zeb (by (with_reducible exact HB.out)) hb)
                         (try clear hb)
                         (try clear hb2)
                         (try clear hk)
                         (try clear hi)
                         refine hK.out _ _ ⟨HS0_, HS1_⟩ (fun hHeld => ?_)
                         clear hK K
                         refine norm_ (a' := ?_) ?_ ?_
                         rotate_left
                         ·show Act.put _ (some 75) _ = _
                          simp only [Act.put, List.setIfInBounds_toArray, List.set_cons_zero, List.set_cons_succ, i64_w, i32_w]
                          rfl
                         refine pure_ (i := 9) (N := some 66) (v := ?_) (a' := ?_) #[true, true, true, true, true, true, true, true, true, true, false, false, false, false] rfl rfl (zhc HT_.out (by kernel_rfl)) (fun _ _ _ h => h) (Or.inl ⟨by rfl, ?_⟩) ?_ ?_
                         rotate_left
                         ·intro w'
                          go_simp
                          with_reducible rfl
                         rotate_left
                         ·simp only [Act.put, List.setIfInBounds_toArray, List.set_cons_zero, List.set_cons_succ, i64_w, i32_w]
                          rfl
                         refine pure_ (i := 10) (N := some 76) (v := ?_) (a' := ?_) #[true, true, true, true, true, true, true, true, true, true, true, false, false, false] rfl rfl (zhc HT_.out (by kernel_rfl)) (fun _ _ _ h => h) (Or.inl ⟨by rfl, ?_⟩) ?_ ?_
                         rotate_left
                         ·intro w'
                          go_simp
                          with_reducible rfl
                         rotate_left
                         ·simp only [Act.put, List.setIfInBounds_toArray, List.set_cons_zero, List.set_cons_succ, i64_w, i32_w]
                          rfl
                         refine pure_ (i := 11) (N := some 77) (v := ?_) (a' := ?_) #[true, true, true, true, true, true, true, true, true, true, true, true, false, false] rfl rfl (zhc HT_.out (by kernel_rfl)) (fun _ _ _ h => h) (Or.inl ⟨by rfl, ?_⟩) ?_ ?_
                         rotate_left
                         ·intro w'
                          go_simp
                          with_reducible rfl
                         rotate_left
                         ·simp only [Act.put, List.setIfInBounds_toArray, List.set_cons_zero, List.set_cons_succ, i64_w, i32_w]
                          rfl
                         refine pure_ (i := 12) (N := some 12) (v := ?_) (a' := ?_) #[true, true, true, true, true, true, true, true, true, true, true, true, true, false] rfl rfl (zhc HT_.out (by kernel_rfl)) (fun _ _ _ h => h) (Or.inl ⟨by rfl, ?_⟩) ?_ ?_
                         rotate_left
                         ·intro w'
                          go_simp
                          with_reducible rfl
                         rotate_left
                         ·simp only [Act.put, List.setIfInBounds_toArray, List.set_cons_zero, List.set_cons_succ, i64_w, i32_w]
                          rfl
                         refine pure_ (i := 13) (N := some 13) (v := ?_) (a' := ?_) #[true, true, true, true, true, true, true, true, true, true, true, true, true, true] rfl rfl (zhc HT_.out (by kernel_rfl)) (fun _ _ _ h => h) (Or.inl ⟨by rfl, ?_⟩) ?_ ?_
                         rotate_left
                         ·intro w'
                          go_simp
                          with_reducible rfl
                         rotate_left
                         ·simp only [Act.put, List.setIfInBounds_toArray, List.set_cons_zero, List.set_cons_succ, i64_w, i32_w]
                          rfl
                         refine done_ (done_of HT_.out (by kernel_rfl)) ?_
                         try go_wp2
                         go_ret
                         exact ⟨by rfl, by (with_reducible exact HB.out)⟩
                       ·rw [if_neg c32] at H
                        exact absurd H (by simp)
                      ·rw [if_neg c31] at H
                       exact absurd H (by simp)
                     ·rw [if_neg c30] at H
                      exact absurd H (by simp)
                    ·rw [if_neg c29] at H
                     exact absurd H (by simp)
                   ·rw [if_neg c28] at H
                    have c28b0 : decide (x63_2 < (y804.length : Int)) = false := decide_eq_false c28
                    clear c28
                    have H' := za.mk H
                    clear H
                    go_wp2
                    go_roundg k2
                    case measure => have := HK1.out; have := HK2.out; omega
                    case rel => exact ⟨(wrap64 (x58_1 + 1)), (by rfl), H', ⟨by have := HK1.out; have := HK2.out; omega⟩, ⟨by (with_reducible repeat (first | apply Kd.R_alloc | apply Kd.R_drewN | apply Kd.R_drew)); exact HO_9.out⟩, ⟨by (with_reducible repeat (first | apply Kd.R_alloc | apply Kd.R_drewN | apply Kd.R_drew)); exact HO_803002.out⟩, ⟨by (with_reducible repeat (first | apply Kd.R_alloc | apply Kd.R_drewN | apply Kd.R_drew)); exact HO_803015.out⟩, ⟨by (with_reducible repeat (first | apply Kd.R_alloc | apply Kd.R_drewN | apply Kd.R_drew)); exact HO_803016.out⟩, ⟨by exact BK802.out⟩, ⟨by (with_reducible exact HB.out)⟩⟩
                ·rw [if_neg c27] at H
                 have c27b0 : decide (x58_1 < (y804.length : Int)) = false := decide_eq_false c27
                 clear c27
                 obtain rfl := Option.some.inj H
                 go_wp2
                 go_ret
                 exact ⟨by rfl, by (with_reducible exact HB.out)⟩
             ·rw [if_neg c17] at H
              exact absurd H (by simp)
            ·rw [if_neg c16] at H
             exact absurd H (by simp)
           ·rw [if_neg c15] at H
            exact absurd H (by simp)
          ·rw [if_neg c14] at H
           exact absurd H (by simp)
         ·rw [if_neg c13] at H
          exact absurd H (by simp)
        ·rw [if_neg c12] at H
         exact absurd H (by simp)
       ·rw [if_neg c11] at H
        exact absurd H (by simp)
      ·rw [if_neg c10] at H
       exact absurd H (by simp)
     ·rw [if_neg c9] at H
      exact absurd H (by simp)
    ·rw [if_neg c8] at H
     exact absurd H (by simp)
   ·rw [if_neg c7] at H
    exact absurd H (by simp)
  ·replace c5 := Bool.eq_false_iff.mpr c5
   subst c5
   have H1 : (some true) = some r := by rw [if_neg (show ¬ (false = true) by decide)] at H; exact H
   clear H
   have H := H1
   clear H1
   obtain rfl := Option.some.inj H
   go_enter Tryz.func9, Tryz.ntmps9
   go_wp2_with (first | ((with_reducible refine zcb (f := 15) rfl ?_); refine zxb (some 20) rfl rfl Tryz.func15 (by kernel_rfl) rfl #[.agg #[.int .u16 0, .slice A0 l0.length c0, .int .u8 0, .int .u16 0, .int .u16 0, .int .u16 0, .bool false, .bool false, .slice none 0 0]] rfl (by (try simp only [List.map_toArray, List.map_cons, List.map_nil]); first | done | rfl | (simp only [List.length_drop, List.length_take]; rfl)) ?_; (refine (ze.calls0 k 0 _ _ l0 0 0 0 0 false false _ _ ([] : List ByteArray) t777 t778 t779 t780 t783 t784 t785 t786 t787 t788 t789 t790 t791 t792 t793 t794 t795 t798 false _ ?side1 ?side2 ?side3 ?side4 A4.out ⟨rfl, rfl, rfl, rfl, rfl⟩).mono ?_); (case side1 => repeat (first | exact HR0.out | (with_reducible refine Kd.C_alloc ?_ _) | (with_reducible refine Kd.C_drewN ?_ _) | (with_reducible refine Kd.C_drew ?_))); (case side2 => exact HC0.out); (case side3 => exact Kd.C_nil _ _); (case side4 => exact Nat.le_refl _); rintro e w44 ⟨v781, v796, v799, rfl, ho0, ho1, ho2, hb⟩; refine ⟨_, rfl, ?_⟩; have HO782 := za.mk (Kd.R_lower ho0 (zdb (by (with_reducible exact HB.out)))); have HO797 := za.mk (Kd.R_lower ho1 (zdb (by (with_reducible exact HB.out)))); have HO800 := za.mk (Kd.R_lower ho2 (zdb (by (with_reducible exact HB.out)))); replace HB := za.mk (zeb (by (with_reducible exact HB.out)) hb); (try clear hb); (try clear hb2); (try clear hk); (try clear hi); (try clear ho0); (try clear ho1); (try clear ho2)) | ((with_reducible refine zxc (N := 6) rfl ?_); (try (refine zkc (by rfl) ?_; dsimp only)); refine zld ?hg (N := 6) ?hd (cs := #[.bool false, .string ⟨#[]⟩, .slice none 0 0, .bool false, .string ⟨#[]⟩, .bool false, .string ⟨#[]⟩, .bool false, .string ⟨#[]⟩, .bool false, .string ⟨#[]⟩, .bool false, .string ⟨#[]⟩, .bool false, .string ⟨#[]⟩, .slice none 0 0, .slice none 0 0]) (t := 34) ?hr ?_; (case hd => rfl); (case hg => rfl); (case hr => first | (go_simp; done) | (go_simp; rfl)); intro gb802 hg w45 hbox hb; replace HO782 := za.mk (Kd.R_below (by (with_reducible repeat (first | apply Kd.R_alloc | apply Kd.R_drewN | apply Kd.R_drew)); exact HO782.out) hb); replace HO797 := za.mk (Kd.R_below (by (with_reducible repeat (first | apply Kd.R_alloc | apply Kd.R_drewN | apply Kd.R_drew)); exact HO797.out) hb); replace HO800 := za.mk (Kd.R_below (by (with_reducible repeat (first | apply Kd.R_alloc | apply Kd.R_drewN | apply Kd.R_drew)); exact HO800.out) hb); have BK802 := za.mk hbox; have GW802 := za.mk ((by rw [hg]; exact (zdb (by (with_reducible exact HB.out))) : w.heap.size ≤ gb802)); have GE802 := za.mk ((by rw [hg]; exact (zdb (by (with_reducible exact HB.out))) : w.heap.size ≤ gb802)); replace HB := za.mk (zeb (by (with_reducible exact HB.out)) hb); clear hb hbox hg; have hcz46_0 : w45.cell? ⟨gb802, 0, none⟩ = some (.bool false) := (zd BK802.out 0).trans rfl; have hcz46_1 : w45.cell? ⟨gb802, 1, none⟩ = some (.string ⟨#[]⟩) := (zd BK802.out 1).trans rfl; have hcz46_2 : w45.cell? ⟨gb802, 2, none⟩ = some (.slice none 0 0) := (zd BK802.out 2).trans rfl; have hcz46_3 : w45.cell? ⟨gb802, 3, none⟩ = some (.bool false) := (zd BK802.out 3).trans rfl; have hcz46_4 : w45.cell? ⟨gb802, 4, none⟩ = some (.string ⟨#[]⟩) := (zd BK802.out 4).trans rfl; have hcz46_5 : w45.cell? ⟨gb802, 5, none⟩ = some (.bool false) := (zd BK802.out 5).trans rfl; have hcz46_6 : w45.cell? ⟨gb802, 6, none⟩ = some (.string ⟨#[]⟩) := (zd BK802.out 6).trans rfl; have hcz46_7 : w45.cell? ⟨gb802, 7, none⟩ = some (.bool false) := (zd BK802.out 7).trans rfl; have hcz46_8 : w45.cell? ⟨gb802, 8, none⟩ = some (.string ⟨#[]⟩) := (zd BK802.out 8).trans rfl; have hcz46_9 : w45.cell? ⟨gb802, 9, none⟩ = some (.bool false) := (zd BK802.out 9).trans rfl; have hcz46_10 : w45.cell? ⟨gb802, 10, none⟩ = some (.string ⟨#[]⟩) := (zd BK802.out 10).trans rfl; have hcz46_11 : w45.cell? ⟨gb802, 11, none⟩ = some (.bool false) := (zd BK802.out 11).trans rfl; have hcz46_12 : w45.cell? ⟨gb802, 12, none⟩ = some (.string ⟨#[]⟩) := (zd BK802.out 12).trans rfl; have hcz46_13 : w45.cell? ⟨gb802, 13, none⟩ = some (.bool false) := (zd BK802.out 13).trans rfl; have hcz46_14 : w45.cell? ⟨gb802, 14, none⟩ = some (.string ⟨#[]⟩) := (zd BK802.out 14).trans rfl; have hcz46_15 : w45.cell? ⟨gb802, 15, none⟩ = some (.slice none 0 0) := (zd BK802.out 15).trans rfl; have hcz46_16 : w45.cell? ⟨gb802, 16, none⟩ = some (.slice none 0 0) := (zd BK802.out 16).trans rfl; have hfz46_0 := zj BK802.out 0; have hfz46_1 := zj BK802.out 1; have hfz46_2 := zj BK802.out 2; have hfz46_3 := zj BK802.out 3; have hfz46_4 := zj BK802.out 4; have hfz46_5 := zj BK802.out 5; have hfz46_6 := zj BK802.out 6; have hfz46_7 := zj BK802.out 7; have hfz46_8 := zj BK802.out 8; have hfz46_9 := zj BK802.out 9; have hfz46_10 := zj BK802.out 10; have hfz46_11 := zj BK802.out 11; have hfz46_12 := zj BK802.out 12; have hfz46_13 := zj BK802.out 13; have hfz46_14 := zj BK802.out 14; have hfz46_15 := zj BK802.out 15; have hfz46_16 := zj BK802.out 16; obtain ⟨Ao47, co47, eo47⟩ := Kd.R_slice HO782.out; subst eo47; obtain ⟨Ao48, co48, eo48⟩ := Kd.R_slice HO797.out; subst eo48; obtain ⟨Ao49, co49, eo49⟩ := Kd.R_slice HO800.out; subst eo49))
   go_ret
   exact ⟨by rfl, by repeat (first | (with_reducible first | exact HB.out | apply zm | apply zg | apply zu | refine zbb ?_ GE802.out) | exact HB.out)⟩
def zn.Pure : Prop := ∀ (l0 : List Int) (a1 : Int), l0.length ≤ maxLen → l0.length * 2 ≤ 140737488351232 → (∀ x ∈ l0, (Lit.int .u16 x).wf = true) → (Lit.int .u16 a1).wf = true → ∃ k, zn.f k l0 a1 = some true
theorem zn.walk (P : zn.Pure) (a0 : Option Addr) (len0 cap0 : Nat) (z0 : List Int) (a1 : Int) (w : World) (w0 : (a0 = none ∧ len0 = 0 ∧ cap0 = 0 ∧ z0 = []) ∨ ∃ x, a0 = some x ∧ len0 ≤ cap0 ∧ cap0 ≤ maxLen ∧ z0.length = cap0 ∧ (∀ i, i < z0.length → w.cell? (x.add i) = some (.int .u16 (z0.getD i 0))) ∧ ∀ n ∈ z0, (Lit.int .u16 n).wf = true) (y0 : len0 * 2 ≤ 140737488351232) (w1 : (Lit.int .u16 a1).wf = true) (hG : GL w) :
  Calls Tryz.prog 9 #[.slice a0 len0 cap0, .int .u16 a1] w fun e w' => e = .returned (.bool true) ∧ Below w.heap.size w w' := by
 obtain ⟨l0, rfl, hr0, hm0, hw0, hc0⟩ := zqd.ofRowC w0
 obtain ⟨k, h⟩ := P l0 a1 hm0 y0 hw0 w1
 refine (zn.calls k _ _ l0 a1 true w (Kd.C_of_reads (d := (0 : Int)) (h1 := fun _ => rfl) hr0) hc0 h hG).mono ?_
 rintro e w' ⟨rfl, hd⟩
 exact ⟨rfl, hd⟩
end Go.Proofs.YtlijjnjpomnphaaGreatDoor.Q
end
section
namespace Go.Proofs.YtlijjnjpomnphaaGreatDoorG
open Go.RowKit YtlijjnjpomnphaaGreatDoorH YtlijjnjpomnphaaGreatDoorB YtlijjnjpomnphaaGreatDoorM YtlijjnjpomnphaaGreatDoorP YtlijjnjpomnphaaGreatDoorY YtlijjnjpomnphaaGreatDoorW.PrintWords YtlijjnjpomnphaaGreatDoorW.PrintLast
def Lw (l : List Int) : Prop := ∀ c ∈ l, low c = c
theorem Lw.id {l : List Int} (h : Lw l) : l.map low = l := by
 calc l.map low = l.map _root_.id := List.map_congr_left (fun c hc => h c hc)
  _ = l := List.map_id _
theorem Lw.nil : Lw [] := fun c h => by simp at h
theorem Lw.app {a b : List Int} (h1 : Lw a) (h2 : Lw b) : Lw (a ++ b) := fun c hc => by
 rcases List.mem_append.1 hc with h | h
 ·exact h1 c h
 ·exact h2 c h
theorem Lw.cons {x : Int} {b : List Int} (h1 : low x = x) (h2 : Lw b) : Lw (x :: b) := fun c hc => by
 rcases List.mem_cons.1 hc with rfl | h
 ·exact h1
 ·exact h2 c h
theorem Lw.dig {d : List Int} (h : ∀ c ∈ d, isD c = true) : Lw d := fun c hc => by
 have := h c hc
 unfold isD at this
 have := of_decide_eq_true this
 unfold low
 rw [if_neg (by omega)]
theorem Lw.an {d : List Int} (h : ∀ c ∈ d, isAn c = true) : Lw d := fun c hc => isAn_low (h c hc)
theorem Lw.relT : ∀ {ds : List (List Int)}, (∀ d ∈ ds, Digs d) → Lw (relT ds)
 | [], _ => Lw.nil
 | [d], h => Lw.dig (h d List.mem_cons_self).2
 | d :: e :: ds, h => (Lw.dig (h d List.mem_cons_self).2).app (Lw.cons (by decide) (Lw.relT (fun x hx => h x (List.mem_cons_of_mem _ hx))))
theorem Lw.joinW : ∀ {ws : List (List Int)}, (∀ w ∈ ws, GoodW w) → Lw (joinW ws)
 | [], _ => Lw.nil
 | [w], h => Lw.an (h w List.mem_cons_self).an
 | w :: v :: ws, h => (Lw.an (h w List.mem_cons_self).an).app (Lw.cons (by decide) (Lw.joinW (fun x hx => h x (List.mem_cons_of_mem _ hx))))
theorem Lw.text {p : Parts} (h : p.Ok) : Lw p.text := by
 unfold Parts.text
 refine Lw.app ?_ ((Lw.relT h.rel.2).app (Lw.app ?_ (Lw.app ?_ (Lw.app ?_ ?_))))
 ·cases e : p.ep with
  | none => exact Lw.nil
  | some x => exact (Lw.dig (h.ep x e).2).app (Lw.cons (by decide) Lw.nil)
 ·cases e : p.pre with
  | none => exact Lw.nil
  | some x =>
   obtain ⟨h1, h2⟩ := h.pre x e
   refine Lw.app ?_ (Lw.dig h1.2)
   simp only [List.mem_cons, List.not_mem_nil, or_false] at h2
   rcases h2 with e | e | e <;> (rw [e]; unfold Lw; decide)
 ·cases e : p.post with
  | none => exact Lw.nil
  | some x => exact Lw.cons (by decide) (Lw.app (by unfold Lw; decide) (Lw.dig (h.post x e).2))
 ·cases e : p.dev with
  | none => exact Lw.nil
  | some x => exact Lw.cons (by decide) (Lw.app (by unfold Lw; decide) (Lw.dig (h.dev x e).2))
 ·unfold locT
  split
  ·exact Lw.nil
  ·rename_i w ws e
   exact Lw.cons (by decide) (Lw.joinW (fun x hx => h.loc x (by rw [e]; exact hx)))
theorem text_head {p : Parts} (h : p.Ok) : ∃ c r, p.text = c :: r ∧ isD c = true := by
 unfold Parts.text
 cases e : p.ep with
 | some x =>
  obtain ⟨c, r, rfl, hc⟩ := (h.ep x e).cons
  exact ⟨c, _, rfl, hc⟩
 | none =>
  cases e2 : p.rel with
  | nil => exact absurd e2 h.rel.1
  | cons d ds =>
   obtain ⟨c, r, rfl, hc⟩ := (h.rel.2 d (by rw [e2]; exact List.mem_cons_self)).cons
   cases ds with
   | nil => exact ⟨c, _, rfl, hc⟩
   | cons e ds => exact ⟨c, _, rfl, hc⟩
theorem txt_built {p : Parts} (h : p.Ok) {X : List Int} (hX : X.map low = p.text) : txtL X = p.text := by
 obtain ⟨c, r, e, hc⟩ := text_head h
 unfold txtL
 rw [hX, e]
 unfold isD at hc
 have hc := of_decide_eq_true hc
 have hb : isBl c = false := by unfold isBl; rw [decide_eq_false_iff_not]; omega
 rw [znc hb, List.drop_zero]
 show (if c = 118 then r else c :: r) = c :: r
 rw [if_neg (by omega)]
theorem valL_built {p : Parts} (h : p.Ok) {X : List Int} (hX : X.map low = p.text) : valL X = valP p.told := by
 unfold valL
 rw [txt_built h hX, codeV_built h]
theorem valL_text {p : Parts} (h : p.Ok) : valL p.text = valP p.told := valL_built h (Lw.text h).id
theorem told_val {p : Parts} (h : p.Ok) : valP p.told = ⟨decL (p.ep.getD []), p.rel.map decL, p.pre.map toldL, p.post.map fun d => toldL (wPost, d), p.dev.map fun d => toldL (wDev, d), (if p.loc = [] then [[]] else p.loc).map strOfNums, []⟩ := by
 unfold valP Parts.told
 have e : ((if p.loc = [] then [[]] else p.loc).map (List.map low)) = if p.loc = [] then [[]] else p.loc := by
  by_cases h0 : p.loc = []
  ·rw [if_pos h0]; rfl
  ·rw [if_neg h0]
   calc p.loc.map (List.map low) = p.loc.map _root_.id := List.map_congr_left (fun w hw => an_low (h.loc w hw).an)
    _ = p.loc := List.map_id _
 simp only [e, Option.map_map]
 rfl
theorem text_byte {p : Parts} (h : p.Ok) : ∀ c ∈ p.text, 33 ≤ c ∧ c ≤ 122 := by
 have key : ∀ l : List Int, (∀ c ∈ l, isAn c = true ∨ c = 33 ∨ c = 46 ∨ c = 43) → ∀ c ∈ l, 33 ≤ c ∧ c ≤ 122 := by
  intro l hl c hc
  rcases hl c hc with h | h
  ·have := isAn_iff h; omega
  ·omega
 have dA : ∀ {d : List Int}, Digs d → ∀ c ∈ d, isAn c = true ∨ c = 33 ∨ c = 46 ∨ c = 43 := fun hd c hc => .inl (by unfold isAn; rw [hd.2 c hc]; rfl)
 have rT : ∀ ds : List (List Int), (∀ d ∈ ds, Digs d) → ∀ c ∈ relT ds, isAn c = true ∨ c = 33 ∨ c = 46 ∨ c = 43 := by
  intro ds
  induction ds with
  | nil => intro _ c hc; simp [relT] at hc
  | cons d ds ih =>
   intro hd c hc
   cases ds with
   | nil => exact dA (hd d List.mem_cons_self) c hc
   | cons e ds =>
    simp only [relT] at hc
    rcases List.mem_append.1 hc with hc | hc
    ·exact dA (hd d List.mem_cons_self) c hc
    ·rcases List.mem_cons.1 hc with hc | hc
     ·omega
     ·exact ih (fun x hx => hd x (List.mem_cons_of_mem _ hx)) c hc
 have jT : ∀ ws : List (List Int), (∀ w ∈ ws, GoodW w) → ∀ c ∈ joinW ws, isAn c = true ∨ c = 33 ∨ c = 46 ∨ c = 43 := by
  intro ws
  induction ws with
  | nil => intro _ c hc; simp [joinW] at hc
  | cons d ds ih =>
   intro hd c hc
   cases ds with
   | nil => exact .inl ((hd d List.mem_cons_self).an c hc)
   | cons e ds =>
    simp only [joinW] at hc
    rcases List.mem_append.1 hc with hc | hc
    ·exact .inl ((hd d List.mem_cons_self).an c hc)
    ·rcases List.mem_cons.1 hc with hc | hc
     ·omega
     ·exact ih (fun x hx => hd x (List.mem_cons_of_mem _ hx)) c hc
 refine key _ (fun c hc => ?_)
 unfold Parts.text at hc
 rcases List.mem_append.1 hc with hc | hc
 ·cases e : p.ep with
  | none => rw [e] at hc; simp [epT] at hc
  | some x =>
   rw [e] at hc
   rcases List.mem_append.1 hc with hc | hc
   ·exact dA (h.ep x e) c hc
   ·have := List.mem_singleton.1 hc; omega
 rcases List.mem_append.1 hc with hc | hc
 ·exact rT _ h.rel.2 c hc
 rcases List.mem_append.1 hc with hc | hc
 ·cases e : p.pre with
  | none => rw [e] at hc; simp [preT] at hc
  | some x =>
   rw [e] at hc
   obtain ⟨h1, h2⟩ := h.pre x e
   rcases List.mem_append.1 hc with hc | hc
   ·simp only [List.mem_cons, List.not_mem_nil, or_false] at h2
    refine .inl ?_
    have k1 : ∀ c ∈ ([97] : List Int), isAn c = true := by decide
    have k2 : ∀ c ∈ ([98] : List Int), isAn c = true := by decide
    have k3 : ∀ c ∈ wRc, isAn c = true := by decide
    rcases h2 with e | e | e
    ·rw [e] at hc; exact k1 c hc
    ·rw [e] at hc; exact k2 c hc
    ·rw [e] at hc; exact k3 c hc
   ·exact dA h1 c hc
 have wT : ∀ (w d : List Int) (hw : ∀ c ∈ w, isAn c = true) (ho : Digs d) (c : Int), c ∈ 46 :: (w ++ d) → isAn c = true ∨ c = 33 ∨ c = 46 ∨ c = 43 := by
  intro w d hw ho c hc
  rcases List.mem_cons.1 hc with hc | hc
  ·omega
  ·rcases List.mem_append.1 hc with hc | hc
   ·exact .inl (hw c hc)
   ·exact dA ho c hc
 rcases List.mem_append.1 hc with hc | hc
 ·cases e : p.post with
  | none => rw [e] at hc; simp [postT] at hc
  | some x => rw [e] at hc; exact wT wPost x (by decide) (h.post x e) c hc
 rcases List.mem_append.1 hc with hc | hc
 ·cases e : p.dev with
  | none => rw [e] at hc; simp [devT] at hc
  | some x => rw [e] at hc; exact wT wDev x (by decide) (h.dev x e) c hc
 ·unfold locT at hc
  split at hc
  ·simp at hc
  ·rename_i w ws e
   rcases List.mem_cons.1 hc with hc | hc
   ·omega
   ·exact jT (w :: ws) (fun x hx => h.loc x (by rw [e]; exact hx)) c hc
theorem asc_lw_text {p : Parts} (h : p.Ok) : ascL p.text = true := List.all_eq_true.2 (fun c hc => decide_eq_true (by have := text_byte h c hc; omega))
theorem low_byte {p : Parts} (h : p.Ok) {X : List Int} (hX : X.map low = p.text) : ∀ c ∈ X, 33 ≤ c ∧ c ≤ 122 := by
 intro c hc
 have h2 := text_byte h (low c) (by rw [← hX]; exact List.mem_map_of_mem hc)
 unfold low at h2
 split at h2 <;> omega
theorem relT_len : ∀ ds : List (List Int), (∀ d ∈ ds, d.length ≤ 5) → (relT ds).length ≤ 6 * ds.length
 | [], _ => Nat.le_refl _
 | [d], h => by have := h d List.mem_cons_self; simp only [relT, List.length_cons, List.length_nil]; omega
 | d :: e :: ds, h => by
  have h1 := h d List.mem_cons_self
  have h2 := relT_len (e :: ds) (fun x hx => h x (List.mem_cons_of_mem _ hx))
  simp only [relT, List.length_append, List.length_cons] at h2 ⊢
  omega
theorem joinW_len : ∀ ws : List (List Int), (∀ w ∈ ws, w.length ≤ 1200) → (joinW ws).length ≤ 1201 * ws.length
 | [], _ => Nat.le_refl _
 | [d], h => by have := h d List.mem_cons_self; simp only [joinW, List.length_cons, List.length_nil]; omega
 | d :: e :: ds, h => by
  have h1 := h d List.mem_cons_self
  have h2 := joinW_len (e :: ds) (fun x hx => h x (List.mem_cons_of_mem _ hx))
  simp only [joinW, List.length_append, List.length_cons] at h2 ⊢
  omega
theorem locT_len (ws : List (List Int)) (h : ∀ w ∈ ws, w.length ≤ 1200) : (locT ws).length ≤ 1201 * ws.length + 1 := by
 cases ws with
 | nil => exact Nat.zero_le _
 | cons w ws =>
  have := joinW_len (w :: ws) h
  show (43 :: joinW (w :: ws)).length ≤ _
  rw [List.length_cons]
  omega
end Go.Proofs.YtlijjnjpomnphaaGreatDoorG
end
section
namespace Go.Proofs.YtlijjnjpomnphaaGreatDoorG
open Go.RowKit YtlijjnjpomnphaaGreatDoorH YtlijjnjpomnphaaGreatDoorB YtlijjnjpomnphaaGreatDoorM YtlijjnjpomnphaaGreatDoorP YtlijjnjpomnphaaGreatDoorY YtlijjnjpomnphaaGreatDoorW.PrintWords YtlijjnjpomnphaaGreatDoorW.PrintLast
theorem cmpN_self (a : Nat) : cmpN a a = 0 := by unfold cmpN; rw [if_neg (by omega), if_neg (by omega)]
theorem fromC_zero {d : Nat → Int} (h : ∀ k, d k = 0) (n k : Nat) : fromC d n k = 0 := fromC_end n k (fun j _ => h j)
theorem relC_self (l : List Nat) : relC l l = 0 := fromC_zero (fun k => cmpN_self _) _ _
theorem strCmp_self (a : ByteArray) : strCmp a a = 0 := by
 have := strCmp_turn a a
 omega
theorem locD_self (a : ByteArray) : locD a a = 0 := by
 have := locD_turn a a
 omega
def stP (R : List (List Int)) (d : List Int) : Nat → Parts
 | 0 => ⟨none, R, none, none, some d, []⟩
 | 1 => ⟨none, R, some ([97], d), none, none, []⟩
 | 2 => ⟨none, R, some ([98], d), none, none, []⟩
 | 3 => ⟨none, R, some (wRc, d), none, none, []⟩
 | 4 => ⟨none, R, none, none, none, []⟩
 | 5 => ⟨none, R, none, none, none, [d]⟩
 | 6 => ⟨none, R, none, some d, none, []⟩
 | _ => ⟨some [49], R, none, none, none, []⟩
theorem digs_an {d : List Int} (h : Digs d) : GoodW d := by
 unfold GoodW goodW
 rw [Bool.and_eq_true, decide_eq_true_eq]
 exact ⟨h.1, List.all_eq_true.2 (fun c hc => by unfold isAn; rw [h.2 c hc]; rfl)⟩
theorem Parts.ok_of {e : Option (List Int)} {R : List (List Int)} {p : Option (List Int × List Int)} {q r : Option (List Int)} {L : List (List Int)} (h1 : ∀ x, e = some x → Digs x) (h2 : R ≠ [] ∧ ∀ x ∈ R, Digs x) (h3 : ∀ x, p = some x → Digs x.2 ∧ x.1 ∈ [[97], [98], wRc]) (h4 : ∀ x, q = some x → Digs x) (h5 : ∀ x, r = some x → Digs x) (h6 : ∀ x ∈ L, GoodW x) : Parts.Ok ⟨e, R, p, q, r, L⟩ := ⟨h1, h2, h3, h4, h5, h6⟩
theorem digs_one : Digs [49] := ⟨by decide, by decide⟩
theorem stP_ok {R : List (List Int)} (h0 : R ≠ []) (h : ∀ x ∈ R, Digs x) {d : List Int} (hd : Digs d) (i : Nat) : (stP R d i).Ok := by
 have hN : ∀ x, (none : Option (List Int)) = some x → Digs x := fun x e => by cases e
 have hP : ∀ x, (none : Option (List Int × List Int)) = some x → Digs x.2 ∧ x.1 ∈ [[97], [98], wRc] := fun x e => by cases e
 have hL : ∀ x ∈ ([] : List (List Int)), GoodW x := fun x e => by simp at e
 have hS : ∀ x, some d = some x → Digs x := fun x e => by cases e; exact hd
 have hQ : ∀ w : List Int, w ∈ [[97], [98], wRc] → ∀ x, some (w, d) = some x → Digs x.2 ∧ x.1 ∈ [[97], [98], wRc] := fun w hw x e => by cases e; exact ⟨hd, hw⟩
 unfold stP
 split
 ·exact Parts.ok_of hN ⟨h0, h⟩ hP hN hS hL
 ·exact Parts.ok_of hN ⟨h0, h⟩ (hQ _ (by decide)) hN hN hL
 ·exact Parts.ok_of hN ⟨h0, h⟩ (hQ _ (by decide)) hN hN hL
 ·exact Parts.ok_of hN ⟨h0, h⟩ (hQ _ (by decide)) hN hN hL
 ·exact Parts.ok_of hN ⟨h0, h⟩ hP hN hN hL
 ·exact Parts.ok_of hN ⟨h0, h⟩ hP hN hN (fun x hx => by rw [List.mem_singleton.1 hx]; exact digs_an hd)
 ·exact Parts.ok_of hN ⟨h0, h⟩ hP hS hN hL
 ·exact Parts.ok_of (fun x e => by cases e; exact digs_one) ⟨h0, h⟩ hP hN hN hL
def stV (R : List Nat) (n : Nat) (D : ByteArray) : Nat → YV
 | 0 => ⟨0, R, none, none, some (strOfNums wDev, n), [ByteArray.empty], []⟩
 | 1 => ⟨0, R, some (strOfNums [97], n), none, none, [ByteArray.empty], []⟩
 | 2 => ⟨0, R, some (strOfNums [98], n), none, none, [ByteArray.empty], []⟩
 | 3 => ⟨0, R, some (strOfNums wRc, n), none, none, [ByteArray.empty], []⟩
 | 4 => ⟨0, R, none, none, none, [ByteArray.empty], []⟩
 | 5 => ⟨0, R, none, none, none, [D], []⟩
 | 6 => ⟨0, R, none, some (strOfNums wPost, n), none, [ByteArray.empty], []⟩
 | _ => ⟨1, R, none, none, none, [ByteArray.empty], []⟩
theorem st_val {R : List (List Int)} (h0 : R ≠ []) (h : ∀ x ∈ R, Digs x) {d : List Int} (hd : Digs d) (i : Nat) : valL (stP R d i).text = stV (R.map decL) (decL d) (strOfNums d) i := by
 have hk := stP_ok h0 h hd i
 rw [valL_text hk, told_val hk]
 unfold stP stV
 split <;> rfl
theorem digs_bytes {d : List Int} (h : ∀ c ∈ d, isD c = true) : bytesOf (strOfNums d) = d := B_str (fun c hc => by
 have := h c hc
 unfold isD at this
 have := of_decide_eq_true this
 omega)
theorem digs_all {d : List Int} (h : Digs d) (hl : d.length ≤ 1000000) : zic (strOfNums d) :=
 (zeg (s := strOfNums d) (by rw [digs_bytes h.2]; exact h.2) (by rw [digs_bytes h.2]; exact h.1) (by rw [zsg]; exact hl)).2
theorem empty_not : ¬ zic ByteArray.empty := fun h => absurd h.1 (by decide)
theorem st_cmp (R : List Nat) (n : Nat) {D : ByteArray} (hD : zic D) (i j : Nat) (hi : i < 8) (hj : j < 8) : yC (stV R n D i) (stV R n D j) = if i < j then -1 else if j < i then 1 else 0 := by
 have e1 := relC_self R
 have e2 := cmpN_self n
 have e3 := locD_self D
 have e4 := locD_self ByteArray.empty
 have e5 : locD ByteArray.empty D = -1 := by unfold locD; rw [if_neg empty_not, if_pos hD]
 have e6 : locD D ByteArray.empty = 1 := by unfold locD; rw [if_pos hD, if_neg empty_not]
 have hi2 : i = 0 ∨ i = 1 ∨ i = 2 ∨ i = 3 ∨ i = 4 ∨ i = 5 ∨ i = 6 ∨ i = 7 := by omega
 have hj2 : j = 0 ∨ j = 1 ∨ j = 2 ∨ j = 3 ∨ j = 4 ∨ j = 5 ∨ j = 6 ∨ j = 7 := by omega
 have z1 : legC [] [] = 0 := by unfold legC legN; rw [if_pos rfl, strCmp_self]; rfl
 have b1 : (bt (strOfNums [97]) 0).toNat = 97 := by decide
 have b2 : (bt (strOfNums [98]) 0).toNat = 98 := by decide
 have b3 : (bt (strOfNums wRc) 0).toNat = 114 := by decide
 have c1 : cmpN 97 98 = -1 := by decide
 have c2 : cmpN 98 97 = 1 := by decide
 have c3 : cmpN 97 114 = -1 := by decide
 have c4 : cmpN 114 97 = 1 := by decide
 have c5 : cmpN 98 114 = -1 := by decide
 have c6 : cmpN 114 98 = 1 := by decide
 have d1 : cmpN 0 1 = -1 := by decide
 have d2 : cmpN 1 0 = 1 := by decide
 have d3 : cmpN 0 2 = -1 := by decide
 have d4 : cmpN 2 0 = 1 := by decide
 have d5 : cmpN 1 2 = -1 := by decide
 have d6 : cmpN 2 1 = 1 := by decide
 have s0 : ∀ a : Nat, cmpN a a = 0 := cmpN_self
 have l1 : locC [ByteArray.empty] [ByteArray.empty] = 0 := by have := locC_turn [ByteArray.empty] [ByteArray.empty]; omega
 have l2 : locC [D] [D] = 0 := by have := locC_turn [D] [D]; omega
 have l3 : locC [ByteArray.empty] [D] = -1 := by rw [locC_S]; simp [locS, zub, e5]
 have l4 : locC [D] [ByteArray.empty] = 1 := by have := locC_turn [D] [ByteArray.empty]; omega
 rcases hi2 with rfl | rfl | rfl | rfl | rfl | rfl | rfl | rfl <;> rcases hj2 with rfl | rfl | rfl | rfl | rfl | rfl | rfl | rfl <;> simp only [yC, stV, preC, preRank, trick, preByte, postC, devC, hasN, numOf, Option.isNone_none, Option.isNone_some, Option.isSome_none, Option.isSome_some, Bool.and_true, Bool.true_and, Bool.and_false, Bool.false_and, Bool.false_eq_true, if_true, if_false, z1, e1, b1, b2, b3, c1, c2, c3, c4, c5, c6, d1, d2, d3, d4, d5, d6, s0, l1, l2, l3, l4, zub, if_neg (show ¬ (-1 : Int) = 0 by decide), if_neg (show ¬ (1 : Int) = 0 by decide)] <;> first | rfl | (simp; done) | decide
end Go.Proofs.YtlijjnjpomnphaaGreatDoorG
end
section
namespace Go.Proofs.YtlijjnjpomnphaaGreatDoorG
open Go.RowKit YtlijjnjpomnphaaGreatDoorH YtlijjnjpomnphaaGreatDoorB YtlijjnjpomnphaaGreatDoorM YtlijjnjpomnphaaGreatDoorW.PrintWords YtlijjnjpomnphaaGreatDoorW.PrintLast
def zke (L : Nat) (t : List Int) : List Int := List.replicate (L - t.length) 0 ++ t.reverse
theorem content_len {L : Nat} {t : List Int} (h : t.length ≤ L) : (zke L t).length = L := by simp [zke]; omega
theorem content_step {L : Nat} {t : List Int} (b : Int) (h : t.length < L) : (zke L t).set (L - t.length - 1) b = zke L (t ++ [b]) := by
 unfold zke
 have e : L - t.length = (L - t.length - 1) + 1 := by omega
 have e2 : L - (t ++ [b]).length = L - t.length - 1 := by simp; omega
 rw [e2, e, List.replicate_succ', List.append_assoc, List.reverse_append]
 rw [List.set_append]
 simp
theorem content_done (L : Nat) {t : List Int} (h : t.length = L) : zke L t = t.reverse := by
 unfold zke
 rw [h, Nat.sub_self]
 rfl
end Go.Proofs.YtlijjnjpomnphaaGreatDoorG
end
section
namespace Go.Proofs.YtlijjnjpomnphaaGreatDoor.V
open Go.RowKit YtlijjnjpomnphaaGreatDoor.Q YtlijjnjpomnphaaGreatDoorG YtlijjnjpomnphaaGreatDoorY YtlijjnjpomnphaaGreatDoorP YtlijjnjpomnphaaGreatDoorH YtlijjnjpomnphaaGreatDoorB YtlijjnjpomnphaaGreatDoorM YtlijjnjpomnphaaGreatDoorW.PrintWords YtlijjnjpomnphaaGreatDoorW.PrintLast
theorem rd_nat (l : List Int) (i : Nat) : rd l (i : Int) = l.getD i 0 := by simp [rd]
theorem intOf_l2 (m : List Int) (hm : m.length ≤ 1000000) : ∀ (n k : Nat), m.length - k = n → k ≤ m.length →
  Ev (fun q => zfb.l2 q m (zke m.length (m.take k)) (k : Int)) (false, strOfNums m.reverse) := by
 intro n
 induction n with
 | zero =>
  intro k hn hk
  obtain rfl : k = m.length := by omega
  refine Ev.succ ?_
  simp only [zfb.l2]
  refine Ev.neg (fun _ => by first | omega | assumption | nofun) ?_
  refine Ev.eq (Ev.now _) ?_
  rw [List.take_length, content_done _ rfl]
 | succ n ih =>
  intro k hn hk
  have hlt : k < m.length := by omega
  have htl : (m.take k).length = k := by rw [List.length_take]; omega
  have hcl : (zke m.length (m.take k)).length = m.length := content_len (by omega)
  refine Ev.succ ?_
  simp only [zfb.l2, rd_nat]
  refine Ev.pos (fun _ => by first | omega | trivial | assumption) ?_
  refine Ev.pos (fun _ => by first | omega | trivial | assumption) ?_
  rw [w64 (i := (m.length : Int) - 1) (by omega) (by omega), w64 (i := (m.length : Int) - 1 - (k : Int)) (by omega) (by omega), w64 (i := (k : Int) + 1) (by omega) (by omega)]
  refine Ev.pos (fun _ => by omega) ?_
  refine Ev.pos (fun _ => by rw [hcl]; omega) ?_
  have e1 : ((m.length : Int) - 1 - (k : Int)).toNat = m.length - (m.take k).length - 1 := by rw [htl]; omega
  rw [e1, content_step _ (by rw [htl]; exact hlt)]
  have e2 : m.take k ++ [m.getD k 0] = m.take (k + 1) := by
   rw [List.take_add_one, List.getElem?_eq_getElem hlt, List.getD_eq_getElem?_getD, List.getElem?_eq_getElem hlt]
   rfl
  rw [e2]
  exact ih (k + 1) (by omega) (by omega)
theorem intOf_l1 (s : ByteArray) (i : Int) {r : Bool × ByteArray} : ∀ (rest done : List Int) (c : Nat), Byt rest → c ≤ 300 → done.length + rest.length ≤ 1000000 →
  Ev (fun q => zfb.l1 q s (done ++ (mul10 rest c).1) i ((mul10 rest c).2 : Int) ((done.length + rest.length : Nat) : Int)) r → Ev (fun q => zfb.l1 q s (done ++ rest) i (c : Int) (done.length : Int)) r
 | [], done, c, _, _, _, h => by simpa [mul10] using h
 | x :: rest, done, c, hb, hc, hl, h => by
  have hx := hb.cons.1
  simp only [List.length_cons] at hl
  refine Ev.succ ?_
  simp only [zfb.l1, rd_nat]
  refine Ev.pos (fun _ => by rw [List.length_append, List.length_cons]; omega) ?_
  refine Ev.pos (fun _ => by omega) ?_
  have hg : (done ++ x :: rest).getD done.length 0 = x := by simp [List.getD_eq_getElem?_getD]
  rw [hg, w64 (i := x) (by omega) (by omega), w64 (i := 10 * x) (by omega) (by omega), w64 (i := (c : Int) + 10 * x) (by omega) (by omega), w64 (i := (done.length : Int) + 1) (by omega) (by omega), Int.toNat_natCast]
  have e0 : (c : Int) + 10 * x = ((c + 10 * x.toNat : Nat) : Int) := by omega
  have e1 : Int.tmod ((c : Int) + 10 * x) 256 % 256 = (((c + 10 * x.toNat) % 256 : Nat) : Int) := by
   rw [e0, Int.tmod_eq_emod_of_nonneg (by omega)]
   omega
  have e2 : wrap64 (Int.tdiv ((c : Int) + 10 * x) 256) = (((c + 10 * x.toNat) / 256 : Nat) : Int) := by
   rw [e0, Int.tdiv_eq_ediv_of_nonneg (by omega), w64 (by omega) (by omega)]
   omega
  rw [e1, e2]
  have e3 : (done ++ x :: rest).set done.length (((c + 10 * x.toNat) % 256 : Nat) : Int) = (done ++ [(((c + 10 * x.toNat) % 256 : Nat) : Int)]) ++ rest := by simp
  rw [e3]
  have ih := intOf_l1 s i (r := r) rest (done ++ [(((c + 10 * x.toNat) % 256 : Nat) : Int)]) ((c + 10 * x.toNat) / 256) hb.cons.2 (by omega) (by simp; omega)
  have e4 : ((done ++ [(((c + 10 * x.toNat) % 256 : Nat) : Int)]).length : Int) = (done.length : Int) + 1 := by simp
  rw [e4] at ih
  refine ih ?_
  simp only [mul10] at h
  have e5 : (((done ++ [(((c + 10 * x.toNat) % 256 : Nat) : Int)]).length + rest.length : Nat) : Int) = ((done.length + (x :: rest).length : Nat) : Int) := by simp; omega
  rw [e5, List.append_assoc]
  exact h
theorem pushD_len (m : List Int) (d : Nat) : (pushD m d).length ≤ m.length + 1 := by
 unfold pushD
 split
 ·simp [zwe]
 ·rw [zwe]; omega
theorem intOf_l0 (s : ByteArray) (hs : s.size ≤ 200000) (hd : ∀ c ∈ bytesOf s, isD c = true) : ∀ (n i : Nat) (m : List Int), s.size - i = n → i ≤ s.size → m.length ≤ i → Tight m (decL ((bytesOf s).take i)) →
  Ev (fun q => zfb.l0 q s m (i : Int)) (false, magB (decL (bytesOf s))) := by
 intro n
 induction n with
 | zero =>
  intro i m hn hi hm ht
  obtain rfl : i = s.size := by omega
  rw [List.take_of_length_le (by rw [bytesOf_length]; exact Nat.le_refl _)] at ht
  refine Ev.succ ?_
  simp only [zfb.l0]
  refine Ev.neg (fun _ => by first | omega | assumption | nofun) ?_
  refine Ev.pos (fun _ => by omega) ?_
  refine Ev.pos (fun _ => by omega) ?_
  have h := intOf_l2 m (by omega) _ 0 rfl (Nat.zero_le _)
  have e : zke m.length (m.take 0) = List.replicate ((m.length : Int)).toNat 0 := by simp [zke]
  rw [e] at h
  refine Ev.eq h ?_
  rw [ht.mag]
  rfl
 | succ n ih =>
  intro i m hn hi hm ht
  have hl : i < (bytesOf s).length := by rw [bytesOf_length]; omega
  have hc : isD ((bytesOf s).getD i 0) = true := hd _ (by rw [List.getD_eq_getElem?_getD, List.getElem?_eq_getElem hl]; exact List.getElem_mem hl)
  unfold isD at hc
  have hc2 := of_decide_eq_true hc
  obtain ⟨d, hdd⟩ : ∃ d, d = ((bytesOf s).getD i 0 - 48).toNat := ⟨_, rfl⟩
  refine Ev.succ ?_
  simp only [zfb.l0, zad]
  refine Ev.pos (fun _ => by first | omega | trivial | assumption) ?_
  refine Ev.pos (fun _ => by first | omega | trivial | assumption) ?_
  have e1 : ((bytesOf s).getD i 0 - 48) % 256 = (d : Int) := by omega
  rw [e1]
  have htk : decL ((bytesOf s).take (i + 1)) = 10 * decL ((bytesOf s).take i) + d := by
   rw [List.take_add_one, List.getElem?_eq_getElem hl, hdd, List.getD_eq_getElem?_getD, List.getElem?_eq_getElem hl]
   exact decL_snoc _ _
  have hp : Tight (pushD m d) (decL ((bytesOf s).take (i + 1))) := by rw [htk]; exact push_tight ht (by omega)
  have hcar := zmg m d ht.byt (by omega)
  have hpl := pushD_len m d
  have next := ih (i + 1) (pushD m d) (by omega) (by omega) (by omega) hp
  have h := intOf_l1 s (i : Int) (r := (false, magB (decL (bytesOf s)))) m [] d ht.byt (by omega) (by simp; omega)
  simp only [List.nil_append, List.length_nil, Nat.zero_add] at h
  refine h ?_
  refine Ev.succ ?_
  simp only [zfb.l1]
  refine Ev.neg (fun _ => by rw [zwe]; omega) ?_
  rw [w64 (i := (i : Int) + 1) (by omega) (by omega)]
  unfold pushD at next
  by_cases hq : (mul10 m d).2 > 0
  ·rw [if_pos hq] at next
   refine Ev.pos (fun _ => by omega) ?_
   refine Ev.pos (fun _ => by rw [zwe]; omega) ?_
   have e2 : ((mul10 m d).2 : Int) % 256 = ((mul10 m d).2 : Int) := by omega
   rw [e2]
   exact next
  ·rw [if_neg hq] at next
   refine Ev.neg (fun _ => by omega) ?_
   exact next
theorem intOf_ev (s : ByteArray) (hs : s.size ≤ 200000) (hd : ∀ c ∈ bytesOf s, isD c = true) : Ev (fun q => zfb.f q s) (false, magB (decL (bytesOf s))) :=
 intOf_l0 s hs hd _ 0 [] rfl (Nat.zero_le _) (Nat.le_refl _) ⟨fun x hx => by simp at hx, rfl, fun h => absurd rfl h⟩
def decD (n : Nat) : List Int := if n < 10 then [48 + (n : Int)] else decD (n / 10) ++ [48 + ((n % 10 : Nat) : Int)]
theorem zag {n : Nat} (h : n < 10) : decD n = [48 + (n : Int)] := by rw [decD, if_pos h]
theorem decD_big {n : Nat} (h : ¬ n < 10) : decD n = decD (n / 10) ++ [48 + ((n % 10 : Nat) : Int)] := by rw [decD, if_neg h]
theorem decD_spec (n : Nat) : decD n ≠ [] ∧ (∀ c ∈ decD n, isD c = true) ∧ decL (decD n) = n := by
 induction n using Nat.strongRecOn with
 | ind n ih =>
  by_cases h : n < 10
  ·rw [zag h]
   refine ⟨by simp, fun c hc => ?_, ?_⟩
   ·have e : c = 48 + (n : Int) := by simpa using hc
    rw [e]; unfold isD; apply decide_eq_true; omega
   ·simp [decL]; omega
  ·rw [decD_big h]
   obtain ⟨_, h2, h3⟩ := ih (n / 10) (by omega)
   refine ⟨by simp, fun c hc => ?_, ?_⟩
   ·rcases List.mem_append.1 hc with hc | hc
    ·exact h2 c hc
    ·have e : c = 48 + ((n % 10 : Nat) : Int) := by simpa using hc
     rw [e]; unfold isD; apply decide_eq_true; omega
   ·rw [decL_snoc, h3]; omega
theorem decD_len : ∀ (k n : Nat), n < 10 ^ (k + 1) → (decD n).length ≤ k + 1
 | 0, n, h => by rw [zag (by simpa using h)]; simp
 | k + 1, n, h => by
  by_cases h0 : n < 10
  ·rw [zag h0]; simp
  ·rw [decD_big h0]
   have := decD_len k (n / 10) (by rw [Nat.pow_succ] at h; omega)
   simp; omega
theorem wrap_u16 {x : Int} (h0 : 0 ≤ x) (h1 : x ≤ 65535) : IntKind.u16.wrap x = x := by
 simp [IntKind.wrap, IntKind.signed, IntKind.bits]
 omega
theorem decimal_from (n : Nat) : n ≤ 65535 → ∀ acc : ByteArray, acc.size + (decD n).length ≤ 1000 → ∃ r, Ev (fun k => zab.l0 k n acc) r ∧ bytesOf r = decD n ++ bytesOf acc := by
 induction n using Nat.strongRecOn with
 | ind n ih =>
  intro hn acc hacc
  have e1 : Int.tmod (n : Int) 10 = ((n % 10 : Nat) : Int) := by rw [Int.tmod_eq_emod_of_nonneg (by omega)]; omega
  have e2 : Int.tdiv (n : Int) 10 = ((n / 10 : Nat) : Int) := by rw [Int.tdiv_eq_ediv_of_nonneg (by omega)]; omega
  have e3 : IntKind.u16.wrap (48 + ((n % 10 : Nat) : Int)) = 48 + ((n % 10 : Nat) : Int) := wrap_u16 (by omega) (by omega)
  have e4 : IntKind.u16.wrap ((n / 10 : Nat) : Int) = ((n / 10 : Nat) : Int) := wrap_u16 (by omega) (by omega)
  have e5 : wrap32 (48 + ((n % 10 : Nat) : Int)) = 48 + ((n % 10 : Nat) : Int) := w32 (by omega) (by omega)
  have hb : bytesOf (Utf8.encode (48 + ((n % 10 : Nat) : Int))) = [48 + ((n % 10 : Nat) : Int)] := B_encode (by omega) (by omega)
  have hsz : (Utf8.encode (48 + ((n % 10 : Nat) : Int))).size = 1 := by rw [zxe, hb]; rfl
  by_cases h : n < 10
  ·refine ⟨Utf8.encode (48 + ((n % 10 : Nat) : Int)) ++ acc, Ev.succ ?_, ?_⟩
   ·simp only [zab.l0, e1, e2, e3, e4, e5]
    refine Ev.pos (fun _ => by rw [hsz]; omega) ?_
    refine Ev.pos (fun _ => by omega) ?_
    exact Ev.now _
   ·rw [zwb, hb, zag h, Nat.mod_eq_of_lt h]
  ·rw [decD_big h, List.length_append, List.length_singleton] at hacc
   have hs2 : (Utf8.encode (48 + ((n % 10 : Nat) : Int)) ++ acc).size = 1 + acc.size := by rw [ByteArray.size_append, hsz]
   obtain ⟨r, hr, h1⟩ := ih (n / 10) (by omega) (by omega) (Utf8.encode (48 + ((n % 10 : Nat) : Int)) ++ acc) (by omega)
   refine ⟨r, Ev.succ ?_, ?_⟩
   ·simp only [zab.l0, e1, e2, e3, e4, e5]
    refine Ev.pos (fun _ => by rw [hsz]; omega) ?_
    refine Ev.neg (fun _ => by omega) ?_
    exact hr
   ·rw [h1, zwb, hb, decD_big h, List.append_assoc]
def dec (a : Int) : List Int := decD a.toNat
theorem zue (a : Int) : ∀ c ∈ dec a, isD c = true := (decD_spec _).2.1
theorem dec_ne (a : Int) : dec a ≠ [] := (decD_spec _).1
theorem dec_val (a : Int) : decL (dec a) = a.toNat := (decD_spec _).2.2
def U16 (a : Int) : Prop := 0 ≤ a ∧ a ≤ 65535
theorem u16_of {a : Int} (h : (Lit.int .u16 a).wf = true) : U16 a := by
 unfold U16
 simp [Lit.wf, IntKind.min, IntKind.max, IntKind.signed, IntKind.bits] at h
 omega
theorem zjg {a : Int} (h : U16 a) : (dec a).length ≤ 5 := by
 obtain ⟨h0, h1⟩ := h
 refine decD_len 4 _ ?_
 have e : (10 : Nat) ^ (4 + 1) = 100000 := by decide
 omega
theorem isD_byte {c : Int} (h : isD c = true) : 0 ≤ c ∧ c ≤ 255 := by
 unfold isD at h
 have := of_decide_eq_true h
 omega
theorem zse {l : List Int} (h : ∀ c ∈ l, isD c = true) : bytesOf (strOfNums l) = l := B_str (fun c hc => isD_byte (h c hc))
theorem zsc {a : Int} (h : U16 a) : Ev (fun k => zab.f k a) (strOfNums (dec a)) := by
 have hl := zjg h
 obtain ⟨h0, h1⟩ := h
 have e0 : bytesOf (⟨#[]⟩ : ByteArray) = [] := rfl
 obtain ⟨r, hr, hb⟩ := decimal_from a.toNat (by omega) (⟨#[]⟩ : ByteArray) (by
  have e : (⟨#[]⟩ : ByteArray).size = 0 := rfl
  have : (decD a.toNat).length ≤ 5 := hl
  omega)
 rw [e0, List.append_nil] at hb
 have e1 : ((a.toNat : Nat) : Int) = a := by omega
 rw [e1] at hr
 refine Ev.eq hr ?_
 rw [← str_B r, hb]
 rfl
theorem zhf {a : Int} (h : U16 a) : (strOfNums (dec a)).size ≤ 5 := by rw [zxe, zse (zue a)]; exact zjg h
theorem digit_eq (c : Int) : zmd.f c = some (isD c) := by
 unfold zmd.f isD
 by_cases h : c ≥ 48
 ·rw [if_pos h]; simp; omega
 ·rw [if_neg h]; simp; omega
theorem allDigits_from (s : ByteArray) (hs : s.size ≤ 2000000) (hd : ∀ c ∈ bytesOf s, isD c = true) (hp : 0 < s.size) : ∀ (n i : Nat), s.size - i = n → i ≤ s.size → Ev (fun k => zmb.l0 k s (i : Int)) true := by
 intro n
 induction n with
 | zero =>
  intro i hn hi
  refine Ev.succ ?_
  simp only [zmb.l0]
  refine Ev.neg (fun _ => by omega) ?_
  refine Ev.eq (Ev.now _) ?_
  exact decide_eq_true (by omega)
 | succ n ih =>
  intro i hn hi
  have hl : i < (bytesOf s).length := by rw [bytesOf_length]; omega
  refine Ev.succ ?_
  simp only [zmb.l0, zad, digit_eq, Option.bind_some]
  refine Ev.pos (fun _ => by first | trivial | assumption | omega) ?_
  refine Ev.pos (fun _ => by first | trivial | assumption | omega) ?_
  refine Ev.pos (fun _ => hd _ (by rw [List.getD_eq_getElem?_getD, List.getElem?_eq_getElem hl]; exact List.getElem_mem hl)) ?_
  rw [w64 (by omega) (by omega)]
  exact ih (i + 1) (by omega) (by omega)
theorem number_ev (s : ByteArray) (hs : s.size ≤ 200000) (hd : ∀ c ∈ bytesOf s, isD c = true) (hp : 0 < s.size) : Ev (fun k => ztb.f k s) (false, magB (decL (bytesOf s))) := by
 have hl : 0 < (bytesOf s).length := by rw [bytesOf_length]; exact hp
 have hc : isD ((bytesOf s).getD 0 0) = true := hd _ (by rw [List.getD_eq_getElem?_getD, List.getElem?_eq_getElem hl]; exact List.getElem_mem hl)
 unfold isD at hc
 have hc2 := of_decide_eq_true hc
 simp only [ztb.f, zpd.f, znb.f]
 refine Ev.bind (a := (false, magB (decL (bytesOf s)), true)) ?_ (Ev.now _)
 refine Ev.bind (a := (false, magB (decL (bytesOf s)), true)) ?_ (Ev.now _)
 refine Ev.pos (fun _ => by omega) ?_
 refine Ev.pos (fun _ => by omega) ?_
 rw [bt_zero]
 refine Ev.neg (fun _ => by omega) ?_
 have e : ((bytesOf s).getD 0 0 == 45) = false := by rw [beq_eq_false_iff_ne]; omega
 rw [e]
 refine Ev.succ ?_
 simp only [znb.j0]
 refine Ev.neg (fun _ => Bool.false_ne_true) ?_
 refine Ev.succ ?_
 simp only [znb.j1]
 have h := allDigits_from s (by omega) hd hp _ 0 rfl (Nat.zero_le _)
 refine Ev.bind (a := true) (by simpa [zmb.f] using h) ?_
 refine Ev.pos (fun _ => by first | rfl | trivial) ?_
 refine Ev.bind (intOf_ev s hs hd) ?_
 refine Ev.neg (fun _ => Bool.false_ne_true) ?_
 exact Ev.now _
theorem zje {a : Int} (h : U16 a) : Ev (fun k => ztb.f k (strOfNums (dec a))) (false, magB a.toNat) := by
 have hs := zhf h
 have hb := zse (zue a)
 have := number_ev (strOfNums (dec a)) (by omega) (by rw [hb]; exact zue a) (by rw [zxe, hb]; exact List.length_pos_iff.2 (dec_ne a))
 rw [hb, dec_val] at this
 exact this
def isW (c : Int) : Bool := decide (97 ≤ c ∧ c ≤ 122 ∨ 65 ≤ c ∧ c ≤ 90)
theorem words_from (s : ByteArray) (hs : s.size ≤ 2000000000) : ∀ (n i : Nat), s.size - i = n → i ≤ s.size →
  Ev (fun k => zcd.l0 k s i) (((bytesOf s).drop i).all isW && decide (bytesOf s ≠ [])) := by
 intro n
 induction n with
 | zero =>
  intro i hn hi
  refine Ev.succ ?_
  simp only [zcd.l0]
  refine Ev.neg (fun _ => by first | omega | assumption | nofun) ?_
  refine Ev.eq (Ev.now _) ?_
  rw [List.drop_of_length_le (by rw [bytesOf_length]; omega)]
  have e : (s.toList != ([] : List UInt8)) = decide (bytesOf s ≠ []) := by
   rw [zk]
   have := zgc s
   by_cases h : s.toList = []
   ·simp [h, this.1 h]
   ·have h2 : bytesOf s ≠ [] := fun h2 => h (this.2 h2)
    simp [h, h2]
  simp [e]
 | succ n ih =>
  intro i hn hi
  have hl : i < (bytesOf s).length := by rw [bytesOf_length]; omega
  have hne : bytesOf s ≠ [] := fun h => by rw [h] at hl; simp at hl
  refine Ev.succ ?_
  simp only [zcd.l0, zad]
  rw [zlc _ _ hl]
  refine Ev.pos (fun _ => by first | omega | trivial | assumption) ?_
  refine Ev.pos (fun _ => by first | omega | trivial | assumption) ?_
  cases h : isW ((bytesOf s).getD i 0)
  ·have h2 : ¬ (97 ≤ (bytesOf s).getD i 0 ∧ (bytesOf s).getD i 0 ≤ 122 ∨ 65 ≤ (bytesOf s).getD i 0 ∧ (bytesOf s).getD i 0 ≤ 90) := of_decide_eq_false h
   have e : (((bytesOf s).getD i 0 :: (bytesOf s).drop (i + 1)).all isW && decide (bytesOf s ≠ [])) = false := by
    rw [List.all_cons, h]; simp only [Bool.false_and, Bool.true_and]
   rw [e]
   by_cases h3 : (bytesOf s).getD i 0 ≥ 97
   ·refine Ev.pos (fun _ => by first | omega | trivial | assumption) ?_
    refine Ev.neg (fun _ => by first | omega | assumption | nofun) ?_
    refine Ev.pos (fun _ => by first | omega | trivial | assumption) ?_
    refine Ev.neg (fun _ => by first | omega | assumption | nofun) ?_
    exact Ev.now _
   ·refine Ev.neg (fun _ => by first | omega | assumption | nofun) ?_
    by_cases h4 : (bytesOf s).getD i 0 ≥ 65
    ·refine Ev.pos (fun _ => by first | omega | trivial | assumption) ?_
     refine Ev.neg (fun _ => by first | omega | assumption | nofun) ?_
     exact Ev.now _
    ·refine Ev.neg (fun _ => by first | omega | assumption | nofun) ?_
     exact Ev.now _
  ·have h2 : 97 ≤ (bytesOf s).getD i 0 ∧ (bytesOf s).getD i 0 ≤ 122 ∨ 65 ≤ (bytesOf s).getD i 0 ∧ (bytesOf s).getD i 0 ≤ 90 := of_decide_eq_true h
   have e : (((bytesOf s).getD i 0 :: (bytesOf s).drop (i + 1)).all isW && decide (bytesOf s ≠ [])) = (((bytesOf s).drop (i + 1)).all isW && decide (bytesOf s ≠ [])) := by
    rw [List.all_cons, h]; simp only [Bool.false_and, Bool.true_and]
   rw [e]
   have hr := ih (i + 1) (by omega) (by omega)
   rw [w64 (by omega) (by omega)]
   rcases h2 with h2 | h2
   ·refine Ev.pos (fun _ => by first | omega | trivial | assumption) ?_
    refine Ev.pos (fun _ => by first | omega | trivial | assumption) ?_
    exact hr
   ·refine Ev.neg (fun _ => by first | omega | assumption | nofun) ?_
    refine Ev.pos (fun _ => by first | omega | trivial | assumption) ?_
    refine Ev.pos (fun _ => by first | omega | trivial | assumption) ?_
    exact hr
theorem words_ev (s : ByteArray) (hs : s.size ≤ 2000000000) : Ev (fun k => zcd.f k s) ((bytesOf s).all isW && decide (bytesOf s ≠ [])) := by
 have h := words_from s hs _ 0 rfl (Nat.zero_le _)
 simpa [zcd.f] using h
theorem zrg (s : ByteArray) (hs : s.size ≤ 2000000000) : ∀ (n i : Nat), s.size - i = n → i ≤ s.size →
  Ev (fun k => zfd.l0 k s i) (((bytesOf s).drop i).all isD && decide (bytesOf s ≠ [])) := by
 intro n
 induction n with
 | zero =>
  intro i hn hi
  refine Ev.succ ?_
  simp only [zfd.l0]
  refine Ev.neg (fun _ => by first | omega | assumption | nofun) ?_
  refine Ev.eq (Ev.now _) ?_
  rw [List.drop_of_length_le (by rw [bytesOf_length]; omega)]
  have e : (s.toList != ([] : List UInt8)) = decide (bytesOf s ≠ []) := by
   rw [zk]
   have := zgc s
   by_cases h : s.toList = []
   ·simp [h, this.1 h]
   ·have h2 : bytesOf s ≠ [] := fun h2 => h (this.2 h2)
    simp [h, h2]
  simp [e]
 | succ n ih =>
  intro i hn hi
  have hl : i < (bytesOf s).length := by rw [bytesOf_length]; omega
  refine Ev.succ ?_
  simp only [zfd.l0, zad]
  rw [zlc _ _ hl]
  refine Ev.pos (fun _ => by first | omega | trivial | assumption) ?_
  refine Ev.pos (fun _ => by first | omega | trivial | assumption) ?_
  cases h : isD ((bytesOf s).getD i 0)
  ·have h2 : ¬ (48 ≤ (bytesOf s).getD i 0 ∧ (bytesOf s).getD i 0 ≤ 57) := of_decide_eq_false h
   have e : (((bytesOf s).getD i 0 :: (bytesOf s).drop (i + 1)).all isD && decide (bytesOf s ≠ [])) = false := by
    rw [List.all_cons, h]; simp only [Bool.false_and, Bool.true_and]
   rw [e]
   by_cases h3 : (bytesOf s).getD i 0 < 48
   ·refine Ev.pos (fun _ => by first | omega | trivial | assumption) ?_
    exact Ev.now _
   ·refine Ev.neg (fun _ => by first | omega | assumption | nofun) ?_
    refine Ev.pos (fun _ => by first | omega | trivial | assumption) ?_
    exact Ev.now _
  ·have h2 : 48 ≤ (bytesOf s).getD i 0 ∧ (bytesOf s).getD i 0 ≤ 57 := of_decide_eq_true h
   have e : (((bytesOf s).getD i 0 :: (bytesOf s).drop (i + 1)).all isD && decide (bytesOf s ≠ [])) = (((bytesOf s).drop (i + 1)).all isD && decide (bytesOf s ≠ [])) := by
    rw [List.all_cons, h]; simp only [Bool.false_and, Bool.true_and]
   rw [e]
   refine Ev.neg (fun _ => by first | omega | assumption | nofun) ?_
   refine Ev.neg (fun _ => by first | omega | assumption | nofun) ?_
   rw [w64 (by omega) (by omega)]
   exact ih (i + 1) (by omega) (by omega)
theorem zbe (s : ByteArray) (hs : s.size ≤ 2000000000) : Ev (fun k => zfd.f k s) ((bytesOf s).all isD && decide (bytesOf s ≠ [])) := by
 have h := zrg s hs _ 0 rfl (Nat.zero_le _)
 simpa [zfd.f] using h
theorem short_from (l : List ByteArray) (hl : l.length ≤ 2147483647) : ∀ (n i : Nat), l.length - i = n → i ≤ l.length →
  Ev (fun k => zfc.l0 k l l l.length i) (decide (∀ w ∈ l.drop i, w.size ≤ 1200) && decide (l.length ≤ 60)) := by
 intro n
 induction n with
 | zero =>
  intro i hn hi
  refine Ev.succ ?_
  simp only [zfc.l0]
  refine Ev.neg (fun _ => by first | omega | assumption | nofun) ?_
  refine Ev.eq (Ev.now _) ?_
  rw [List.drop_of_length_le (by omega)]
  have e : decide ((l.length : Int) ≤ 60) = decide (l.length ≤ 60) := by rw [decide_eq_decide]; omega
  simp [e]
 | succ n ih =>
  intro i hn hi
  have hil : i < l.length := by omega
  refine Ev.succ ?_
  simp only [zfc.l0]
  rw [drop_rd hil]
  refine Ev.pos (fun _ => by first | omega | trivial | assumption) ?_
  refine Ev.pos (fun _ => by first | omega | trivial | assumption) ?_
  refine Ev.pos (fun _ => by first | omega | trivial | assumption) ?_
  by_cases h : (rdOf ByteArray.empty l i).size ≤ 1200
  ·refine Ev.neg (fun _ => by first | omega | assumption | nofun) ?_
   rw [w64 (by omega) (by omega)]
   refine Ev.eq (ih (i + 1) (by omega) (by omega)) ?_
   simp [h]
  ·refine Ev.pos (fun _ => by first | omega | trivial | assumption) ?_
   refine Ev.eq (Ev.now _) ?_
   symm
   rw [Bool.and_eq_false_iff]
   left
   rw [decide_eq_false_iff_not]
   exact fun hx => h (hx _ List.mem_cons_self)
theorem short_ev (l : List ByteArray) (hl : l.length ≤ 2147483647) : Ev (fun k => zfc.f k l) (decide (∀ w ∈ l, w.size ≤ 1200) && decide (l.length ≤ 60)) := by
 have h := short_from l hl _ 0 rfl (Nat.zero_le _)
 simpa [zfc.f] using h
theorem isW_byte {c : Int} (h : isW c = true) : 65 ≤ c ∧ c ≤ 122 := by
 simp only [isW, decide_eq_true_eq] at h
 omega
def wordB (l : List Int) : Bool := decide (l ≠ []) && (l.all isD || l.all isW)
theorem zkg {l : List Int} (h : wordB l = true) : ∀ x ∈ l, 0 ≤ x ∧ x ≤ 127 := by
 intro x hx
 unfold wordB at h
 rw [Bool.and_eq_true, Bool.or_eq_true] at h
 rcases h.2 with h | h
 ·have := List.all_eq_true.1 h x hx
  simp only [isD, decide_eq_true_eq] at this
  omega
 ·have := isW_byte (List.all_eq_true.1 h x hx)
  omega
theorem wordB_good {l : List Int} (h : wordB l = true) : GoodW (l.map low) := by
 unfold wordB at h
 rw [Bool.and_eq_true, Bool.or_eq_true, decide_eq_true_eq] at h
 unfold GoodW goodW
 rw [Bool.and_eq_true, decide_eq_true_eq]
 refine ⟨fun e => h.1 (List.map_eq_nil_iff.1 e), List.all_eq_true.2 (fun c hc => ?_)⟩
 obtain ⟨x, hx, rfl⟩ := List.mem_map.1 hc
 unfold isAn
 rcases h.2 with h | h
 ·have := List.all_eq_true.1 h x hx
  simp only [isD, decide_eq_true_eq] at this
  rw [Bool.or_eq_true]
  left
  unfold low isD
  rw [if_neg (by omega)]
  exact decide_eq_true this
 ·have := List.all_eq_true.1 h x hx
  simp only [isW, decide_eq_true_eq] at this
  rw [Bool.or_eq_true]
  right
  unfold low isL
  split
  ·exact decide_eq_true (by omega)
  ·exact decide_eq_true (by omega)
theorem small_from (s : ByteArray) (hs : s.size ≤ 2000000000) (ha : ∀ c ∈ bytesOf s, 0 ≤ c ∧ c ≤ 127) : ∀ (n i : Nat) (acc : ByteArray), s.size - i = n → i ≤ s.size → bytesOf acc = ((bytesOf s).take i).map low →
  Ev (fun k => zpc.l0 k s acc i) (strOfNums ((bytesOf s).map low)) := by
 intro n
 induction n with
 | zero =>
  intro i acc hn hi hacc
  refine Ev.succ ?_
  simp only [zpc.l0]
  refine Ev.neg (fun _ => by first | omega | assumption | nofun) ?_
  refine Ev.eq (Ev.now _) ?_
  rw [List.take_of_length_le (by rw [bytesOf_length]; omega)] at hacc
  rw [← hacc, str_B]
 | succ n ih =>
  intro i acc hn hi hacc
  have hl : i < (bytesOf s).length := by rw [bytesOf_length]; omega
  have hz : acc.size = i := by rw [zxe, hacc, List.length_map, List.length_take]; omega
  have hm : (bytesOf s).getD i 0 ∈ bytesOf s := by
   rw [List.getD_eq_getElem?_getD, List.getElem?_eq_getElem hl]
   exact List.getElem_mem hl
  have hr := ha _ hm
  have htk : (bytesOf s).take (i + 1) = (bytesOf s).take i ++ [(bytesOf s).getD i 0] := by
   rw [List.take_add_one, List.getElem?_eq_getElem hl, List.getD_eq_getElem?_getD, List.getElem?_eq_getElem hl]
   rfl
  obtain ⟨c, hc⟩ : ∃ c, c = (bytesOf s).getD i 0 := ⟨_, rfl⟩
  rw [← hc] at hr htk
  have next : ∀ (e : ByteArray), bytesOf e = [low c] → Ev (fun k => zpc.l0 k s (acc ++ e) ((i : Int) + 1)) (strOfNums ((bytesOf s).map low)) := by
   intro e he
   refine ih (i + 1) _ (by omega) (by omega) ?_
   rw [zwb, hacc, he, htk, List.map_append]
   rfl
  have other : ¬ (65 ≤ c ∧ c ≤ 90) → (acc.size + (Utf8.encode (wrap32 c)).size ≤ 9223372036854775807) ∧ Ev (fun k => zpc.l0 k s (acc ++ Utf8.encode (wrap32 c)) ((i : Int) + 1)) (strOfNums ((bytesOf s).map low)) := by
   intro h
   have e0 : wrap32 c = c := w32 (by omega) (by omega)
   have e1 := B_encode (c := c) hr.1 (by omega)
   rw [e0]
   refine ⟨by rw [zxe (Utf8.encode c), e1, hz]; show i + 1 ≤ _; omega, next _ ?_⟩
   rw [e1]
   unfold low
   rw [if_neg h]
  refine Ev.succ ?_
  simp only [zpc.l0, zad]
  rw [← hc, w64 (i := (i : Int) + 1) (by omega) (by omega)]
  refine Ev.pos (fun _ => by first | omega | trivial | assumption) ?_
  refine Ev.pos (fun _ => by first | omega | trivial | assumption) ?_
  by_cases h1 : c ≥ 65
  ·refine Ev.pos (fun _ => h1) ?_
   by_cases h2 : c ≤ 90
   ·refine Ev.pos (fun _ => h2) ?_
    have e0 : (c + 32) % 256 = c + 32 := by omega
    have e1 := B_encode (c := c + 32) (by omega) (by omega)
    rw [e0]
    refine Ev.pos (fun _ => by rw [zxe (Utf8.encode (c + 32)), e1, hz]; show i + 1 ≤ _; omega) ?_
    refine next _ ?_
    rw [e1]
    unfold low
    rw [if_pos ⟨h1, h2⟩]
   ·refine Ev.neg (fun _ => h2) ?_
    obtain ⟨o1, o2⟩ := other (fun h => h2 h.2)
    exact Ev.pos (fun _ => o1) o2
  ·refine Ev.neg (fun _ => h1) ?_
   obtain ⟨o1, o2⟩ := other (fun h => h1 h.1)
   exact Ev.pos (fun _ => o1) o2
theorem small_ev (s : ByteArray) (hs : s.size ≤ 2000000000) (ha : ∀ c ∈ bytesOf s, 0 ≤ c ∧ c ≤ 127) : Ev (fun k => zpc.f k s) (strOfNums ((bytesOf s).map low)) := by
 have h := small_from s hs ha _ 0 (⟨#[]⟩ : ByteArray) rfl (Nat.zero_le _) rfl
 simpa [zpc.f] using h
end Go.Proofs.YtlijjnjpomnphaaGreatDoor.V
end
section
namespace Go.Proofs.YtlijjnjpomnphaaGreatDoorG
open Go.RowKit YtlijjnjpomnphaaGreatDoorH YtlijjnjpomnphaaGreatDoorB YtlijjnjpomnphaaGreatDoorM YtlijjnjpomnphaaGreatDoor.Q
def magO : Option (ByteArray × Nat) → ByteArray
 | none => ⟨#[]⟩
 | some p => magB p.2
abbrev ToldT := Bool × ByteArray × List S29 × Bool × ByteArray × Bool × ByteArray × Bool × ByteArray × Bool × ByteArray × Bool × ByteArray × Bool × ByteArray × List ByteArray × List ByteArray × Bool
def toldY (x : YV) : ToldT := (decide (x.leg ≠ []), magB (if x.leg = [] then x.ep else 1), x.rel.map (fun n => ⟨false, magB n⟩), x.pre.isSome, letB x.pre, false, magO x.pre, x.post.isSome, letB x.post, false, magO x.post, x.dev.isSome, letB x.dev, false, magO x.dev, x.loc, x.leg, true)
end Go.Proofs.YtlijjnjpomnphaaGreatDoorG
end
section
namespace Go.Proofs.YtlijjnjpomnphaaGreatDoor.V
open Go.RowKit YtlijjnjpomnphaaGreatDoor.Q YtlijjnjpomnphaaGreatDoorG YtlijjnjpomnphaaGreatDoorY YtlijjnjpomnphaaGreatDoorP YtlijjnjpomnphaaGreatDoorH YtlijjnjpomnphaaGreatDoorB YtlijjnjpomnphaaGreatDoorM YtlijjnjpomnphaaGreatDoorW.PrintWords YtlijjnjpomnphaaGreatDoorW.PrintLast
theorem zdc (s t : ByteArray) : (s ++ t).size = s.size + t.size := ByteArray.size_append
def epO (e : Int) : Option (List Int) := if e > 0 then some (dec e) else none
def kindW (k : Int) : List Int := if k = 1 then [97] else if k = 2 then [98] else wRc
def preO (k n : Int) : Option (List Int × List Int) := if Int.tmod k 4 > 0 then some (kindW (Int.tmod k 4), dec n) else none
def numO (b : Bool) (n : Int) : Option (List Int) := if b = true then some (dec n) else none
def sP (e : Int) (ns : List Int) (k a b c : Int) (hp hd : Bool) (L : List (List Int)) : Parts := ⟨epO e, ns.map dec, preO k a, numO hp b, numO hd c, L⟩
def lows (l : List ByteArray) : List (List Int) := l.map fun w => (bytesOf w).map low
def tOk (ns : List Int) (l : List ByteArray) : Prop := ns ≠ [] ∧ ns.length ≤ 60 ∧ l.length ≤ 60 ∧ (∀ w ∈ l, w.size ≤ 1200) ∧ ∀ w ∈ l, wordB (bytesOf w) = true
abbrev TextT := ByteArray × ToldT
def failT : TextT := (⟨#[]⟩, false, ⟨#[]⟩, [], false, ⟨#[]⟩, false, ⟨#[]⟩, false, ⟨#[]⟩, false, ⟨#[]⟩, false, ⟨#[]⟩, false, ⟨#[]⟩, [], [], false)
def stageL (e : Int) (ns : List Int) (k a b c : Int) (hp hd : Bool) (l : List ByteArray) : List Int := (sP e ns k a b c hp hd (l.map bytesOf)).text
def stageV (e : Int) (ns : List Int) (k a b c : Int) (hp hd : Bool) (l : List ByteArray) : YV := valP (sP e ns k a b c hp hd (lows l)).told
def wordL (l : List ByteArray) : List ByteArray := l.map fun w => strOfNums ((bytesOf w).map low)
theorem zgh (w : List Int) : ∀ ws : List (List Int), joinW (w :: ws) = w ++ ws.flatMap (fun x => 46 :: x)
 | [] => by simp [joinW]
 | v :: ws => by simp only [joinW, zgh v ws, List.flatMap_cons, List.cons_append]
def tailW (i : Nat) (l : List (List Int)) : List Int := if i = 0 then locT l else l.flatMap fun x => 46 :: x
theorem tailW_cons (i : Nat) (w : List Int) (l : List (List Int)) : tailW i (w :: l) = (if i = 0 then [43] else [46]) ++ (w ++ tailW (i + 1) l) := by
 unfold tailW
 rw [if_neg (Nat.succ_ne_zero i)]
 by_cases h : i = 0
 ·rw [if_pos h, if_pos h]
  simp only [locT, zgh, List.singleton_append]
 ·rw [if_neg h, if_neg h]
  simp [List.flatMap_cons]
section
variable (b0 : Bool) (y1 : ByteArray) (y2 : List S29) (b3 : Bool) (y4 : ByteArray) (b5 : Bool) (y6 : ByteArray) (b7 : Bool) (y8 : ByteArray) (b9 : Bool) (y10 : ByteArray) (b11 : Bool) (y12 : ByteArray) (b13 : Bool) (y14 : ByteArray)
theorem l1_good (l : List ByteArray) (hl : l.length ≤ 60) (hs : ∀ w ∈ l, w.size ≤ 1200) (hw : ∀ w ∈ l, wordB (bytesOf w) = true) (R : ByteArray) : ∀ (m i : Nat) (T : ByteArray) (acc : List ByteArray), l.length - i = m → i ≤ l.length → acc.length ≤ i + 1 → T.size ≤ 10000 + 1201 * i → bytesOf R = bytesOf T ++ tailW i ((l.drop i).map bytesOf) →
  Ev (fun k => ze.l1 k T l (l.length : Int) (i : Int) b0 y1 y2 b3 y4 b5 y6 b7 y8 b9 y10 b11 y12 b13 y14 acc) (R, b0, y1, y2, b3, y4, b5, y6, b7, y8, b9, y10, b11, y12, b13, y14, (if i = 0 ∧ l ≠ [] then [] else acc) ++ wordL (l.drop i), [], true) := by
 intro m
 induction m with
 | zero =>
  intro i T acc hm hi ha hT hR
  obtain rfl : i = l.length := by omega
  rw [List.drop_length] at hR ⊢
  have e : R = T := B_inj (by rw [hR]; unfold tailW; split <;> simp [locT])
  refine Ev.succ ?_
  simp only [ze.l1]
  refine Ev.neg (fun _ => by omega) ?_
  refine Ev.eq (Ev.now _) ?_
  have h0 : ¬ (l.length = 0 ∧ l ≠ []) := fun h => h.2 (List.length_eq_zero_iff.1 h.1)
  rw [e, if_neg h0]
  simp [wordL]
 | succ m ih =>
  intro i T acc hm hi ha hT hR
  have hlt : i < l.length := by omega
  have hd : l.drop i = rdOf ByteArray.empty l i :: l.drop (i + 1) := drop_rd hlt
  have hmem := rdOf_mem hlt
  obtain ⟨w, hwe⟩ : ∃ w, w = rdOf ByteArray.empty l i := ⟨_, rfl⟩
  rw [hd, ← hwe] at hR ⊢
  rw [← hwe] at hmem
  have h1 := hs w hmem
  have h2 := hw w hmem
  rw [List.map_cons, tailW_cons] at hR
  have hj : ((i : Int) + 1) = ((i + 1 : Nat) : Int) := by omega
  have hne : l ≠ [] := fun e => by rw [e] at hlt; simp at hlt
  have go : ∀ (T1 : ByteArray) (A : List ByteArray), T1.size ≤ T.size + 1 → A.length ≤ i + 1 → bytesOf T1 = bytesOf T ++ (if i = 0 then [43] else [46]) → A = (if i = 0 ∧ l ≠ [] then [] else acc) →
    Ev (fun k => ze.j7 k T1 w l (l.length : Int) (i : Int) b0 y1 y2 b3 y4 b5 y6 b7 y8 b9 y10 b11 y12 b13 y14 A) (R, b0, y1, y2, b3, y4, b5, y6, b7, y8, b9, y10, b11, y12, b13, y14, (if i = 0 ∧ l ≠ [] then [] else acc) ++ wordL (w :: l.drop (i + 1)), [], true) := by
   intro T1 A hT1 hA hb hAe
   have hsm := small_ev w (by omega) (zkg h2)
   have next := ih (i + 1) (T1 ++ w) (A ++ [strOfNums ((bytesOf w).map low)]) (by omega) (by omega) (by simp; omega) (by rw [zdc]; omega) (by rw [hR, zwb, hb, List.append_assoc, List.append_assoc])
   rw [if_neg (fun h => Nat.succ_ne_zero i h.1)] at next
   have hfin : A ++ [strOfNums ((bytesOf w).map low)] ++ wordL (l.drop (i + 1)) = (if i = 0 ∧ l ≠ [] then [] else acc) ++ wordL (w :: l.drop (i + 1)) := by
    rw [hAe, List.append_assoc]
    rfl
   rw [hfin] at next
   have hdg := zbe w (by omega)
   have hwd := words_ev w (by omega)
   refine Ev.succ ?_
   simp only [ze.j7]
   refine Ev.bind hdg ?_
   unfold wordB at h2
   rw [Bool.and_eq_true, Bool.or_eq_true] at h2
   by_cases hD : ((bytesOf w).all isD && decide (bytesOf w ≠ [])) = true
   ·refine Ev.pos (fun _ => hD) ?_
    refine Ev.pos (fun _ => by omega) ?_
    refine Ev.bind hsm ?_
    refine Ev.pos (fun _ => by omega) ?_
    rw [w64 (i := (i : Int) + 1) (by omega) (by omega), hj]
    exact next
   ·refine Ev.neg (fun _ => hD) ?_
    refine Ev.bind hwd ?_
    have hW : ((bytesOf w).all isW && decide (bytesOf w ≠ [])) = true := by
     rw [Bool.and_eq_true]
     rw [Bool.and_eq_true] at hD
     refine ⟨?_, h2.1⟩
     rcases h2.2 with h | h
     ·exact absurd ⟨h, h2.1⟩ hD
     ·exact h
    refine Ev.pos (fun _ => hW) ?_
    refine Ev.pos (fun _ => by omega) ?_
    refine Ev.bind hsm ?_
    refine Ev.pos (fun _ => by omega) ?_
    rw [w64 (i := (i : Int) + 1) (by omega) (by omega), hj]
    exact next
  have e43 : (⟨#[43]⟩ : ByteArray).size = 1 := rfl
  have e46 : (⟨#[46]⟩ : ByteArray).size = 1 := rfl
  refine Ev.succ ?_
  simp only [ze.l1]
  rw [← hwe]
  refine Ev.pos (fun _ => by omega) ?_
  refine Ev.pos (fun _ => by omega) ?_
  refine Ev.pos (fun _ => by omega) ?_
  by_cases h0 : i = 0
  ·refine Ev.pos (fun _ => by omega) ?_
   refine Ev.pos (fun _ => by omega) ?_
   exact go _ _ (by rw [zdc, e43]; omega) (by simp) (by rw [zwb, if_pos h0]; rfl) (by rw [if_pos ⟨h0, hne⟩])
  ·refine Ev.neg (fun _ => by omega) ?_
   refine Ev.pos (fun _ => by omega) ?_
   exact go _ _ (by rw [zdc, e46]; omega) ha (by rw [zwb, if_neg h0]; rfl) (by rw [if_neg (fun h => h0 h.1)])
theorem l1_bad (l : List ByteArray) (hl : l.length ≤ 60) (hs : ∀ w ∈ l, w.size ≤ 1200) : ∀ (m i : Nat) (T : ByteArray) (acc : List ByteArray), l.length - i = m → i ≤ l.length → acc.length ≤ i + 1 → T.size ≤ 10000 + 1201 * i → ¬ (∀ w ∈ l.drop i, wordB (bytesOf w) = true) →
  Ev (fun k => ze.l1 k T l (l.length : Int) (i : Int) b0 y1 y2 b3 y4 b5 y6 b7 y8 b9 y10 b11 y12 b13 y14 acc) failT := by
 intro m
 induction m with
 | zero =>
  intro i T acc hm hi ha hT hb
  obtain rfl : i = l.length := by omega
  rw [List.drop_length] at hb
  exact absurd (fun w hw => by simp at hw) hb
 | succ m ih =>
  intro i T acc hm hi ha hT hb
  have hlt : i < l.length := by omega
  have hd : l.drop i = rdOf ByteArray.empty l i :: l.drop (i + 1) := drop_rd hlt
  have hmem := rdOf_mem hlt
  obtain ⟨w, hwe⟩ : ∃ w, w = rdOf ByteArray.empty l i := ⟨_, rfl⟩
  rw [hd, ← hwe] at hb
  rw [← hwe] at hmem
  have h1 := hs w hmem
  have hj : ((i : Int) + 1) = ((i + 1 : Nat) : Int) := by omega
  have go : ∀ (T1 : ByteArray) (A : List ByteArray), T1.size ≤ T.size + 1 → A.length ≤ i + 1 →
    Ev (fun k => ze.j7 k T1 w l (l.length : Int) (i : Int) b0 y1 y2 b3 y4 b5 y6 b7 y8 b9 y10 b11 y12 b13 y14 A) failT := by
   intro T1 A hT1 hA
   have next : ∀ B : ByteArray, wordB (bytesOf w) = true → Ev (fun k => ze.l1 k (T1 ++ w) l (l.length : Int) ((i + 1 : Nat) : Int) b0 y1 y2 b3 y4 b5 y6 b7 y8 b9 y10 b11 y12 b13 y14 (A ++ [B])) failT := fun B h2 =>
    ih (i + 1) (T1 ++ w) (A ++ [B]) (by omega) (by omega) (by simp; omega) (by rw [zdc]; omega) (fun h => hb (fun x hx => by
     rcases List.mem_cons.1 hx with rfl | hx
     ·exact h2
     ·exact h x hx))
   have hdg := zbe w (by omega)
   have hwd := words_ev w (by omega)
   refine Ev.succ ?_
   simp only [ze.j7]
   refine Ev.bind hdg ?_
   by_cases hD : ((bytesOf w).all isD && decide (bytesOf w ≠ [])) = true
   ·have h2 : wordB (bytesOf w) = true := by
     unfold wordB
     rw [Bool.and_eq_true] at hD
     rw [hD.1, hD.2]
     rfl
    refine Ev.pos (fun _ => hD) ?_
    refine Ev.pos (fun _ => by omega) ?_
    refine Ev.bind (small_ev w (by omega) (zkg h2)) ?_
    refine Ev.pos (fun _ => by omega) ?_
    rw [w64 (i := (i : Int) + 1) (by omega) (by omega), hj]
    exact next _ h2
   ·refine Ev.neg (fun _ => hD) ?_
    refine Ev.bind hwd ?_
    by_cases hW : ((bytesOf w).all isW && decide (bytesOf w ≠ [])) = true
    ·have h2 : wordB (bytesOf w) = true := by
      unfold wordB
      rw [Bool.and_eq_true] at hW
      rw [hW.1, hW.2, Bool.or_true]
      rfl
     refine Ev.pos (fun _ => hW) ?_
     refine Ev.pos (fun _ => by omega) ?_
     refine Ev.bind (small_ev w (by omega) (zkg h2)) ?_
     refine Ev.pos (fun _ => by omega) ?_
     rw [w64 (i := (i : Int) + 1) (by omega) (by omega), hj]
     exact next _ h2
    ·refine Ev.neg (fun _ => hW) ?_
     exact Ev.now _
  have e43 : (⟨#[43]⟩ : ByteArray).size = 1 := rfl
  have e46 : (⟨#[46]⟩ : ByteArray).size = 1 := rfl
  refine Ev.succ ?_
  simp only [ze.l1]
  rw [← hwe]
  refine Ev.pos (fun _ => by omega) ?_
  refine Ev.pos (fun _ => by omega) ?_
  refine Ev.pos (fun _ => by omega) ?_
  by_cases h0 : i = 0
  ·refine Ev.pos (fun _ => by omega) ?_
   refine Ev.pos (fun _ => by omega) ?_
   exact go _ _ (by rw [zdc, e43]; omega) (by simp)
  ·refine Ev.neg (fun _ => by omega) ?_
   refine Ev.pos (fun _ => by omega) ?_
   exact go _ _ (by rw [zdc, e46]; omega) ha
end
def hasL (o : Option (List Int)) (w : List Int) : Option (ByteArray × Nat) := o.map fun d => toldL (w, d)
section
variable (e : Int) (ns : List Int) (k a b c : Int) (hp hd : Bool) (l : List ByteArray)
theorem j4_ev {r : TextT} (hc : U16 c) (T : ByteArray) (hT : T.size ≤ 5000) (b0 : Bool) (y1 : ByteArray) (y2 : List S29) (b3 : Bool) (y4 : ByteArray) (b5 : Bool) (y6 : ByteArray) (b7 : Bool) (y8 : ByteArray) (b9 : Bool) (y10 : ByteArray) (Y : List ByteArray)
  (hk : ∀ T' : ByteArray, bytesOf T' = bytesOf T ++ devT (numO hd c) → T'.size ≤ 6000 → Ev (fun q => ze.l1 q T' l (l.length : Int) 0 b0 y1 y2 b3 y4 b5 y6 b7 y8 b9 y10 (numO hd c).isSome (letB (hasL (numO hd c) wDev)) false (magO (hasL (numO hd c) wDev)) Y) r) :
  Ev (fun q => ze.j4 q T e ns k a b c hp hd l b0 y1 y2 b3 y4 b5 y6 b7 y8 b9 y10 false ⟨#[]⟩ false ⟨#[]⟩ Y) r := by
 refine Ev.succ ?_
 simp only [ze.j4]
 cases hd
 ·refine Ev.neg (fun _ => Bool.false_ne_true) ?_
  refine Ev.succ ?_
  simp only [ze.j5]
  exact hk T (by simp [numO, devT]) (by omega)
 ·have hds := zhf hc
  have hdb := zse (zue c)
  refine Ev.pos (fun _ => rfl) ?_
  refine Ev.bind (zsc hc) ?_
  refine Ev.bind (zje hc) ?_
  refine Ev.bind (zsc hc) ?_
  have e5 : (⟨#[46, 100, 101, 118]⟩ : ByteArray).size = 4 := rfl
  refine Ev.pos (fun _ => by omega) ?_
  refine Ev.pos (fun _ => by rw [zdc, e5]; omega) ?_
  refine Ev.succ ?_
  simp only [ze.j5]
  have := hk (T ++ ((⟨#[46, 100, 101, 118]⟩ : ByteArray) ++ strOfNums (dec c))) (by rw [zwb, zwb, hdb]; rfl) (by rw [zdc, zdc, e5]; omega)
  refine Ev.eq ?_ rfl
  have e1 : magO (hasL (numO true c) wDev) = magB c.toNat := by
   show magB (decL (dec c)) = _
   rw [dec_val]
  rw [e1] at this
  exact this
theorem j3_ev {r : TextT} (hb : U16 b) (T : ByteArray) (hT : T.size ≤ 4000) (b0 : Bool) (y1 : ByteArray) (y2 : List S29) (b3 : Bool) (y4 : ByteArray) (b5 : Bool) (y6 : ByteArray) (Y : List ByteArray)
  (hk : ∀ T' : ByteArray, bytesOf T' = bytesOf T ++ postT (numO hp b) → T'.size ≤ 5000 → Ev (fun q => ze.j4 q T' e ns k a b c hp hd l b0 y1 y2 b3 y4 b5 y6 (numO hp b).isSome (letB (hasL (numO hp b) wPost)) false (magO (hasL (numO hp b) wPost)) false ⟨#[]⟩ false ⟨#[]⟩ Y) r) :
  Ev (fun q => ze.j3 q T e ns k a b c hp hd l b0 y1 y2 b3 y4 b5 y6 false ⟨#[]⟩ false ⟨#[]⟩ false ⟨#[]⟩ false ⟨#[]⟩ Y) r := by
 refine Ev.succ ?_
 simp only [ze.j3]
 cases hp
 ·refine Ev.neg (fun _ => Bool.false_ne_true) ?_
  exact hk T (by simp [numO, postT]) (by omega)
 ·have hds := zhf hb
  have hdb := zse (zue b)
  refine Ev.pos (fun _ => rfl) ?_
  refine Ev.bind (zsc hb) ?_
  refine Ev.bind (zje hb) ?_
  refine Ev.bind (zsc hb) ?_
  have e5 : (⟨#[46, 112, 111, 115, 116]⟩ : ByteArray).size = 5 := rfl
  refine Ev.pos (fun _ => by omega) ?_
  refine Ev.pos (fun _ => by rw [zdc, e5]; omega) ?_
  have := hk (T ++ ((⟨#[46, 112, 111, 115, 116]⟩ : ByteArray) ++ strOfNums (dec b))) (by rw [zwb, zwb, hdb]; rfl) (by rw [zdc, zdc, e5]; omega)
  have e1 : magO (hasL (numO true b) wPost) = magB b.toNat := by
   show magB (decL (dec b)) = _
   rw [dec_val]
  rw [e1] at this
  exact this
def kindsB : List ByteArray := [(⟨#[97]⟩ : ByteArray), (⟨#[98]⟩ : ByteArray), (⟨#[114, 99]⟩ : ByteArray)]
def hasP (o : Option (List Int × List Int)) : Option (ByteArray × Nat) := o.map toldL
theorem kind_cases {k : Int} (h0 : 0 ≤ k) : Int.tmod k 4 = 0 ∨ Int.tmod k 4 = 1 ∨ Int.tmod k 4 = 2 ∨ Int.tmod k 4 = 3 := by
 rw [Int.tmod_eq_emod_of_nonneg h0]; omega
theorem l0_end {r : TextT} (hk0 : 0 ≤ k) (ha : U16 a) (T : ByteArray) (hT : T.size ≤ 3000) (b0 : Bool) (y1 : ByteArray) (y2 : List S29) (Y : List ByteArray)
  (hk : ∀ T' : ByteArray, bytesOf T' = bytesOf T ++ preT (preO k a) → T'.size ≤ 4000 → Ev (fun q => ze.j3 q T' e ns k a b c hp hd l b0 y1 y2 (preO k a).isSome (letB (hasP (preO k a))) false (magO (hasP (preO k a))) false ⟨#[]⟩ false ⟨#[]⟩ false ⟨#[]⟩ false ⟨#[]⟩ Y) r) :
  Ev (fun q => ze.l0 q T ns (ns.length : Int) (ns.length : Int) e ns k a b c hp hd l b0 y1 y2 false ⟨#[]⟩ false ⟨#[]⟩ false ⟨#[]⟩ false ⟨#[]⟩ false ⟨#[]⟩ false ⟨#[]⟩ Y) r := by
 refine Ev.succ ?_
 simp only [ze.l0]
 refine Ev.neg (fun _ => by omega) ?_
 have hds := zhf ha
 have hdb := zse (zue a)
 have key : ∀ (q : Int) (W : ByteArray) , Int.tmod k 4 = q → q > 0 → 0 ≤ (q - 1) % 256 → (q - 1) % 256 < (kindsB.length : Int) → rdOf ByteArray.empty kindsB ((q - 1) % 256) = W → W.size ≤ 2 → bytesOf W = kindW q → strOfNums (spell (kindW q)) = W →
   Ev (fun q => if Int.tmod k 4 > 0 then ((some kindsB).bind fun y170 => (if 0 ≤ (((Int.tmod k 4) - 1) % 256) then (if (((Int.tmod k 4) - 1) % 256) < (y170.length : Int) then ((zab.f q a).bind fun t174 => ((ztb.f q t174).bind fun bt175 => ((zab.f q a).bind fun t177 => (if (rdOf ByteArray.empty y170 (((Int.tmod k 4) - 1) % 256)).size + t177.size ≤ 9223372036854775807 then (if T.size + ((rdOf ByteArray.empty y170 (((Int.tmod k 4) - 1) % 256)) ++ t177).size ≤ 9223372036854775807 then (ze.j3 q (T ++ ((rdOf ByteArray.empty y170 (((Int.tmod k 4) - 1) % 256)) ++ t177)) e ns k a b c hp hd l b0 y1 y2 true (rdOf ByteArray.empty y170 (((Int.tmod k 4) - 1) % 256)) bt175.1 bt175.2 false ⟨#[]⟩ false ⟨#[]⟩ false ⟨#[]⟩ false ⟨#[]⟩ Y) else (none)) else (none))))) else (none)) else (none))) else (ze.j3 q T e ns k a b c hp hd l b0 y1 y2 false ⟨#[]⟩ false ⟨#[]⟩ false ⟨#[]⟩ false ⟨#[]⟩ false ⟨#[]⟩ false ⟨#[]⟩ Y)) r := by
  intro q W hq h1 h2 h3 h4 h5 h6 h7
  have hP : preO k a = some (kindW q, dec a) := by unfold preO; rw [hq, if_pos h1]
  rw [hq]
  refine Ev.pos (fun _ => h1) ?_
  refine Ev.bind0 rfl ?_
  refine Ev.pos (fun _ => h2) ?_
  refine Ev.pos (fun _ => h3) ?_
  rw [h4]
  refine Ev.bind (zsc ha) ?_
  refine Ev.bind (zje ha) ?_
  refine Ev.bind (zsc ha) ?_
  refine Ev.pos (fun _ => by omega) ?_
  refine Ev.pos (fun _ => by rw [zdc]; omega) ?_
  have := hk (T ++ (W ++ strOfNums (dec a))) (by rw [zwb, zwb, hdb, h6, hP]; rfl) (by rw [zdc, zdc]; omega)
  rw [hP] at this
  have e1 : magO (hasP (some (kindW q, dec a))) = magB a.toNat := by
   show magB (decL (dec a)) = _
   rw [dec_val]
  have e2 : letB (hasP (some (kindW q, dec a))) = W := h7
  rw [e1, e2] at this
  exact this
 rcases kind_cases hk0 with h | h | h | h
 ·refine Ev.neg (fun _ => by omega) ?_
  have hP : preO k a = none := by unfold preO; rw [if_neg (by omega)]
  have := hk T (by rw [hP]; simp [preT]) (by omega)
  rw [hP] at this
  exact this
 ·exact key 1 _ h (by decide) (by decide) (by decide) rfl (by decide) (by decide) (by decide)
 ·exact key 2 _ h (by decide) (by decide) (by decide) rfl (by decide) (by decide) (by decide)
 ·exact key 3 _ h (by decide) (by decide) (by decide) rfl (by decide) (by decide) (by decide)
def intsN (ds : List Int) : List S29 := ds.map fun d => ⟨false, magB d.toNat⟩
theorem relT_cons (d : List Int) : ∀ ds : List (List Int), relT (d :: ds) = d ++ ds.flatMap (fun x => 46 :: x)
 | [] => by simp [relT]
 | v :: ds => by simp only [relT, relT_cons v ds, List.flatMap_cons, List.cons_append]
theorem l0_ev {r : TextT} (hns : ns.length ≤ 60) (hne : ∀ x ∈ ns, U16 x) (b0 : Bool) (y1 : ByteArray) (Y : List ByteArray) : ∀ (m j : Nat) (T : ByteArray) (N : List S29), ns.length - j = m → j ≤ ns.length → T.size ≤ 10 + 10 * j → N.length = j →
  (∀ T' : ByteArray, bytesOf T' = bytesOf T ++ (if j = 0 then relT ((ns.drop j).map dec) else ((ns.drop j).map dec).flatMap fun x => 46 :: x) → T'.size ≤ 3000 → Ev (fun q => ze.l0 q T' ns (ns.length : Int) (ns.length : Int) e ns k a b c hp hd l b0 y1 (N ++ intsN (ns.drop j)) false ⟨#[]⟩ false ⟨#[]⟩ false ⟨#[]⟩ false ⟨#[]⟩ false ⟨#[]⟩ false ⟨#[]⟩ Y) r) →
  Ev (fun q => ze.l0 q T ns (ns.length : Int) (j : Int) e ns k a b c hp hd l b0 y1 N false ⟨#[]⟩ false ⟨#[]⟩ false ⟨#[]⟩ false ⟨#[]⟩ false ⟨#[]⟩ false ⟨#[]⟩ Y) r := by
 intro m
 induction m with
 | zero =>
  intro j T N hm hj hT hN hk
  obtain rfl : j = ns.length := by omega
  have e0 : ns.drop ns.length = [] := List.drop_length
  rw [e0] at hk
  have := hk T (by split <;> simp [relT]) (by omega)
  simpa [intsN] using this
 | succ m ih =>
  intro j T N hm hj hT hN hk
  have hlt : j < ns.length := by omega
  have hdr : ns.drop j = ns[j] :: ns.drop (j + 1) := List.drop_eq_getElem_cons hlt
  have hu := hne _ (List.getElem_mem hlt)
  have hrd : rd ns (j : Int) = ns[j] := by rw [rd_nat, List.getD_eq_getElem?_getD, List.getElem?_eq_getElem hlt]; rfl
  obtain ⟨x, hx⟩ : ∃ x, x = ns[j] := ⟨_, rfl⟩
  rw [hdr, ← hx] at hk
  rw [← hx] at hrd hu
  have hds := zhf hu
  have hdb := zse (zue x)
  have hj2 : ((j : Int) + 1) = ((j + 1 : Nat) : Int) := by omega
  have e46 : (⟨#[46]⟩ : ByteArray).size = 1 := rfl
  have next : ∀ T1 : ByteArray, T1.size ≤ T.size + 1 → bytesOf T1 = bytesOf T ++ (if j = 0 then [] else [46]) → Ev (fun q => ze.l0 q (T1 ++ strOfNums (dec x)) ns (ns.length : Int) ((j + 1 : Nat) : Int) e ns k a b c hp hd l b0 y1 (N ++ [(⟨false, magB x.toNat⟩ : S29)]) false ⟨#[]⟩ false ⟨#[]⟩ false ⟨#[]⟩ false ⟨#[]⟩ false ⟨#[]⟩ false ⟨#[]⟩ Y) r := by
   intro T1 hT1 hb1
   refine ih (j + 1) _ _ (by omega) (by omega) (by rw [zdc]; omega) (by simp; omega) ?_
   intro T' hT' hs'
   rw [if_neg (by omega)] at hT'
   have := hk T' (by
    rw [hT', zwb, hb1, hdb]
    by_cases hj0 : j = 0
    ·rw [if_pos hj0, if_pos hj0, List.map_cons, relT_cons]
     simp
    ·rw [if_neg hj0, if_neg hj0]
     simp) hs'
   have e1 : intsN (x :: ns.drop (j + 1)) = [(⟨false, magB x.toNat⟩ : S29)] ++ intsN (ns.drop (j + 1)) := rfl
   rw [e1, ← List.append_assoc] at this
   exact this
  refine Ev.succ ?_
  simp only [ze.l0, hrd]
  rw [w64 (i := (j : Int) + 1) (by omega) (by omega), hj2]
  refine Ev.pos (fun _ => by omega) ?_
  refine Ev.pos (fun _ => by omega) ?_
  refine Ev.pos (fun _ => by omega) ?_
  by_cases hj0 : j = 0
  ·refine Ev.neg (fun _ => by omega) ?_
   refine Ev.bind (zsc hu) ?_
   refine Ev.pos (fun _ => by omega) ?_
   refine Ev.bind (zsc hu) ?_
   refine Ev.bind (zje hu) ?_
   refine Ev.pos (fun _ => by omega) ?_
   exact next T (by omega) (by rw [if_pos hj0, List.append_nil])
  ·refine Ev.pos (fun _ => by omega) ?_
   refine Ev.pos (fun _ => by omega) ?_
   refine Ev.bind (zsc hu) ?_
   refine Ev.pos (fun _ => by rw [zdc, e46]; omega) ?_
   refine Ev.bind (zsc hu) ?_
   refine Ev.bind (zje hu) ?_
   refine Ev.pos (fun _ => by omega) ?_
   exact next _ (by rw [zdc, e46]; exact Nat.le_refl _) (by rw [zwb, if_neg hj0]; rfl)
theorem zdf (x : Int) : Digs (dec x) := ⟨dec_ne x, zue x⟩
theorem sP_ok {L : List (List Int)} (hns : ns ≠ []) (hL : ∀ w ∈ L, GoodW w) : (sP e ns k a b c hp hd L).Ok := by
 refine ⟨fun x h => ?_, ⟨fun h => hns (List.map_eq_nil_iff.1 h), fun x h => ?_⟩, fun x h => ?_, fun x h => ?_, fun x h => ?_, hL⟩
 ·have h2 : epO e = some x := h
  unfold epO at h2
  split at h2
  ·cases h2; exact zdf e
  ·cases h2
 ·obtain ⟨y, _, rfl⟩ := List.mem_map.1 h
  exact zdf y
 ·have h2 : preO k a = some x := h
  unfold preO at h2
  split at h2
  ·cases h2
   refine ⟨zdf a, ?_⟩
   unfold kindW
   split
   ·simp
   ·split <;> simp
  ·cases h2
 ·have h2 : numO hp b = some x := h
  unfold numO at h2
  split at h2
  ·cases h2; exact zdf b
  ·cases h2
 ·have h2 : numO hd c = some x := h
  unfold numO at h2
  split at h2
  ·cases h2; exact zdf c
  ·cases h2
theorem lows_good (hw : ∀ w ∈ l, wordB (bytesOf w) = true) : ∀ w ∈ lows l, GoodW w := by
 intro w h
 obtain ⟨x, hx, rfl⟩ := List.mem_map.1 h
 exact wordB_good (hw x hx)
theorem sP_told (he : 0 ≤ e) (hok : (sP e ns k a b c hp hd (lows l)).Ok) : toldY (stageV e ns k a b c hp hd l) = (false, magB e.toNat, intsN ns, (preO k a).isSome, letB (hasP (preO k a)), false, magO (hasP (preO k a)), (numO hp b).isSome, letB (hasL (numO hp b) wPost), false, magO (hasL (numO hp b) wPost), (numO hd c).isSome, letB (hasL (numO hd c) wDev), false, magO (hasL (numO hd c) wDev), if l = [] then [⟨#[]⟩] else wordL l, [], true) := by
 have e1 : decL ((epO e).getD []) = e.toNat := by
  unfold epO
  split
  ·exact dec_val e
  ·show 0 = _; omega
 have e2 : ((ns.map dec).map decL).map (fun n => (⟨false, magB n⟩ : S29)) = intsN ns := by
  rw [List.map_map, List.map_map]
  refine List.map_congr_left (fun x _ => ?_)
  show (⟨false, magB (decL (dec x))⟩ : S29) = _
  rw [dec_val]
 have e3 : (if lows l = [] then [[]] else lows l).map strOfNums = if l = [] then [(⟨#[]⟩ : ByteArray)] else wordL l := by
  cases l with
  | nil => rfl
  | cons x l =>
   rw [if_neg (by simp [lows]), if_neg (by simp)]
   unfold lows wordL
   rw [List.map_map]
   rfl
 unfold stageV
 rw [told_val hok]
 unfold toldY sP
 simp only [ne_eq, not_true_eq_false, decide_false, if_true, Option.isSome_map, e1, e2, e3]
 rfl
end
theorem map_flat (f : Int → Int) (h46 : f 46 = 46) : ∀ ws : List (List Int), (ws.flatMap fun x => 46 :: x).map f = (ws.map (List.map f)).flatMap fun x => 46 :: x
 | [] => rfl
 | w :: ws => by simp only [List.flatMap_cons, List.map_append, List.map_cons, h46, map_flat f h46 ws]
theorem locT_low (ws : List (List Int)) : (locT ws).map low = locT (ws.map (List.map low)) := by
 cases ws with
 | nil => rfl
 | cons w ws =>
  simp only [locT, zgh, List.map_cons, List.map_append, map_flat low (by decide)]
  rfl
theorem stage_low (e : Int) (ns : List Int) (k a b c : Int) (hp hd : Bool) (l : List ByteArray) (hok : (sP e ns k a b c hp hd (lows l)).Ok) : (stageL e ns k a b c hp hd l).map low = (sP e ns k a b c hp hd (lows l)).text := by
 have h := (Lw.text hok).id
 unfold stageL Parts.text
 unfold Parts.text at h
 simp only [List.map_append] at h ⊢
 show (epT (epO e)).map low ++ ((relT (ns.map dec)).map low ++ ((preT (preO k a)).map low ++ ((postT (numO hp b)).map low ++ ((devT (numO hd c)).map low ++ (locT (l.map bytesOf)).map low)))) = _
 rw [locT_low]
 have e1 : (l.map bytesOf).map (List.map low) = lows l := by rw [List.map_map]; rfl
 rw [e1]
 refine Eq.trans ?_ h
 have e2 : (locT (lows l)).map low = locT (lows l) := by
  refine Lw.id ?_
  cases hL : lows l with
  | nil => exact Lw.nil
  | cons w ws => exact Lw.cons (by decide) (Lw.joinW (fun x hx => hok.loc x (by show x ∈ lows l; rw [hL]; exact hx)))
 show _ = (epT (epO e)).map low ++ ((relT (ns.map dec)).map low ++ ((preT (preO k a)).map low ++ ((postT (numO hp b)).map low ++ ((devT (numO hd c)).map low ++ (locT (lows l)).map low))))
 rw [e2]
theorem text_ev {e : Int} (he : U16 e) {ns : List Int} (hne : ∀ x ∈ ns, U16 x) {k : Int} (hk0 : 0 ≤ k) {a b c : Int} (ha : U16 a) (hb : U16 b) (hc : U16 c) (hp hd : Bool) {l : List ByteArray} (hl : l.length ≤ 2147483647) :
  (tOk ns l → ∃ R : ByteArray, bytesOf R = stageL e ns k a b c hp hd l ∧ R.size ≤ 90000 ∧ (sP e ns k a b c hp hd (lows l)).Ok ∧ Ev (fun q => ze.f q e ns k a b c hp hd l) (R, toldY (stageV e ns k a b c hp hd l))) ∧
  (¬ tOk ns l → Ev (fun q => ze.f q e ns k a b c hp hd l) failT) := by
 have bad : Ev (fun q => ze.j0 q true e ns k a b c hp hd l) failT := by
  refine Ev.succ ?_
  simp only [ze.j0]
  refine Ev.pos (fun _ => by first | rfl | trivial) ?_
  exact Ev.now _
 by_cases h0 : ns = []
 ·refine ⟨fun hk => absurd h0 hk.1, fun _ => ?_⟩
  simp only [ze.f]
  refine Ev.pos (fun _ => by rw [h0]; rfl) ?_
  exact bad
 have hpos : 0 < ns.length := List.length_pos_iff.2 h0
 by_cases h1 : ns.length ≤ 60
 case neg =>
  refine ⟨fun hk => absurd hk.2.1 h1, fun _ => ?_⟩
  simp only [ze.f]
  refine Ev.neg (fun _ => by omega) ?_
  refine Ev.pos (fun _ => by omega) ?_
  exact bad
 have hsh := short_ev l hl
 by_cases h2 : (decide (∀ w ∈ l, w.size ≤ 1200) && decide (l.length ≤ 60)) = true
 case neg =>
  refine ⟨fun hk => absurd (by rw [Bool.and_eq_true]; exact ⟨decide_eq_true hk.2.2.2.1, decide_eq_true hk.2.2.1⟩) h2, fun _ => ?_⟩
  simp only [ze.f]
  refine Ev.neg (fun _ => by omega) ?_
  refine Ev.neg (fun _ => by omega) ?_
  refine Ev.bind hsh ?_
  rw [Bool.eq_false_iff.2 h2]
  exact bad
 have h3 : (∀ w ∈ l, w.size ≤ 1200) ∧ l.length ≤ 60 := by
  rw [Bool.and_eq_true] at h2
  exact ⟨of_decide_eq_true h2.1, of_decide_eq_true h2.2⟩
 have hds := zhf he
 have hdb := zse (zue e)
 have go : ∀ {r : TextT}, (∀ T' : ByteArray, bytesOf T' = epT (epO e) ++ (relT (ns.map dec) ++ (preT (preO k a) ++ (postT (numO hp b) ++ devT (numO hd c)))) → T'.size ≤ 6000 →
   Ev (fun q => ze.l1 q T' l (l.length : Int) 0 false (magB e.toNat) (intsN ns) (preO k a).isSome (letB (hasP (preO k a))) false (magO (hasP (preO k a))) (numO hp b).isSome (letB (hasL (numO hp b) wPost)) false (magO (hasL (numO hp b) wPost)) (numO hd c).isSome (letB (hasL (numO hd c) wDev)) false (magO (hasL (numO hd c) wDev)) [(⟨#[]⟩ : ByteArray)]) r) →
   Ev (fun q => ze.f q e ns k a b c hp hd l) r := by
  intro r hk
  have j1 : ∀ T : ByteArray, bytesOf T = epT (epO e) → T.size ≤ 10 → Ev (fun q => ze.j1 q T e ns k a b c hp hd l false (magB e.toNat) false ⟨#[]⟩ false ⟨#[]⟩ false ⟨#[]⟩ false ⟨#[]⟩ false ⟨#[]⟩ false ⟨#[]⟩ [(⟨#[]⟩ : ByteArray)]) r := by
   intro T hT hTs
   refine Ev.succ ?_
   simp only [ze.j1]
   refine l0_ev e ns k a b c hp hd l h1 hne false (magB e.toNat) _ _ 0 T [] rfl (Nat.zero_le _) (by omega) rfl ?_
   intro T1 hT1 hs1
   rw [if_pos rfl, List.drop_zero] at hT1
   rw [List.drop_zero, List.nil_append]
   refine l0_end e ns k a b c hp hd l hk0 ha T1 hs1 false _ _ _ ?_
   intro T2 hT2 hs2
   refine j3_ev e ns k a b c hp hd l hb T2 hs2 false _ _ _ _ _ _ _ ?_
   intro T3 hT3 hs3
   refine j4_ev e ns k a b c hp hd l hc T3 hs3 false _ _ _ _ _ _ _ _ _ _ _ ?_
   intro T4 hT4 hs4
   refine hk T4 ?_ hs4
   rw [hT4, hT3, hT2, hT1, hT]
   simp only [List.append_assoc]
  simp only [ze.f]
  refine Ev.neg (fun _ => by omega) ?_
  refine Ev.neg (fun _ => by omega) ?_
  refine Ev.bind hsh ?_
  rw [h2]
  refine Ev.succ ?_
  simp only [ze.j0]
  refine Ev.neg (fun _ => Bool.false_ne_true) ?_
  refine Ev.bind (zsc he) ?_
  refine Ev.bind (zje he) ?_
  refine Ev.bind0 rfl ?_
  by_cases hep : e > 0
  ·refine Ev.pos (fun _ => hep) ?_
   refine Ev.bind (zsc he) ?_
   refine Ev.pos (fun _ => by omega) ?_
   have e33 : (⟨#[33]⟩ : ByteArray).size = 1 := rfl
   exact j1 _ (by rw [zwb, hdb]; unfold epO; rw [if_pos hep]; rfl) (by rw [zdc, e33]; omega)
  ·refine Ev.neg (fun _ => hep) ?_
   exact j1 _ (by unfold epO; rw [if_neg hep]; rfl) (by show 0 ≤ 10; omega)
 by_cases hw : ∀ w ∈ l, wordB (bytesOf w) = true
 ·refine ⟨fun _ => ?_, fun hk => absurd ⟨h0, h1, h3.2, h3.1, hw⟩ hk⟩
  have hok : (sP e ns k a b c hp hd (lows l)).Ok := sP_ok e ns k a b c hp hd h0 (lows_good l hw)
  have hasc : ∀ x ∈ stageL e ns k a b c hp hd l, 0 ≤ x ∧ x ≤ 255 := fun x hx => by
   have := low_byte hok (stage_low e ns k a b c hp hd l hok) x hx
   omega
  refine ⟨strOfNums (stageL e ns k a b c hp hd l), B_str hasc, ?_, hok, ?_⟩
  ·rw [zsg]
   have q1 : (epT (epO e)).length ≤ 6 := by
    unfold epO
    split
    ·have := zjg he
     simp only [epT, List.length_append, List.length_singleton]
     omega
    ·exact Nat.zero_le _
   have q2 := relT_len (ns.map dec) (fun d hd => by obtain ⟨x, hx, rfl⟩ := List.mem_map.1 hd; exact zjg (hne x hx))
   rw [List.length_map] at q2
   have q3 : (preT (preO k a)).length ≤ 7 := by
    unfold preO
    split
    ·have := zjg ha
     have hk2 : (kindW (Int.tmod k 4)).length ≤ 2 := by unfold kindW; split <;> (try split) <;> decide
     simp only [preT, List.length_append]
     omega
    ·exact Nat.zero_le _
   have q4 : ∀ (o : Bool) (x : Int), U16 x → (postT (numO o x)).length ≤ 10 ∧ (devT (numO o x)).length ≤ 9 := by
    intro o x hx
    have := zjg hx
    cases o
    ·exact ⟨Nat.zero_le _, Nat.zero_le _⟩
    ·constructor
     ·show (46 :: (wPost ++ dec x)).length ≤ 10
      rw [List.length_cons, List.length_append, show wPost.length = 4 from rfl]
      omega
     ·show (46 :: (wDev ++ dec x)).length ≤ 9
      rw [List.length_cons, List.length_append, show wDev.length = 3 from rfl]
      omega
   have q5 := locT_len (l.map bytesOf) (fun w hw => by
    obtain ⟨x, hx, rfl⟩ := List.mem_map.1 hw
    rw [bytesOf_length]
    exact h3.1 x hx)
   rw [List.length_map] at q5
   have q6 := (q4 hp b hb).1
   have q7 := (q4 hd c hc).2
   show (epT (epO e) ++ (relT (ns.map dec) ++ (preT (preO k a) ++ (postT (numO hp b) ++ (devT (numO hd c) ++ locT (l.map bytesOf)))))).length ≤ 90000
   simp only [List.length_append]
   omega
  ·refine go ?_
   intro T' hT' hs'
   have h := l1_good false (magB e.toNat) (intsN ns) (preO k a).isSome (letB (hasP (preO k a))) false (magO (hasP (preO k a))) (numO hp b).isSome (letB (hasL (numO hp b) wPost)) false (magO (hasL (numO hp b) wPost)) (numO hd c).isSome (letB (hasL (numO hd c) wDev)) false (magO (hasL (numO hd c) wDev)) l h3.2 h3.1 hw (strOfNums (stageL e ns k a b c hp hd l)) _ 0 T' [(⟨#[]⟩ : ByteArray)] rfl (Nat.zero_le _) (by simp) (by omega) (by
    rw [B_str hasc, hT', List.drop_zero]
    unfold stageL Parts.text tailW
    rw [if_pos rfl]
    simp only [List.append_assoc]
    rfl)
   refine Ev.eq h ?_
   rw [sP_told e ns k a b c hp hd l he.1 hok, List.drop_zero]
   cases l with
   | nil => rfl
   | cons x l => rw [if_pos ⟨rfl, by simp⟩, if_neg (by simp), List.nil_append]
 ·refine ⟨fun hk => absurd hk.2.2.2.2 hw, fun _ => ?_⟩
  refine go ?_
  intro T' hT' hs'
  exact l1_bad false _ _ _ _ _ _ _ _ _ _ _ _ _ _ l h3.2 h3.1 _ 0 T' _ rfl (Nat.zero_le _) (by simp) (by omega) hw
end Go.Proofs.YtlijjnjpomnphaaGreatDoor.V
end
section
namespace Go.Proofs.YtlijjnjpomnphaaGreatDoor.V
open Go.RowKit YtlijjnjpomnphaaGreatDoor.Q YtlijjnjpomnphaaGreatDoorG YtlijjnjpomnphaaGreatDoorY YtlijjnjpomnphaaGreatDoorP YtlijjnjpomnphaaGreatDoorH YtlijjnjpomnphaaGreatDoorB YtlijjnjpomnphaaGreatDoorM YtlijjnjpomnphaaGreatDoorW.PrintWords YtlijjnjpomnphaaGreatDoorW.PrintLast YtlijjnjpomnphaaGreatDoorW.PrintMore
theorem core_text (ns : List Int) : stageL 0 ns 0 0 0 0 false false [] = relT (ns.map dec) := by
 show [] ++ (relT (ns.map dec) ++ ([] ++ ([] ++ ([] ++ [])))) = _
 simp
theorem decs_digs (ns : List Int) : ∀ x ∈ ns.map dec, Digs x := fun x h => by obtain ⟨y, _, rfl⟩ := List.mem_map.1 h; exact zdf y
structure Eight (L : List ByteArray) (R : List (List Int)) (d : List Int) : Prop where
 len : L.length = 8
 at_ : ∀ p : Nat, p < 8 → bytesOf (rdOf ByteArray.empty L (p : Int)) = (stP R d p).text
theorem lt8 {p : Nat} (h : p < 8) : p = 0 ∨ p = 1 ∨ p = 2 ∨ p = 3 ∨ p = 4 ∨ p = 5 ∨ p = 6 ∨ p = 7 := by omega
theorem st_len {R : List (List Int)} {d : List Int} (hd5 : d.length ≤ 5) {p : Nat} (hp : p < 8) : (stP R d p).text.length ≤ (relT R).length + 20 := by
 rcases lt8 hp with rfl | rfl | rfl | rfl | rfl | rfl | rfl | rfl <;>
  simp only [stP, Parts.text, epT, preT, postT, devT, locT, joinW, wRc, wPost, wDev, List.length_append, List.length_cons, List.length_nil, List.nil_append] <;> omega
theorem mx_ord (p q : Nat) (hp : p < 8) (hq : q < 8) : (if p < q then (-1 : Int) else if q < p then 1 else 0) = mx (-1) (mn 1 ((p : Int) - q)) := by
 unfold mx mn
 repeat' split
 all_goals omega
theorem eight_cmp {L : List ByteArray} {R : List (List Int)} {d : List Int} (hT : Eight L R d) (h0 : R ≠ []) (hR : ∀ x ∈ R, Digs x) (hd : Digs d) (hd5 : d.length ≤ 5) (hl : (relT R).length ≤ 90000) {p q : Nat} (hp : p < 8) (hq : q < 8) :
  zvb.f (rdOf ByteArray.empty L (p : Int)) (rdOf ByteArray.empty L (q : Int)) = some (mx (-1) (mn 1 ((p : Int) - q)), true) := by
 have ok : ∀ p : Nat, p < 8 → POk (rdOf ByteArray.empty L (p : Int)) := by
  intro p hp
  refine ⟨?_, ?_⟩
  ·rw [zxe, hT.at_ p hp]
   have := st_len (R := R) hd5 hp
   omega
  ·rw [hT.at_ p hp]
   exact asc_lw_text (stP_ok h0 hR hd p)
 unfold zvb.f
 rw [if_pos ⟨ok p hp, ok q hq⟩, hT.at_ p hp, hT.at_ q hq, st_val h0 hR hd, st_val h0 hR hd, st_cmp _ _ (digs_all hd (by omega)) p q hp hq, mx_ord p q hp hq]
theorem stages_l1 {L : List ByteArray} {R : List (List Int)} {d : List Int} (hT : Eight L R d) (h0 : R ≠ []) (hR : ∀ x ∈ R, Digs x) (hd : Digs d) (hd5 : d.length ≤ 5) (hl : (relT R).length ≤ 90000) {p : Nat} (hp : p < 8)
  (next : Ev (fun k => zn.l0 k L 8 ((p + 1 : Nat) : Int)) true) : ∀ (m q : Nat), 8 - q = m → q ≤ 8 → Ev (fun k => zn.l1 k L (p : Int) 8 (p : Int) 8 (q : Int)) true := by
 have hlen := hT.len
 intro m
 induction m with
 | zero =>
  intro q hm hq
  refine Ev.succ ?_
  simp only [zn.l1]
  refine Ev.neg (fun _ => by omega) ?_
  rw [w64 (i := (p : Int) + 1) (by omega) (by omega)]
  exact next
 | succ m ih =>
  intro q hm hq
  refine Ev.succ ?_
  simp only [zn.l1]
  refine Ev.pos (fun _ => by omega) ?_
  refine Ev.pos (fun _ => by omega) ?_
  refine Ev.pos (fun _ => by omega) ?_
  refine Ev.pos (fun _ => by omega) ?_
  refine Ev.pos (fun _ => by omega) ?_
  refine Ev.bind0 (eight_cmp hT h0 hR hd hd5 hl hp (by omega)) ?_
  refine Ev.pos (fun _ => by first | rfl | trivial) ?_
  rw [w64 (i := (p : Int) - (q : Int)) (by omega) (by omega)]
  refine Ev.pos (fun _ => by first | rfl | trivial) ?_
  rw [w64 (i := (q : Int) + 1) (by omega) (by omega)]
  exact ih (q + 1) (by omega) (by omega)
theorem stages_l0 {L : List ByteArray} {R : List (List Int)} {d : List Int} (hT : Eight L R d) (h0 : R ≠ []) (hR : ∀ x ∈ R, Digs x) (hd : Digs d) (hd5 : d.length ≤ 5) (hl : (relT R).length ≤ 90000) : ∀ (m p : Nat), 8 - p = m → p ≤ 8 → Ev (fun k => zn.l0 k L 8 (p : Int)) true := by
 intro m
 induction m with
 | zero =>
  intro p hm hp
  refine Ev.succ ?_
  simp only [zn.l0]
  refine Ev.neg (fun _ => by omega) ?_
  exact Ev.now _
 | succ m ih =>
  intro p hm hp
  refine Ev.succ ?_
  simp only [zn.l0]
  refine Ev.pos (fun _ => by omega) ?_
  have e : (L.length : Int) = 8 := by rw [hT.len]; rfl
  rw [e]
  exact stages_l1 hT h0 hR hd hd5 hl (by omega) (ih (p + 1) (by omega) (by omega)) _ 0 rfl (Nat.zero_le _)
theorem u16_zero : U16 0 := ⟨by decide, by decide⟩
theorem FnPyPIStages : zn.Pure := by
 intro ns n _ _ hns hn
 have hne : ∀ x ∈ ns, U16 x := fun x hx => u16_of (hns x hx)
 have hu := u16_of hn
 obtain ⟨t1, t2⟩ := text_ev u16_zero hne (k := 0) (by decide) u16_zero u16_zero u16_zero false false (l := []) (by decide)
 refine Ev.rounds ?_
 simp only [zn.f]
 by_cases hbig : (ns.length : Int) > 2147483647
 ·refine Ev.pos (fun _ => hbig) ?_
  exact Ev.now _
 refine Ev.neg (fun _ => hbig) ?_
 by_cases hk : tOk ns []
 ·obtain ⟨T, hT, hTs, hok, hev⟩ := t1 hk
  rw [core_text] at hT
  refine Ev.bind hev ?_
  refine Ev.pos (fun _ => by first | rfl | trivial) ?_
  dsimp only
  refine Ev.bind (zsc hu) ?_
  have hds := zhf hu
  have hdb := zse (zue n)
  have a1 : (⟨#[46, 100, 101, 118]⟩ : ByteArray).size = 4 := rfl
  have a2 : (⟨#[97]⟩ : ByteArray).size = 1 := rfl
  have a3 : (⟨#[98]⟩ : ByteArray).size = 1 := rfl
  have a4 : (⟨#[114, 99]⟩ : ByteArray).size = 2 := rfl
  have a5 : (⟨#[43]⟩ : ByteArray).size = 1 := rfl
  have a6 : (⟨#[46, 112, 111, 115, 116]⟩ : ByteArray).size = 5 := rfl
  refine Ev.pos (fun _ => by omega) ?_
  refine Ev.pos (fun _ => by rw [zdc, a1]; omega) ?_
  refine Ev.pos (fun _ => by omega) ?_
  refine Ev.pos (fun _ => by rw [zdc, a2]; omega) ?_
  refine Ev.pos (fun _ => by rw [zdc, a3]; omega) ?_
  refine Ev.pos (fun _ => by omega) ?_
  refine Ev.pos (fun _ => by rw [zdc, a4]; omega) ?_
  refine Ev.pos (fun _ => by rw [zdc, a5]; omega) ?_
  refine Ev.pos (fun _ => by omega) ?_
  refine Ev.pos (fun _ => by rw [zdc, a6]; omega) ?_
  refine Ev.pos (fun _ => by omega) ?_
  refine Ev.bind0 rfl ?_
  have hR0 : ns.map dec ≠ [] := fun h => hk.1 (List.map_eq_nil_iff.1 h)
  have hl : (relT (ns.map dec)).length ≤ 90000 := by rw [← hT, bytesOf_length]; exact hTs
  refine stages_l0 (R := ns.map dec) (d := dec n) ⟨rfl, fun p hp => ?_⟩ hR0 (decs_digs ns) (zdf n) (zjg hu) hl _ 0 rfl (Nat.zero_le _)
  rcases lt8 hp with rfl | rfl | rfl | rfl | rfl | rfl | rfl | rfl
  ·show bytesOf ((T ++ (⟨#[46, 100, 101, 118]⟩ : ByteArray)) ++ strOfNums (dec n)) = _
   rw [zwb, zwb, hT, hdb]
   simp only [stP, Parts.text, epT, preT, postT, devT, locT, List.append_nil, List.nil_append, List.append_assoc]
   rfl
  ·show bytesOf ((T ++ (⟨#[97]⟩ : ByteArray)) ++ strOfNums (dec n)) = _
   rw [zwb, zwb, hT, hdb]
   simp only [stP, Parts.text, epT, preT, postT, devT, locT, List.append_nil, List.nil_append, List.append_assoc]
   rfl
  ·show bytesOf ((T ++ (⟨#[98]⟩ : ByteArray)) ++ strOfNums (dec n)) = _
   rw [zwb, zwb, hT, hdb]
   simp only [stP, Parts.text, epT, preT, postT, devT, locT, List.append_nil, List.nil_append, List.append_assoc]
   rfl
  ·show bytesOf ((T ++ (⟨#[114, 99]⟩ : ByteArray)) ++ strOfNums (dec n)) = _
   rw [zwb, zwb, hT, hdb]
   simp only [stP, Parts.text, epT, preT, postT, devT, locT, List.append_nil, List.nil_append, List.append_assoc]
   rfl
  ·show bytesOf T = _
   rw [hT]
   simp only [stP, Parts.text, epT, preT, postT, devT, locT, List.append_nil, List.nil_append]
  ·show bytesOf ((T ++ (⟨#[43]⟩ : ByteArray)) ++ strOfNums (dec n)) = _
   rw [zwb, zwb, hT, hdb]
   simp only [stP, Parts.text, epT, preT, postT, devT, locT, joinW, List.append_nil, List.nil_append, List.append_assoc]
   rfl
  ·show bytesOf ((T ++ (⟨#[46, 112, 111, 115, 116]⟩ : ByteArray)) ++ strOfNums (dec n)) = _
   rw [zwb, zwb, hT, hdb]
   simp only [stP, Parts.text, epT, preT, postT, devT, locT, List.append_nil, List.nil_append, List.append_assoc]
   rfl
  ·show bytesOf ((⟨#[49, 33]⟩ : ByteArray) ++ T) = _
   rw [zwb, hT]
   simp only [stP, Parts.text, epT, preT, postT, devT, locT, List.append_nil, List.nil_append, List.append_assoc]
   rfl
 ·refine Ev.bind (t2 hk) ?_
  refine Ev.neg (fun _ => Bool.false_ne_true) ?_
  exact Ev.now _
end Go.Proofs.YtlijjnjpomnphaaGreatDoor.V
end
section
namespace Go.Proofs.YtlijjnjpomnphaaGreatDoor.Pure
theorem FnPyPIStages : Q.zn.Pure := V.FnPyPIStages
end Go.Proofs.YtlijjnjpomnphaaGreatDoor.Pure
end
section
namespace Go.Proofs.YtlijjnjpomnphaaGreatDoorG
open Go.RowKit Go.ChangeShapes YtlijjnjpomnphaaGreatDoorW.PrintWords YtlijjnjpomnphaaGreatDoorW.PrintLast
theorem err_star : "*" ++ "errors.errorString" = "*errors.errorString" := by decide
theorem err_row (u : TypeId) (h : Tryz.prog.typeName? 3 u = some "*errors.errorString") : u = 243 :=
 typeName_ptr_named (nm := "errors.errorString") (by rw [err_star]; kernel_rfl) (by kernel_rfl) (by decide) u (by rw [err_star]; exact h)
theorem sent {n : String} {text : List UInt8} {g : Nat} {W : World} (hg : Tryz.prog.globalNamed n = some g) (ht : (Tryz.prog.globals[g]?).map (·.type) = some 74)
    (h : laidMet Tryz.prog [(n, .iface "*errors.errorString" (.ptr (.agg [.lit (.string text)])))] W) : (∃ a, W.cell? ⟨g, 0, none⟩ = some (ErrV a)) ∧ g < W.heap.size := by
  obtain ⟨a, s, hv, _⟩ := laid_sentinel h hg ht Tryz.underlying74 err_row Tryz.underlying243 Tryz.underlying258 rfl rfl Tryz.underlying9 (by kernel_rfl) (by kernel_rfl)
  have hc : W.cell? ⟨g, 0, none⟩ = some (ErrV a) := by
    have h0 := World.var?_cell hg hv 0
    simpa [ErrV] using h0
  refine ⟨⟨a, hc⟩, ?_⟩
  rcases Nat.lt_or_ge g W.heap.size with hl | hl
  · exact hl
  · unfold World.cell? at hc
    rw [Array.getElem?_eq_none hl] at hc
    cases hc
theorem GL_of {l : List (String × DataW Unit)} {W : World} (hL : laidMetH Tryz.prog l W) (hp : (l.all fun x => x.2.handleName?.isNone) = true)
  (e1 : l.filter (fun x => x.1 == "io.EOF") = [("io.EOF", Go.Proofs.YtlijjnjpomnphaaGreatDoor.Rows.laid_io_EOF)])
  (e2 : l.filter (fun x => x.1 == "pub-primogeniture/pub/bigall.errNoDigits") = [("pub-primogeniture/pub/bigall.errNoDigits", Go.Proofs.YtlijjnjpomnphaaGreatDoor.Rows.laid_pub_primogeniture_pub_bigall_errNoDigits)])
  (e3 : l.filter (fun x => x.1 == "pub-primogeniture/pub/scalibr/semantic.ErrInvalidVersion") = [("pub-primogeniture/pub/scalibr/semantic.ErrInvalidVersion", Go.Proofs.YtlijjnjpomnphaaGreatDoor.Rows.laid_pub_primogeniture_pub_scalibr_semantic_ErrInvalidVersion)]) : GL W := by
 have one : ∀ (n : String) (d : DataW Unit), l.filter (fun x => x.1 == n) = [(n, d)] → d.handleName?.isNone = true → laidMet Tryz.prog [(n, d)] W := by
  intro n d e hd
  have h := hL.filter (fun x => x.1 == n)
  rw [e, MakeChecks.laidMetH_plain _ _ _ (by simp [hd])] at h
  exact h
 obtain ⟨h1, g1⟩ := sent (g := 2) (by kernel_rfl) (by kernel_rfl) (one _ _ e1 (by kernel_rfl))
 obtain ⟨h2, g2⟩ := sent (g := 7) (by kernel_rfl) (by kernel_rfl) (one _ _ e2 (by kernel_rfl))
 obtain ⟨h3, g3⟩ := sent (g := 0) (by kernel_rfl) (by kernel_rfl) (one _ _ e3 (by kernel_rfl))
 exact ⟨by omega, h3, h1, h2⟩
end Go.Proofs.YtlijjnjpomnphaaGreatDoorG
end
section
namespace Go.Proofs.YtlijjnjpomnphaaGreatDoorW.PrintWords
open Go.ChangeShapes Go.WideShapes
theorem sized_ints {H : Type} {enc : TypeId × Value → H} {P : Program} {W : World} {base : Nat} {spare : Nat → Bool} {held : Bool} {t e : TypeId} {k : IntKind} {a : Option Addr} {len cap : Nat} {d : DataW H} {ps : List MemPlace} {ts : List TypeId} {ds : List (DataW H)} {j : Nat}
    (hsz : (DataW.weightsEach P ts ds).all (· ≤ reachBytes) = true) (ht : ts[j]? = some t) (hd : ds[j]? = some d) (hu : P.underlying t = some (.slice e)) (he : P.underlying e = some (.int k)) (hc : P.cellsOf e = 1) {B : Nat} (hB : P.bytesOf e = B)
    (h : DataW.Trod enc P W base spare held t (.slice a len cap) d ps) : len * B ≤ 140737488351232 := by
  obtain ⟨fuel, hf⟩ := h
  rcases open_ints hu he hc hf with ⟨hcs, _⟩ | ⟨x, l, c, zs, hcs, _, hl, _, hz, hx, _, _⟩
  · simp [Value.cells] at hcs
    obtain ⟨rfl, rfl, rfl⟩ := hcs
    simp
  · simp [Value.cells] at hcs
    obtain ⟨rfl, rfl, rfl⟩ := hcs
    obtain ⟨hx, _⟩ := Prod.mk.inj hx
    subst hx
    have z := sized_slice hsz ht hd hu
    rw [hB] at z
    have hl2 : len ≤ zs.length := by
      rw [hz]
      split
      · exact hl
      · exact Nat.le_refl _
    have h1 : (lits (H := H) k (zs.take len)).length + (lits (H := H) k (zs.drop len)).length = zs.length := by
      simp [lits]
      omega
    rw [h1] at z
    exact Nat.le_trans (Nat.mul_le_mul_right _ hl2) z
end Go.Proofs.YtlijjnjpomnphaaGreatDoorW.PrintWords
end
