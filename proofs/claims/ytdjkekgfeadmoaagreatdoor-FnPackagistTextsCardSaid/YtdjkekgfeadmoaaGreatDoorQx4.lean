/- Proved here: each Go function that is named in this text, called as its theorem 'calls' says, returns what its Lean function 'f' tells, and of the memory that was there nothing is changed (a row of a law: the law returns true). Conditions: those that stand in each theorem; where 'f' tells none, nothing is said. Laid by a program of this seat's prover out of the translation; Lean checks it. -/
import Derived.Test.YtdjkekgfeadmoaaGreatDoorQx0
import Derived.Test.YtdjkekgfeadmoaaGreatDoorQx3
namespace Go.Proofs.YtdjkekgfeadmoaaGreatDoor.Q
open Go.RowKit Go.Proofs.YtdjkekgfeadmoaaGreatDoorH Go.Proofs.YtdjkekgfeadmoaaGreatDoorG Go.Proofs.YtdjkekgfeadmoaaGreatDoorW.PrintWords Go.Proofs.YtdjkekgfeadmoaaGreatDoorW.PrintLast Go.Proofs.YtdjkekgfeadmoaaGreatDoorW.PrintMore
attribute [local go_sem] max2_int min2_int max_two min_two max_three min_three max_four min_four   -- for this text's walks alone
set_option linter.unusedVariables false
set_option linter.unusedSimpArgs false

/-! ### stringslite_TrimPrefix: function 42 -/
def stringslite_TrimPrefix.f (a0 : ByteArray) (a1 : ByteArray) : Option (ByteArray) := (stringslite_HasPrefix.f a0 a1).bind fun t149 => (if t149 = true then (if 0 ≤ (a1.size : Int) then (if (a1.size : Int) ≤ (a0.size : Int) then (some (a0.extract ((a1.size : Int) : Int).toNat a0.size)) else (none)) else (none)) else (some a0))
set_option maxHeartbeats 8000000 in
set_option maxRecDepth 100000 in
theorem stringslite_TrimPrefix.calls (a0 : ByteArray) (a1 : ByteArray) (r : ByteArray) (w : World) (h : stringslite_TrimPrefix.f a0 a1 = some r) :
  Calls Tryz.prog 42 #[.string a0, .string a1] w fun e w' => e = .returned (.string r) ∧ Drawn0 w w' := by
 have H : ((stringslite_HasPrefix.f a0 a1).bind fun t149 => (if t149 = true then (if 0 ≤ (a1.size : Int) then (if (a1.size : Int) ≤ (a0.size : Int) then (some (a0.extract ((a1.size : Int) : Int).toNat a0.size)) else (none)) else (none)) else (some a0))) = some r := h
 clear h
 replace H := Option.bind_eq_some_iff.mp H
 obtain ⟨t149, A30, H⟩ := H
 replace H : (if t149 = true then (if 0 ≤ (a1.size : Int) then (if (a1.size : Int) ≤ (a0.size : Int) then (some (a0.extract ((a1.size : Int) : Int).toNat a0.size)) else (none)) else (none)) else (some a0)) = some r := H
 have A3 := Aside0.mk A30
 clear A30
 by_cases c4 : t149 = true
 ·subst c4
  have H1 : (if 0 ≤ (a1.size : Int) then (if (a1.size : Int) ≤ (a0.size : Int) then (some (a0.extract ((a1.size : Int) : Int).toNat a0.size)) else (none)) else (none)) = some r := by rw [if_pos rfl] at H; exact H
  clear H
  have H := H1
  clear H1
  by_cases c5 : 0 ≤ (a1.size : Int)
  ·rw [if_pos c5] at H
   have c5b0 := eq_true c5
   have c5b1 : decide (0 ≤ (a1.size : Int)) = true := decide_eq_true c5
   clear c5
   by_cases c6 : (a1.size : Int) ≤ (a0.size : Int)
   ·rw [if_pos c6] at H
    have c6b0 := eq_true c6
    have c6b1 : decide ((a1.size : Int) ≤ (a0.size : Int)) = true := decide_eq_true c6
    clear c6
    obtain rfl := Option.some.inj H
    go_enter Tryz.func42, Tryz.ntmps42
    go_wp2_with (first | ((with_reducible refine gate_callee (f := 50) rfl ?_); refine goesL_ (some 7) rfl rfl Tryz.func50 (by kernel_rfl) rfl #[.string a0, .string a1] rfl (by (try simp only [List.map_toArray, List.map_cons, List.map_nil]); first | done | rfl | (simp only [List.length_drop, List.length_take]; rfl)) ?_; (with_reducible refine (stringslite_HasPrefix.calls a0 a1 true _ A3.out).mono ?_); rintro e w' ⟨rfl, ⟨nd, rfl⟩⟩; refine ⟨_, rfl, ?_⟩))
    go_ret
    exact ⟨by first | rfl | (simp; done) | (simp [*]; done) | (simp [bne_nil_hyb]; done) | (simp [bne_nil_hyb, *]; done), by repeat (first | exact Drawn0.refl _ | apply Drawn0.step)⟩
   ·rw [if_neg c6] at H
    exact absurd H (by simp)
  ·rw [if_neg c5] at H
   exact absurd H (by simp)
 ·replace c4 := Bool.eq_false_iff.mpr c4
  subst c4
  have H1 : (some a0) = some r := by rw [if_neg (show ¬ (false = true) by decide)] at H; exact H
  clear H
  have H := H1
  clear H1
  obtain rfl := Option.some.inj H
  go_enter Tryz.func42, Tryz.ntmps42
  go_wp2_with (first | ((with_reducible refine gate_callee (f := 50) rfl ?_); refine goesL_ (some 7) rfl rfl Tryz.func50 (by kernel_rfl) rfl #[.string a0, .string a1] rfl (by (try simp only [List.map_toArray, List.map_cons, List.map_nil]); first | done | rfl | (simp only [List.length_drop, List.length_take]; rfl)) ?_; (with_reducible refine (stringslite_HasPrefix.calls a0 a1 false _ A3.out).mono ?_); rintro e w' ⟨rfl, ⟨nd, rfl⟩⟩; refine ⟨_, rfl, ?_⟩))
  go_ret
  exact ⟨by first | rfl | (simp; done) | (simp [*]; done) | (simp [bne_nil_hyb]; done) | (simp [bne_nil_hyb, *]; done), by repeat (first | exact Drawn0.refl _ | apply Drawn0.step)⟩

/-! ### strings_TrimPrefix: function 32 -/
def strings_TrimPrefix.f (a0 : ByteArray) (a1 : ByteArray) : Option (ByteArray) := (stringslite_TrimPrefix.f a0 a1).bind fun t150 => (some t150)
set_option maxHeartbeats 8000000 in
set_option maxRecDepth 100000 in
theorem strings_TrimPrefix.calls (a0 : ByteArray) (a1 : ByteArray) (r : ByteArray) (w : World) (h : strings_TrimPrefix.f a0 a1 = some r) :
  Calls Tryz.prog 32 #[.string a0, .string a1] w fun e w' => e = .returned (.string r) ∧ Drawn0 w w' := by
 have H : ((stringslite_TrimPrefix.f a0 a1).bind fun t150 => (some t150)) = some r := h
 clear h
 replace H := Option.bind_eq_some_iff.mp H
 obtain ⟨t150, A30, H⟩ := H
 replace H : (some t150) = some r := H
 have A3 := Aside0.mk A30
 clear A30
 obtain rfl := Option.some.inj H
 go_enter Tryz.func32, Tryz.ntmps32
 go_wp2_with (first | ((with_reducible refine gate_callee (f := 42) rfl ?_); refine goesL_ (some 7) rfl rfl Tryz.func42 (by kernel_rfl) rfl #[.string a0, .string a1] rfl (by (try simp only [List.map_toArray, List.map_cons, List.map_nil]); first | done | rfl | (simp only [List.length_drop, List.length_take]; rfl)) ?_; (with_reducible refine (stringslite_TrimPrefix.calls a0 a1 t150 _ A3.out).mono ?_); rintro e w' ⟨rfl, ⟨nd, rfl⟩⟩; refine ⟨_, rfl, ?_⟩))
 go_ret
 exact ⟨by first | rfl | (simp; done) | (simp [*]; done) | (simp [bne_nil_hyb]; done) | (simp [bne_nil_hyb, *]; done), by repeat (first | exact Drawn0.refl _ | apply Drawn0.step)⟩

-- BY HAND: function 33 (semantic_zzPointed)

-- NOT PRINTED: function 51 (utf8_decodeRuneInStringSlow)

/-! ### utf8_DecodeRuneInString: function 43 -/
def utf8_DecodeRuneInString.f (a0 : ByteArray) : Option (Int × Int) := if a0.toList = ([] : List UInt8) then (none) else (if 0 < (a0.size : Int) then (if (bt a0 0) < 128 then (some (wrap32 (bt a0 0), 1)) else (none)) else (none))
set_option maxHeartbeats 8000000 in
set_option maxRecDepth 100000 in
theorem utf8_DecodeRuneInString.calls (a0 : ByteArray) (r1 : Int) (r2 : Int) (w : World) (h : utf8_DecodeRuneInString.f a0 = some (r1, r2)) :
  Calls Tryz.prog 43 #[.string a0] w fun e w' => e = .returned (.tuple #[.int .i32 r1, .int .i64 r2]) ∧ Drawn0 w w' := by
 have H : (if a0.toList = ([] : List UInt8) then (none) else (if 0 < (a0.size : Int) then (if (bt a0 0) < 128 then (some (wrap32 (bt a0 0), 1)) else (none)) else (none))) = some (r1, r2) := h
 clear h
 by_cases c2 : a0.toList = ([] : List UInt8)
 ·rw [if_pos c2] at H
  exact absurd H (by simp)
 ·rw [if_neg c2] at H
  have c2b0 : (a0.toList == ([] : List UInt8)) = false := beq_eq_false_iff_ne.mpr c2
  have c2b1 : (a0.toList != ([] : List UInt8)) = true := bne_iff_ne.mpr c2
  by_cases c3 : 0 < (a0.size : Int)
  ·rw [if_pos c3] at H
   have c3b0 : decide (0 < (a0.size : Int)) = true := decide_eq_true c3
   have c3b1 : decide (0 < a0.size) = true := decide_eq_true (by omega)
   clear c3
   by_cases c5 : (bt a0 0) < 128
   ·rw [if_pos c5] at H
    have c5b0 : decide ((bt a0 0) < 128) = true := decide_eq_true c5
    clear c5
    simp only [Option.some.injEq, Prod.mk.injEq] at H
    obtain ⟨rfl, rfl⟩ := H
    have p4 : 0 ≤ (0 : Int) := (by omega)
    have q4 : 0 < a0.size := (by have : (0 : Int) < (a0.size : Int) := of_decide_eq_true (by first | (with_reducible assumption) | assumption); omega)
    have hx4 : ∀ h : 0 < a0.size, ((a0[0]'h).toNat : Int) = bt a0 0 := bt_at a0 0
    clear p4
    have qi4 : (0 < (a0.size : Int)) = True := eq_true (of_decide_eq_true (by first | (with_reducible assumption) | assumption))
    replace q4 := eq_true q4
    have p6 : 0 ≤ (0 : Int) := (by omega)
    have q6 : 0 < a0.size := (by have : (0 : Int) < (a0.size : Int) := of_decide_eq_true (by first | (with_reducible assumption) | assumption); omega)
    have hx6 : ∀ h : 0 < a0.size, ((a0[0]'h).toNat : Int) = bt a0 0 := bt_at a0 0
    clear p6
    have qi6 : (0 < (a0.size : Int)) = True := eq_true (of_decide_eq_true (by first | (with_reducible assumption) | assumption))
    replace q6 := eq_true q6
    go_enter Tryz.func43, Tryz.ntmps43
    go_wp2
    go_ret2
    exact ⟨by first | rfl | (simp; done) | (simp [*]; done) | (simp [bne_nil_hyb]; done) | (simp [bne_nil_hyb, *]; done), by repeat (first | exact Drawn0.refl _ | apply Drawn0.step)⟩
   ·rw [if_neg c5] at H
    exact absurd H (by simp)
  ·rw [if_neg c3] at H
   exact absurd H (by simp)

/-! ### semantic_zzDigit: function 44 -/
def semantic_zzDigit.f (a0 : Int) : Option (Bool) := if a0 ≥ 48 then (some (decide (a0 ≤ 57))) else (some false)
set_option maxHeartbeats 8000000 in
set_option maxRecDepth 100000 in
theorem semantic_zzDigit.calls (a0 : Int) (r : Bool) (w : World) (h : semantic_zzDigit.f a0 = some r) :
  Calls Tryz.prog 44 #[.int .u8 a0] w fun e w' => e = .returned (.bool r) ∧ Drawn0 w w' := by
 have H : (if a0 ≥ 48 then (some (decide (a0 ≤ 57))) else (some false)) = some r := h
 clear h
 by_cases c2 : a0 ≥ 48
 ·rw [if_pos c2] at H
  have c2b0 : decide (48 ≤ a0) = true := decide_eq_true c2
  clear c2
  obtain rfl := Option.some.inj H
  go_enter Tryz.func44, Tryz.ntmps44
  go_wp2
  go_ret
  exact ⟨by first | rfl | (simp; done) | (simp [*]; done) | (simp [bne_nil_hyb]; done) | (simp [bne_nil_hyb, *]; done), by repeat (first | exact Drawn0.refl _ | apply Drawn0.step)⟩
 ·rw [if_neg c2] at H
  have c2b0 : decide (48 ≤ a0) = false := decide_eq_false c2
  clear c2
  obtain rfl := Option.some.inj H
  go_enter Tryz.func44, Tryz.ntmps44
  go_wp2
  go_ret
  exact ⟨by first | rfl | (simp; done) | (simp [*]; done) | (simp [bne_nil_hyb]; done) | (simp [bne_nil_hyb, *]; done), by repeat (first | exact Drawn0.refl _ | apply Drawn0.step)⟩

/-! ### semantic_zzParted: function 34 -/
def semantic_zzParted.l0 : Nat → ByteArray → Bool → List Int → Int → Option (ByteArray)
 | 0, _, _, _, _ => none
 | k + 1, x0, x1, x5, x6 => if x6 < (x0.size : Int) then (if 0 ≤ x6 then (if x6 ≤ (x0.size : Int) then ((utf8_DecodeRuneInString.f (x0.extract (x6 : Int).toNat x0.size)).bind fun bt151 => (if (bt x0 x6) = 46 then (if x6 ≤ (wrap64 (x6 + bt151.2)) then (if (wrap64 (x6 + bt151.2)) ≤ (x0.size : Int) then (if x5.length + (x0.extract (x6 : Int).toNat ((wrap64 (x6 + bt151.2)) : Int).toNat).size < 140737488355328 then (semantic_zzParted.l0 k x0 x1 (x5 ++ bytesOf (x0.extract (x6 : Int).toNat ((wrap64 (x6 + bt151.2)) : Int).toNat)) (wrap64 (x6 + bt151.2))) else (none)) else (none)) else (none)) else ((semantic_zzDigit.f (bt x0 x6)).bind fun t156 => (if (t156 != x1) = true then (if x6 ≤ (wrap64 (x6 + bt151.2)) then (if (wrap64 (x6 + bt151.2)) ≤ (x0.size : Int) then (if x5.length + (x0.extract (x6 : Int).toNat ((wrap64 (x6 + bt151.2)) : Int).toNat).size < 140737488355328 then (semantic_zzParted.l0 k x0 x1 (x5 ++ bytesOf (x0.extract (x6 : Int).toNat ((wrap64 (x6 + bt151.2)) : Int).toNat)) (wrap64 (x6 + bt151.2))) else (none)) else (none)) else (none)) else (if (wrap64 (x6 + bt151.2)) ≥ (x0.size : Int) then (if x6 ≤ (wrap64 (x6 + bt151.2)) then (if (wrap64 (x6 + bt151.2)) ≤ (x0.size : Int) then (if x5.length + (x0.extract (x6 : Int).toNat ((wrap64 (x6 + bt151.2)) : Int).toNat).size < 140737488355328 then (semantic_zzParted.l0 k x0 x1 (x5 ++ bytesOf (x0.extract (x6 : Int).toNat ((wrap64 (x6 + bt151.2)) : Int).toNat)) (wrap64 (x6 + bt151.2))) else (none)) else (none)) else (none)) else (if 0 ≤ (wrap64 (x6 + bt151.2)) then (if (wrap64 (x6 + bt151.2)) < (x0.size : Int) then (if (bt x0 (wrap64 (x6 + bt151.2))) = 46 then (if x6 ≤ (wrap64 (x6 + bt151.2)) then (if (wrap64 (x6 + bt151.2)) ≤ (x0.size : Int) then (if x5.length + (x0.extract (x6 : Int).toNat ((wrap64 (x6 + bt151.2)) : Int).toNat).size < 140737488355328 then (semantic_zzParted.l0 k x0 x1 (x5 ++ bytesOf (x0.extract (x6 : Int).toNat ((wrap64 (x6 + bt151.2)) : Int).toNat)) (wrap64 (x6 + bt151.2))) else (none)) else (none)) else (none)) else ((semantic_zzDigit.f (bt x0 (wrap64 (x6 + bt151.2)))).bind fun t166 => (if (t166 == x1) = true then (if x6 ≤ (wrap64 (x6 + bt151.2)) then (if (wrap64 (x6 + bt151.2)) ≤ (x0.size : Int) then (if x5.length + (x0.extract (x6 : Int).toNat ((wrap64 (x6 + bt151.2)) : Int).toNat).size < 140737488355328 then (semantic_zzParted.l0 k x0 x1 (x5 ++ bytesOf (x0.extract (x6 : Int).toNat ((wrap64 (x6 + bt151.2)) : Int).toNat)) (wrap64 (x6 + bt151.2))) else (none)) else (none)) else (none)) else (if (wrap64 (x6 + bt151.2)) ≤ (x0.size : Int) then ((utf8_DecodeRuneInString.f (x0.extract ((wrap64 (x6 + bt151.2)) : Int).toNat x0.size)).bind fun bt170 => (if x6 ≤ (wrap64 (x6 + bt151.2)) then (if x5.length + (x0.extract (x6 : Int).toNat ((wrap64 (x6 + bt151.2)) : Int).toNat).size < 140737488355328 then ((some (x5 ++ bytesOf (x0.extract (x6 : Int).toNat ((wrap64 (x6 + bt151.2)) : Int).toNat) : List Int)).bind fun y172 => ((some (([46] : List Int) : List Int)).bind fun y175 => (if y172.length + y175.length < 140737488355328 then ((some (y172 ++ y175 : List Int)).bind fun y178 => (if (wrap64 (x6 + bt151.2)) ≤ (wrap64 ((wrap64 (x6 + bt151.2)) + bt170.2)) then (if (wrap64 ((wrap64 (x6 + bt151.2)) + bt170.2)) ≤ (x0.size : Int) then (if y178.length + (x0.extract ((wrap64 (x6 + bt151.2)) : Int).toNat ((wrap64 ((wrap64 (x6 + bt151.2)) + bt170.2)) : Int).toNat).size < 140737488355328 then (semantic_zzParted.l0 k x0 x1 (y178 ++ bytesOf (x0.extract ((wrap64 (x6 + bt151.2)) : Int).toNat ((wrap64 ((wrap64 (x6 + bt151.2)) + bt170.2)) : Int).toNat)) (wrap64 ((wrap64 (x6 + bt151.2)) + bt170.2))) else (none)) else (none)) else (none))) else (none)))) else (none)) else (none))) else (none))))) else (none)) else (none))))))) else (none)) else (none)) else (some (strOfNums x5))
def semantic_zzParted.f (k : Nat) (a0 : ByteArray) (a1 : Bool) : Option (ByteArray) := semantic_zzParted.l0 k a0 a1 ([] : List Int) 0
theorem semantic_zzParted.mono_l : ∀ k, (∀ y0 y1 y2 y3, LeO (semantic_zzParted.l0 k y0 y1 y2 y3) (semantic_zzParted.l0 (k + 1) y0 y1 y2 y3))
 | 0 => fun _ _ _ _ r h => by simp [semantic_zzParted.l0] at h
 | k + 1 => by
  have ih0 := semantic_zzParted.mono_l k
  ·intro y0 y1 y2 y3
   unfold semantic_zzParted.l0
   repeat' first
   | (with_reducible exact ih0 _ _ _ _)
   | (with_reducible exact LeO.refl _)
   | (with_reducible exact LeO.none _)
   | (with_reducible refine LeO.ite ?_ ?_)
   | (with_reducible refine LeO.bind ?_ (fun _ => ?_))
   | exact ih0 _ _ _ _
   | exact LeO.none _
   | refine LeO.ite ?_ ?_
   | refine LeO.bind ?_ (fun _ => ?_)
theorem semantic_zzParted.mono : ∀ a0 a1 k, LeO (semantic_zzParted.f k a0 a1) (semantic_zzParted.f (k + 1) a0 a1) := by
 intro a0 a1 k
 have ih0 := semantic_zzParted.mono_l k
 unfold semantic_zzParted.f
 repeat' first
   | (with_reducible exact ih0 _ _ _ _)
   | (with_reducible exact LeO.refl _)
   | (with_reducible exact LeO.none _)
   | (with_reducible refine LeO.ite ?_ ?_)
   | (with_reducible refine LeO.bind ?_ (fun _ => ?_))
   | exact ih0 _ _ _ _
   | exact LeO.none _
   | refine LeO.ite ?_ ?_
   | refine LeO.bind ?_ (fun _ => ?_)
def semantic_zzParted.T10 : Bool × List (List Nat × List Nat) := (true, [([], []), ([], []), ([], []), ([], []), ([1, 2, 3], [1, 2, 3]), ([0, 4], [0, 4]), ([], []), ([5, 6, 5], [5, 6]), ([], []), ([], []), ([], []), ([], []), ([10, 11], [10, 11]), ([8, 9, 12], [8, 9, 12]), ([7, 13, 7], [7, 13]), ([14, 14, 0, 1, 2, 3, 4, 5, 6, 7, 8, 9, 10, 11, 12, 13, 14], [0, 14])])
def semantic_zzParted.B10 : List Nat := [0, 0, 0, 0, 14, 31, 0, 127, 0, 0, 0, 0, 3072, 7936, 16383, 32767]
theorem semantic_zzParted.tab10 : rtab .any (opsOf Tryz.f34 10) = semantic_zzParted.T10 := by kernel_rfl
theorem semantic_zzParted.bits10 : waitsOk semantic_zzParted.T10.2 semantic_zzParted.B10 = true := by kernel_rfl
set_option maxHeartbeats 8000000 in
set_option maxRecDepth 100000 in
theorem semantic_zzParted.calls (k : Nat) (a0 : ByteArray) (a1 : Bool) (r : ByteArray) (w : World) (h : semantic_zzParted.f k a0 a1 = some r) :
  Calls Tryz.prog 34 #[.string a0, .bool a1] w fun e w' => e = .returned (.string r) ∧ Below w.heap.size w w' := by
 have HB := Aside0.mk (Below.refl w.heap.size w)
 have H : (semantic_zzParted.l0 k a0 a1 ([] : List Int) 0) = some r := h
 clear h
 have H' := Aside0.mk H
 clear H
 go_enter Tryz.func34, Tryz.ntmps34
 go_wp2
 (try simp only [Act.put, List.setIfInBounds_toArray, List.set_cons_zero, List.set_cons_succ])
 go_loopg [5, 6] k (fun kq v5 v6 w' => ∃ (x5_1 : List Int) (x6_1 : Int), v6 = .int .i64 x6_1 ∧ Aside0 (semantic_zzParted.l0 kq a0 a1 x5_1 x6_1 = some r) ∧ Aside0 (kq ≤ k) ∧ Aside0 (Kd.R (Kd.int .u8) 5 w' w.heap.size (fun _ => True) v5 x5_1) ∧ Aside0 (Below w.heap.size w w'))
 case atStart => exact ⟨(([] : List Int)), (0), (by first | rfl | (simp; done) | (simp [*]; done) | (simp [bne_nil_hyb]; done) | (simp [bne_nil_hyb, *]; done)), H', ⟨Nat.le_refl _⟩, ⟨by first | exact Kd.R_nil _ _ _ _ _ | exact Kd.N_nil _ _ _ _ _ | exact Kd.V_nil _ _ _ _ _ | exact Kd.Q_nil _ _ _ _ _ | exact Kd.S_nil _ _ _ _ _⟩, ⟨by repeat (first | (with_reducible first | exact HB.out | apply below_alloc | apply pw_below_drewN | apply below_drew1) | exact HB.out)⟩⟩
 case round =>
  clear H'
  try clear p2
  obtain ⟨x5_1, x6_1, rfl, HA, HK1, HO_5, HB⟩ := hrel
  cases gk with
  | zero => exact absurd HA.out (by simp [semantic_zzParted.l0])
  | succ k1 =>
   have H := HA.out
   clear HA
   simp only [semantic_zzParted.l0] at H
   by_cases c3 : x6_1 < (a0.size : Int)
   ·rw [if_pos c3] at H
    have c3b0 : decide (x6_1 < (a0.size : Int)) = true := decide_eq_true c3
    clear c3
    by_cases c4 : 0 ≤ x6_1
    ·rw [if_pos c4] at H
     have c4b0 := eq_true c4
     have c4b1 : decide (0 ≤ x6_1) = true := decide_eq_true c4
     clear c4
     by_cases c5 : x6_1 ≤ (a0.size : Int)
     ·rw [if_pos c5] at H
      have c5b0 := eq_true c5
      have c5b1 : decide (x6_1 ≤ (a0.size : Int)) = true := decide_eq_true c5
      clear c5
      replace H := Option.bind_eq_some_iff.mp H
      obtain ⟨⟨t151, t152⟩, A60, H⟩ := H
      replace H : (if (bt a0 x6_1) = 46 then (if x6_1 ≤ (wrap64 (x6_1 + t152)) then (if (wrap64 (x6_1 + t152)) ≤ (a0.size : Int) then (if x5_1.length + (a0.extract (x6_1 : Int).toNat ((wrap64 (x6_1 + t152)) : Int).toNat).size < 140737488355328 then (semantic_zzParted.l0 k1 a0 a1 (x5_1 ++ bytesOf (a0.extract (x6_1 : Int).toNat ((wrap64 (x6_1 + t152)) : Int).toNat)) (wrap64 (x6_1 + t152))) else (none)) else (none)) else (none)) else ((semantic_zzDigit.f (bt a0 x6_1)).bind fun t156 => (if (t156 != a1) = true then (if x6_1 ≤ (wrap64 (x6_1 + t152)) then (if (wrap64 (x6_1 + t152)) ≤ (a0.size : Int) then (if x5_1.length + (a0.extract (x6_1 : Int).toNat ((wrap64 (x6_1 + t152)) : Int).toNat).size < 140737488355328 then (semantic_zzParted.l0 k1 a0 a1 (x5_1 ++ bytesOf (a0.extract (x6_1 : Int).toNat ((wrap64 (x6_1 + t152)) : Int).toNat)) (wrap64 (x6_1 + t152))) else (none)) else (none)) else (none)) else (if (wrap64 (x6_1 + t152)) ≥ (a0.size : Int) then (if x6_1 ≤ (wrap64 (x6_1 + t152)) then (if (wrap64 (x6_1 + t152)) ≤ (a0.size : Int) then (if x5_1.length + (a0.extract (x6_1 : Int).toNat ((wrap64 (x6_1 + t152)) : Int).toNat).size < 140737488355328 then (semantic_zzParted.l0 k1 a0 a1 (x5_1 ++ bytesOf (a0.extract (x6_1 : Int).toNat ((wrap64 (x6_1 + t152)) : Int).toNat)) (wrap64 (x6_1 + t152))) else (none)) else (none)) else (none)) else (if 0 ≤ (wrap64 (x6_1 + t152)) then (if (wrap64 (x6_1 + t152)) < (a0.size : Int) then (if (bt a0 (wrap64 (x6_1 + t152))) = 46 then (if x6_1 ≤ (wrap64 (x6_1 + t152)) then (if (wrap64 (x6_1 + t152)) ≤ (a0.size : Int) then (if x5_1.length + (a0.extract (x6_1 : Int).toNat ((wrap64 (x6_1 + t152)) : Int).toNat).size < 140737488355328 then (semantic_zzParted.l0 k1 a0 a1 (x5_1 ++ bytesOf (a0.extract (x6_1 : Int).toNat ((wrap64 (x6_1 + t152)) : Int).toNat)) (wrap64 (x6_1 + t152))) else (none)) else (none)) else (none)) else ((semantic_zzDigit.f (bt a0 (wrap64 (x6_1 + t152)))).bind fun t166 => (if (t166 == a1) = true then (if x6_1 ≤ (wrap64 (x6_1 + t152)) then (if (wrap64 (x6_1 + t152)) ≤ (a0.size : Int) then (if x5_1.length + (a0.extract (x6_1 : Int).toNat ((wrap64 (x6_1 + t152)) : Int).toNat).size < 140737488355328 then (semantic_zzParted.l0 k1 a0 a1 (x5_1 ++ bytesOf (a0.extract (x6_1 : Int).toNat ((wrap64 (x6_1 + t152)) : Int).toNat)) (wrap64 (x6_1 + t152))) else (none)) else (none)) else (none)) else (if (wrap64 (x6_1 + t152)) ≤ (a0.size : Int) then ((utf8_DecodeRuneInString.f (a0.extract ((wrap64 (x6_1 + t152)) : Int).toNat a0.size)).bind fun bt170 => (if x6_1 ≤ (wrap64 (x6_1 + t152)) then (if x5_1.length + (a0.extract (x6_1 : Int).toNat ((wrap64 (x6_1 + t152)) : Int).toNat).size < 140737488355328 then ((some (x5_1 ++ bytesOf (a0.extract (x6_1 : Int).toNat ((wrap64 (x6_1 + t152)) : Int).toNat) : List Int)).bind fun y172 => ((some (([46] : List Int) : List Int)).bind fun y175 => (if y172.length + y175.length < 140737488355328 then ((some (y172 ++ y175 : List Int)).bind fun y178 => (if (wrap64 (x6_1 + t152)) ≤ (wrap64 ((wrap64 (x6_1 + t152)) + bt170.2)) then (if (wrap64 ((wrap64 (x6_1 + t152)) + bt170.2)) ≤ (a0.size : Int) then (if y178.length + (a0.extract ((wrap64 (x6_1 + t152)) : Int).toNat ((wrap64 ((wrap64 (x6_1 + t152)) + bt170.2)) : Int).toNat).size < 140737488355328 then (semantic_zzParted.l0 k1 a0 a1 (y178 ++ bytesOf (a0.extract ((wrap64 (x6_1 + t152)) : Int).toNat ((wrap64 ((wrap64 (x6_1 + t152)) + bt170.2)) : Int).toNat)) (wrap64 ((wrap64 (x6_1 + t152)) + bt170.2))) else (none)) else (none)) else (none))) else (none)))) else (none)) else (none))) else (none))))) else (none)) else (none)))))) = some r := H
      have A6 := Aside0.mk A60
      clear A60
      by_cases c8 : (bt a0 x6_1) = 46
      ·rw [if_pos c8] at H
       have c8b0 : ((bt a0 x6_1) == 46) = true := beq_iff_eq.mpr c8
       have c8b1 : ((bt a0 x6_1) != 46) = false := bne_eq_false_iff_eq.mpr c8
       clear c8
       have c9b0 := eq_true (of_decide_eq_true (by first | (with_reducible assumption) | assumption) : 0 ≤ x6_1)
       by_cases c10 : x6_1 ≤ (wrap64 (x6_1 + t152))
       ·rw [if_pos c10] at H
        have c10b0 := eq_true c10
        have c10b1 : decide (x6_1 ≤ (wrap64 (x6_1 + t152))) = true := decide_eq_true c10
        by_cases c11 : (wrap64 (x6_1 + t152)) ≤ (a0.size : Int)
        ·rw [if_pos c11] at H
         have c11b0 := eq_true c11
         have c11b1 : decide ((wrap64 (x6_1 + t152)) ≤ (a0.size : Int)) = true := decide_eq_true c11
         by_cases c12 : x5_1.length + (a0.extract (x6_1 : Int).toNat ((wrap64 (x6_1 + t152)) : Int).toNat).size < 140737488355328
         ·rw [if_pos c12] at H
          have LMc12 := Aside0.mk c12
          clear c12
          obtain ⟨y153, hy153⟩ : ∃ y_ : List Int, y_ = (x5_1 ++ bytesOf (a0.extract (x6_1 : Int).toNat ((wrap64 (x6_1 + t152)) : Int).toNat)) := ⟨_, rfl⟩
          replace H : (semantic_zzParted.l0 k1 a0 a1 y153 (wrap64 (x6_1 + t152))) = some r := by first | (rw [hy153]; with_reducible exact H) | (have H2_ := (Option.bind_some _ _).symm.trans H; rw [hy153]; with_reducible exact H2_) | (have H2_ := (Option.bind_some _ _).symm.trans H; with_reducible exact H2_) | with_reducible exact H | (rw [hy153]; exact H) | exact H
          have Ny153 := Aside0.mk hy153
          clear hy153
          have H' := Aside0.mk H
          clear H
          go_wp2_with (first | ((with_reducible refine gate_callee (f := 43) rfl ?_); refine goesL_ (some 18) rfl rfl Tryz.func43 (by kernel_rfl) rfl #[.string (a0.extract (x6_1 : Int).toNat a0.size)] rfl (by (try simp only [List.map_toArray, List.map_cons, List.map_nil]); first | done | rfl | (simp only [List.length_drop, List.length_take]; rfl)) ?_; (with_reducible refine (utf8_DecodeRuneInString.calls (a0.extract (x6_1 : Int).toNat a0.size) t151 t152 _ A6.out).mono ?_); rintro e w' ⟨rfl, ⟨nd, rfl⟩⟩; refine ⟨_, rfl, ?_⟩; have p7 : 0 ≤ (x6_1 : Int) := of_decide_eq_true (by first | (with_reducible assumption) | assumption); have q7 : x6_1 < (a0.size : Int) := of_decide_eq_true (by first | (with_reducible assumption) | assumption); have hx7 := bt_at a0 x6_1; replace p7 := eq_true p7; replace q7 := eq_true q7) | (at_builtin; refine R_append_str (w0 := w) w.heap.size rfl (.tmp 56) _ 45 9 5 rfl Tryz.underlying45 Tryz.underlying9 info5 u5 x5_1 (a0.extract (x6_1 : Int).toNat ((wrap64 (x6_1 + t152)) : Int).toNat) (fun _ => True) rfl rfl ?aF ?aO ?aB ?aS ?aL ?_; (case aB => exact (by repeat (first | (with_reducible first | exact HB.out | apply below_alloc | apply pw_below_drewN | apply below_drew1) | exact HB.out))); (case aF => exact (fun _ _ => trivial)); (case aO => exact (by (with_reducible repeat (first | apply Kd.R_alloc | apply Kd.R_drewN | apply Kd.R_drew)); exact HO_5.out)); (case aS => exact (below_size (by repeat (first | (with_reducible first | exact HB.out | apply below_alloc | apply pw_below_drewN | apply below_drew1) | exact HB.out)))); (case aL => have := LMc12.out; omega); intro v154 w13 ho hb hg hat; rw [← Ny153.out] at ho; have n0_ := Aside0.mk (hb); have n1_ := Aside0.mk (ho); clear HB; clear HO_5; have HB := n0_; have HO155 := n1_; clear n0_ n1_; clear ho hb hg hat))
          go_roundg k1
          case measure => have := HK1.out; omega
          case rel => exact ⟨(y153), (wrap64 (x6_1 + t152)), (by first | rfl | (simp; done) | (simp [*]; done) | (simp [bne_nil_hyb]; done) | (simp [bne_nil_hyb, *]; done)), H', ⟨by have := HK1.out; omega⟩, ⟨by (with_reducible repeat (first | apply Kd.R_alloc | apply Kd.R_drewN | apply Kd.R_drew)); exact HO155.out⟩, ⟨by repeat (first | (with_reducible first | exact HB.out | apply below_alloc | apply pw_below_drewN | apply below_drew1) | exact HB.out)⟩⟩
         ·rw [if_neg c12] at H
          exact absurd H (by simp)
        ·rw [if_neg c11] at H
         exact absurd H (by simp)
       ·rw [if_neg c10] at H
        exact absurd H (by simp)
      ·rw [if_neg c8] at H
       have c8b0 : ((bt a0 x6_1) == 46) = false := beq_eq_false_iff_ne.mpr c8
       have c8b1 : ((bt a0 x6_1) != 46) = true := bne_iff_ne.mpr c8
       replace H := Option.bind_eq_some_iff.mp H
       obtain ⟨t156, A150, H⟩ := H
       replace H : (if (t156 != a1) = true then (if x6_1 ≤ (wrap64 (x6_1 + t152)) then (if (wrap64 (x6_1 + t152)) ≤ (a0.size : Int) then (if x5_1.length + (a0.extract (x6_1 : Int).toNat ((wrap64 (x6_1 + t152)) : Int).toNat).size < 140737488355328 then (semantic_zzParted.l0 k1 a0 a1 (x5_1 ++ bytesOf (a0.extract (x6_1 : Int).toNat ((wrap64 (x6_1 + t152)) : Int).toNat)) (wrap64 (x6_1 + t152))) else (none)) else (none)) else (none)) else (if (wrap64 (x6_1 + t152)) ≥ (a0.size : Int) then (if x6_1 ≤ (wrap64 (x6_1 + t152)) then (if (wrap64 (x6_1 + t152)) ≤ (a0.size : Int) then (if x5_1.length + (a0.extract (x6_1 : Int).toNat ((wrap64 (x6_1 + t152)) : Int).toNat).size < 140737488355328 then (semantic_zzParted.l0 k1 a0 a1 (x5_1 ++ bytesOf (a0.extract (x6_1 : Int).toNat ((wrap64 (x6_1 + t152)) : Int).toNat)) (wrap64 (x6_1 + t152))) else (none)) else (none)) else (none)) else (if 0 ≤ (wrap64 (x6_1 + t152)) then (if (wrap64 (x6_1 + t152)) < (a0.size : Int) then (if (bt a0 (wrap64 (x6_1 + t152))) = 46 then (if x6_1 ≤ (wrap64 (x6_1 + t152)) then (if (wrap64 (x6_1 + t152)) ≤ (a0.size : Int) then (if x5_1.length + (a0.extract (x6_1 : Int).toNat ((wrap64 (x6_1 + t152)) : Int).toNat).size < 140737488355328 then (semantic_zzParted.l0 k1 a0 a1 (x5_1 ++ bytesOf (a0.extract (x6_1 : Int).toNat ((wrap64 (x6_1 + t152)) : Int).toNat)) (wrap64 (x6_1 + t152))) else (none)) else (none)) else (none)) else ((semantic_zzDigit.f (bt a0 (wrap64 (x6_1 + t152)))).bind fun t166 => (if (t166 == a1) = true then (if x6_1 ≤ (wrap64 (x6_1 + t152)) then (if (wrap64 (x6_1 + t152)) ≤ (a0.size : Int) then (if x5_1.length + (a0.extract (x6_1 : Int).toNat ((wrap64 (x6_1 + t152)) : Int).toNat).size < 140737488355328 then (semantic_zzParted.l0 k1 a0 a1 (x5_1 ++ bytesOf (a0.extract (x6_1 : Int).toNat ((wrap64 (x6_1 + t152)) : Int).toNat)) (wrap64 (x6_1 + t152))) else (none)) else (none)) else (none)) else (if (wrap64 (x6_1 + t152)) ≤ (a0.size : Int) then ((utf8_DecodeRuneInString.f (a0.extract ((wrap64 (x6_1 + t152)) : Int).toNat a0.size)).bind fun bt170 => (if x6_1 ≤ (wrap64 (x6_1 + t152)) then (if x5_1.length + (a0.extract (x6_1 : Int).toNat ((wrap64 (x6_1 + t152)) : Int).toNat).size < 140737488355328 then ((some (x5_1 ++ bytesOf (a0.extract (x6_1 : Int).toNat ((wrap64 (x6_1 + t152)) : Int).toNat) : List Int)).bind fun y172 => ((some (([46] : List Int) : List Int)).bind fun y175 => (if y172.length + y175.length < 140737488355328 then ((some (y172 ++ y175 : List Int)).bind fun y178 => (if (wrap64 (x6_1 + t152)) ≤ (wrap64 ((wrap64 (x6_1 + t152)) + bt170.2)) then (if (wrap64 ((wrap64 (x6_1 + t152)) + bt170.2)) ≤ (a0.size : Int) then (if y178.length + (a0.extract ((wrap64 (x6_1 + t152)) : Int).toNat ((wrap64 ((wrap64 (x6_1 + t152)) + bt170.2)) : Int).toNat).size < 140737488355328 then (semantic_zzParted.l0 k1 a0 a1 (y178 ++ bytesOf (a0.extract ((wrap64 (x6_1 + t152)) : Int).toNat ((wrap64 ((wrap64 (x6_1 + t152)) + bt170.2)) : Int).toNat)) (wrap64 ((wrap64 (x6_1 + t152)) + bt170.2))) else (none)) else (none)) else (none))) else (none)))) else (none)) else (none))) else (none))))) else (none)) else (none)))) = some r := H
       have A15 := Aside0.mk A150
       clear A150
       by_cases c16 : (t156 != a1) = true
       ·rw [if_pos c16] at H
        have c16b0 : (t156 != a1) = true := c16
        (try (have c16b1 : decide (t156 = a1) = false := by simpa using c16))
        (try (have c16b2 : (t156 == a1) = false := by simpa using c16))
        (try (have c16b3 : ¬ (t156 = a1) := by simpa using c16))
        clear c16
        have c17b0 := eq_true (of_decide_eq_true (by first | (with_reducible assumption) | assumption) : 0 ≤ x6_1)
        by_cases c18 : x6_1 ≤ (wrap64 (x6_1 + t152))
        ·rw [if_pos c18] at H
         have c18b0 := eq_true c18
         have c18b1 : decide (x6_1 ≤ (wrap64 (x6_1 + t152))) = true := decide_eq_true c18
         by_cases c19 : (wrap64 (x6_1 + t152)) ≤ (a0.size : Int)
         ·rw [if_pos c19] at H
          have c19b0 := eq_true c19
          have c19b1 : decide ((wrap64 (x6_1 + t152)) ≤ (a0.size : Int)) = true := decide_eq_true c19
          by_cases c20 : x5_1.length + (a0.extract (x6_1 : Int).toNat ((wrap64 (x6_1 + t152)) : Int).toNat).size < 140737488355328
          ·rw [if_pos c20] at H
           have LMc20 := Aside0.mk c20
           clear c20
           obtain ⟨y157, hy157⟩ : ∃ y_ : List Int, y_ = (x5_1 ++ bytesOf (a0.extract (x6_1 : Int).toNat ((wrap64 (x6_1 + t152)) : Int).toNat)) := ⟨_, rfl⟩
           replace H : (semantic_zzParted.l0 k1 a0 a1 y157 (wrap64 (x6_1 + t152))) = some r := by first | (rw [hy157]; with_reducible exact H) | (have H2_ := (Option.bind_some _ _).symm.trans H; rw [hy157]; with_reducible exact H2_) | (have H2_ := (Option.bind_some _ _).symm.trans H; with_reducible exact H2_) | with_reducible exact H | (rw [hy157]; exact H) | exact H
           have Ny157 := Aside0.mk hy157
           clear hy157
           have H' := Aside0.mk H
           clear H
           go_wp2_with (first | ((with_reducible refine gate_callee (f := 43) rfl ?_); refine goesL_ (some 18) rfl rfl Tryz.func43 (by kernel_rfl) rfl #[.string (a0.extract (x6_1 : Int).toNat a0.size)] rfl (by (try simp only [List.map_toArray, List.map_cons, List.map_nil]); first | done | rfl | (simp only [List.length_drop, List.length_take]; rfl)) ?_; (with_reducible refine (utf8_DecodeRuneInString.calls (a0.extract (x6_1 : Int).toNat a0.size) t151 t152 _ A6.out).mono ?_); rintro e w' ⟨rfl, ⟨nd, rfl⟩⟩; refine ⟨_, rfl, ?_⟩; have p7 : 0 ≤ (x6_1 : Int) := of_decide_eq_true (by first | (with_reducible assumption) | assumption); have q7 : x6_1 < (a0.size : Int) := of_decide_eq_true (by first | (with_reducible assumption) | assumption); have hx7 := bt_at a0 x6_1; replace p7 := eq_true p7; replace q7 := eq_true q7; have p14 : 0 ≤ (x6_1 : Int) := of_decide_eq_true (by first | (with_reducible assumption) | assumption); have q14 : x6_1 < (a0.size : Int) := of_decide_eq_true (by first | (with_reducible assumption) | assumption); have hx14 := bt_at a0 x6_1; replace p14 := eq_true p14; replace q14 := eq_true q14) | (go_at_call 44; (with_reducible refine (semantic_zzDigit.calls (bt a0 x6_1) t156 _ A15.out).mono ?_); rintro e w' ⟨rfl, ⟨nd, rfl⟩⟩) | (at_builtin; refine R_append_str (w0 := w) w.heap.size rfl (.tmp 56) _ 45 9 5 rfl Tryz.underlying45 Tryz.underlying9 info5 u5 x5_1 (a0.extract (x6_1 : Int).toNat ((wrap64 (x6_1 + t152)) : Int).toNat) (fun _ => True) rfl rfl ?aF ?aO ?aB ?aS ?aL ?_; (case aB => exact (by repeat (first | (with_reducible first | exact HB.out | apply below_alloc | apply pw_below_drewN | apply below_drew1) | exact HB.out))); (case aF => exact (fun _ _ => trivial)); (case aO => exact (by (with_reducible repeat (first | apply Kd.R_alloc | apply Kd.R_drewN | apply Kd.R_drew)); exact HO_5.out)); (case aS => exact (below_size (by repeat (first | (with_reducible first | exact HB.out | apply below_alloc | apply pw_below_drewN | apply below_drew1) | exact HB.out)))); (case aL => have := LMc20.out; omega); intro v158 w21 ho hb hg hat; rw [← Ny157.out] at ho; have n0_ := Aside0.mk (hb); have n1_ := Aside0.mk (ho); clear HB; clear HO_5; have HB := n0_; have HO159 := n1_; clear n0_ n1_; clear ho hb hg hat))
           go_roundg k1
           case measure => have := HK1.out; omega
           case rel => exact ⟨(y157), (wrap64 (x6_1 + t152)), (by first | rfl | (simp; done) | (simp [*]; done) | (simp [bne_nil_hyb]; done) | (simp [bne_nil_hyb, *]; done)), H', ⟨by have := HK1.out; omega⟩, ⟨by (with_reducible repeat (first | apply Kd.R_alloc | apply Kd.R_drewN | apply Kd.R_drew)); exact HO159.out⟩, ⟨by repeat (first | (with_reducible first | exact HB.out | apply below_alloc | apply pw_below_drewN | apply below_drew1) | exact HB.out)⟩⟩
          ·rw [if_neg c20] at H
           exact absurd H (by simp)
         ·rw [if_neg c19] at H
          exact absurd H (by simp)
        ·rw [if_neg c18] at H
         exact absurd H (by simp)
       ·rw [if_neg c16] at H
        have c16b0 : (t156 != a1) = false := by simpa using c16
        (try (have c16b1 : decide (t156 = a1) = true := by simpa using c16))
        (try (have c16b2 : (t156 == a1) = true := by simpa using c16))
        clear c16
        by_cases c22 : (wrap64 (x6_1 + t152)) ≥ (a0.size : Int)
        ·rw [if_pos c22] at H
         have c22b0 : decide ((a0.size : Int) ≤ (wrap64 (x6_1 + t152))) = true := decide_eq_true c22
         clear c22
         have c23b0 := eq_true (of_decide_eq_true (by first | (with_reducible assumption) | assumption) : 0 ≤ x6_1)
         by_cases c24 : x6_1 ≤ (wrap64 (x6_1 + t152))
         ·rw [if_pos c24] at H
          have c24b0 := eq_true c24
          have c24b1 : decide (x6_1 ≤ (wrap64 (x6_1 + t152))) = true := decide_eq_true c24
          by_cases c25 : (wrap64 (x6_1 + t152)) ≤ (a0.size : Int)
          ·rw [if_pos c25] at H
           have c25b0 := eq_true c25
           have c25b1 : decide ((wrap64 (x6_1 + t152)) ≤ (a0.size : Int)) = true := decide_eq_true c25
           by_cases c26 : x5_1.length + (a0.extract (x6_1 : Int).toNat ((wrap64 (x6_1 + t152)) : Int).toNat).size < 140737488355328
           ·rw [if_pos c26] at H
            have LMc26 := Aside0.mk c26
            clear c26
            obtain ⟨y160, hy160⟩ : ∃ y_ : List Int, y_ = (x5_1 ++ bytesOf (a0.extract (x6_1 : Int).toNat ((wrap64 (x6_1 + t152)) : Int).toNat)) := ⟨_, rfl⟩
            replace H : (semantic_zzParted.l0 k1 a0 a1 y160 (wrap64 (x6_1 + t152))) = some r := by first | (rw [hy160]; with_reducible exact H) | (have H2_ := (Option.bind_some _ _).symm.trans H; rw [hy160]; with_reducible exact H2_) | (have H2_ := (Option.bind_some _ _).symm.trans H; with_reducible exact H2_) | with_reducible exact H | (rw [hy160]; exact H) | exact H
            have Ny160 := Aside0.mk hy160
            clear hy160
            have H' := Aside0.mk H
            clear H
            go_wp2_with (first | ((with_reducible refine gate_callee (f := 43) rfl ?_); refine goesL_ (some 18) rfl rfl Tryz.func43 (by kernel_rfl) rfl #[.string (a0.extract (x6_1 : Int).toNat a0.size)] rfl (by (try simp only [List.map_toArray, List.map_cons, List.map_nil]); first | done | rfl | (simp only [List.length_drop, List.length_take]; rfl)) ?_; (with_reducible refine (utf8_DecodeRuneInString.calls (a0.extract (x6_1 : Int).toNat a0.size) t151 t152 _ A6.out).mono ?_); rintro e w' ⟨rfl, ⟨nd, rfl⟩⟩; refine ⟨_, rfl, ?_⟩; have p7 : 0 ≤ (x6_1 : Int) := of_decide_eq_true (by first | (with_reducible assumption) | assumption); have q7 : x6_1 < (a0.size : Int) := of_decide_eq_true (by first | (with_reducible assumption) | assumption); have hx7 := bt_at a0 x6_1; replace p7 := eq_true p7; replace q7 := eq_true q7; have p14 : 0 ≤ (x6_1 : Int) := of_decide_eq_true (by first | (with_reducible assumption) | assumption); have q14 : x6_1 < (a0.size : Int) := of_decide_eq_true (by first | (with_reducible assumption) | assumption); have hx14 := bt_at a0 x6_1; replace p14 := eq_true p14; replace q14 := eq_true q14) | (go_at_call 44; (with_reducible refine (semantic_zzDigit.calls (bt a0 x6_1) t156 _ A15.out).mono ?_); rintro e w' ⟨rfl, ⟨nd, rfl⟩⟩) | (at_builtin; refine R_append_str (w0 := w) w.heap.size rfl (.tmp 56) _ 45 9 5 rfl Tryz.underlying45 Tryz.underlying9 info5 u5 x5_1 (a0.extract (x6_1 : Int).toNat ((wrap64 (x6_1 + t152)) : Int).toNat) (fun _ => True) rfl rfl ?aF ?aO ?aB ?aS ?aL ?_; (case aB => exact (by repeat (first | (with_reducible first | exact HB.out | apply below_alloc | apply pw_below_drewN | apply below_drew1) | exact HB.out))); (case aF => exact (fun _ _ => trivial)); (case aO => exact (by (with_reducible repeat (first | apply Kd.R_alloc | apply Kd.R_drewN | apply Kd.R_drew)); exact HO_5.out)); (case aS => exact (below_size (by repeat (first | (with_reducible first | exact HB.out | apply below_alloc | apply pw_below_drewN | apply below_drew1) | exact HB.out)))); (case aL => have := LMc26.out; omega); intro v161 w27 ho hb hg hat; rw [← Ny160.out] at ho; have n0_ := Aside0.mk (hb); have n1_ := Aside0.mk (ho); clear HB; clear HO_5; have HB := n0_; have HO162 := n1_; clear n0_ n1_; clear ho hb hg hat))
            go_roundg k1
            case measure => have := HK1.out; omega
            case rel => exact ⟨(y160), (wrap64 (x6_1 + t152)), (by first | rfl | (simp; done) | (simp [*]; done) | (simp [bne_nil_hyb]; done) | (simp [bne_nil_hyb, *]; done)), H', ⟨by have := HK1.out; omega⟩, ⟨by (with_reducible repeat (first | apply Kd.R_alloc | apply Kd.R_drewN | apply Kd.R_drew)); exact HO162.out⟩, ⟨by repeat (first | (with_reducible first | exact HB.out | apply below_alloc | apply pw_below_drewN | apply below_drew1) | exact HB.out)⟩⟩
           ·rw [if_neg c26] at H
            exact absurd H (by simp)
          ·rw [if_neg c25] at H
           exact absurd H (by simp)
         ·rw [if_neg c24] at H
          exact absurd H (by simp)
        ·rw [if_neg c22] at H
         have c22b0 : decide ((a0.size : Int) ≤ (wrap64 (x6_1 + t152))) = false := decide_eq_false c22
         clear c22
         obtain ⟨ji28, hji28⟩ : ∃ j_ : Int, (wrap64 (x6_1 + t152)) = j_ := ⟨_, rfl⟩
         replace H : (if 0 ≤ (ji28) then (if (ji28) < (a0.size : Int) then (if (bt a0 (ji28)) = 46 then (if x6_1 ≤ (ji28) then (if (ji28) ≤ (a0.size : Int) then (if x5_1.length + (a0.extract (x6_1 : Int).toNat ((ji28) : Int).toNat).size < 140737488355328 then (semantic_zzParted.l0 k1 a0 a1 (x5_1 ++ bytesOf (a0.extract (x6_1 : Int).toNat ((ji28) : Int).toNat)) ji28) else (none)) else (none)) else (none)) else ((semantic_zzDigit.f (bt a0 (ji28))).bind fun t166 => (if (t166 == a1) = true then (if x6_1 ≤ (ji28) then (if (ji28) ≤ (a0.size : Int) then (if x5_1.length + (a0.extract (x6_1 : Int).toNat ((ji28) : Int).toNat).size < 140737488355328 then (semantic_zzParted.l0 k1 a0 a1 (x5_1 ++ bytesOf (a0.extract (x6_1 : Int).toNat ((ji28) : Int).toNat)) ji28) else (none)) else (none)) else (none)) else (if (ji28) ≤ (a0.size : Int) then ((utf8_DecodeRuneInString.f (a0.extract ((ji28) : Int).toNat a0.size)).bind fun bt170 => (if x6_1 ≤ (ji28) then (if x5_1.length + (a0.extract (x6_1 : Int).toNat ((ji28) : Int).toNat).size < 140737488355328 then ((some (x5_1 ++ bytesOf (a0.extract (x6_1 : Int).toNat ((ji28) : Int).toNat) : List Int)).bind fun y172 => ((some (([46] : List Int) : List Int)).bind fun y175 => (if y172.length + y175.length < 140737488355328 then ((some (y172 ++ y175 : List Int)).bind fun y178 => (if (ji28) ≤ (wrap64 ((ji28) + bt170.2)) then (if (wrap64 ((ji28) + bt170.2)) ≤ (a0.size : Int) then (if y178.length + (a0.extract ((ji28) : Int).toNat ((wrap64 ((ji28) + bt170.2)) : Int).toNat).size < 140737488355328 then (semantic_zzParted.l0 k1 a0 a1 (y178 ++ bytesOf (a0.extract ((ji28) : Int).toNat ((wrap64 ((ji28) + bt170.2)) : Int).toNat)) (wrap64 ((ji28) + bt170.2))) else (none)) else (none)) else (none))) else (none)))) else (none)) else (none))) else (none))))) else (none)) else (none)) = some r := by first | (rw [hji28] at H; exact H) | (simp only [hji28] at H ⊢; exact H)
         (try rw [hji28] at c22b0)
         (try rw [hji28] at A6)
         (try rw [hji28] at A15)
         have hji28w : (IntKind.i64.wrap (x6_1 + t152)) = ji28 := (i64_w _).trans hji28
         by_cases c29 : 0 ≤ (ji28)
         ·rw [if_pos c29] at H
          have c29b0 : decide (0 ≤ (ji28)) = true := decide_eq_true c29
          clear c29
          by_cases c30 : (ji28) < (a0.size : Int)
          ·rw [if_pos c30] at H
           have c30b0 : decide ((ji28) < (a0.size : Int)) = true := decide_eq_true c30
           clear c30
           by_cases c32 : (bt a0 (ji28)) = 46
           ·rw [if_pos c32] at H
            have c32b0 : ((bt a0 (ji28)) == 46) = true := beq_iff_eq.mpr c32
            have c32b1 : ((bt a0 (ji28)) != 46) = false := bne_eq_false_iff_eq.mpr c32
            clear c32
            have c33b0 := eq_true (of_decide_eq_true (by first | (with_reducible assumption) | assumption) : 0 ≤ x6_1)
            by_cases c34 : x6_1 ≤ (ji28)
            ·rw [if_pos c34] at H
             have c34b0 := eq_true c34
             have c34b1 : decide (x6_1 ≤ (ji28)) = true := decide_eq_true c34
             clear c34
             by_cases c35 : (ji28) ≤ (a0.size : Int)
             ·rw [if_pos c35] at H
              have c35b0 := eq_true c35
              have c35b1 : decide ((ji28) ≤ (a0.size : Int)) = true := decide_eq_true c35
              clear c35
              by_cases c36 : x5_1.length + (a0.extract (x6_1 : Int).toNat ((ji28) : Int).toNat).size < 140737488355328
              ·rw [if_pos c36] at H
               have LMc36 := Aside0.mk c36
               clear c36
               obtain ⟨y163, hy163⟩ : ∃ y_ : List Int, y_ = (x5_1 ++ bytesOf (a0.extract (x6_1 : Int).toNat ((ji28) : Int).toNat)) := ⟨_, rfl⟩
               replace H : (semantic_zzParted.l0 k1 a0 a1 y163 ji28) = some r := by first | (rw [hy163]; with_reducible exact H) | (have H2_ := (Option.bind_some _ _).symm.trans H; rw [hy163]; with_reducible exact H2_) | (have H2_ := (Option.bind_some _ _).symm.trans H; with_reducible exact H2_) | with_reducible exact H | (rw [hy163]; exact H) | exact H
               have Ny163 := Aside0.mk hy163
               clear hy163
               have H' := Aside0.mk H
               clear H
               go_wp2_with (first | ((with_reducible refine gate_callee (f := 43) rfl ?_); refine goesL_ (some 18) rfl rfl Tryz.func43 (by kernel_rfl) rfl #[.string (a0.extract (x6_1 : Int).toNat a0.size)] rfl (by (try simp only [List.map_toArray, List.map_cons, List.map_nil]); first | done | rfl | (simp only [List.length_drop, List.length_take]; rfl)) ?_; (with_reducible refine (utf8_DecodeRuneInString.calls (a0.extract (x6_1 : Int).toNat a0.size) t151 t152 _ A6.out).mono ?_); rintro e w' ⟨rfl, ⟨nd, rfl⟩⟩; refine ⟨_, rfl, ?_⟩; have p7 : 0 ≤ (x6_1 : Int) := of_decide_eq_true (by first | (with_reducible assumption) | assumption); have q7 : x6_1 < (a0.size : Int) := of_decide_eq_true (by first | (with_reducible assumption) | assumption); have hx7 := bt_at a0 x6_1; replace p7 := eq_true p7; replace q7 := eq_true q7; have p14 : 0 ≤ (x6_1 : Int) := of_decide_eq_true (by first | (with_reducible assumption) | assumption); have q14 : x6_1 < (a0.size : Int) := of_decide_eq_true (by first | (with_reducible assumption) | assumption); have hx14 := bt_at a0 x6_1; replace p14 := eq_true p14; replace q14 := eq_true q14) | (go_at_call 44; (with_reducible refine (semantic_zzDigit.calls (bt a0 x6_1) t156 _ A15.out).mono ?_); rintro e w' ⟨rfl, ⟨nd, rfl⟩⟩; have p31 : 0 ≤ ((ji28) : Int) := of_decide_eq_true (by first | (with_reducible assumption) | assumption); have q31 : (ji28) < (a0.size : Int) := of_decide_eq_true (by first | (with_reducible assumption) | assumption); have hx31 := bt_at a0 (ji28); replace p31 := eq_true p31; replace q31 := eq_true q31) | (at_builtin; refine R_append_str (w0 := w) w.heap.size rfl (.tmp 56) _ 45 9 5 rfl Tryz.underlying45 Tryz.underlying9 info5 u5 x5_1 (a0.extract (x6_1 : Int).toNat ((ji28) : Int).toNat) (fun _ => True) rfl rfl ?aF ?aO ?aB ?aS ?aL ?_; (case aB => exact (by repeat (first | (with_reducible first | exact HB.out | apply below_alloc | apply pw_below_drewN | apply below_drew1) | exact HB.out))); (case aF => exact (fun _ _ => trivial)); (case aO => exact (by (with_reducible repeat (first | apply Kd.R_alloc | apply Kd.R_drewN | apply Kd.R_drew)); exact HO_5.out)); (case aS => exact (below_size (by repeat (first | (with_reducible first | exact HB.out | apply below_alloc | apply pw_below_drewN | apply below_drew1) | exact HB.out)))); (case aL => have := LMc36.out; omega); intro v164 w37 ho hb hg hat; rw [← Ny163.out] at ho; have n0_ := Aside0.mk (hb); have n1_ := Aside0.mk (ho); clear HB; clear HO_5; have HB := n0_; have HO165 := n1_; clear n0_ n1_; clear ho hb hg hat))
               go_roundg k1
               case measure => have := HK1.out; omega
               case rel => exact ⟨(y163), (ji28), (by first | rfl | (simp; done) | (simp only [← hji28] <;> (first | rfl | simp)) | (simp [*]; done)), H', ⟨by have := HK1.out; omega⟩, ⟨by (with_reducible repeat (first | apply Kd.R_alloc | apply Kd.R_drewN | apply Kd.R_drew)); exact HO165.out⟩, ⟨by repeat (first | (with_reducible first | exact HB.out | apply below_alloc | apply pw_below_drewN | apply below_drew1) | exact HB.out)⟩⟩
              ·rw [if_neg c36] at H
               exact absurd H (by simp)
             ·rw [if_neg c35] at H
              exact absurd H (by simp)
            ·rw [if_neg c34] at H
             exact absurd H (by simp)
           ·rw [if_neg c32] at H
            have c32b0 : ((bt a0 (ji28)) == 46) = false := beq_eq_false_iff_ne.mpr c32
            have c32b1 : ((bt a0 (ji28)) != 46) = true := bne_iff_ne.mpr c32
            replace H := Option.bind_eq_some_iff.mp H
            obtain ⟨t166, A390, H⟩ := H
            replace H : (if (t166 == a1) = true then (if x6_1 ≤ (ji28) then (if (ji28) ≤ (a0.size : Int) then (if x5_1.length + (a0.extract (x6_1 : Int).toNat ((ji28) : Int).toNat).size < 140737488355328 then (semantic_zzParted.l0 k1 a0 a1 (x5_1 ++ bytesOf (a0.extract (x6_1 : Int).toNat ((ji28) : Int).toNat)) ji28) else (none)) else (none)) else (none)) else (if (ji28) ≤ (a0.size : Int) then ((utf8_DecodeRuneInString.f (a0.extract ((ji28) : Int).toNat a0.size)).bind fun bt170 => (if x6_1 ≤ (ji28) then (if x5_1.length + (a0.extract (x6_1 : Int).toNat ((ji28) : Int).toNat).size < 140737488355328 then ((some (x5_1 ++ bytesOf (a0.extract (x6_1 : Int).toNat ((ji28) : Int).toNat) : List Int)).bind fun y172 => ((some (([46] : List Int) : List Int)).bind fun y175 => (if y172.length + y175.length < 140737488355328 then ((some (y172 ++ y175 : List Int)).bind fun y178 => (if (ji28) ≤ (wrap64 ((ji28) + bt170.2)) then (if (wrap64 ((ji28) + bt170.2)) ≤ (a0.size : Int) then (if y178.length + (a0.extract ((ji28) : Int).toNat ((wrap64 ((ji28) + bt170.2)) : Int).toNat).size < 140737488355328 then (semantic_zzParted.l0 k1 a0 a1 (y178 ++ bytesOf (a0.extract ((ji28) : Int).toNat ((wrap64 ((ji28) + bt170.2)) : Int).toNat)) (wrap64 ((ji28) + bt170.2))) else (none)) else (none)) else (none))) else (none)))) else (none)) else (none))) else (none))) = some r := H
            have A39 := Aside0.mk A390
            clear A390
            by_cases c40 : (t166 == a1) = true
            ·rw [if_pos c40] at H
             have c40b0 : (t166 == a1) = true := c40
             (try (have c40b1 : decide (t166 = a1) = true := by simpa using c40))
             (try (have c40b2 : (t166 == a1) = true := by simpa using c40))
             clear c40
             have c41b0 := eq_true (of_decide_eq_true (by first | (with_reducible assumption) | assumption) : 0 ≤ x6_1)
             by_cases c42 : x6_1 ≤ (ji28)
             ·rw [if_pos c42] at H
              have c42b0 := eq_true c42
              have c42b1 : decide (x6_1 ≤ (ji28)) = true := decide_eq_true c42
              clear c42
              by_cases c43 : (ji28) ≤ (a0.size : Int)
              ·rw [if_pos c43] at H
               have c43b0 := eq_true c43
               have c43b1 : decide ((ji28) ≤ (a0.size : Int)) = true := decide_eq_true c43
               clear c43
               by_cases c44 : x5_1.length + (a0.extract (x6_1 : Int).toNat ((ji28) : Int).toNat).size < 140737488355328
               ·rw [if_pos c44] at H
                have LMc44 := Aside0.mk c44
                clear c44
                obtain ⟨y167, hy167⟩ : ∃ y_ : List Int, y_ = (x5_1 ++ bytesOf (a0.extract (x6_1 : Int).toNat ((ji28) : Int).toNat)) := ⟨_, rfl⟩
                replace H : (semantic_zzParted.l0 k1 a0 a1 y167 ji28) = some r := by first | (rw [hy167]; with_reducible exact H) | (have H2_ := (Option.bind_some _ _).symm.trans H; rw [hy167]; with_reducible exact H2_) | (have H2_ := (Option.bind_some _ _).symm.trans H; with_reducible exact H2_) | with_reducible exact H | (rw [hy167]; exact H) | exact H
                have Ny167 := Aside0.mk hy167
                clear hy167
                have H' := Aside0.mk H
                clear H
                go_wp2_with (first | ((with_reducible refine gate_callee (f := 43) rfl ?_); refine goesL_ (some 18) rfl rfl Tryz.func43 (by kernel_rfl) rfl #[.string (a0.extract (x6_1 : Int).toNat a0.size)] rfl (by (try simp only [List.map_toArray, List.map_cons, List.map_nil]); first | done | rfl | (simp only [List.length_drop, List.length_take]; rfl)) ?_; (with_reducible refine (utf8_DecodeRuneInString.calls (a0.extract (x6_1 : Int).toNat a0.size) t151 t152 _ A6.out).mono ?_); rintro e w' ⟨rfl, ⟨nd, rfl⟩⟩; refine ⟨_, rfl, ?_⟩; have p7 : 0 ≤ (x6_1 : Int) := of_decide_eq_true (by first | (with_reducible assumption) | assumption); have q7 : x6_1 < (a0.size : Int) := of_decide_eq_true (by first | (with_reducible assumption) | assumption); have hx7 := bt_at a0 x6_1; replace p7 := eq_true p7; replace q7 := eq_true q7; have p14 : 0 ≤ (x6_1 : Int) := of_decide_eq_true (by first | (with_reducible assumption) | assumption); have q14 : x6_1 < (a0.size : Int) := of_decide_eq_true (by first | (with_reducible assumption) | assumption); have hx14 := bt_at a0 x6_1; replace p14 := eq_true p14; replace q14 := eq_true q14) | (go_at_call 44; (with_reducible refine (semantic_zzDigit.calls (bt a0 x6_1) t156 _ A15.out).mono ?_); rintro e w' ⟨rfl, ⟨nd, rfl⟩⟩; have p31 : 0 ≤ ((ji28) : Int) := of_decide_eq_true (by first | (with_reducible assumption) | assumption); have q31 : (ji28) < (a0.size : Int) := of_decide_eq_true (by first | (with_reducible assumption) | assumption); have hx31 := bt_at a0 (ji28); replace p31 := eq_true p31; replace q31 := eq_true q31; have p38 : 0 ≤ ((ji28) : Int) := of_decide_eq_true (by first | (with_reducible assumption) | assumption); have q38 : (ji28) < (a0.size : Int) := of_decide_eq_true (by first | (with_reducible assumption) | assumption); have hx38 := bt_at a0 (ji28); replace p38 := eq_true p38; replace q38 := eq_true q38) | (go_at_call 44; (with_reducible refine (semantic_zzDigit.calls (bt a0 (ji28)) t166 _ A39.out).mono ?_); rintro e w' ⟨rfl, ⟨nd, rfl⟩⟩) | (at_builtin; refine R_append_str (w0 := w) w.heap.size rfl (.tmp 56) _ 45 9 5 rfl Tryz.underlying45 Tryz.underlying9 info5 u5 x5_1 (a0.extract (x6_1 : Int).toNat ((ji28) : Int).toNat) (fun _ => True) rfl rfl ?aF ?aO ?aB ?aS ?aL ?_; (case aB => exact (by repeat (first | (with_reducible first | exact HB.out | apply below_alloc | apply pw_below_drewN | apply below_drew1) | exact HB.out))); (case aF => exact (fun _ _ => trivial)); (case aO => exact (by (with_reducible repeat (first | apply Kd.R_alloc | apply Kd.R_drewN | apply Kd.R_drew)); exact HO_5.out)); (case aS => exact (below_size (by repeat (first | (with_reducible first | exact HB.out | apply below_alloc | apply pw_below_drewN | apply below_drew1) | exact HB.out)))); (case aL => have := LMc44.out; omega); intro v168 w45 ho hb hg hat; rw [← Ny167.out] at ho; have n0_ := Aside0.mk (hb); have n1_ := Aside0.mk (ho); clear HB; clear HO_5; have HB := n0_; have HO169 := n1_; clear n0_ n1_; clear ho hb hg hat))
                go_roundg k1
                case measure => have := HK1.out; omega
                case rel => exact ⟨(y167), (ji28), (by first | rfl | (simp; done) | (simp only [← hji28] <;> (first | rfl | simp)) | (simp [*]; done)), H', ⟨by have := HK1.out; omega⟩, ⟨by (with_reducible repeat (first | apply Kd.R_alloc | apply Kd.R_drewN | apply Kd.R_drew)); exact HO169.out⟩, ⟨by repeat (first | (with_reducible first | exact HB.out | apply below_alloc | apply pw_below_drewN | apply below_drew1) | exact HB.out)⟩⟩
               ·rw [if_neg c44] at H
                exact absurd H (by simp)
              ·rw [if_neg c43] at H
               exact absurd H (by simp)
             ·rw [if_neg c42] at H
              exact absurd H (by simp)
            ·rw [if_neg c40] at H
             have c40b0 : (t166 == a1) = false := by simpa using c40
             (try (have c40b1 : decide (t166 = a1) = false := by simpa using c40))
             (try (have c40b2 : (t166 == a1) = false := by simpa using c40))
             (try (have c40b3 : ¬ (t166 = a1) := by simpa using c40))
             clear c40
             have c46b0 := eq_true (of_decide_eq_true (by first | (with_reducible assumption) | assumption) : 0 ≤ (ji28))
             by_cases c47 : (ji28) ≤ (a0.size : Int)
             ·rw [if_pos c47] at H
              have c47b0 := eq_true c47
              have c47b1 : decide ((ji28) ≤ (a0.size : Int)) = true := decide_eq_true c47
              clear c47
              replace H := Option.bind_eq_some_iff.mp H
              obtain ⟨⟨t170, t171⟩, A480, H⟩ := H
              replace H : (if x6_1 ≤ (ji28) then (if x5_1.length + (a0.extract (x6_1 : Int).toNat ((ji28) : Int).toNat).size < 140737488355328 then ((some (x5_1 ++ bytesOf (a0.extract (x6_1 : Int).toNat ((ji28) : Int).toNat) : List Int)).bind fun y172 => ((some (([46] : List Int) : List Int)).bind fun y175 => (if y172.length + y175.length < 140737488355328 then ((some (y172 ++ y175 : List Int)).bind fun y178 => (if (ji28) ≤ (wrap64 ((ji28) + t171)) then (if (wrap64 ((ji28) + t171)) ≤ (a0.size : Int) then (if y178.length + (a0.extract ((ji28) : Int).toNat ((wrap64 ((ji28) + t171)) : Int).toNat).size < 140737488355328 then (semantic_zzParted.l0 k1 a0 a1 (y178 ++ bytesOf (a0.extract ((ji28) : Int).toNat ((wrap64 ((ji28) + t171)) : Int).toNat)) (wrap64 ((ji28) + t171))) else (none)) else (none)) else (none))) else (none)))) else (none)) else (none)) = some r := H
              have A48 := Aside0.mk A480
              clear A480
              have c49b0 := eq_true (of_decide_eq_true (by first | (with_reducible assumption) | assumption) : 0 ≤ x6_1)
              by_cases c50 : x6_1 ≤ (ji28)
              ·rw [if_pos c50] at H
               have c50b0 := eq_true c50
               have c50b1 : decide (x6_1 ≤ (ji28)) = true := decide_eq_true c50
               clear c50
               have c51b0 := eq_true (of_decide_eq_true (by first | (with_reducible assumption) | assumption) : (ji28) ≤ (a0.size : Int))
               by_cases c52 : x5_1.length + (a0.extract (x6_1 : Int).toNat ((ji28) : Int).toNat).size < 140737488355328
               ·rw [if_pos c52] at H
                have LMc52 := Aside0.mk c52
                clear c52
                obtain ⟨y172, hy172⟩ : ∃ y_ : List Int, y_ = (x5_1 ++ bytesOf (a0.extract (x6_1 : Int).toNat ((ji28) : Int).toNat)) := ⟨_, rfl⟩
                replace H : ((some (([46] : List Int) : List Int)).bind fun y175 => (if y172.length + y175.length < 140737488355328 then ((some (y172 ++ y175 : List Int)).bind fun y178 => (if (ji28) ≤ (wrap64 ((ji28) + t171)) then (if (wrap64 ((ji28) + t171)) ≤ (a0.size : Int) then (if y178.length + (a0.extract ((ji28) : Int).toNat ((wrap64 ((ji28) + t171)) : Int).toNat).size < 140737488355328 then (semantic_zzParted.l0 k1 a0 a1 (y178 ++ bytesOf (a0.extract ((ji28) : Int).toNat ((wrap64 ((ji28) + t171)) : Int).toNat)) (wrap64 ((ji28) + t171))) else (none)) else (none)) else (none))) else (none))) = some r := by first | (rw [hy172]; with_reducible exact H) | (have H2_ := (Option.bind_some _ _).symm.trans H; rw [hy172]; with_reducible exact H2_) | (have H2_ := (Option.bind_some _ _).symm.trans H; with_reducible exact H2_) | with_reducible exact H | (rw [hy172]; exact H) | exact H
                have Ny172 := Aside0.mk hy172
                clear hy172
                obtain ⟨y175, hy175⟩ : ∃ y_ : List Int, y_ = (([46] : List Int)) := ⟨_, rfl⟩
                replace H : (if y172.length + y175.length < 140737488355328 then ((some (y172 ++ y175 : List Int)).bind fun y178 => (if (ji28) ≤ (wrap64 ((ji28) + t171)) then (if (wrap64 ((ji28) + t171)) ≤ (a0.size : Int) then (if y178.length + (a0.extract ((ji28) : Int).toNat ((wrap64 ((ji28) + t171)) : Int).toNat).size < 140737488355328 then (semantic_zzParted.l0 k1 a0 a1 (y178 ++ bytesOf (a0.extract ((ji28) : Int).toNat ((wrap64 ((ji28) + t171)) : Int).toNat)) (wrap64 ((ji28) + t171))) else (none)) else (none)) else (none))) else (none)) = some r := by first | (rw [hy175]; with_reducible exact H) | (have H2_ := (Option.bind_some _ _).symm.trans H; rw [hy175]; with_reducible exact H2_) | (have H2_ := (Option.bind_some _ _).symm.trans H; with_reducible exact H2_) | with_reducible exact H | (rw [hy175]; exact H) | exact H
                have Ny175 := Aside0.mk hy175
                clear hy175
                by_cases c53 : y172.length + y175.length < 140737488355328
                ·rw [if_pos c53] at H
                 have LMc53 := Aside0.mk c53
                 clear c53
                 obtain ⟨y178, hy178⟩ : ∃ y_ : List Int, y_ = (y172 ++ y175) := ⟨_, rfl⟩
                 replace H : (if (ji28) ≤ (wrap64 ((ji28) + t171)) then (if (wrap64 ((ji28) + t171)) ≤ (a0.size : Int) then (if y178.length + (a0.extract ((ji28) : Int).toNat ((wrap64 ((ji28) + t171)) : Int).toNat).size < 140737488355328 then (semantic_zzParted.l0 k1 a0 a1 (y178 ++ bytesOf (a0.extract ((ji28) : Int).toNat ((wrap64 ((ji28) + t171)) : Int).toNat)) (wrap64 ((ji28) + t171))) else (none)) else (none)) else (none)) = some r := by first | (rw [hy178]; with_reducible exact H) | (have H2_ := (Option.bind_some _ _).symm.trans H; rw [hy178]; with_reducible exact H2_) | (have H2_ := (Option.bind_some _ _).symm.trans H; with_reducible exact H2_) | with_reducible exact H | (rw [hy178]; exact H) | exact H
                 have Ny178 := Aside0.mk hy178
                 clear hy178
                 have c54b0 := eq_true (of_decide_eq_true (by first | (with_reducible assumption) | assumption) : 0 ≤ (ji28))
                 by_cases c55 : (ji28) ≤ (wrap64 ((ji28) + t171))
                 ·rw [if_pos c55] at H
                  have c55b0 := eq_true c55
                  have c55b1 : decide ((ji28) ≤ (wrap64 ((ji28) + t171))) = true := decide_eq_true c55
                  by_cases c56 : (wrap64 ((ji28) + t171)) ≤ (a0.size : Int)
                  ·rw [if_pos c56] at H
                   have c56b0 := eq_true c56
                   have c56b1 : decide ((wrap64 ((ji28) + t171)) ≤ (a0.size : Int)) = true := decide_eq_true c56
                   by_cases c57 : y178.length + (a0.extract ((ji28) : Int).toNat ((wrap64 ((ji28) + t171)) : Int).toNat).size < 140737488355328
                   ·rw [if_pos c57] at H
                    have LMc57 := Aside0.mk c57
                    clear c57
                    obtain ⟨y181, hy181⟩ : ∃ y_ : List Int, y_ = (y178 ++ bytesOf (a0.extract ((ji28) : Int).toNat ((wrap64 ((ji28) + t171)) : Int).toNat)) := ⟨_, rfl⟩
                    replace H : (semantic_zzParted.l0 k1 a0 a1 y181 (wrap64 ((ji28) + t171))) = some r := by first | (rw [hy181]; with_reducible exact H) | (have H2_ := (Option.bind_some _ _).symm.trans H; rw [hy181]; with_reducible exact H2_) | (have H2_ := (Option.bind_some _ _).symm.trans H; with_reducible exact H2_) | with_reducible exact H | (rw [hy181]; exact H) | exact H
                    have Ny181 := Aside0.mk hy181
                    clear hy181
                    have H' := Aside0.mk H
                    clear H
                    try go_wp2_with (first | ((with_reducible refine gate_callee (f := 43) rfl ?_); refine goesL_ (some 18) rfl rfl Tryz.func43 (by kernel_rfl) rfl #[.string (a0.extract (x6_1 : Int).toNat a0.size)] rfl (by (try simp only [List.map_toArray, List.map_cons, List.map_nil]); first | done | rfl | (simp only [List.length_drop, List.length_take]; rfl)) ?_; (with_reducible refine (utf8_DecodeRuneInString.calls (a0.extract (x6_1 : Int).toNat a0.size) t151 t152 _ A6.out).mono ?_); rintro e w' ⟨rfl, ⟨nd, rfl⟩⟩; refine ⟨_, rfl, ?_⟩; have p7 : 0 ≤ (x6_1 : Int) := of_decide_eq_true (by first | (with_reducible assumption) | assumption); have q7 : x6_1 < (a0.size : Int) := of_decide_eq_true (by first | (with_reducible assumption) | assumption); have hx7 := bt_at a0 x6_1; replace p7 := eq_true p7; replace q7 := eq_true q7; have p14 : 0 ≤ (x6_1 : Int) := of_decide_eq_true (by first | (with_reducible assumption) | assumption); have q14 : x6_1 < (a0.size : Int) := of_decide_eq_true (by first | (with_reducible assumption) | assumption); have hx14 := bt_at a0 x6_1; replace p14 := eq_true p14; replace q14 := eq_true q14) | (go_at_call 44; (with_reducible refine (semantic_zzDigit.calls (bt a0 x6_1) t156 _ A15.out).mono ?_); rintro e w' ⟨rfl, ⟨nd, rfl⟩⟩; have p31 : 0 ≤ ((ji28) : Int) := of_decide_eq_true (by first | (with_reducible assumption) | assumption); have q31 : (ji28) < (a0.size : Int) := of_decide_eq_true (by first | (with_reducible assumption) | assumption); have hx31 := bt_at a0 (ji28); replace p31 := eq_true p31; replace q31 := eq_true q31; have p38 : 0 ≤ ((ji28) : Int) := of_decide_eq_true (by first | (with_reducible assumption) | assumption); have q38 : (ji28) < (a0.size : Int) := of_decide_eq_true (by first | (with_reducible assumption) | assumption); have hx38 := bt_at a0 (ji28); replace p38 := eq_true p38; replace q38 := eq_true q38) | (go_at_call 44; (with_reducible refine (semantic_zzDigit.calls (bt a0 (ji28)) t166 _ A39.out).mono ?_); rintro e w' ⟨rfl, ⟨nd, rfl⟩⟩) | ((with_reducible refine gate_callee (f := 43) rfl ?_); refine goesL_ (some 67) rfl rfl Tryz.func43 (by kernel_rfl) rfl #[.string (a0.extract ((ji28) : Int).toNat a0.size)] rfl (by (try simp only [List.map_toArray, List.map_cons, List.map_nil]); first | done | (simp only [hji28]; rfl) | rfl | (simp only [List.length_drop, List.length_take]; rfl)) ?_; (with_reducible refine (utf8_DecodeRuneInString.calls (a0.extract ((ji28) : Int).toNat a0.size) t170 t171 _ A48.out).mono ?_); rintro e w' ⟨rfl, ⟨nd, rfl⟩⟩; refine ⟨_, rfl, ?_⟩))
                    (try (rw [drewN_self wr]; generalize hq_ : World.drewN wr _ = wr; have n0_ : Aside0 (Kd.R (Kd.int .u8) 5 wr w.heap.size (fun _ => True) u5 x5_1) := ⟨by rw [← hq_]; exact (by (with_reducible repeat (first | apply Kd.R_alloc | apply Kd.R_drewN | apply Kd.R_drew)); exact HO_5.out)⟩; have n1_ : Aside0 (Below w.heap.size w wr) := ⟨by rw [← hq_]; exact (by repeat (first | (with_reducible first | exact HB.out | apply below_alloc | apply pw_below_drewN | apply below_drew1) | exact HB.out))⟩; clear HO_5 HB hq_; have HO_5 := n0_; have HB := n1_; clear n0_ n1_))
                    have n0_ := Aside0.mk (Kd.R_drew HO_5.out)
                    have n1_ := Aside0.mk (below_drew1 HB.out)
                    clear HO_5
                    clear HB
                    have HO_5 := n0_
                    have HB := n1_
                    clear n0_ n1_
                    refine start_ (n := 16) (S := fun w' => True) (ds := []) #[false, false, false, false, false, false, false, false, false, false, false, false, false, false, false, false] (by kernel_rfl) rfl rfl trivial (fun hHeld => ?_); refine with_tabW semantic_zzParted.tab10 semantic_zzParted.bits10 (fun HT_ HW_ => ?_)
                    generalize wr.drew = w58 at HO_5 HB hHeld ⊢
                    refine pure_ (i := 0) (N := some 70) (v := ?_) (a' := ?_) #[true, false, false, false, false, false, false, false, false, false, false, false, false, false, false, false] rfl rfl (any_of HT_.out (by kernel_rfl)) (fun _ _ _ h => h) (Or.inl ⟨by rfl, ?_⟩) ?_ ?_
                    rotate_left
                    ·intro w'
                     go_simp
                     with_reducible rfl
                    rotate_left
                    ·simp only [Act.put, List.setIfInBounds_toArray, List.set_cons_zero, List.set_cons_succ, i64_w, i32_w]
                     rfl
                    refine pure_ (i := 1) (N := some 71) (v := ?_) (a' := ?_) #[true, true, false, false, false, false, false, false, false, false, false, false, false, false, false, false] rfl rfl (any_of HT_.out (by kernel_rfl)) (fun _ _ _ h => h) (Or.inl ⟨by rfl, ?_⟩) ?_ ?_
                    rotate_left
                    ·intro w'
                     go_simp
                     with_reducible rfl
                    rotate_left
                    ·simp only [Act.put, List.setIfInBounds_toArray, List.set_cons_zero, List.set_cons_succ, i64_w, i32_w]
                     rfl
                    refine pure_ (i := 2) (N := some 72) (v := ?_) (a' := ?_) #[true, true, true, false, false, false, false, false, false, false, false, false, false, false, false, false] rfl rfl (any_of HT_.out (by kernel_rfl)) (fun _ _ _ h => h) (Or.inl ⟨by rfl, ?_⟩) ?_ ?_
                    rotate_left
                    ·intro w'
                     go_simp
                     with_reducible rfl
                    rotate_left
                    ·simp only [Act.put, List.setIfInBounds_toArray, List.set_cons_zero, List.set_cons_succ, i64_w, i32_w]
                     rfl
                    refine pure_ (i := 3) (N := some 73) (v := ?_) (a' := ?_) #[true, true, true, true, false, false, false, false, false, false, false, false, false, false, false, false] rfl rfl (any_of HT_.out (by kernel_rfl)) (fun _ _ _ h => h) (Or.inl ⟨by rfl, ?_⟩) ?_ ?_
                    rotate_left
                    ·intro w'
                     go_simp
                     with_reducible rfl
                    rotate_left
                    ·simp only [Act.put, List.setIfInBounds_toArray, List.set_cons_zero, List.set_cons_succ, i64_w, i32_w]
                     rfl
                    refine pure_ (i := 4) (N := some 74) (v := ?_) (a' := ?_) #[true, true, true, true, true, false, false, false, false, false, false, false, false, false, false, false] rfl rfl (any_of HT_.out (by kernel_rfl)) (fun _ _ _ h => h) (Or.inl ⟨by rfl, ?_⟩) ?_ ?_
                    rotate_left
                    ·intro w'
                     go_simp
                     with_reducible rfl
                    rotate_left
                    ·simp only [Act.put, List.setIfInBounds_toArray, List.set_cons_zero, List.set_cons_succ, i64_w, i32_w]
                     rfl
                    refine pure_ (i := 8) (N := some 78) (v := ?_) (a' := ?_) #[true, true, true, true, true, false, false, false, true, false, false, false, false, false, false, false] rfl rfl (any_of HT_.out (by kernel_rfl)) (fun _ _ _ h => h) (Or.inl ⟨by rfl, ?_⟩) ?_ ?_
                    rotate_left
                    ·intro w'
                     go_simp
                     with_reducible rfl
                    rotate_left
                    ·simp only [Act.put, List.setIfInBounds_toArray, List.set_cons_zero, List.set_cons_succ, i64_w, i32_w]
                     rfl
                    refine pure_ (i := 9) (N := some 79) (v := ?_) (a' := ?_) #[true, true, true, true, true, false, false, false, true, true, false, false, false, false, false, false] rfl rfl (any_of HT_.out (by kernel_rfl)) (fun _ _ _ h => h) (Or.inl ⟨by rfl, ?_⟩) ?_ ?_
                    rotate_left
                    ·intro w'
                     go_simp
                     with_reducible rfl
                    rotate_left
                    ·simp only [Act.put, List.setIfInBounds_toArray, List.set_cons_zero, List.set_cons_succ, i64_w, i32_w]
                     rfl
                    refine pure_ (i := 10) (N := some 80) (v := ?_) (a' := ?_) #[true, true, true, true, true, false, false, false, true, true, true, false, false, false, false, false] rfl rfl (any_of HT_.out (by kernel_rfl)) (fun _ _ _ h => h) (Or.inl ⟨by rfl, ?_⟩) ?_ ?_
                    rotate_left
                    ·intro w'
                     go_simp
                     with_reducible rfl
                    rotate_left
                    ·simp only [Act.put, List.setIfInBounds_toArray, List.set_cons_zero, List.set_cons_succ, i64_w, i32_w]
                     rfl
                    refine pure_ (i := 11) (N := some 81) (v := ?_) (a' := ?_) #[true, true, true, true, true, false, false, false, true, true, true, true, false, false, false, false] rfl rfl (any_of HT_.out (by kernel_rfl)) (fun _ _ _ h => h) (Or.inl ⟨by rfl, ?_⟩) ?_ ?_
                    rotate_left
                    ·intro w'
                     go_simp
                     with_reducible rfl
                    rotate_left
                    ·simp only [Act.put, List.setIfInBounds_toArray, List.set_cons_zero, List.set_cons_succ, i64_w, i32_w]
                     rfl
                    refine pure_ (i := 12) (N := some 82) (v := ?_) (a' := ?_) #[true, true, true, true, true, false, false, false, true, true, true, true, true, false, false, false] rfl rfl (any_of HT_.out (by kernel_rfl)) (fun _ _ _ h => h) (Or.inl ⟨by rfl, ?_⟩) ?_ ?_
                    rotate_left
                    ·intro w'
                     go_simp
                     with_reducible rfl
                    rotate_left
                    ·simp only [Act.put, List.setIfInBounds_toArray, List.set_cons_zero, List.set_cons_succ, i64_w, i32_w]
                     rfl
                    refine pure_ (i := 13) (N := some 83) (v := ?_) (a' := ?_) #[true, true, true, true, true, false, false, false, true, true, true, true, true, true, false, false] rfl rfl (any_of HT_.out (by kernel_rfl)) (fun _ _ _ h => h) (Or.inl ⟨by rfl, ?_⟩) ?_ ?_
                    rotate_left
                    ·intro w'
                     go_simp
                     with_reducible rfl
                    rotate_left
                    ·simp only [Act.put, List.setIfInBounds_toArray, List.set_cons_zero, List.set_cons_succ, i64_w, i32_w]
                     rfl
                    refine join_ (σ := Value × Value) 3 #[true, true, true, true, true, true, true, false, true, true, true, true, true, true, false, false] (fun s_ => [(75, s_.1), (76, s_.2)]) (fun s_ w' => (Kd.R (Kd.int .u8) 5 w' w.heap.size (fun k_ => some k_ ≠ (s_.2 : Value).ownBlock) s_.1 y172) ∧ (Kd.R (Kd.int .u8) 5 w' w.heap.size (fun k_ => some k_ ≠ (s_.1 : Value).ownBlock) s_.2 y175) ∧ (Below w.heap.size w w')) ?_ ?_
                    rotate_left
                    ·intro hCont
                     refine two_ (i := 5) (j := 6) (Ni := some 75) (Nj := some 76) #[true, true, true, true, true, true, false, false, true, true, true, true, true, true, false, false] #[true, true, true, true, true, false, true, false, true, true, true, true, true, true, false, false] rfl rfl rfl rfl (two_of HT_.out (by kernel_rfl)) (by decide) (by decide) (fun K hK => ?_) (fun K hK => ?_)
                     ·skip
                      refine R_append_str_step (w0 := w) w.heap.size (by rfl) (.tmp 70) _ 45 9 5 rfl Tryz.underlying45 Tryz.underlying9 info5 u5 x5_1 (a0.extract (x6_1 : Int).toNat ((ji28) : Int).toNat) (fun _ => True) rfl rfl ?aF ?aO ?aB ?aS ?aL ?_
                      (case aB => exact (by repeat (first | (with_reducible first | exact HB.out | apply below_alloc | apply pw_below_drewN | apply below_drew1) | exact HB.out)))
                      (case aF => exact (fun _ _ => trivial))
                      (case aO => exact (by (with_reducible repeat (first | apply Kd.R_alloc | apply Kd.R_drewN | apply Kd.R_drew)); exact HO_5.out))
                      (case aS => exact (below_size (by repeat (first | (with_reducible first | exact HB.out | apply below_alloc | apply pw_below_drewN | apply below_drew1) | exact HB.out))))
                      (case aL => have := LMc52.out; omega)
                      intro v173 w59 ho hb hg hat
                      rw [← Ny172.out] at ho
                      have n0_ := Aside0.mk (hb)
                      have n1_ := Aside0.mk (ho)
                      clear HB
                      clear HO_5
                      have HB := n0_
                      have HO174 := n1_
                      clear n0_ n1_
                      clear ho hb hg hat
                      refine hK.out _ _ trivial (fun hHeld => ?_)
                      clear hK K
                      refine norm_ (a' := ?_) ?_ ?_
                      rotate_left
                      ·show Act.put _ (some 75) _ = _
                       simp only [Act.put, List.setIfInBounds_toArray, List.set_cons_zero, List.set_cons_succ, i64_w, i32_w]
                       rfl
                      refine one_ (i := 6) (N := some 76) #[true, true, true, true, true, true, true, false, true, true, true, true, true, true, false, false] rfl rfl (one_of HT_.out (by kernel_rfl)) (by decide) (fun K hK => ?_)
                      refine Kd.R_lit_step (Kd.int .u8) _ 5 ?hg (N := 76) ?hd (xs := ([46] : List Int)) (inner := [.int .u8 46]) (ok := fun _ => True) (okp := fun _ => True) ?hr ?hp (fun _ hk => hk) trivial (Below.refl _ _) (Nat.le_refl _) (by simp) ?_; (case hd => rfl); (case hg => rfl); (case hr => first | (go_simp; done) | (go_simp; rfl)); (case hp => exact (Reps.one (show Kd.M (Kd.int .u8) _ _ _ 46 [.int .u8 46] from rfl) (Reps.none _ _)))
                      intro v176 w60 ho61 hb hg_ hnew_
                      clear hg_ hnew_
                      (first | rw [← Ny175.out] at ho61 | (simp only [Int.reduceToNat] at ho61; rw [← Ny175.out] at ho61))
                      have n0_ := Aside0.mk (Kd.R_elder' (by (with_reducible repeat (first | apply Kd.R_alloc | apply Kd.R_drewN | apply Kd.R_drew)); exact HO174.out) (Kd.R_base ho61) hb)
                      have n1_ := Aside0.mk (Kd.R_lower (Kd.R_new' ho61 (Kd.R_lt (by (with_reducible repeat (first | apply Kd.R_alloc | apply Kd.R_drewN | apply Kd.R_drew)); exact HO174.out))) (below_size (by repeat (first | (with_reducible first | exact HB.out | apply below_alloc | apply pw_below_drewN | apply below_drew1) | exact HB.out))))
                      have n2_ := Aside0.mk (below_step (by repeat (first | (with_reducible first | exact HB.out | apply below_alloc | apply pw_below_drewN | apply below_drew1) | exact HB.out)) hb)
                      clear HO174
                      clear HB
                      have HO174 := n0_
                      have HO177 := n1_
                      have HB := n2_
                      clear n0_ n1_ n2_
                      clear hb ho61
                      refine hK.out _ _ trivial (fun hHeld => ?_)
                      clear hK K
                      refine norm_ (a' := ?_) ?_ ?_
                      rotate_left
                      ·show Act.put _ (some 76) _ = _
                       simp only [Act.put, List.setIfInBounds_toArray, List.set_cons_zero, List.set_cons_succ, i64_w, i32_w]
                       rfl
                      exact norm_ (by simp only [putAll, Act.put, List.setIfInBounds_toArray, List.set_cons_zero, List.set_cons_succ]) (hCont (v173, v176) _ ⟨(by (with_reducible repeat (first | apply Kd.R_alloc | apply Kd.R_drewN | apply Kd.R_drew)); exact Kd.R_mono HO174.out (fun _ hk => hk.2)), (by (with_reducible repeat (first | apply Kd.R_alloc | apply Kd.R_drewN | apply Kd.R_drew)); exact Kd.R_mono HO177.out (fun _ hk => hk.2)), (by repeat (first | (with_reducible first | exact HB.out | apply below_alloc | apply pw_below_drewN | apply below_drew1) | exact HB.out))⟩)
                     ·skip
                      refine Kd.R_lit_step (Kd.int .u8) _ 5 ?hg (N := 76) ?hd (xs := ([46] : List Int)) (inner := [.int .u8 46]) (ok := fun _ => True) (okp := fun _ => True) ?hr ?hp (fun _ hk => hk) trivial (Below.refl _ _) (Nat.le_refl _) (by simp) ?_; (case hd => rfl); (case hg => rfl); (case hr => first | (go_simp; done) | (go_simp; rfl)); (case hp => exact (Reps.one (show Kd.M (Kd.int .u8) _ _ _ 46 [.int .u8 46] from rfl) (Reps.none _ _)))
                      intro v176 w59 ho60 hb hg_ hnew_
                      clear hg_ hnew_
                      (first | rw [← Ny175.out] at ho60 | (simp only [Int.reduceToNat] at ho60; rw [← Ny175.out] at ho60))
                      have n0_ := Aside0.mk (Kd.R_elder' (by (with_reducible repeat (first | apply Kd.R_alloc | apply Kd.R_drewN | apply Kd.R_drew)); exact HO_5.out) (Kd.R_base ho60) hb)
                      have n1_ := Aside0.mk (Kd.R_lower (Kd.R_new' ho60 (Kd.R_lt (by (with_reducible repeat (first | apply Kd.R_alloc | apply Kd.R_drewN | apply Kd.R_drew)); exact HO_5.out))) (below_size (by repeat (first | (with_reducible first | exact HB.out | apply below_alloc | apply pw_below_drewN | apply below_drew1) | exact HB.out))))
                      have n2_ := Aside0.mk (below_step (by repeat (first | (with_reducible first | exact HB.out | apply below_alloc | apply pw_below_drewN | apply below_drew1) | exact HB.out)) hb)
                      clear HO_5
                      clear HB
                      have HO_5 := n0_
                      have HO177 := n1_
                      have HB := n2_
                      clear n0_ n1_ n2_
                      clear hb ho60
                      refine hK.out _ _ trivial (fun hHeld => ?_)
                      clear hK K
                      refine norm_ (a' := ?_) ?_ ?_
                      rotate_left
                      ·show Act.put _ (some 76) _ = _
                       simp only [Act.put, List.setIfInBounds_toArray, List.set_cons_zero, List.set_cons_succ, i64_w, i32_w]
                       rfl
                      refine one_ (i := 5) (N := some 75) #[true, true, true, true, true, true, true, false, true, true, true, true, true, true, false, false] rfl rfl (one_of HT_.out (by kernel_rfl)) (by decide) (fun K hK => ?_)
                      refine R_append_str_step (w0 := w) w.heap.size (by rfl) (.tmp 70) _ 45 9 5 rfl Tryz.underlying45 Tryz.underlying9 info5 u5 x5_1 (a0.extract (x6_1 : Int).toNat ((ji28) : Int).toNat) (fun k_ => some k_ ≠ (v176 : Value).ownBlock) rfl rfl ?aF ?aO ?aB ?aS ?aL ?_
                      (case aB => exact (by repeat (first | (with_reducible first | exact HB.out | apply below_alloc | apply pw_below_drewN | apply below_drew1) | exact HB.out)))
                      (case aF => exact (fun k_ hk => Kd.fresh' (Kd.R_lt (by (with_reducible repeat (first | apply Kd.R_alloc | apply Kd.R_drewN | apply Kd.R_drew)); exact HO177.out)) k_ hk))
                      (case aO => exact (by (with_reducible repeat (first | apply Kd.R_alloc | apply Kd.R_drewN | apply Kd.R_drew)); exact Kd.R_mono HO_5.out (fun _ hk => hk.2)))
                      (case aS => exact (below_size (by repeat (first | (with_reducible first | exact HB.out | apply below_alloc | apply pw_below_drewN | apply below_drew1) | exact HB.out))))
                      (case aL => have := LMc52.out; omega)
                      intro v173 w61 ho hb hg hat
                      rw [← Ny172.out] at ho
                      have n0_ := Aside0.mk (Kd.R_after (ok := (fun _ => True)) (by (with_reducible repeat (first | apply Kd.R_alloc | apply Kd.R_drewN | apply Kd.R_drew)); exact HO177.out) hg hat)
                      have n1_ := Aside0.mk (hb)
                      have n2_ := Aside0.mk (ho)
                      clear HO177
                      clear HB
                      clear HO_5
                      have HO177 := n0_
                      have HB := n1_
                      have HO174 := n2_
                      clear n0_ n1_ n2_
                      clear ho hb hg hat
                      refine hK.out _ _ trivial (fun hHeld => ?_)
                      clear hK K
                      refine norm_ (a' := ?_) ?_ ?_
                      rotate_left
                      ·show Act.put _ (some 75) _ = _
                       simp only [Act.put, List.setIfInBounds_toArray, List.set_cons_zero, List.set_cons_succ, i64_w, i32_w]
                       rfl
                      exact norm_ (by simp only [putAll, Act.put, List.setIfInBounds_toArray, List.set_cons_zero, List.set_cons_succ]) (hCont (v173, v176) _ ⟨(by (with_reducible repeat (first | apply Kd.R_alloc | apply Kd.R_drewN | apply Kd.R_drew)); exact HO174.out), (by (with_reducible repeat (first | apply Kd.R_alloc | apply Kd.R_drewN | apply Kd.R_drew)); exact Kd.R_mono HO177.out (fun _ hk => hk.2)), (by repeat (first | (with_reducible first | exact HB.out | apply below_alloc | apply pw_below_drewN | apply below_drew1) | exact HB.out))⟩)
                    rintro ⟨v173, v176⟩ w62 ⟨h0_, h1_, h2_⟩
                    have n0_ : Aside0 (Kd.R (Kd.int .u8) 5 w62 w.heap.size (fun k_ => some k_ ≠ (v176 : Value).ownBlock) v173 y172) := ⟨h0_⟩
                    have n1_ : Aside0 (Kd.R (Kd.int .u8) 5 w62 w.heap.size (fun k_ => some k_ ≠ (v173 : Value).ownBlock) v176 y175) := ⟨h1_⟩
                    have n2_ : Aside0 (Below w.heap.size w w62) := ⟨h2_⟩
                    clear HO_5
                    clear HB
                    clear h0_ h1_ h2_
                    have HO174 := n0_
                    have HO177 := n1_
                    have HB := n2_
                    clear n0_ n1_ n2_
                    have hHeld := trivial
                    obtain ⟨Ao64, co64, eo64⟩ := Kd.R_slice HO177.out
                    (first | subst eo64 | (injection eo64 with f1_ f2_ f3_; have f4_ := f1_.symm; have f5_ := f3_.symm; clear f1_ f2_ f3_; subst f4_; subst f5_))
                    refine norm_ (a' := ?_) ?_ ?_
                    rotate_left
                    ·simp only [putAll, Act.put, List.setIfInBounds_toArray, List.set_cons_zero, List.set_cons_succ]
                     rfl
                    refine one_ (i := 7) (N := some 77) #[true, true, true, true, true, true, true, true, true, true, true, true, true, true, false, false] rfl rfl (one_of HT_.out (by kernel_rfl)) (by decide) (fun K hK => ?_)
                    refine Kd.R_append_rows_step (Kd.int .u8) (w0 := w) w.heap.size (by rfl) (.tmp 75) (.tmp 76) 45 5 (.int .u8 0) 1 rfl Tryz.underlying45 info5 rfl (by decide) (by omega) v173 y172 y175 _ _ _ (fun k_ => some k_ ≠ (.slice Ao64 y175.length co64 : Value).ownBlock) (fun _ => False) rfl rfl ?aO ?aR (fun _ _ h => h) (fun _ h => h.elim) ?aF ?aB ?aS ?aL ?_
                    (case aR => repeat (first | exact (Kd.R_reads' HO177.out).2.2 | (with_reducible refine Kd.C_alloc ?_ _) | (with_reducible refine Kd.C_drewN ?_ _) | (with_reducible refine Kd.C_drew ?_)))
                    (case aB => exact (by repeat (first | (with_reducible first | exact HB.out | apply below_alloc | apply pw_below_drewN | apply below_drew1) | exact HB.out)))
                    (case aF => exact (fun k_ hk => Kd.fresh' (Kd.R_lt (by (with_reducible repeat (first | apply Kd.R_alloc | apply Kd.R_drewN | apply Kd.R_drew)); exact HO177.out)) k_ hk))
                    (case aO => exact (by (with_reducible repeat (first | apply Kd.R_alloc | apply Kd.R_drewN | apply Kd.R_drew)); exact HO174.out))
                    (case aS => exact (below_size (by repeat (first | (with_reducible first | exact HB.out | apply below_alloc | apply pw_below_drewN | apply below_drew1) | exact HB.out))))
                    (case aL => have := LMc53.out; omega)
                    intro v179 w63 ho hb hg hat
                    rw [← Ny178.out] at ho
                    have n0_ := Aside0.mk (Kd.R_after (ok := (fun _ => True)) (by (with_reducible repeat (first | apply Kd.R_alloc | apply Kd.R_drewN | apply Kd.R_drew)); exact Kd.R_mono HO177.out (fun _ hk => ⟨trivial, hk⟩)) hg hat)
                    have n1_ := Aside0.mk (hb)
                    have n2_ := Aside0.mk (ho)
                    clear HO177
                    clear HB
                    clear HO174
                    have HO177 := n0_
                    have HB := n1_
                    have HO180 := n2_
                    clear n0_ n1_ n2_
                    clear ho hb hg hat
                    refine hK.out _ _ trivial (fun hHeld => ?_)
                    clear hK K
                    refine norm_ (a' := ?_) ?_ ?_
                    rotate_left
                    ·show Act.put _ (some 77) _ = _
                     simp only [Act.put, List.setIfInBounds_toArray, List.set_cons_zero, List.set_cons_succ, i64_w, i32_w]
                     rfl
                    refine one_ (i := 14) (N := some 84) #[true, true, true, true, true, true, true, true, true, true, true, true, true, true, true, false] rfl rfl (one_of HT_.out (by kernel_rfl)) (by decide) (fun K hK => ?_)
                    refine R_append_str_step (w0 := w) w.heap.size (by rfl) (.tmp 77) _ 45 9 5 rfl Tryz.underlying45 Tryz.underlying9 info5 v179 y178 (a0.extract ((ji28) : Int).toNat ((wrap64 ((ji28) + t171)) : Int).toNat) (fun k_ => some k_ ≠ (.slice Ao64 y175.length co64 : Value).ownBlock) rfl rfl ?aF ?aO ?aB ?aS ?aL ?_
                    (case aB => exact (by repeat (first | (with_reducible first | exact HB.out | apply below_alloc | apply pw_below_drewN | apply below_drew1) | exact HB.out)))
                    (case aF => exact (fun k_ hk => Kd.fresh' (Kd.R_lt (by (with_reducible repeat (first | apply Kd.R_alloc | apply Kd.R_drewN | apply Kd.R_drew)); exact HO177.out)) k_ hk))
                    (case aO => exact (by (with_reducible repeat (first | apply Kd.R_alloc | apply Kd.R_drewN | apply Kd.R_drew)); exact HO180.out))
                    (case aS => exact (below_size (by repeat (first | (with_reducible first | exact HB.out | apply below_alloc | apply pw_below_drewN | apply below_drew1) | exact HB.out))))
                    (case aL => have := LMc57.out; omega)
                    intro v182 w65 ho hb hg hat
                    rw [← Ny181.out] at ho
                    have n0_ := Aside0.mk (Kd.R_after (ok := (fun _ => True)) (by (with_reducible repeat (first | apply Kd.R_alloc | apply Kd.R_drewN | apply Kd.R_drew)); exact HO177.out) hg hat)
                    have n1_ := Aside0.mk (hb)
                    have n2_ := Aside0.mk (ho)
                    clear HO177
                    clear HB
                    clear HO180
                    have HO177 := n0_
                    have HB := n1_
                    have HO183 := n2_
                    clear n0_ n1_ n2_
                    clear ho hb hg hat
                    refine hK.out _ _ trivial (fun hHeld => ?_)
                    clear hK K
                    refine norm_ (a' := ?_) ?_ ?_
                    rotate_left
                    ·show Act.put _ (some 84) _ = _
                     simp only [Act.put, List.setIfInBounds_toArray, List.set_cons_zero, List.set_cons_succ, i64_w, i32_w]
                     rfl
                    refine pure_ (i := 15) (N := some 5) (v := ?_) (a' := ?_) #[true, true, true, true, true, true, true, true, true, true, true, true, true, true, true, true] rfl rfl (any_of HT_.out (by kernel_rfl)) (fun _ _ _ h => h) (Or.inl ⟨by rfl, ?_⟩) ?_ ?_
                    rotate_left
                    ·intro w'
                     go_simp
                     with_reducible rfl
                    rotate_left
                    ·simp only [Act.put, List.setIfInBounds_toArray, List.set_cons_zero, List.set_cons_succ, i64_w, i32_w]
                     rfl
                    refine done_ (done_of HT_.out (by kernel_rfl)) ?_
                    try go_wp2
                    go_roundg k1
                    case measure => have := HK1.out; omega
                    case rel => exact ⟨(y181), (wrap64 ((ji28) + t171)), (by first | rfl | (simp; done) | (simp only [← hji28] <;> (first | rfl | simp)) | (simp [*]; done)), H', ⟨by have := HK1.out; omega⟩, ⟨by (with_reducible repeat (first | apply Kd.R_alloc | apply Kd.R_drewN | apply Kd.R_drew)); exact Kd.R_mono HO183.out (fun _ hk => trivial)⟩, ⟨by repeat (first | (with_reducible first | exact HB.out | apply below_alloc | apply pw_below_drewN | apply below_drew1) | exact HB.out)⟩⟩
                   ·rw [if_neg c57] at H
                    exact absurd H (by simp)
                  ·rw [if_neg c56] at H
                   exact absurd H (by simp)
                 ·rw [if_neg c55] at H
                  exact absurd H (by simp)
                ·rw [if_neg c53] at H
                 exact absurd H (by simp)
               ·rw [if_neg c52] at H
                exact absurd H (by simp)
              ·rw [if_neg c50] at H
               exact absurd H (by simp)
             ·rw [if_neg c47] at H
              exact absurd H (by simp)
          ·rw [if_neg c30] at H
           exact absurd H (by simp)
         ·rw [if_neg c29] at H
          exact absurd H (by simp)
     ·rw [if_neg c5] at H
      exact absurd H (by simp)
    ·rw [if_neg c4] at H
     exact absurd H (by simp)
   ·rw [if_neg c3] at H
    have c3b0 : decide (x6_1 < (a0.size : Int)) = false := decide_eq_false c3
    clear c3
    obtain rfl := Option.some.inj H
    have hcv66 := own_string (P := Tryz.prog) Tryz.underlying45 Tryz.underlying5 Tryz.underlying9 (Kd.own_of_R HO_5.out)
    go_wp2
    go_ret
    exact ⟨by first | rfl | (simp [errW_none, errW_some] <;> rfl) | (simp [*, errW_none, errW_some] <;> rfl) | (simp [bne_nil_hyb]; done), by repeat (first | (with_reducible first | exact HB.out | apply below_alloc | apply pw_below_drewN | apply below_drew1) | exact HB.out)⟩

/-! ### semantic_canonicalizePackagistVersion: function 26 -/
def semantic_canonicalizePackagistVersion.f (k : Nat) (a0 : ByteArray) : Option (ByteArray) := (strings_TrimPrefix.f a0 (⟨#[118]⟩ : ByteArray)).bind fun t184 => ((strings_TrimPrefix.f t184 (⟨#[86]⟩ : ByteArray)).bind fun t185 => ((semantic_zzPointed.f t185).bind fun t186 => ((semantic_zzParted.f k t186 false).bind fun t187 => ((semantic_zzParted.f k t187 true).bind fun t188 => (some t188)))))
theorem semantic_canonicalizePackagistVersion.mono : ∀ a0 k, LeO (semantic_canonicalizePackagistVersion.f k a0) (semantic_canonicalizePackagistVersion.f (k + 1) a0) := by
 intro a0 k
 unfold semantic_canonicalizePackagistVersion.f
 repeat' first
   | (with_reducible exact semantic_zzParted.mono _ _ _)
   | (with_reducible exact LeO.refl _)
   | (with_reducible exact LeO.none _)
   | (with_reducible refine LeO.ite ?_ ?_)
   | (with_reducible refine LeO.bind ?_ (fun _ => ?_))
   | exact semantic_zzParted.mono _ _ _
   | exact LeO.none _
   | refine LeO.ite ?_ ?_
   | refine LeO.bind ?_ (fun _ => ?_)
set_option maxHeartbeats 8000000 in
set_option maxRecDepth 100000 in
theorem semantic_canonicalizePackagistVersion.calls (k : Nat) (a0 : ByteArray) (r : ByteArray) (w : World) (h : semantic_canonicalizePackagistVersion.f k a0 = some r) :
  Calls Tryz.prog 26 #[.string a0] w fun e w' => e = .returned (.string r) ∧ Below w.heap.size w w' := by
 have HB := Aside0.mk (Below.refl w.heap.size w)
 have H : ((strings_TrimPrefix.f a0 (⟨#[118]⟩ : ByteArray)).bind fun t184 => ((strings_TrimPrefix.f t184 (⟨#[86]⟩ : ByteArray)).bind fun t185 => ((semantic_zzPointed.f t185).bind fun t186 => ((semantic_zzParted.f k t186 false).bind fun t187 => ((semantic_zzParted.f k t187 true).bind fun t188 => (some t188)))))) = some r := h
 clear h
 replace H := Option.bind_eq_some_iff.mp H
 obtain ⟨t184, A20, H⟩ := H
 replace H : ((strings_TrimPrefix.f t184 (⟨#[86]⟩ : ByteArray)).bind fun t185 => ((semantic_zzPointed.f t185).bind fun t186 => ((semantic_zzParted.f k t186 false).bind fun t187 => ((semantic_zzParted.f k t187 true).bind fun t188 => (some t188))))) = some r := H
 have A2 := Aside0.mk A20
 clear A20
 replace H := Option.bind_eq_some_iff.mp H
 obtain ⟨t185, A30, H⟩ := H
 replace H : ((semantic_zzPointed.f t185).bind fun t186 => ((semantic_zzParted.f k t186 false).bind fun t187 => ((semantic_zzParted.f k t187 true).bind fun t188 => (some t188)))) = some r := H
 have A3 := Aside0.mk A30
 clear A30
 replace H := Option.bind_eq_some_iff.mp H
 obtain ⟨t186, A40, H⟩ := H
 replace H : ((semantic_zzParted.f k t186 false).bind fun t187 => ((semantic_zzParted.f k t187 true).bind fun t188 => (some t188))) = some r := H
 have A4 := Aside0.mk A40
 clear A40
 replace H := Option.bind_eq_some_iff.mp H
 obtain ⟨t187, A50, H⟩ := H
 replace H : ((semantic_zzParted.f k t187 true).bind fun t188 => (some t188)) = some r := H
 have A5 := Aside0.mk A50
 clear A50
 replace H := Option.bind_eq_some_iff.mp H
 obtain ⟨t188, A60, H⟩ := H
 replace H : (some t188) = some r := H
 have A6 := Aside0.mk A60
 clear A60
 obtain rfl := Option.some.inj H
 go_enter Tryz.func26, Tryz.ntmps26
 go_wp2_with (first | ((with_reducible refine gate_callee (f := 32) rfl ?_); refine goesL_ (some 4) rfl rfl Tryz.func32 (by kernel_rfl) rfl #[.string a0, .string (⟨#[118]⟩ : ByteArray)] rfl (by (try simp only [List.map_toArray, List.map_cons, List.map_nil]); first | done | rfl | (simp only [List.length_drop, List.length_take]; rfl)) ?_; (with_reducible refine (strings_TrimPrefix.calls a0 (⟨#[118]⟩ : ByteArray) t184 _ A2.out).mono ?_); rintro e w' ⟨rfl, ⟨nd, rfl⟩⟩; refine ⟨_, rfl, ?_⟩) | ((with_reducible refine gate_callee (f := 32) rfl ?_); refine goesL_ (some 5) rfl rfl Tryz.func32 (by kernel_rfl) rfl #[.string t184, .string (⟨#[86]⟩ : ByteArray)] rfl (by (try simp only [List.map_toArray, List.map_cons, List.map_nil]); first | done | rfl | (simp only [List.length_drop, List.length_take]; rfl)) ?_; (with_reducible refine (strings_TrimPrefix.calls t184 (⟨#[86]⟩ : ByteArray) t185 _ A3.out).mono ?_); rintro e w' ⟨rfl, ⟨nd, rfl⟩⟩; refine ⟨_, rfl, ?_⟩) | ((with_reducible refine gate_callee (f := 33) rfl ?_); refine goesL_ (some 7) rfl rfl Tryz.func33 (by kernel_rfl) rfl #[.string t185] rfl (by (try simp only [List.map_toArray, List.map_cons, List.map_nil]); first | done | rfl | (simp only [List.length_drop, List.length_take]; rfl)) ?_; (with_reducible refine (semantic_zzPointed.calls t185 t186 _ A4.out).mono ?_); rintro e w7 ⟨rfl, hb⟩; refine ⟨_, rfl, ?_⟩; have n0_ := Aside0.mk (below_step (by repeat (first | (with_reducible first | exact HB.out | apply below_alloc | apply pw_below_drewN | apply below_drew1) | exact HB.out)) hb); clear HB; have HB := n0_; clear n0_; (try clear hb); (try clear hb2); (try clear hk); (try clear hi)) | ((with_reducible refine gate_callee (f := 34) rfl ?_); refine goesL_ (some 9) rfl rfl Tryz.func34 (by kernel_rfl) rfl #[.string t186, .bool false] rfl (by (try simp only [List.map_toArray, List.map_cons, List.map_nil]); first | done | rfl | (simp only [List.length_drop, List.length_take]; rfl)) ?_; (with_reducible refine (semantic_zzParted.calls k t186 false t187 _ A5.out).mono ?_); rintro e w8 ⟨rfl, hb⟩; refine ⟨_, rfl, ?_⟩; have n0_ := Aside0.mk (below_step (by repeat (first | (with_reducible first | exact HB.out | apply below_alloc | apply pw_below_drewN | apply below_drew1) | exact HB.out)) hb); clear HB; have HB := n0_; clear n0_; (try clear hb); (try clear hb2); (try clear hk); (try clear hi)) | ((with_reducible refine gate_callee (f := 34) rfl ?_); refine goesL_ (some 11) rfl rfl Tryz.func34 (by kernel_rfl) rfl #[.string t187, .bool true] rfl (by (try simp only [List.map_toArray, List.map_cons, List.map_nil]); first | done | rfl | (simp only [List.length_drop, List.length_take]; rfl)) ?_; (with_reducible refine (semantic_zzParted.calls k t187 true t188 _ A6.out).mono ?_); rintro e w9 ⟨rfl, hb⟩; refine ⟨_, rfl, ?_⟩; have n0_ := Aside0.mk (below_step (by repeat (first | (with_reducible first | exact HB.out | apply below_alloc | apply pw_below_drewN | apply below_drew1) | exact HB.out)) hb); clear HB; have HB := n0_; clear n0_; (try clear hb); (try clear hb2); (try clear hk); (try clear hi)))
 go_ret
 exact ⟨by first | rfl | (simp [errW_none, errW_some] <;> rfl) | (simp [*, errW_none, errW_some] <;> rfl) | (simp [bne_nil_hyb]; done), by repeat (first | (with_reducible first | exact HB.out | apply below_alloc | apply pw_below_drewN | apply below_drew1) | exact HB.out)⟩

end Go.Proofs.YtdjkekgfeadmoaaGreatDoor.Q
