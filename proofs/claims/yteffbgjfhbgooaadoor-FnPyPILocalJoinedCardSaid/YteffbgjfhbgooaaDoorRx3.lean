/- Proved here: each Go function that is named in this text, called as its theorem 'calls' says, returns what its Lean function 'f' tells, and of the memory that was there nothing is changed (a row of a law: the law returns true). Conditions: those that stand in each theorem; where 'f' tells none, nothing is said. Laid by a program of this seat's prover out of the translation; Lean checks it. -/
import Derived.Test.YteffbgjfhbgooaaDoorRx0
import Derived.Test.YteffbgjfhbgooaaDoorRx1
import Derived.Test.YteffbgjfhbgooaaDoorRx2
namespace Go.Proofs.YteffbgjfhbgooaaDoor.R
open Go.RowKit Go.Proofs.YteffbgjfhbgooaaDoorH Go.Proofs.YteffbgjfhbgooaaDoorW.PrintWords Go.Proofs.YteffbgjfhbgooaaDoorW.PrintLast Go.Proofs.YteffbgjfhbgooaaDoorW.PrintMore
attribute [local go_sem] max2_int min2_int max_two min_two max_three min_three max_four min_four   -- for this text's walks alone
set_option linter.unusedVariables false
set_option linter.unusedSimpArgs false

/-! ### laws_FnPyPILocalJoined: function 7 -/
mutual
def laws_FnPyPILocalJoined.j0 : Nat → List ByteArray → List Int → Bool → Option (Bool)
  | 0, _, _, _ => none
  | k + 1, x0, x1, x20 => if x20 = true then (some true) else (if (x0.length : Int) = 0 then (laws_FnPyPILocalJoined.j1 k x0 x1 true) else ((laws_short.f k x0).bind fun t135 => (laws_FnPyPILocalJoined.j1 k x0 x1 (!t135))))
def laws_FnPyPILocalJoined.j1 : Nat → List ByteArray → List Int → Bool → Option (Bool)
  | 0, _, _, _ => none
  | k + 1, x0, x1, x28 => if x28 = true then (some true) else (laws_FnPyPILocalJoined.l0 k x1 (⟨#[]⟩ : ByteArray) ([] : List ByteArray) x0 (x0.length : Int) 0)
def laws_FnPyPILocalJoined.l0 : Nat → List Int → ByteArray → List ByteArray → List ByteArray → Int → Int → Option (Bool)
  | 0, _, _, _, _, _, _ => none
  | k + 1, x1, x5, x6, x29, x30, x31 => if x31 < x30 then (if 0 ≤ x31 then (if x31 < (x29.length : Int) then ((laws_words.f k (rdOf ByteArray.empty x29 x31)).bind fun t141 => (if t141 = true then (laws_FnPyPILocalJoined.j3 k x1 x5 x6 x31 (rdOf ByteArray.empty x29 x31) x29 x30 x31 false) else ((laws_digits.f k (rdOf ByteArray.empty x29 x31)).bind fun t142 => (laws_FnPyPILocalJoined.j3 k x1 x5 x6 x31 (rdOf ByteArray.empty x29 x31) x29 x30 x31 (!t142))))) else (none)) else (none)) else ((impl_PyPILocalParts.f k x5).bind fun t136 => ((laws_texts.f k t136 x6).bind fun t139 => (some t139)))
def laws_FnPyPILocalJoined.j3 : Nat → List Int → ByteArray → List ByteArray → Int → ByteArray → List ByteArray → Int → Int → Bool → Option (Bool)
  | 0, _, _, _, _, _, _, _, _, _ => none
  | k + 1, x1, x5, x6, x7, x8, x29, x30, x31, x43 => if x43 = true then (some true) else (if x7 > 0 then (if x7 < (x1.length : Int) then ((some (([(⟨#[46]⟩ : ByteArray), (⟨#[95]⟩ : ByteArray), (⟨#[45]⟩ : ByteArray)] : List ByteArray) : List ByteArray)).bind fun y143 => (if 0 ≤ x7 then (if 0 ≤ (Int.tmod (rd x1 x7) 3) then (if (Int.tmod (rd x1 x7) 3) < (y143.length : Int) then (if x5.size + (rdOf ByteArray.empty y143 (Int.tmod (rd x1 x7) 3)).size ≤ 9223372036854775807 then (laws_FnPyPILocalJoined.j4 k x1 (x5 ++ (rdOf ByteArray.empty y143 (Int.tmod (rd x1 x7) 3))) x6 x8 x29 x30 x31) else (none)) else (none)) else (none)) else (none))) else (if x5.size + 1 ≤ 9223372036854775807 then (laws_FnPyPILocalJoined.j4 k x1 (x5 ++ (⟨#[46]⟩ : ByteArray)) x6 x8 x29 x30 x31) else (none))) else (laws_FnPyPILocalJoined.j4 k x1 x5 x6 x8 x29 x30 x31))
def laws_FnPyPILocalJoined.j4 : Nat → List Int → ByteArray → List ByteArray → ByteArray → List ByteArray → Int → Int → Option (Bool)
  | 0, _, _, _, _, _, _, _ => none
  | k + 1, x1, x5, x6, x8, x29, x30, x31 => if x5.size + x8.size ≤ 9223372036854775807 then (laws_FnPyPILocalJoined.l1 k x1 (x5 ++ x8) x6 x8 (⟨#[]⟩ : ByteArray) 0 x29 x30 x31) else (none)
def laws_FnPyPILocalJoined.l1 : Nat → List Int → ByteArray → List ByteArray → ByteArray → ByteArray → Int → List ByteArray → Int → Int → Option (Bool)
  | 0, _, _, _, _, _, _, _, _, _ => none
  | k + 1, x1, x5, x6, x8, x10, x11, x29, x30, x31 => if x11 < (x8.size : Int) then (if 0 ≤ x11 then (if (bt x8 x11) ≥ 65 then (if (bt x8 x11) ≤ 90 then (if x10.size + (Utf8.encode (((bt x8 x11) + 32) % 256)).size ≤ 9223372036854775807 then (laws_FnPyPILocalJoined.l1 k x1 x5 x6 x8 (x10 ++ (Utf8.encode (((bt x8 x11) + 32) % 256))) (wrap64 (x11 + 1)) x29 x30 x31) else (none)) else (if x10.size + (Utf8.encode (wrap32 (bt x8 x11))).size ≤ 9223372036854775807 then (laws_FnPyPILocalJoined.l1 k x1 x5 x6 x8 (x10 ++ (Utf8.encode (wrap32 (bt x8 x11)))) (wrap64 (x11 + 1)) x29 x30 x31) else (none))) else (if x10.size + (Utf8.encode (wrap32 (bt x8 x11))).size ≤ 9223372036854775807 then (laws_FnPyPILocalJoined.l1 k x1 x5 x6 x8 (x10 ++ (Utf8.encode (wrap32 (bt x8 x11)))) (wrap64 (x11 + 1)) x29 x30 x31) else (none))) else (none)) else (if x6.length < 8796093022208 then (laws_FnPyPILocalJoined.l0 k x1 x5 (x6 ++ [x10]) x29 x30 (wrap64 (x31 + 1))) else (none))
end
def laws_FnPyPILocalJoined.f (k : Nat) (l0 : List ByteArray) (l1 : List Int) : Option (Bool) := (laws_zzFits2.f k l0).bind fun t134 => (if t134 = true then (laws_FnPyPILocalJoined.j0 k l0 l1 (decide ((l1.length : Int) > 2147483647))) else (laws_FnPyPILocalJoined.j0 k l0 l1 true))
theorem laws_FnPyPILocalJoined.mono_l : ∀ k, (∀ y0 y1 y2, LeO (laws_FnPyPILocalJoined.j0 k y0 y1 y2) (laws_FnPyPILocalJoined.j0 (k + 1) y0 y1 y2)) ∧ (∀ y0 y1 y2, LeO (laws_FnPyPILocalJoined.j1 k y0 y1 y2) (laws_FnPyPILocalJoined.j1 (k + 1) y0 y1 y2)) ∧ (∀ y0 y1 y2 y3 y4 y5, LeO (laws_FnPyPILocalJoined.l0 k y0 y1 y2 y3 y4 y5) (laws_FnPyPILocalJoined.l0 (k + 1) y0 y1 y2 y3 y4 y5)) ∧ (∀ y0 y1 y2 y3 y4 y5 y6 y7 y8, LeO (laws_FnPyPILocalJoined.j3 k y0 y1 y2 y3 y4 y5 y6 y7 y8) (laws_FnPyPILocalJoined.j3 (k + 1) y0 y1 y2 y3 y4 y5 y6 y7 y8)) ∧ (∀ y0 y1 y2 y3 y4 y5 y6, LeO (laws_FnPyPILocalJoined.j4 k y0 y1 y2 y3 y4 y5 y6) (laws_FnPyPILocalJoined.j4 (k + 1) y0 y1 y2 y3 y4 y5 y6)) ∧ (∀ y0 y1 y2 y3 y4 y5 y6 y7 y8, LeO (laws_FnPyPILocalJoined.l1 k y0 y1 y2 y3 y4 y5 y6 y7 y8) (laws_FnPyPILocalJoined.l1 (k + 1) y0 y1 y2 y3 y4 y5 y6 y7 y8))
  | 0 => ⟨fun _ _ _ r h => by simp [laws_FnPyPILocalJoined.j0] at h, fun _ _ _ r h => by simp [laws_FnPyPILocalJoined.j1] at h, fun _ _ _ _ _ _ r h => by simp [laws_FnPyPILocalJoined.l0] at h, fun _ _ _ _ _ _ _ _ _ r h => by simp [laws_FnPyPILocalJoined.j3] at h, fun _ _ _ _ _ _ _ r h => by simp [laws_FnPyPILocalJoined.j4] at h, fun _ _ _ _ _ _ _ _ _ r h => by simp [laws_FnPyPILocalJoined.l1] at h⟩
  | k + 1 => by
    obtain ⟨ih0, ih1, ih2, ih3, ih4, ih5⟩ := laws_FnPyPILocalJoined.mono_l k
    refine ⟨?_, ?_, ?_, ?_, ?_, ?_⟩
    · intro y0 y1 y2
      unfold laws_FnPyPILocalJoined.j0
      repeat' first
      | (with_reducible exact ih0 _ _ _)
      | (with_reducible exact ih1 _ _ _)
      | (with_reducible exact ih2 _ _ _ _ _ _)
      | (with_reducible exact ih3 _ _ _ _ _ _ _ _ _)
      | (with_reducible exact ih4 _ _ _ _ _ _ _)
      | (with_reducible exact ih5 _ _ _ _ _ _ _ _ _)
      | (with_reducible exact impl_PyPILocalParts.mono _ _)
      | (with_reducible exact laws_digits.mono _ _)
      | (with_reducible exact laws_short.mono _ _)
      | (with_reducible exact laws_texts.mono _ _ _)
      | (with_reducible exact laws_words.mono _ _)
      | (with_reducible exact laws_zzFits2.mono _ _)
      | (with_reducible exact LeO.refl _)
      | (with_reducible exact LeO.none _)
      | (with_reducible refine LeO.ite ?_ ?_)
      | (with_reducible refine LeO.bind ?_ (fun _ => ?_))
      | exact ih0 _ _ _
      | exact ih1 _ _ _
      | exact ih2 _ _ _ _ _ _
      | exact ih3 _ _ _ _ _ _ _ _ _
      | exact ih4 _ _ _ _ _ _ _
      | exact ih5 _ _ _ _ _ _ _ _ _
      | exact impl_PyPILocalParts.mono _ _
      | exact laws_digits.mono _ _
      | exact laws_short.mono _ _
      | exact laws_texts.mono _ _ _
      | exact laws_words.mono _ _
      | exact laws_zzFits2.mono _ _
      | exact LeO.none _
      | refine LeO.ite ?_ ?_
      | refine LeO.bind ?_ (fun _ => ?_)
    · intro y0 y1 y2
      unfold laws_FnPyPILocalJoined.j1
      repeat' first
      | (with_reducible exact ih0 _ _ _)
      | (with_reducible exact ih1 _ _ _)
      | (with_reducible exact ih2 _ _ _ _ _ _)
      | (with_reducible exact ih3 _ _ _ _ _ _ _ _ _)
      | (with_reducible exact ih4 _ _ _ _ _ _ _)
      | (with_reducible exact ih5 _ _ _ _ _ _ _ _ _)
      | (with_reducible exact impl_PyPILocalParts.mono _ _)
      | (with_reducible exact laws_digits.mono _ _)
      | (with_reducible exact laws_short.mono _ _)
      | (with_reducible exact laws_texts.mono _ _ _)
      | (with_reducible exact laws_words.mono _ _)
      | (with_reducible exact laws_zzFits2.mono _ _)
      | (with_reducible exact LeO.refl _)
      | (with_reducible exact LeO.none _)
      | (with_reducible refine LeO.ite ?_ ?_)
      | (with_reducible refine LeO.bind ?_ (fun _ => ?_))
      | exact ih0 _ _ _
      | exact ih1 _ _ _
      | exact ih2 _ _ _ _ _ _
      | exact ih3 _ _ _ _ _ _ _ _ _
      | exact ih4 _ _ _ _ _ _ _
      | exact ih5 _ _ _ _ _ _ _ _ _
      | exact impl_PyPILocalParts.mono _ _
      | exact laws_digits.mono _ _
      | exact laws_short.mono _ _
      | exact laws_texts.mono _ _ _
      | exact laws_words.mono _ _
      | exact laws_zzFits2.mono _ _
      | exact LeO.none _
      | refine LeO.ite ?_ ?_
      | refine LeO.bind ?_ (fun _ => ?_)
    · intro y0 y1 y2 y3 y4 y5
      unfold laws_FnPyPILocalJoined.l0
      repeat' first
      | (with_reducible exact ih0 _ _ _)
      | (with_reducible exact ih1 _ _ _)
      | (with_reducible exact ih2 _ _ _ _ _ _)
      | (with_reducible exact ih3 _ _ _ _ _ _ _ _ _)
      | (with_reducible exact ih4 _ _ _ _ _ _ _)
      | (with_reducible exact ih5 _ _ _ _ _ _ _ _ _)
      | (with_reducible exact impl_PyPILocalParts.mono _ _)
      | (with_reducible exact laws_digits.mono _ _)
      | (with_reducible exact laws_short.mono _ _)
      | (with_reducible exact laws_texts.mono _ _ _)
      | (with_reducible exact laws_words.mono _ _)
      | (with_reducible exact laws_zzFits2.mono _ _)
      | (with_reducible exact LeO.refl _)
      | (with_reducible exact LeO.none _)
      | (with_reducible refine LeO.ite ?_ ?_)
      | (with_reducible refine LeO.bind ?_ (fun _ => ?_))
      | exact ih0 _ _ _
      | exact ih1 _ _ _
      | exact ih2 _ _ _ _ _ _
      | exact ih3 _ _ _ _ _ _ _ _ _
      | exact ih4 _ _ _ _ _ _ _
      | exact ih5 _ _ _ _ _ _ _ _ _
      | exact impl_PyPILocalParts.mono _ _
      | exact laws_digits.mono _ _
      | exact laws_short.mono _ _
      | exact laws_texts.mono _ _ _
      | exact laws_words.mono _ _
      | exact laws_zzFits2.mono _ _
      | exact LeO.none _
      | refine LeO.ite ?_ ?_
      | refine LeO.bind ?_ (fun _ => ?_)
    · intro y0 y1 y2 y3 y4 y5 y6 y7 y8
      unfold laws_FnPyPILocalJoined.j3
      repeat' first
      | (with_reducible exact ih0 _ _ _)
      | (with_reducible exact ih1 _ _ _)
      | (with_reducible exact ih2 _ _ _ _ _ _)
      | (with_reducible exact ih3 _ _ _ _ _ _ _ _ _)
      | (with_reducible exact ih4 _ _ _ _ _ _ _)
      | (with_reducible exact ih5 _ _ _ _ _ _ _ _ _)
      | (with_reducible exact impl_PyPILocalParts.mono _ _)
      | (with_reducible exact laws_digits.mono _ _)
      | (with_reducible exact laws_short.mono _ _)
      | (with_reducible exact laws_texts.mono _ _ _)
      | (with_reducible exact laws_words.mono _ _)
      | (with_reducible exact laws_zzFits2.mono _ _)
      | (with_reducible exact LeO.refl _)
      | (with_reducible exact LeO.none _)
      | (with_reducible refine LeO.ite ?_ ?_)
      | (with_reducible refine LeO.bind ?_ (fun _ => ?_))
      | exact ih0 _ _ _
      | exact ih1 _ _ _
      | exact ih2 _ _ _ _ _ _
      | exact ih3 _ _ _ _ _ _ _ _ _
      | exact ih4 _ _ _ _ _ _ _
      | exact ih5 _ _ _ _ _ _ _ _ _
      | exact impl_PyPILocalParts.mono _ _
      | exact laws_digits.mono _ _
      | exact laws_short.mono _ _
      | exact laws_texts.mono _ _ _
      | exact laws_words.mono _ _
      | exact laws_zzFits2.mono _ _
      | exact LeO.none _
      | refine LeO.ite ?_ ?_
      | refine LeO.bind ?_ (fun _ => ?_)
    · intro y0 y1 y2 y3 y4 y5 y6
      unfold laws_FnPyPILocalJoined.j4
      repeat' first
      | (with_reducible exact ih0 _ _ _)
      | (with_reducible exact ih1 _ _ _)
      | (with_reducible exact ih2 _ _ _ _ _ _)
      | (with_reducible exact ih3 _ _ _ _ _ _ _ _ _)
      | (with_reducible exact ih4 _ _ _ _ _ _ _)
      | (with_reducible exact ih5 _ _ _ _ _ _ _ _ _)
      | (with_reducible exact impl_PyPILocalParts.mono _ _)
      | (with_reducible exact laws_digits.mono _ _)
      | (with_reducible exact laws_short.mono _ _)
      | (with_reducible exact laws_texts.mono _ _ _)
      | (with_reducible exact laws_words.mono _ _)
      | (with_reducible exact laws_zzFits2.mono _ _)
      | (with_reducible exact LeO.refl _)
      | (with_reducible exact LeO.none _)
      | (with_reducible refine LeO.ite ?_ ?_)
      | (with_reducible refine LeO.bind ?_ (fun _ => ?_))
      | exact ih0 _ _ _
      | exact ih1 _ _ _
      | exact ih2 _ _ _ _ _ _
      | exact ih3 _ _ _ _ _ _ _ _ _
      | exact ih4 _ _ _ _ _ _ _
      | exact ih5 _ _ _ _ _ _ _ _ _
      | exact impl_PyPILocalParts.mono _ _
      | exact laws_digits.mono _ _
      | exact laws_short.mono _ _
      | exact laws_texts.mono _ _ _
      | exact laws_words.mono _ _
      | exact laws_zzFits2.mono _ _
      | exact LeO.none _
      | refine LeO.ite ?_ ?_
      | refine LeO.bind ?_ (fun _ => ?_)
    · intro y0 y1 y2 y3 y4 y5 y6 y7 y8
      unfold laws_FnPyPILocalJoined.l1
      repeat' first
      | (with_reducible exact ih0 _ _ _)
      | (with_reducible exact ih1 _ _ _)
      | (with_reducible exact ih2 _ _ _ _ _ _)
      | (with_reducible exact ih3 _ _ _ _ _ _ _ _ _)
      | (with_reducible exact ih4 _ _ _ _ _ _ _)
      | (with_reducible exact ih5 _ _ _ _ _ _ _ _ _)
      | (with_reducible exact impl_PyPILocalParts.mono _ _)
      | (with_reducible exact laws_digits.mono _ _)
      | (with_reducible exact laws_short.mono _ _)
      | (with_reducible exact laws_texts.mono _ _ _)
      | (with_reducible exact laws_words.mono _ _)
      | (with_reducible exact laws_zzFits2.mono _ _)
      | (with_reducible exact LeO.refl _)
      | (with_reducible exact LeO.none _)
      | (with_reducible refine LeO.ite ?_ ?_)
      | (with_reducible refine LeO.bind ?_ (fun _ => ?_))
      | exact ih0 _ _ _
      | exact ih1 _ _ _
      | exact ih2 _ _ _ _ _ _
      | exact ih3 _ _ _ _ _ _ _ _ _
      | exact ih4 _ _ _ _ _ _ _
      | exact ih5 _ _ _ _ _ _ _ _ _
      | exact impl_PyPILocalParts.mono _ _
      | exact laws_digits.mono _ _
      | exact laws_short.mono _ _
      | exact laws_texts.mono _ _ _
      | exact laws_words.mono _ _
      | exact laws_zzFits2.mono _ _
      | exact LeO.none _
      | refine LeO.ite ?_ ?_
      | refine LeO.bind ?_ (fun _ => ?_)
theorem laws_FnPyPILocalJoined.mono : ∀ a0 a1 k, LeO (laws_FnPyPILocalJoined.f k a0 a1) (laws_FnPyPILocalJoined.f (k + 1) a0 a1) := by
  intro a0 a1 k
  obtain ⟨ih0, ih1, ih2, ih3, ih4, ih5⟩ := laws_FnPyPILocalJoined.mono_l k
  unfold laws_FnPyPILocalJoined.f
  repeat' first
      | (with_reducible exact ih0 _ _ _)
      | (with_reducible exact ih1 _ _ _)
      | (with_reducible exact ih2 _ _ _ _ _ _)
      | (with_reducible exact ih3 _ _ _ _ _ _ _ _ _)
      | (with_reducible exact ih4 _ _ _ _ _ _ _)
      | (with_reducible exact ih5 _ _ _ _ _ _ _ _ _)
      | (with_reducible exact impl_PyPILocalParts.mono _ _)
      | (with_reducible exact laws_digits.mono _ _)
      | (with_reducible exact laws_short.mono _ _)
      | (with_reducible exact laws_texts.mono _ _ _)
      | (with_reducible exact laws_words.mono _ _)
      | (with_reducible exact laws_zzFits2.mono _ _)
      | (with_reducible exact LeO.refl _)
      | (with_reducible exact LeO.none _)
      | (with_reducible refine LeO.ite ?_ ?_)
      | (with_reducible refine LeO.bind ?_ (fun _ => ?_))
      | exact ih0 _ _ _
      | exact ih1 _ _ _
      | exact ih2 _ _ _ _ _ _
      | exact ih3 _ _ _ _ _ _ _ _ _
      | exact ih4 _ _ _ _ _ _ _
      | exact ih5 _ _ _ _ _ _ _ _ _
      | exact impl_PyPILocalParts.mono _ _
      | exact laws_digits.mono _ _
      | exact laws_short.mono _ _
      | exact laws_texts.mono _ _ _
      | exact laws_words.mono _ _
      | exact laws_zzFits2.mono _ _
      | exact LeO.none _
      | refine LeO.ite ?_ ?_
      | refine LeO.bind ?_ (fun _ => ?_)
set_option maxHeartbeats 8000000 in
set_option maxRecDepth 100000 in
theorem laws_FnPyPILocalJoined.calls (k : Nat) (A0 : Option Addr) (c0 : Nat) (l0 : List ByteArray) (A1 : Option Addr) (c1 : Nat) (l1 : List Int) (r : Bool) (w : World) (hr0 : Kd.C Kd.string w A0 l0.length l0) (hc0 : l0.length ≤ c0) (hr1 : Kd.C (Kd.int .u8) w A1 l1.length l1) (hc1 : l1.length ≤ c1) (h : laws_FnPyPILocalJoined.f k l0 l1 = some r) :
    Calls Tryd.prog 7 #[.slice A0 l0.length c0, .slice A1 l1.length c1] w fun e w' => e = .returned (.bool r) ∧ Below w.heap.size w w' := by
  have HR0 := Aside0.mk hr0
  have HC0 := Aside0.mk hc0
  clear hr0 hc0
  have HR1 := Aside0.mk hr1
  have HC1 := Aside0.mk hc1
  clear hr1 hc1
  have HB := Aside0.mk (Below.refl w.heap.size w)
  have H : ((laws_zzFits2.f k l0).bind fun t134 => (if t134 = true then (laws_FnPyPILocalJoined.j0 k l0 l1 (decide ((l1.length : Int) > 2147483647))) else (laws_FnPyPILocalJoined.j0 k l0 l1 true))) = some r := h
  clear h
  have HC3 := Aside0.mk H
  clear H
  go_enter Tryd.func7, Tryd.ntmps7
  go_upto_region 1 with (fail)
  go_cut [20] (fun v20 wc => ∃ (kq : Nat) (x20_2 : Bool), v20 = .bool x20_2 ∧ Aside0 (laws_FnPyPILocalJoined.j0 kq l0 l1 x20_2 = some r) ∧ Aside0 (kq ≤ k) ∧ Aside0 (Below w.heap.size w wc))
  case first =>
    have H := HC3.out
    clear HC3
    replace H := Option.bind_eq_some_iff.mp H
    obtain ⟨t134, A40, H⟩ := H
    replace H : (if t134 = true then (laws_FnPyPILocalJoined.j0 k l0 l1 (decide ((l1.length : Int) > 2147483647))) else (laws_FnPyPILocalJoined.j0 k l0 l1 true)) = some r := H
    have A4 := Aside0.mk A40
    clear A40
    by_cases c5 : t134 = true
    · subst c5
      have H1 : (laws_FnPyPILocalJoined.j0 k l0 l1 (decide ((l1.length : Int) > 2147483647))) = some r := by rw [if_pos rfl] at H; exact H
      clear H
      have H := H1
      clear H1
      have H' := Aside0.mk H
      clear H
      go_wp2_with (first | ((with_reducible refine gate_callee (f := 18) rfl ?_); refine goesL_ (some 14) rfl rfl Tryd.func18 (by kernel_rfl) rfl #[.slice A0 l0.length c0] rfl (by (try simp only [List.map_toArray, List.map_cons, List.map_nil]); first | done | rfl | (simp only [List.length_drop, List.length_take]; rfl)) ?_; (with_reducible refine (laws_zzFits2.calls k _ _ l0 true _ ?side1 ?side2 A4.out).mono ?_); (case side1 => repeat (first | exact (Kd.C_below HR0.out HB.out) | (with_reducible refine Kd.C_alloc ?_ _) | (with_reducible refine Kd.C_drewN ?_ _) | (with_reducible refine Kd.C_drew ?_))); (case side2 => exact HC0.out); rintro e w' ⟨rfl, ⟨nd, rfl⟩⟩; refine ⟨_, rfl, ?_⟩))
      go_meet
      case rel => exact ⟨_, (decide ((l1.length : Int) > 2147483647)), (by first | rfl | (simp; done) | (simp [*]; done) | (simp [bne_nil_hyb]; done) | (simp [bne_nil_hyb, *]; done)), H', ⟨by first | omega | exact Nat.le_refl _⟩, ⟨by repeat (first | (with_reducible first | exact HB.out | apply below_alloc | apply pw_below_drewN | apply below_drew1) | exact HB.out)⟩⟩
    · replace c5 := Bool.eq_false_iff.mpr c5
      subst c5
      have H1 : (laws_FnPyPILocalJoined.j0 k l0 l1 true) = some r := by rw [if_neg (show ¬ (false = true) by decide)] at H; exact H
      clear H
      have H := H1
      clear H1
      have H' := Aside0.mk H
      clear H
      go_wp2_with (first | ((with_reducible refine gate_callee (f := 18) rfl ?_); refine goesL_ (some 14) rfl rfl Tryd.func18 (by kernel_rfl) rfl #[.slice A0 l0.length c0] rfl (by (try simp only [List.map_toArray, List.map_cons, List.map_nil]); first | done | rfl | (simp only [List.length_drop, List.length_take]; rfl)) ?_; (with_reducible refine (laws_zzFits2.calls k _ _ l0 false _ ?side1 ?side2 A4.out).mono ?_); (case side1 => repeat (first | exact (Kd.C_below HR0.out HB.out) | (with_reducible refine Kd.C_alloc ?_ _) | (with_reducible refine Kd.C_drewN ?_ _) | (with_reducible refine Kd.C_drew ?_))); (case side2 => exact HC0.out); rintro e w' ⟨rfl, ⟨nd, rfl⟩⟩; refine ⟨_, rfl, ?_⟩))
      go_meet
      case rel => exact ⟨_, (true), (by first | rfl | (simp; done) | (simp [*]; done) | (simp [bne_nil_hyb]; done) | (simp [bne_nil_hyb, *]; done)), H', ⟨by first | omega | exact Nat.le_refl _⟩, ⟨by repeat (first | (with_reducible first | exact HB.out | apply below_alloc | apply pw_below_drewN | apply below_drew1) | exact HB.out)⟩⟩
  case rest =>
    clear HC3
    try clear c1
    try clear p2
    try clear c5
    obtain ⟨kq, x20_2, rfl, HA, HJ2, HB⟩ := hcut
    cases kq with
    | zero => exact absurd HA.out (by simp [laws_FnPyPILocalJoined.j0])
    | succ kj2 =>
      have H := HA.out
      clear HA
      simp only [laws_FnPyPILocalJoined.j0] at H
      by_cases c6 : x20_2 = true
      · subst c6
        have H1 : (some true) = some r := by rw [if_pos rfl] at H; exact H
        clear H
        have H := H1
        clear H1
        obtain rfl := Option.some.inj H
        go_wp2
        go_ret
        exact ⟨by first | rfl | (simp [errW_none, errW_some] <;> rfl) | (simp [*, errW_none, errW_some] <;> rfl) | (simp [bne_nil_hyb]; done), by repeat (first | (with_reducible first | exact HB.out | apply below_alloc | apply pw_below_drewN | apply below_drew1) | exact HB.out)⟩
      · replace c6 := Bool.eq_false_iff.mpr c6
        subst c6
        have H1 : (if (l0.length : Int) = 0 then (laws_FnPyPILocalJoined.j1 kj2 l0 l1 true) else ((laws_short.f kj2 l0).bind fun t135 => (laws_FnPyPILocalJoined.j1 kj2 l0 l1 (!t135)))) = some r := by rw [if_neg (show ¬ (false = true) by decide)] at H; exact H
        clear H
        have H := H1
        clear H1
        have HC7 := Aside0.mk H
        clear H
        go_upto_region 3 with (fail)
        go_cut [28] (fun v28 wc => ∃ (kq : Nat) (x28_6 : Bool), v28 = .bool x28_6 ∧ Aside0 (laws_FnPyPILocalJoined.j1 kq l0 l1 x28_6 = some r) ∧ Aside0 (kq ≤ kj2) ∧ Aside0 (Below w.heap.size w wc))
        case first =>
          have H := HC7.out
          clear HC7
          by_cases c8 : (l0.length : Int) = 0
          · rw [if_pos c8] at H
            have c8b0 : ((l0.length : Int) == 0) = true := beq_iff_eq.mpr c8
            have c8b1 : ((l0.length : Int) != 0) = false := bne_eq_false_iff_eq.mpr c8
            clear c8
            (first | rw [c8b0] | (simp only [i64_w, i32_w]; rw [c8b0]) | skip)
            have H' := Aside0.mk H
            clear H
            go_wp2
            go_meet
            case rel => exact ⟨_, (true), (by first | rfl | (simp; done) | (simp [*]; done) | (simp [bne_nil_hyb]; done) | (simp [bne_nil_hyb, *]; done)), H', ⟨by have := HJ2.out; first | omega | exact Nat.le_refl _⟩, ⟨by repeat (first | (with_reducible first | exact HB.out | apply below_alloc | apply pw_below_drewN | apply below_drew1) | exact HB.out)⟩⟩
          · rw [if_neg c8] at H
            have c8b0 : ((l0.length : Int) == 0) = false := beq_eq_false_iff_ne.mpr c8
            have c8b1 : ((l0.length : Int) != 0) = true := bne_iff_ne.mpr c8
            have c8b2 : ¬ (l0 = []) := fun h_ => c8 (by rw [h_]; rfl)
            (first | rw [c8b0] | (simp only [i64_w, i32_w]; rw [c8b0]) | skip)
            replace H := Option.bind_eq_some_iff.mp H
            obtain ⟨t135, A90, H⟩ := H
            replace H : (laws_FnPyPILocalJoined.j1 kj2 l0 l1 (!t135)) = some r := H
            have A9 := Aside0.mk A90
            clear A90
            have H' := Aside0.mk H
            clear H
            go_wp2_with (first | (go_at_call 10; (with_reducible refine (laws_short.calls kj2 _ _ l0 t135 _ ?side1 ?side2 A9.out).mono ?_); (case side1 => repeat (first | exact (Kd.C_below HR0.out HB.out) | (with_reducible refine Kd.C_alloc ?_ _) | (with_reducible refine Kd.C_drewN ?_ _) | (with_reducible refine Kd.C_drew ?_))); (case side2 => exact HC0.out); rintro e w' ⟨rfl, ⟨nd, rfl⟩⟩))
            go_meet
            case rel => exact ⟨_, (!t135), (by first | rfl | (simp; done) | (simp [*]; done) | (simp [bne_nil_hyb]; done) | (simp [bne_nil_hyb, *]; done)), H', ⟨by have := HJ2.out; first | omega | exact Nat.le_refl _⟩, ⟨by repeat (first | (with_reducible first | exact HB.out | apply below_alloc | apply pw_below_drewN | apply below_drew1) | exact HB.out)⟩⟩
        case rest =>
          clear HC7
          try clear c1
          try clear p2
          try clear c5
          try clear c6
          try clear c7
          try clear c8
          try clear c8b0
          try clear c8b1
          try clear c8b2
          try clear p2
          obtain ⟨kq, x28_6, rfl, HA, HJ6, HB⟩ := hcut
          cases kq with
          | zero => exact absurd HA.out (by simp [laws_FnPyPILocalJoined.j1])
          | succ kj6 =>
            have H := HA.out
            clear HA
            simp only [laws_FnPyPILocalJoined.j1] at H
            by_cases c10 : x28_6 = true
            · subst c10
              have H1 : (some true) = some r := by rw [if_pos rfl] at H; exact H
              clear H
              have H := H1
              clear H1
              obtain rfl := Option.some.inj H
              go_wp2
              go_ret
              exact ⟨by first | rfl | (simp [errW_none, errW_some] <;> rfl) | (simp [*, errW_none, errW_some] <;> rfl) | (simp [bne_nil_hyb]; done), by repeat (first | (with_reducible first | exact HB.out | apply below_alloc | apply pw_below_drewN | apply below_drew1) | exact HB.out)⟩
            · replace c10 := Bool.eq_false_iff.mpr c10
              subst c10
              have H1 : (laws_FnPyPILocalJoined.l0 kj6 l1 (⟨#[]⟩ : ByteArray) ([] : List ByteArray) l0 (l0.length : Int) 0) = some r := by rw [if_neg (show ¬ (false = true) by decide)] at H; exact H
              clear H
              have H := H1
              clear H1
              have H' := Aside0.mk H
              clear H
              go_wp2
              (try simp only [Act.put, List.setIfInBounds_toArray, List.set_cons_zero, List.set_cons_succ])
              go_loopg [5, 6, 31] kj6 (fun kq v5 v6 v31 w' => ∃ (x5_3 : ByteArray) (x6_3 : List ByteArray) (x31_3 : Int), v5 = .string x5_3 ∧ v31 = .int .i64 x31_3 ∧ Aside0 (laws_FnPyPILocalJoined.l0 kq l1 x5_3 x6_3 l0 (l0.length : Int) x31_3 = some r) ∧ Aside0 (kq ≤ kj6) ∧ Aside0 (Kd.R Kd.string 9 w' w.heap.size (fun _ => True) v6 x6_3) ∧ Aside0 (Below w.heap.size w w'))
              case atStart => exact ⟨((⟨#[]⟩ : ByteArray)), (([] : List ByteArray)), (0), (by first | rfl | (simp; done) | (simp [*]; done) | (simp [bne_nil_hyb]; done) | (simp [bne_nil_hyb, *]; done)), (by first | rfl | (simp; done) | (simp [*]; done) | (simp [bne_nil_hyb]; done) | (simp [bne_nil_hyb, *]; done)), H', ⟨Nat.le_refl _⟩, ⟨by first | exact Kd.R_nil _ _ _ _ _ | exact Kd.N_nil _ _ _ _ _ | exact Kd.V_nil _ _ _ _ _ | exact Kd.Q_nil _ _ _ _ _ | exact Kd.S_nil _ _ _ _ _⟩, ⟨by repeat (first | (with_reducible first | exact HB.out | apply below_alloc | apply pw_below_drewN | apply below_drew1) | exact HB.out)⟩⟩
              case round =>
                clear H'
                try clear c1
                try clear p2
                try clear c5
                try clear c6
                try clear c7
                try clear c8
                try clear c8b0
                try clear c8b1
                try clear c8b2
                try clear c10
                try clear p2
                obtain ⟨x5_3, x6_3, x31_3, rfl, rfl, HA, HK3, HO_6, HB⟩ := hrel
                cases gk with
                | zero => exact absurd HA.out (by simp [laws_FnPyPILocalJoined.l0])
                | succ k3 =>
                  have H := HA.out
                  clear HA
                  simp only [laws_FnPyPILocalJoined.l0] at H
                  by_cases c11 : x31_3 < (l0.length : Int)
                  · rw [if_pos c11] at H
                    have c11b0 : decide (x31_3 < (l0.length : Int)) = true := decide_eq_true c11
                    clear c11
                    by_cases c12 : 0 ≤ x31_3
                    · rw [if_pos c12] at H
                      have c12b0 : decide (0 ≤ x31_3) = true := decide_eq_true c12
                      clear c12
                      by_cases c13 : x31_3 < (l0.length : Int)
                      · rw [if_pos c13] at H
                        have c13b0 : decide (x31_3 < (l0.length : Int)) = true := decide_eq_true c13
                        clear c13
                        have HC14 := Aside0.mk H
                        clear H
                        have p140 : 0 ≤ (x31_3 : Int) := of_decide_eq_true (by first | (with_reducible assumption) | assumption)
                        have q140 : x31_3 < (l0.length : Int) := of_decide_eq_true (by first | (with_reducible assumption) | assumption)
                        obtain ⟨ad140, e140, hx140_0⟩ := Kd.at_string HR0.out x31_3 p140 q140
                        cases e140
                        replace hx140_0 := (HB.out.cell (World.block_lt_of_cell? w _ hx140_0)).trans hx140_0
                        replace p140 := eq_true p140
                        replace q140 := eq_true q140
                        go_upto_region 10 with (fail)
                        go_cut [43] (fun v43 wc => ∃ (kq : Nat) (x43_13 : Bool), v43 = .bool x43_13 ∧ Aside0 (laws_FnPyPILocalJoined.j3 kq l1 x5_3 x6_3 x31_3 (rdOf ByteArray.empty l0 x31_3) l0 (l0.length : Int) x31_3 x43_13 = some r) ∧ Aside0 (kq ≤ k3) ∧ Aside0 (Kd.R Kd.string 9 wc w.heap.size (fun _ => True) u6 x6_3) ∧ Aside0 (Below w.heap.size w wc))
                        case first =>
                          have H := HC14.out
                          clear HC14
                          replace H := Option.bind_eq_some_iff.mp H
                          obtain ⟨t141, A150, H⟩ := H
                          replace H : (if t141 = true then (laws_FnPyPILocalJoined.j3 k3 l1 x5_3 x6_3 x31_3 (rdOf ByteArray.empty l0 x31_3) l0 (l0.length : Int) x31_3 false) else ((laws_digits.f k3 (rdOf ByteArray.empty l0 x31_3)).bind fun t142 => (laws_FnPyPILocalJoined.j3 k3 l1 x5_3 x6_3 x31_3 (rdOf ByteArray.empty l0 x31_3) l0 (l0.length : Int) x31_3 (!t142)))) = some r := H
                          have A15 := Aside0.mk A150
                          clear A150
                          by_cases c16 : t141 = true
                          · subst c16
                            have H1 : (laws_FnPyPILocalJoined.j3 k3 l1 x5_3 x6_3 x31_3 (rdOf ByteArray.empty l0 x31_3) l0 (l0.length : Int) x31_3 false) = some r := by rw [if_pos rfl] at H; exact H
                            clear H
                            have H := H1
                            clear H1
                            have H' := Aside0.mk H
                            clear H
                            go_wp2_with (first | ((with_reducible refine gate_callee (f := 19) rfl ?_); refine goesL_ (some 37) rfl rfl Tryd.func19 (by kernel_rfl) rfl #[.string (rdOf ByteArray.empty l0 x31_3)] rfl (by (try simp only [List.map_toArray, List.map_cons, List.map_nil]); first | done | rfl | (simp only [List.length_drop, List.length_take]; rfl)) ?_; (with_reducible refine (laws_words.calls k3 (rdOf ByteArray.empty l0 x31_3) true _ A15.out).mono ?_); rintro e w' ⟨rfl, ⟨nd, rfl⟩⟩; refine ⟨_, rfl, ?_⟩))
                            go_meet
                            case rel => exact ⟨_, (false), (by first | rfl | (simp; done) | (simp [*]; done) | (simp [bne_nil_hyb]; done) | (simp [bne_nil_hyb, *]; done)), H', ⟨by have := HJ2.out; have := HJ6.out; have := HK3.out; first | omega | exact Nat.le_refl _⟩, ⟨by (with_reducible repeat (first | apply Kd.R_alloc | apply Kd.R_drewN | apply Kd.R_drew)); exact HO_6.out⟩, ⟨by repeat (first | (with_reducible first | exact HB.out | apply below_alloc | apply pw_below_drewN | apply below_drew1) | exact HB.out)⟩⟩
                          · replace c16 := Bool.eq_false_iff.mpr c16
                            subst c16
                            have H1 : ((laws_digits.f k3 (rdOf ByteArray.empty l0 x31_3)).bind fun t142 => (laws_FnPyPILocalJoined.j3 k3 l1 x5_3 x6_3 x31_3 (rdOf ByteArray.empty l0 x31_3) l0 (l0.length : Int) x31_3 (!t142))) = some r := by rw [if_neg (show ¬ (false = true) by decide)] at H; exact H
                            clear H
                            have H := H1
                            clear H1
                            replace H := Option.bind_eq_some_iff.mp H
                            obtain ⟨t142, A170, H⟩ := H
                            replace H : (laws_FnPyPILocalJoined.j3 k3 l1 x5_3 x6_3 x31_3 (rdOf ByteArray.empty l0 x31_3) l0 (l0.length : Int) x31_3 (!t142)) = some r := H
                            have A17 := Aside0.mk A170
                            clear A170
                            have H' := Aside0.mk H
                            clear H
                            go_wp2_with (first | ((with_reducible refine gate_callee (f := 19) rfl ?_); refine goesL_ (some 37) rfl rfl Tryd.func19 (by kernel_rfl) rfl #[.string (rdOf ByteArray.empty l0 x31_3)] rfl (by (try simp only [List.map_toArray, List.map_cons, List.map_nil]); first | done | rfl | (simp only [List.length_drop, List.length_take]; rfl)) ?_; (with_reducible refine (laws_words.calls k3 (rdOf ByteArray.empty l0 x31_3) false _ A15.out).mono ?_); rintro e w' ⟨rfl, ⟨nd, rfl⟩⟩; refine ⟨_, rfl, ?_⟩) | (go_at_call 20; (with_reducible refine (laws_digits.calls k3 (rdOf ByteArray.empty l0 x31_3) t142 _ A17.out).mono ?_); rintro e w' ⟨rfl, ⟨nd, rfl⟩⟩))
                            go_meet
                            case rel => exact ⟨_, (!t142), (by first | rfl | (simp; done) | (simp [*]; done) | (simp [bne_nil_hyb]; done) | (simp [bne_nil_hyb, *]; done)), H', ⟨by have := HJ2.out; have := HJ6.out; have := HK3.out; first | omega | exact Nat.le_refl _⟩, ⟨by (with_reducible repeat (first | apply Kd.R_alloc | apply Kd.R_drewN | apply Kd.R_drew)); exact HO_6.out⟩, ⟨by repeat (first | (with_reducible first | exact HB.out | apply below_alloc | apply pw_below_drewN | apply below_drew1) | exact HB.out)⟩⟩
                        case rest =>
                          clear HC14
                          try clear c1
                          try clear p1
                          try clear q1
                          try clear hx1
                          try clear p2
                          try clear c5
                          try clear c6
                          try clear c7
                          try clear c8
                          try clear c8b0
                          try clear c8b1
                          try clear c8b2
                          try clear c10
                          try clear c11
                          try clear c11b0
                          try clear c12
                          try clear c12b0
                          try clear c13
                          try clear c13b0
                          try clear p14
                          try clear q14
                          try clear hx14
                          try clear c16
                          try clear hx140_0
                          try clear p140
                          try clear p2
                          try clear q140
                          obtain ⟨kq, x43_13, rfl, HA, HJ13, HO_6, HB⟩ := hcut
                          cases kq with
                          | zero => exact absurd HA.out (by simp [laws_FnPyPILocalJoined.j3])
                          | succ kj13 =>
                            have H := HA.out
                            clear HA
                            simp only [laws_FnPyPILocalJoined.j3] at H
                            by_cases c18 : x43_13 = true
                            · subst c18
                              have H1 : (some true) = some r := by rw [if_pos rfl] at H; exact H
                              clear H
                              have H := H1
                              clear H1
                              obtain rfl := Option.some.inj H
                              go_wp2
                              go_ret
                              exact ⟨by first | rfl | (simp [errW_none, errW_some] <;> rfl) | (simp [*, errW_none, errW_some] <;> rfl) | (simp [bne_nil_hyb]; done), by repeat (first | (with_reducible first | exact HB.out | apply below_alloc | apply pw_below_drewN | apply below_drew1) | exact HB.out)⟩
                            · replace c18 := Bool.eq_false_iff.mpr c18
                              subst c18
                              have H1 : (if x31_3 > 0 then (if x31_3 < (l1.length : Int) then ((some (([(⟨#[46]⟩ : ByteArray), (⟨#[95]⟩ : ByteArray), (⟨#[45]⟩ : ByteArray)] : List ByteArray) : List ByteArray)).bind fun y143 => (if 0 ≤ x31_3 then (if 0 ≤ (Int.tmod (rd l1 x31_3) 3) then (if (Int.tmod (rd l1 x31_3) 3) < (y143.length : Int) then (if x5_3.size + (rdOf ByteArray.empty y143 (Int.tmod (rd l1 x31_3) 3)).size ≤ 9223372036854775807 then (laws_FnPyPILocalJoined.j4 kj13 l1 (x5_3 ++ (rdOf ByteArray.empty y143 (Int.tmod (rd l1 x31_3) 3))) x6_3 (rdOf ByteArray.empty l0 x31_3) l0 (l0.length : Int) x31_3) else (none)) else (none)) else (none)) else (none))) else (if x5_3.size + 1 ≤ 9223372036854775807 then (laws_FnPyPILocalJoined.j4 kj13 l1 (x5_3 ++ (⟨#[46]⟩ : ByteArray)) x6_3 (rdOf ByteArray.empty l0 x31_3) l0 (l0.length : Int) x31_3) else (none))) else (laws_FnPyPILocalJoined.j4 kj13 l1 x5_3 x6_3 (rdOf ByteArray.empty l0 x31_3) l0 (l0.length : Int) x31_3)) = some r := by rw [if_neg (show ¬ (false = true) by decide)] at H; exact H
                              clear H
                              have H := H1
                              clear H1
                              have HC19 := Aside0.mk H
                              clear H
                              go_upto_if 45 with (fail)
                              go_cut [5, 45] (fun v5 v45 wc => ∃ (kq : Nat) (x5_18 : ByteArray), v5 = .string x5_18 ∧ Aside0 (laws_FnPyPILocalJoined.j4 kq l1 x5_18 x6_3 (rdOf ByteArray.empty l0 x31_3) l0 (l0.length : Int) x31_3 = some r) ∧ Aside0 (kq ≤ kj13) ∧ Aside0 (Kd.R Kd.string 9 wc w.heap.size (fun _ => True) u6 x6_3) ∧ Aside0 (Below w.heap.size w wc))
                              case first =>
                                have H := HC19.out
                                clear HC19
                                by_cases c20 : x31_3 > 0
                                · rw [if_pos c20] at H
                                  have c20b0 : decide (0 < x31_3) = true := decide_eq_true c20
                                  clear c20
                                  (first | rw [c20b0] | (simp only [i64_w, i32_w]; rw [c20b0]) | skip)
                                  by_cases c21 : x31_3 < (l1.length : Int)
                                  · rw [if_pos c21] at H
                                    have c21b0 : decide (x31_3 < (l1.length : Int)) = true := decide_eq_true c21
                                    clear c21
                                    obtain ⟨y143, hy143⟩ : ∃ y_ : List ByteArray, y_ = (([(⟨#[46]⟩ : ByteArray), (⟨#[95]⟩ : ByteArray), (⟨#[45]⟩ : ByteArray)] : List ByteArray)) := ⟨_, rfl⟩
                                    replace H : (if 0 ≤ x31_3 then (if 0 ≤ (Int.tmod (rd l1 x31_3) 3) then (if (Int.tmod (rd l1 x31_3) 3) < (y143.length : Int) then (if x5_3.size + (rdOf ByteArray.empty y143 (Int.tmod (rd l1 x31_3) 3)).size ≤ 9223372036854775807 then (laws_FnPyPILocalJoined.j4 kj13 l1 (x5_3 ++ (rdOf ByteArray.empty y143 (Int.tmod (rd l1 x31_3) 3))) x6_3 (rdOf ByteArray.empty l0 x31_3) l0 (l0.length : Int) x31_3) else (none)) else (none)) else (none)) else (none)) = some r := by first | (rw [hy143]; with_reducible exact H) | (have H2_ := (Option.bind_some _ _).symm.trans H; rw [hy143]; with_reducible exact H2_) | (have H2_ := (Option.bind_some _ _).symm.trans H; with_reducible exact H2_) | with_reducible exact H | (rw [hy143]; exact H) | exact H
                                    have Ny143 := Aside0.mk hy143
                                    clear hy143
                                    by_cases c22 : 0 ≤ x31_3
                                    · rw [if_pos c22] at H
                                      have c22b0 : decide (0 ≤ x31_3) = true := decide_eq_true c22
                                      clear c22
                                      obtain ⟨ji23, hji23⟩ : ∃ j_ : Int, (Int.tmod (rd l1 x31_3) 3) = j_ := ⟨_, rfl⟩
                                      replace H : (if 0 ≤ (ji23) then (if (ji23) < (y143.length : Int) then (if x5_3.size + (rdOf ByteArray.empty y143 (ji23)).size ≤ 9223372036854775807 then (laws_FnPyPILocalJoined.j4 kj13 l1 (x5_3 ++ (rdOf ByteArray.empty y143 (ji23))) x6_3 (rdOf ByteArray.empty l0 x31_3) l0 (l0.length : Int) x31_3) else (none)) else (none)) else (none)) = some r := by first | (rw [hji23] at H; exact H) | (simp only [hji23] at H ⊢; exact H)
                                      by_cases c24 : 0 ≤ (ji23)
                                      · rw [if_pos c24] at H
                                        have c24b0 : decide (0 ≤ (ji23)) = true := decide_eq_true c24
                                        clear c24
                                        by_cases c25 : (ji23) < (y143.length : Int)
                                        · rw [if_pos c25] at H
                                          have c25b0 : decide ((ji23) < (y143.length : Int)) = true := decide_eq_true c25
                                          clear c25
                                          by_cases c26 : x5_3.size + (rdOf ByteArray.empty y143 (ji23)).size ≤ 9223372036854775807
                                          · rw [if_pos c26] at H
                                            have c26b0 := eq_true c26
                                            have c26b1 : decide (x5_3.size + (rdOf ByteArray.empty y143 (ji23)).size ≤ 9223372036854775807) = true := decide_eq_true c26
                                            try have c26b2 : (9223372036854775807 < x5_3.size + (rdOf ByteArray.empty y143 (ji23)).size) = False := eq_false (Nat.not_lt.2 c26)
                                            have H' := Aside0.mk H
                                            clear H
                                            go_wp2_with (first | ((with_reducible refine gate_dst (N := 50) rfl ?_); (try (refine gate_guard (by rfl) ?_; dsimp only)); refine Kd.R_lit Kd.string _ 9 ?hg (N := 50) ?hd (xs := ([(⟨#[46]⟩ : ByteArray), (⟨#[95]⟩ : ByteArray), (⟨#[45]⟩ : ByteArray)] : List ByteArray)) (inner := [.string (⟨#[46]⟩ : ByteArray), .string (⟨#[95]⟩ : ByteArray), .string (⟨#[45]⟩ : ByteArray)]) (ok := fun _ => True) (okp := fun _ => True) ?hr ?hp (fun _ hk => hk) trivial (Below.refl _ _) (Nat.le_refl _) (by simp) ?_; (case hd => rfl); (case hg => rfl); (case hr => first | (go_simp; done) | (go_simp; rfl)); (case hp => exact (Reps.one (show Kd.M Kd.string _ _ _ (⟨#[46]⟩ : ByteArray) [.string (⟨#[46]⟩ : ByteArray)] from rfl) (Reps.one (show Kd.M Kd.string _ _ _ (⟨#[95]⟩ : ByteArray) [.string (⟨#[95]⟩ : ByteArray)] from rfl) (Reps.one (show Kd.M Kd.string _ _ _ (⟨#[45]⟩ : ByteArray) [.string (⟨#[45]⟩ : ByteArray)] from rfl) (Reps.none _ _))))); intro v144 w27 ho28 hb hg_ hnew_; clear hg_ hnew_; (first | rw [← Ny143.out] at ho28 | (simp only [Int.reduceToNat] at ho28; rw [← Ny143.out] at ho28)); have n0_ := Aside0.mk (Kd.R_elder' (by (with_reducible repeat (first | apply Kd.R_alloc | apply Kd.R_drewN | apply Kd.R_drew)); exact HO_6.out) (Kd.R_base ho28) hb); have n1_ := Aside0.mk (Kd.R_lower (Kd.R_new' ho28 (Kd.R_lt (by (with_reducible repeat (first | apply Kd.R_alloc | apply Kd.R_drewN | apply Kd.R_drew)); exact HO_6.out))) (below_size (by repeat (first | (with_reducible first | exact HB.out | apply below_alloc | apply pw_below_drewN | apply below_drew1) | exact HB.out)))); have n2_ := Aside0.mk (below_step (by repeat (first | (with_reducible first | exact HB.out | apply below_alloc | apply pw_below_drewN | apply below_drew1) | exact HB.out)) hb); clear HO_6; clear HB; have HO_6 := n0_; have HO145 := n1_; have HB := n2_; clear n0_ n1_ n2_; clear hb ho28; have p146 : 0 ≤ (x31_3 : Int) := of_decide_eq_true (by first | (with_reducible assumption) | assumption); have q146 : x31_3 < (l1.length : Int) := of_decide_eq_true (by first | (with_reducible assumption) | assumption); obtain ⟨ad146, e146, hx146_0⟩ := Kd.at_int HR1.out x31_3 p146 q146; cases e146; replace hx146_0 := (HB.out.cell (World.block_lt_of_cell? w _ hx146_0)).trans hx146_0; replace p146 := eq_true p146; replace q146 := eq_true q146; obtain ⟨Ao29, co29, eo29⟩ := Kd.R_slice HO145.out; subst eo29; have p147 : 0 ≤ ((ji23) : Int) := of_decide_eq_true (by first | (with_reducible assumption) | assumption); have q147 : (ji23) < (y143.length : Int) := of_decide_eq_true (by first | (with_reducible assumption) | assumption); obtain ⟨ad147, e147, hx147_0⟩ := Kd.at_string (Kd.R_reads' HO145.out).2.2 (ji23) p147 q147; cases e147; replace p147 := eq_true p147; replace q147 := eq_true q147))
                                            go_meet
                                            case rel => exact ⟨_, (x5_3 ++ (rdOf ByteArray.empty y143 (ji23))), (by first | rfl | (simp; done) | (simp only [← hji23] <;> (first | rfl | simp)) | (simp [*]; done)), H', ⟨by have := HJ2.out; have := HJ6.out; have := HK3.out; have := HJ13.out; first | omega | exact Nat.le_refl _⟩, ⟨by (with_reducible repeat (first | apply Kd.R_alloc | apply Kd.R_drewN | apply Kd.R_drew)); exact Kd.R_mono HO_6.out (fun _ hk => trivial)⟩, ⟨by repeat (first | (with_reducible first | exact HB.out | apply below_alloc | apply pw_below_drewN | apply below_drew1) | exact HB.out)⟩⟩
                                          · rw [if_neg c26] at H
                                            exact absurd H (by simp)
                                        · rw [if_neg c25] at H
                                          exact absurd H (by simp)
                                      · rw [if_neg c24] at H
                                        exact absurd H (by simp)
                                    · rw [if_neg c22] at H
                                      exact absurd H (by simp)
                                  · rw [if_neg c21] at H
                                    have c21b0 : decide (x31_3 < (l1.length : Int)) = false := decide_eq_false c21
                                    clear c21
                                    by_cases c30 : x5_3.size + 1 ≤ 9223372036854775807
                                    · rw [if_pos c30] at H
                                      have c30b0 := eq_true c30
                                      have c30b1 : decide (x5_3.size + 1 ≤ 9223372036854775807) = true := decide_eq_true c30
                                      try have c30b2 : (9223372036854775807 < x5_3.size + 1) = False := eq_false (Nat.not_lt.2 c30)
                                      have H' := Aside0.mk H
                                      clear H
                                      go_wp2
                                      go_meet
                                      case rel => exact ⟨_, (x5_3 ++ (⟨#[46]⟩ : ByteArray)), (by first | rfl | (simp; done) | (simp [*]; done) | (simp [bne_nil_hyb]; done) | (simp [bne_nil_hyb, *]; done)), H', ⟨by have := HJ2.out; have := HJ6.out; have := HK3.out; have := HJ13.out; first | omega | exact Nat.le_refl _⟩, ⟨by (with_reducible repeat (first | apply Kd.R_alloc | apply Kd.R_drewN | apply Kd.R_drew)); exact HO_6.out⟩, ⟨by repeat (first | (with_reducible first | exact HB.out | apply below_alloc | apply pw_below_drewN | apply below_drew1) | exact HB.out)⟩⟩
                                    · rw [if_neg c30] at H
                                      exact absurd H (by simp)
                                · rw [if_neg c20] at H
                                  have c20b0 : decide (0 < x31_3) = false := decide_eq_false c20
                                  clear c20
                                  (first | rw [c20b0] | (simp only [i64_w, i32_w]; rw [c20b0]) | skip)
                                  have H' := Aside0.mk H
                                  clear H
                                  go_wp2
                                  go_meet
                                  case rel => exact ⟨_, (x5_3), (by first | rfl | (simp; done) | (simp [*]; done) | (simp [bne_nil_hyb]; done) | (simp [bne_nil_hyb, *]; done)), H', ⟨by have := HJ2.out; have := HJ6.out; have := HK3.out; have := HJ13.out; first | omega | exact Nat.le_refl _⟩, ⟨by (with_reducible repeat (first | apply Kd.R_alloc | apply Kd.R_drewN | apply Kd.R_drew)); exact HO_6.out⟩, ⟨by repeat (first | (with_reducible first | exact HB.out | apply below_alloc | apply pw_below_drewN | apply below_drew1) | exact HB.out)⟩⟩
                              case rest =>
                                clear HC19
                                try clear c1
                                try clear p1
                                try clear q1
                                try clear hx1
                                try clear c2
                                try clear p2
                                try clear c3
                                try clear c5
                                try clear c6
                                try clear c7
                                try clear c8
                                try clear c8b0
                                try clear c8b1
                                try clear c8b2
                                try clear c10
                                try clear c11
                                try clear c11b0
                                try clear c12
                                try clear c12b0
                                try clear c13
                                try clear c13b0
                                try clear p14
                                try clear q14
                                try clear hx14
                                try clear c16
                                try clear c18
                                try clear c19
                                try clear c20
                                try clear c20b0
                                try clear c21
                                try clear c21b0
                                try clear c22
                                try clear c22b0
                                try clear c24
                                try clear c24b0
                                try clear c25
                                try clear c25b0
                                try clear c26
                                try clear c26b0
                                try clear c26b1
                                try clear c26b2
                                try clear c30
                                try clear c30b0
                                try clear c30b1
                                try clear c30b2
                                try clear hx140_0
                                try clear hx146_0
                                try clear hx147_0
                                try clear p1
                                try clear p14
                                try clear p140
                                try clear p146
                                try clear p147
                                try clear p2
                                try clear q1
                                try clear q14
                                try clear q140
                                try clear q146
                                try clear q147
                                obtain ⟨kq, x5_18, rfl, HA, HJ18, HO_6, HB⟩ := hcut
                                cases kq with
                                | zero => exact absurd HA.out (by simp [laws_FnPyPILocalJoined.j4])
                                | succ kj18 =>
                                  have H := HA.out
                                  clear HA
                                  simp only [laws_FnPyPILocalJoined.j4] at H
                                  by_cases c31 : x5_18.size + (rdOf ByteArray.empty l0 x31_3).size ≤ 9223372036854775807
                                  · rw [if_pos c31] at H
                                    have c31b0 := eq_true c31
                                    have c31b1 : decide (x5_18.size + (rdOf ByteArray.empty l0 x31_3).size ≤ 9223372036854775807) = true := decide_eq_true c31
                                    try have c31b2 : (9223372036854775807 < x5_18.size + (rdOf ByteArray.empty l0 x31_3).size) = False := eq_false (Nat.not_lt.2 c31)
                                    have H' := Aside0.mk H
                                    clear H
                                    go_wp2
                                    (try simp only [Act.put, List.setIfInBounds_toArray, List.set_cons_zero, List.set_cons_succ])
                                    go_loopg [10, 11] kj18 (fun kq v10 v11 w' => ∃ (x10_6 : ByteArray) (x11_6 : Int), v10 = .string x10_6 ∧ v11 = .int .i64 x11_6 ∧ Aside0 (laws_FnPyPILocalJoined.l1 kq l1 (x5_18 ++ (rdOf ByteArray.empty l0 x31_3)) x6_3 (rdOf ByteArray.empty l0 x31_3) x10_6 x11_6 l0 (l0.length : Int) x31_3 = some r) ∧ Aside0 (kq ≤ kj18) ∧ Aside0 (Kd.R Kd.string 9 w' w.heap.size (fun _ => True) u6 x6_3) ∧ Aside0 (Below w.heap.size w w'))
                                    case atStart => exact ⟨((⟨#[]⟩ : ByteArray)), (0), (by first | rfl | (simp; done) | (simp [*]; done) | (simp [bne_nil_hyb]; done) | (simp [bne_nil_hyb, *]; done)), (by first | rfl | (simp; done) | (simp [*]; done) | (simp [bne_nil_hyb]; done) | (simp [bne_nil_hyb, *]; done)), H', ⟨Nat.le_refl _⟩, ⟨by (with_reducible repeat (first | apply Kd.R_alloc | apply Kd.R_drewN | apply Kd.R_drew)); exact HO_6.out⟩, ⟨by repeat (first | (with_reducible first | exact HB.out | apply below_alloc | apply pw_below_drewN | apply below_drew1) | exact HB.out)⟩⟩
                                    case round =>
                                      clear H'
                                      try clear c1
                                      try clear p1
                                      try clear q1
                                      try clear hx1
                                      try clear c2
                                      try clear p2
                                      try clear c3
                                      try clear c5
                                      try clear c6
                                      try clear c7
                                      try clear c8
                                      try clear c8b0
                                      try clear c8b1
                                      try clear c8b2
                                      try clear c10
                                      try clear c11
                                      try clear c11b0
                                      try clear c12
                                      try clear c12b0
                                      try clear c13
                                      try clear c13b0
                                      try clear p14
                                      try clear q14
                                      try clear hx14
                                      try clear c16
                                      try clear c18
                                      try clear c19
                                      try clear c20
                                      try clear c20b0
                                      try clear c21
                                      try clear c21b0
                                      try clear c22
                                      try clear c22b0
                                      try clear c24
                                      try clear c24b0
                                      try clear c25
                                      try clear c25b0
                                      try clear c26
                                      try clear c26b0
                                      try clear c26b1
                                      try clear c26b2
                                      try clear c30
                                      try clear c30b0
                                      try clear c30b1
                                      try clear c30b2
                                      try clear c31
                                      try clear c31b0
                                      try clear c31b1
                                      try clear c31b2
                                      try clear hx140_0
                                      try clear hx146_0
                                      try clear hx147_0
                                      try clear p1
                                      try clear p14
                                      try clear p140
                                      try clear p146
                                      try clear p147
                                      try clear p2
                                      try clear q1
                                      try clear q14
                                      try clear q140
                                      try clear q146
                                      try clear q147
                                      obtain ⟨x10_6, x11_6, rfl, rfl, HA, HK6, HO_6, HB⟩ := hrel
                                      cases gk with
                                      | zero => exact absurd HA.out (by simp [laws_FnPyPILocalJoined.l1])
                                      | succ k6 =>
                                        have H := HA.out
                                        clear HA
                                        simp only [laws_FnPyPILocalJoined.l1] at H
                                        by_cases c32 : x11_6 < ((rdOf ByteArray.empty l0 x31_3).size : Int)
                                        · rw [if_pos c32] at H
                                          have c32b0 : decide (x11_6 < ((rdOf ByteArray.empty l0 x31_3).size : Int)) = true := decide_eq_true c32
                                          clear c32
                                          by_cases c33 : 0 ≤ x11_6
                                          · rw [if_pos c33] at H
                                            have c33b0 : decide (0 ≤ x11_6) = true := decide_eq_true c33
                                            clear c33
                                            by_cases c35 : (bt (rdOf ByteArray.empty l0 x31_3) x11_6) ≥ 65
                                            · rw [if_pos c35] at H
                                              have c35b0 : decide (65 ≤ (bt (rdOf ByteArray.empty l0 x31_3) x11_6)) = true := decide_eq_true c35
                                              clear c35
                                              by_cases c36 : (bt (rdOf ByteArray.empty l0 x31_3) x11_6) ≤ 90
                                              · rw [if_pos c36] at H
                                                have c36b0 : decide ((bt (rdOf ByteArray.empty l0 x31_3) x11_6) ≤ 90) = true := decide_eq_true c36
                                                clear c36
                                                by_cases c37 : x10_6.size + (Utf8.encode (((bt (rdOf ByteArray.empty l0 x31_3) x11_6) + 32) % 256)).size ≤ 9223372036854775807
                                                · rw [if_pos c37] at H
                                                  have c37b0 := eq_true c37
                                                  have c37b1 : decide (x10_6.size + (Utf8.encode (((bt (rdOf ByteArray.empty l0 x31_3) x11_6) + 32) % 256)).size ≤ 9223372036854775807) = true := decide_eq_true c37
                                                  try have c37b2 : (9223372036854775807 < x10_6.size + (Utf8.encode (((bt (rdOf ByteArray.empty l0 x31_3) x11_6) + 32) % 256)).size) = False := eq_false (Nat.not_lt.2 c37)
                                                  have H' := Aside0.mk H
                                                  clear H
                                                  have p34 : 0 ≤ (x11_6 : Int) := of_decide_eq_true (by first | (with_reducible assumption) | assumption)
                                                  have q34 : x11_6 < ((rdOf ByteArray.empty l0 x31_3).size : Int) := of_decide_eq_true (by first | (with_reducible assumption) | assumption)
                                                  have hx34 := bt_at (rdOf ByteArray.empty l0 x31_3) x11_6
                                                  replace p34 := eq_true p34
                                                  replace q34 := eq_true q34
                                                  have hcv38 := fun (W_ : World) => run_convert_int_string (P := Tryd.prog) W_ 21 9 .i32 (((bt (rdOf ByteArray.empty l0 x31_3) x11_6) + 32) % 256) (by rw [Tryd.underlying21]; rfl) Tryd.underlying9
                                                  go_wp2
                                                  go_roundg k6
                                                  case measure => have := HJ2.out; have := HJ6.out; have := HK3.out; have := HJ13.out; have := HJ18.out; have := HK6.out; omega
                                                  case rel => exact ⟨(x10_6 ++ (Utf8.encode (((bt (rdOf ByteArray.empty l0 x31_3) x11_6) + 32) % 256))), (wrap64 (x11_6 + 1)), (by first | rfl | (simp; done) | (simp [*]; done) | (simp [bne_nil_hyb]; done) | (simp [bne_nil_hyb, *]; done)), (by first | rfl | (simp; done) | (simp [*]; done) | (simp [bne_nil_hyb]; done) | (simp [bne_nil_hyb, *]; done)), H', ⟨by have := HJ2.out; have := HJ6.out; have := HK3.out; have := HJ13.out; have := HJ18.out; have := HK6.out; omega⟩, ⟨by (with_reducible repeat (first | apply Kd.R_alloc | apply Kd.R_drewN | apply Kd.R_drew)); exact HO_6.out⟩, ⟨by repeat (first | (with_reducible first | exact HB.out | apply below_alloc | apply pw_below_drewN | apply below_drew1) | exact HB.out)⟩⟩
                                                · rw [if_neg c37] at H
                                                  exact absurd H (by simp)
                                              · rw [if_neg c36] at H
                                                have c36b0 : decide ((bt (rdOf ByteArray.empty l0 x31_3) x11_6) ≤ 90) = false := decide_eq_false c36
                                                clear c36
                                                by_cases c39 : x10_6.size + (Utf8.encode (wrap32 (bt (rdOf ByteArray.empty l0 x31_3) x11_6))).size ≤ 9223372036854775807
                                                · rw [if_pos c39] at H
                                                  have c39b0 := eq_true c39
                                                  have c39b1 : decide (x10_6.size + (Utf8.encode (wrap32 (bt (rdOf ByteArray.empty l0 x31_3) x11_6))).size ≤ 9223372036854775807) = true := decide_eq_true c39
                                                  try have c39b2 : (9223372036854775807 < x10_6.size + (Utf8.encode (wrap32 (bt (rdOf ByteArray.empty l0 x31_3) x11_6))).size) = False := eq_false (Nat.not_lt.2 c39)
                                                  have H' := Aside0.mk H
                                                  clear H
                                                  have p34 : 0 ≤ (x11_6 : Int) := of_decide_eq_true (by first | (with_reducible assumption) | assumption)
                                                  have q34 : x11_6 < ((rdOf ByteArray.empty l0 x31_3).size : Int) := of_decide_eq_true (by first | (with_reducible assumption) | assumption)
                                                  have hx34 := bt_at (rdOf ByteArray.empty l0 x31_3) x11_6
                                                  replace p34 := eq_true p34
                                                  replace q34 := eq_true q34
                                                  have hcv40 := fun (W_ : World) => run_convert_int_string (P := Tryd.prog) W_ 21 9 .i32 (wrap32 (bt (rdOf ByteArray.empty l0 x31_3) x11_6)) (by rw [Tryd.underlying21]; rfl) Tryd.underlying9
                                                  go_wp2
                                                  go_roundg k6
                                                  case measure => have := HJ2.out; have := HJ6.out; have := HK3.out; have := HJ13.out; have := HJ18.out; have := HK6.out; omega
                                                  case rel => exact ⟨(x10_6 ++ (Utf8.encode (wrap32 (bt (rdOf ByteArray.empty l0 x31_3) x11_6)))), (wrap64 (x11_6 + 1)), (by first | rfl | (simp; done) | (simp [*]; done) | (simp [bne_nil_hyb]; done) | (simp [bne_nil_hyb, *]; done)), (by first | rfl | (simp; done) | (simp [*]; done) | (simp [bne_nil_hyb]; done) | (simp [bne_nil_hyb, *]; done)), H', ⟨by have := HJ2.out; have := HJ6.out; have := HK3.out; have := HJ13.out; have := HJ18.out; have := HK6.out; omega⟩, ⟨by (with_reducible repeat (first | apply Kd.R_alloc | apply Kd.R_drewN | apply Kd.R_drew)); exact HO_6.out⟩, ⟨by repeat (first | (with_reducible first | exact HB.out | apply below_alloc | apply pw_below_drewN | apply below_drew1) | exact HB.out)⟩⟩
                                                · rw [if_neg c39] at H
                                                  exact absurd H (by simp)
                                            · rw [if_neg c35] at H
                                              have c35b0 : decide (65 ≤ (bt (rdOf ByteArray.empty l0 x31_3) x11_6)) = false := decide_eq_false c35
                                              clear c35
                                              by_cases c41 : x10_6.size + (Utf8.encode (wrap32 (bt (rdOf ByteArray.empty l0 x31_3) x11_6))).size ≤ 9223372036854775807
                                              · rw [if_pos c41] at H
                                                have c41b0 := eq_true c41
                                                have c41b1 : decide (x10_6.size + (Utf8.encode (wrap32 (bt (rdOf ByteArray.empty l0 x31_3) x11_6))).size ≤ 9223372036854775807) = true := decide_eq_true c41
                                                try have c41b2 : (9223372036854775807 < x10_6.size + (Utf8.encode (wrap32 (bt (rdOf ByteArray.empty l0 x31_3) x11_6))).size) = False := eq_false (Nat.not_lt.2 c41)
                                                have H' := Aside0.mk H
                                                clear H
                                                have p34 : 0 ≤ (x11_6 : Int) := of_decide_eq_true (by first | (with_reducible assumption) | assumption)
                                                have q34 : x11_6 < ((rdOf ByteArray.empty l0 x31_3).size : Int) := of_decide_eq_true (by first | (with_reducible assumption) | assumption)
                                                have hx34 := bt_at (rdOf ByteArray.empty l0 x31_3) x11_6
                                                replace p34 := eq_true p34
                                                replace q34 := eq_true q34
                                                have hcv42 := fun (W_ : World) => run_convert_int_string (P := Tryd.prog) W_ 21 9 .i32 (wrap32 (bt (rdOf ByteArray.empty l0 x31_3) x11_6)) (by rw [Tryd.underlying21]; rfl) Tryd.underlying9
                                                go_wp2
                                                go_roundg k6
                                                case measure => have := HJ2.out; have := HJ6.out; have := HK3.out; have := HJ13.out; have := HJ18.out; have := HK6.out; omega
                                                case rel => exact ⟨(x10_6 ++ (Utf8.encode (wrap32 (bt (rdOf ByteArray.empty l0 x31_3) x11_6)))), (wrap64 (x11_6 + 1)), (by first | rfl | (simp; done) | (simp [*]; done) | (simp [bne_nil_hyb]; done) | (simp [bne_nil_hyb, *]; done)), (by first | rfl | (simp; done) | (simp [*]; done) | (simp [bne_nil_hyb]; done) | (simp [bne_nil_hyb, *]; done)), H', ⟨by have := HJ2.out; have := HJ6.out; have := HK3.out; have := HJ13.out; have := HJ18.out; have := HK6.out; omega⟩, ⟨by (with_reducible repeat (first | apply Kd.R_alloc | apply Kd.R_drewN | apply Kd.R_drew)); exact HO_6.out⟩, ⟨by repeat (first | (with_reducible first | exact HB.out | apply below_alloc | apply pw_below_drewN | apply below_drew1) | exact HB.out)⟩⟩
                                              · rw [if_neg c41] at H
                                                exact absurd H (by simp)
                                          · rw [if_neg c33] at H
                                            exact absurd H (by simp)
                                        · rw [if_neg c32] at H
                                          have c32b0 : decide (x11_6 < ((rdOf ByteArray.empty l0 x31_3).size : Int)) = false := decide_eq_false c32
                                          clear c32
                                          by_cases c43 : x6_3.length < 8796093022208
                                          · rw [if_pos c43] at H
                                            have LMc43 := Aside0.mk c43
                                            clear c43
                                            obtain ⟨y148, hy148⟩ : ∃ y_ : List ByteArray, y_ = (x6_3 ++ [x10_6]) := ⟨_, rfl⟩
                                            replace H : (laws_FnPyPILocalJoined.l0 k6 l1 (x5_18 ++ (rdOf ByteArray.empty l0 x31_3)) y148 l0 (l0.length : Int) (wrap64 (x31_3 + 1))) = some r := by first | (rw [hy148]; with_reducible exact H) | (have H2_ := (Option.bind_some _ _).symm.trans H; rw [hy148]; with_reducible exact H2_) | (have H2_ := (Option.bind_some _ _).symm.trans H; with_reducible exact H2_) | with_reducible exact H | (rw [hy148]; exact H) | exact H
                                            have Ny148 := Aside0.mk hy148
                                            clear hy148
                                            have H' := Aside0.mk H
                                            clear H
                                            go_wp2_with (first | ((with_reducible refine gate_builtin (b := .append) (xs := #[.tmp 86, .tmp 88]) rfl ?_); (try (refine gate_guard (by rfl) ?_; dsimp only)); at_builtin; refine Kd.R_append Kd.string (w0 := w) w.heap.size rfl (.tmp 86) (.tmp 88) 25 9 (.string ⟨#[]⟩) 16 rfl Tryd.underlying25 info9 rfl (by decide) (by omega) u6 x6_3 x10_6 [.string x10_6] (fun _ => True) (fun _ => False) rfl rfl ?aP (fun _ hk => hk.elim) ?aF ?aO ?aB ?aS ?aL ?_; (case aP => exact rfl); (case aB => exact (by repeat (first | (with_reducible first | exact HB.out | apply below_alloc | apply pw_below_drewN | apply below_drew1) | exact HB.out))); (case aF => exact (fun _ _ => trivial)); (case aO => exact (by (with_reducible repeat (first | apply Kd.R_alloc | apply Kd.R_drewN | apply Kd.R_drew)); exact HO_6.out)); (case aS => exact (below_size (by repeat (first | (with_reducible first | exact HB.out | apply below_alloc | apply pw_below_drewN | apply below_drew1) | exact HB.out)))); (case aL => have := LMc43.out; omega); intro v149 w44 ho hb hg hat; rw [← Ny148.out] at ho; have n0_ := Aside0.mk (hb); have n1_ := Aside0.mk (ho); clear HB; clear HO_6; have HB := n0_; have HO150 := n1_; clear n0_ n1_; clear ho hb hg hat))
                                            go_roundg k6
                                            case measure => have := HJ2.out; have := HJ6.out; have := HK3.out; have := HJ13.out; have := HJ18.out; have := HK6.out; omega
                                            case rel => exact ⟨((x5_18 ++ (rdOf ByteArray.empty l0 x31_3))), (y148), (wrap64 (x31_3 + 1)), (by first | rfl | (simp; done) | (simp [*]; done) | (simp [bne_nil_hyb]; done) | (simp [bne_nil_hyb, *]; done)), (by first | rfl | (simp; done) | (simp [*]; done) | (simp [bne_nil_hyb]; done) | (simp [bne_nil_hyb, *]; done)), H', ⟨by have := HJ2.out; have := HJ6.out; have := HK3.out; have := HJ13.out; have := HJ18.out; have := HK6.out; omega⟩, ⟨by (with_reducible repeat (first | apply Kd.R_alloc | apply Kd.R_drewN | apply Kd.R_drew)); exact HO150.out⟩, ⟨by repeat (first | (with_reducible first | exact HB.out | apply below_alloc | apply pw_below_drewN | apply below_drew1) | exact HB.out)⟩⟩
                                          · rw [if_neg c43] at H
                                            exact absurd H (by simp)
                                  · rw [if_neg c31] at H
                                    exact absurd H (by simp)
                      · rw [if_neg c13] at H
                        exact absurd H (by simp)
                    · rw [if_neg c12] at H
                      exact absurd H (by simp)
                  · rw [if_neg c11] at H
                    have c11b0 : decide (x31_3 < (l0.length : Int)) = false := decide_eq_false c11
                    clear c11
                    replace H := Option.bind_eq_some_iff.mp H
                    obtain ⟨t136, A450, H⟩ := H
                    replace H : ((laws_texts.f k3 t136 x6_3).bind fun t139 => (some t139)) = some r := H
                    have A45 := Aside0.mk A450
                    clear A450
                    replace H := Option.bind_eq_some_iff.mp H
                    obtain ⟨t139, A460, H⟩ := H
                    replace H : (some t139) = some r := H
                    have A46 := Aside0.mk A460
                    clear A460
                    obtain rfl := Option.some.inj H
                    go_wp2_with (first | ((with_reducible refine gate_callee (f := 21) rfl ?_); refine goesL_ (some 92) rfl rfl Tryd.func21 (by kernel_rfl) rfl #[.string x5_3] rfl (by (try simp only [List.map_toArray, List.map_cons, List.map_nil]); first | done | rfl | (simp only [List.length_drop, List.length_take]; rfl)) ?_; (with_reducible refine (impl_PyPILocalParts.calls k3 x5_3 t136 _ A45.out).mono ?_); rintro e w47 ⟨v137, rfl, ho0, hb⟩; refine ⟨_, rfl, ?_⟩; have n0_ := Aside0.mk (Kd.R_elder' (by (with_reducible repeat (first | apply Kd.R_alloc | apply Kd.R_drewN | apply Kd.R_drew)); exact HO_6.out) (Kd.R_base ho0) hb); have n1_ := Aside0.mk (Kd.R_lower (Kd.R_new' ho0 (Kd.R_lt (by (with_reducible repeat (first | apply Kd.R_alloc | apply Kd.R_drewN | apply Kd.R_drew)); exact HO_6.out))) (below_size (by repeat (first | (with_reducible first | exact HB.out | apply below_alloc | apply pw_below_drewN | apply below_drew1) | exact HB.out)))); have n2_ := Aside0.mk (below_step (by repeat (first | (with_reducible first | exact HB.out | apply below_alloc | apply pw_below_drewN | apply below_drew1) | exact HB.out)) hb); clear HO_6; clear HB; have HO_6 := n0_; have HO138 := n1_; have HB := n2_; clear n0_ n1_ n2_; (try clear hb); (try clear hb2); (try clear hk); (try clear hi); (try clear ho0); obtain ⟨Ao48, co48, eo48⟩ := Kd.R_slice HO138.out; subst eo48; obtain ⟨Ao49, co49, eo49⟩ := Kd.R_slice HO_6.out; subst eo49) | ((with_reducible refine gate_callee (f := 15) rfl ?_); refine goesL_ (some 94) rfl rfl Tryd.func15 (by kernel_rfl) rfl #[.slice Ao48 t136.length co48, .slice Ao49 x6_3.length co49] rfl (by (try simp only [List.map_toArray, List.map_cons, List.map_nil]); first | done | rfl | (simp only [List.length_drop, List.length_take]; rfl)) ?_; (with_reducible refine (laws_texts.calls k3 _ _ t136 _ _ x6_3 t139 _ ?side1 ?side2 ?side3 ?side4 A46.out).mono ?_); (case side1 => repeat (first | exact (Kd.R_reads' HO138.out).2.2 | (with_reducible refine Kd.C_alloc ?_ _) | (with_reducible refine Kd.C_drewN ?_ _) | (with_reducible refine Kd.C_drew ?_))); (case side2 => exact (Kd.R_reads' HO138.out).2.1); (case side3 => repeat (first | exact (Kd.R_reads' HO_6.out).2.2 | (with_reducible refine Kd.C_alloc ?_ _) | (with_reducible refine Kd.C_drewN ?_ _) | (with_reducible refine Kd.C_drew ?_))); (case side4 => exact (Kd.R_reads' HO_6.out).2.1); rintro e w' ⟨rfl, ⟨nd, rfl⟩⟩; refine ⟨_, rfl, ?_⟩))
                    go_ret
                    exact ⟨by first | rfl | (simp [errW_none, errW_some] <;> rfl) | (simp [*, errW_none, errW_some] <;> rfl) | (simp [bne_nil_hyb]; done), by repeat (first | (with_reducible first | exact HB.out | apply below_alloc | apply pw_below_drewN | apply below_drew1) | exact HB.out)⟩

/-- THE ONE PURE STATEMENT of laws_FnPyPILocalJoined: yours. -/
def laws_FnPyPILocalJoined.Pure : Prop := ∀ (l0 : List ByteArray) (l1 : List Int), l0.length ≤ maxLen → l1.length ≤ maxLen → l1.length * 1 ≤ 140737488351232 → (∀ x ∈ l1, (Lit.int .u8 x).wf = true) → ∃ k, laws_FnPyPILocalJoined.f k l0 l1 = some true
theorem laws_FnPyPILocalJoined.walk (P : laws_FnPyPILocalJoined.Pure) (a0 : Option Addr) (len0 cap0 : Nat) (z0 : List ByteArray) (a1 : Option Addr) (len1 cap1 : Nat) (z1 : List Int) (w : World) (w0 : ((a0 = none ∧ len0 = 0 ∧ cap0 = 0 ∧ z0 = []) ∨ ∃ x, a0 = some x ∧ len0 ≤ cap0 ∧ cap0 ≤ maxLen ∧ z0.length = cap0 ∧ (∀ i, i < z0.length → w.cell? (x.add i) = some (.string (z0.getD i ByteArray.empty))) ∧ ∀ s ∈ z0, s.size ≤ maxLen)) (w1 : (a1 = none ∧ len1 = 0 ∧ cap1 = 0 ∧ z1 = []) ∨ ∃ x, a1 = some x ∧ len1 ≤ cap1 ∧ cap1 ≤ maxLen ∧ z1.length = cap1 ∧ (∀ i, i < z1.length → w.cell? (x.add i) = some (.int .u8 (z1.getD i 0))) ∧ ∀ n ∈ z1, (Lit.int .u8 n).wf = true) (y1 : len1 * 1 ≤ 140737488351232) :
    Calls Tryd.prog 7 #[.slice a0 len0 cap0, .slice a1 len1 cap1] w fun e w' => e = .returned (.bool true) ∧ Below w.heap.size w w' := by
  obtain ⟨l0, rfl, hr0, hm0, hc0⟩ := C_of_strings w0
  obtain ⟨l1, rfl, hr1, hm1, hw1, hc1⟩ := ReadsInt.ofRowC w1
  obtain ⟨k, h⟩ := P l0 l1 hm0 hm1 y1 hw1
  refine (laws_FnPyPILocalJoined.calls k _ _ l0 _ _ l1 true w hr0 hc0 (Kd.C_of_reads (d := (0 : Int)) (h1 := fun _ => rfl) hr1) hc1 h).mono ?_
  rintro e w' ⟨rfl, hd⟩
  exact ⟨rfl, hd⟩

end Go.Proofs.YteffbgjfhbgooaaDoor.R
