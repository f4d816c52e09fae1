/- Proved here, for the row of the law FnAlpineRest: contracts of the Go functions that it reaches, each as its theorem 'calls' says, and the words and plain laws that they need (E2x1, P, AQ, AR, AT, WEqStruct, Qx0, A14, HC, Qx4, AU, Qx5, Qx6, Qx21). -/
import Derived.Test.YtapaijpglfmfgaaDoorFnAlpineRestB
import Derived.Below
import Derived.Deep.Draws
import Derived.Deep.AppendLies
import Derived.Maps.AppendAt
import Derived.OwnWalk
import Derived.Laws.BytesArg
import Derived.Laws.MakeOwn
import Derived.Laws.OwnMore
import Derived.Deep.OwnRows
import Derived.Tactics
import Derived.Lib.ConvBytes
import Derived.Laws.Slices
import Derived.WalkKit
import Derived.KernelRfl
import Derived.RowKit3
import Derived.Deep.LoopGhost
import Derived.Deep.QuietTactic
import Derived.BigQuiet
import Derived.WideLaws
import Derived.Deep.DeepCutAuto
import Derived.Deep.CutBlock
import Derived.Deep.RegionHeld3
import Derived.Laws.Rows
import Derived.Lib.AppendStr
import Derived.ArgAppend
import Derived.Laws.IdiomCopy
import Derived.RowKit
import Derived.Test.YtapaijpglfmfgaaDoorProg
import Derived.OrdersHeld
import Derived.Laws.BitsLemmas
import Derived.Laws.StructEq
set_option linter.unusedVariables false
set_option linter.unusedSimpArgs false
set_option maxHeartbeats 8000000
set_option maxRecDepth 100000
section
namespace Go.Proofs.YtapaijpglfmfgaaDoor.E2
open Go.RowKit YtapaijpglfmfgaaDoorH YtapaijpglfmfgaaDoorW.PrintWords YtapaijpglfmfgaaDoorW.PrintLast YtapaijpglfmfgaaDoorW.PrintMore
attribute [local go_sem] zsc zrc zbd zad zic zhc zqc ztc
def zib.f (a0 : Int) : Option (Bool) := if a0 ≥ 48 then (some (decide (a0 ≤ 57))) else (some false)
theorem zib.calls (a0 : Int) (r : Bool) (w : World) (h : zib.f a0 = some r) :
  Calls Tryd.prog 34 #[.int .u8 a0] w fun e w' => e = .returned (.bool r) ∧ zt w w' := by
 have H : (if a0 ≥ 48 then (some (decide (a0 ≤ 57))) else (some false)) = some r := h
 clear h
 by_cases c2 : a0 ≥ 48
 ·rw [if_pos c2] at H
  have c2b0 : decide (48 ≤ a0) = true := decide_eq_true c2
  clear c2
  obtain rfl := Option.some.inj H
  go_enter Tryd.func34, Tryd.ntmps34
  go_wp2
  go_ret
  exact ⟨by rfl, by repeat (first | exact zt.refl _ | apply zt.step)⟩
 ·rw [if_neg c2] at H
  have c2b0 : decide (48 ≤ a0) = false := decide_eq_false c2
  clear c2
  obtain rfl := Option.some.inj H
  go_enter Tryd.func34, Tryd.ntmps34
  go_wp2
  go_ret
  exact ⟨by rfl, by repeat (first | exact zt.refl _ | apply zt.step)⟩
def zwc.f (a0 : Int) : Option (Bool) := (zib.f a0).bind fun t101 => (if t101 = true then (some true) else (if a0 ≥ 97 then (some (decide (a0 ≤ 102))) else (some false)))
theorem zwc.calls (a0 : Int) (r : Bool) (w : World) (h : zwc.f a0 = some r) :
  Calls Tryd.prog 32 #[.int .u8 a0] w fun e w' => e = .returned (.bool r) ∧ zt w w' := by
 have H : ((zib.f a0).bind fun t101 => (if t101 = true then (some true) else (if a0 ≥ 97 then (some (decide (a0 ≤ 102))) else (some false)))) = some r := h
 clear h
 replace H := Option.bind_eq_some_iff.mp H
 obtain ⟨t101, A20, H⟩ := H
 replace H : (if t101 = true then (some true) else (if a0 ≥ 97 then (some (decide (a0 ≤ 102))) else (some false))) = some r := H
 have A2 := za.mk A20
 clear A20
 by_cases c3 : t101 = true
 ·subst c3
  have H1 : (some true) = some r := by rw [if_pos rfl] at H; exact H
  clear H
  have H := H1
  clear H1
  obtain rfl := Option.some.inj H
  go_enter Tryd.func32, Tryd.ntmps32
  go_wp2_with (((with_reducible refine zab (f := 34) rfl ?_); refine zjc (some 4) rfl rfl Tryd.func34 (by kernel_rfl) rfl #[.int .u8 a0] rfl (by (try simp only [List.map_toArray, List.map_cons, List.map_nil]); first | done | rfl | (simp only [List.length_drop, List.length_take]; rfl)) ?_; (with_reducible refine (zib.calls a0 true _ A2.out).mono ?_); rintro e w' ⟨rfl, ⟨nd, rfl⟩⟩; refine ⟨_, rfl, ?_⟩))
  go_ret
  exact ⟨by rfl, by repeat (first | exact zt.refl _ | apply zt.step)⟩
 ·replace c3 := Bool.eq_false_iff.mpr c3
  subst c3
  have H1 : (if a0 ≥ 97 then (some (decide (a0 ≤ 102))) else (some false)) = some r := by rw [if_neg (show ¬ (false = true) by decide)] at H; exact H
  clear H
  have H := H1
  clear H1
  by_cases c4 : a0 ≥ 97
  ·rw [if_pos c4] at H
   have c4b0 : decide (97 ≤ a0) = true := decide_eq_true c4
   clear c4
   obtain rfl := Option.some.inj H
   go_enter Tryd.func32, Tryd.ntmps32
   go_wp2_with (((with_reducible refine zab (f := 34) rfl ?_); refine zjc (some 4) rfl rfl Tryd.func34 (by kernel_rfl) rfl #[.int .u8 a0] rfl (by (try simp only [List.map_toArray, List.map_cons, List.map_nil]); first | done | rfl | (simp only [List.length_drop, List.length_take]; rfl)) ?_; (with_reducible refine (zib.calls a0 false _ A2.out).mono ?_); rintro e w' ⟨rfl, ⟨nd, rfl⟩⟩; refine ⟨_, rfl, ?_⟩))
   go_ret
   exact ⟨by rfl, by repeat (first | exact zt.refl _ | apply zt.step)⟩
  ·rw [if_neg c4] at H
   have c4b0 : decide (97 ≤ a0) = false := decide_eq_false c4
   clear c4
   obtain rfl := Option.some.inj H
   go_enter Tryd.func32, Tryd.ntmps32
   go_wp2_with (((with_reducible refine zab (f := 34) rfl ?_); refine zjc (some 4) rfl rfl Tryd.func34 (by kernel_rfl) rfl #[.int .u8 a0] rfl (by (try simp only [List.map_toArray, List.map_cons, List.map_nil]); first | done | rfl | (simp only [List.length_drop, List.length_take]; rfl)) ?_; (with_reducible refine (zib.calls a0 false _ A2.out).mono ?_); rintro e w' ⟨rfl, ⟨nd, rfl⟩⟩; refine ⟨_, rfl, ?_⟩))
   go_ret
   exact ⟨by rfl, by repeat (first | exact zt.refl _ | apply zt.step)⟩
def zcb.l0 : Nat → ByteArray → Int → Option (Int)
 | 0, _, _ => none
 | k + 1, x0, x5 => if x5 < (x0.size : Int) then (if 0 ≤ x5 then ((zwc.f (bt x0 x5)).bind fun t102 => (if t102 = true then (zcb.l0 k x0 (wrap64 (x5 + 1))) else (some x5))) else (none)) else (some x5)
def zcb.f (k : Nat) (a0 : ByteArray)  : Option (Int) := zcb.l0 k a0 0
theorem zcb.calls (k : Nat) (a0 : ByteArray)  (r : Int) (w : World) (h : zcb.f k a0 = some r) :
  Calls Tryd.prog 33 #[.string a0, .func (.func 32) #[] #[]] w fun e w' => e = .returned (.int .i64 r) ∧ zt w w' := by
 have H : (zcb.l0 k a0 0) = some r := h
 clear h
 have H' := za.mk H
 clear H
 go_enter Tryd.func33, Tryd.ntmps33
 go_wp2
 (try simp only [Act.put, List.setIfInBounds_toArray, List.set_cons_zero, List.set_cons_succ])
 go_loopg [5] k (fun kq v5 w' => ∃ (x5_1 : Int), v5 = .int .i64 x5_1 ∧ za (zcb.l0 kq a0 x5_1 = some r) ∧ za (kq ≤ k) ∧ zt w w')
 case atStart => exact ⟨(0), (by rfl), H', ⟨Nat.le_refl _⟩, by repeat (first | exact zt.refl _ | apply zt.step)⟩
 case round =>
  clear H'
  obtain ⟨x5_1, rfl, HA, HK1, ⟨m1, rfl⟩⟩ := hrel
  cases gk with
  | zero => exact absurd HA.out (by simp [zcb.l0])
  | succ k1 =>
   have H := HA.out
   clear HA
   simp only [zcb.l0] at H
   by_cases c3 : x5_1 < (a0.size : Int)
   ·rw [if_pos c3] at H
    have c3b0 : decide (x5_1 < (a0.size : Int)) = true := decide_eq_true c3
    clear c3
    by_cases c4 : 0 ≤ x5_1
    ·rw [if_pos c4] at H
     have c4b0 : decide (0 ≤ x5_1) = true := decide_eq_true c4
     clear c4
     replace H := Option.bind_eq_some_iff.mp H
     obtain ⟨t102, A60, H⟩ := H
     replace H : (if t102 = true then (zcb.l0 k1 a0 (wrap64 (x5_1 + 1))) else (some x5_1)) = some r := H
     have A6 := za.mk A60
     clear A60
     by_cases c7 : t102 = true
     ·subst c7
      have H1 : (zcb.l0 k1 a0 (wrap64 (x5_1 + 1))) = some r := by rw [if_pos rfl] at H; exact H
      clear H
      have H := H1
      clear H1
      have H' := za.mk H
      clear H
      have p5 : 0 ≤ (x5_1 : Int) := of_decide_eq_true (by (with_reducible assumption))
      have q5 : x5_1 < (a0.size : Int) := of_decide_eq_true (by (with_reducible assumption))
      have hx5 := bt_at a0 x5_1
      replace p5 := eq_true p5
      replace q5 := eq_true q5
      go_wp2_with ((go_at_call 32; (with_reducible refine (zwc.calls (bt a0 x5_1) true _ A6.out).mono ?_); rintro e w' ⟨rfl, ⟨nd, rfl⟩⟩))
      go_roundg k1
      case measure => have := HK1.out; omega
      case rel => exact ⟨(wrap64 (x5_1 + 1)), (by rfl), H', ⟨by have := HK1.out; omega⟩, by repeat (first | exact zt.refl _ | apply zt.step)⟩
     ·replace c7 := Bool.eq_false_iff.mpr c7
      subst c7
      have H1 : (some x5_1) = some r := by rw [if_neg (show ¬ (false = true) by decide)] at H; exact H
      clear H
      have H := H1
      clear H1
      obtain rfl := Option.some.inj H
      have p5 : 0 ≤ (x5_1 : Int) := of_decide_eq_true (by (with_reducible assumption))
      have q5 : x5_1 < (a0.size : Int) := of_decide_eq_true (by (with_reducible assumption))
      have hx5 := bt_at a0 x5_1
      replace p5 := eq_true p5
      replace q5 := eq_true q5
      go_wp2_with ((go_at_call 32; (with_reducible refine (zwc.calls (bt a0 x5_1) false _ A6.out).mono ?_); rintro e w' ⟨rfl, ⟨nd, rfl⟩⟩))
      go_ret
      exact ⟨by rfl, by repeat (first | exact zt.refl _ | apply zt.step)⟩
    ·rw [if_neg c4] at H
     exact absurd H (by simp)
   ·rw [if_neg c3] at H
    have c3b0 : decide (x5_1 < (a0.size : Int)) = false := decide_eq_false c3
    clear c3
    obtain rfl := Option.some.inj H
    go_wp2
    go_ret
    exact ⟨by rfl, by repeat (first | exact zt.refl _ | apply zt.step)⟩
end Go.Proofs.YtapaijpglfmfgaaDoor.E2
end
section
namespace Go.Proofs.YtapaijpglfmfgaaDoorP
open Go.RowKit YtapaijpglfmfgaaDoorB YtapaijpglfmfgaaDoorM YtapaijpglfmfgaaDoorW.PrintWords
theorem zdh {p : Int → Bool} : ∀ {l : List Int} {c : Int}, c ∈ l.take (run p l) → p c = true
 | [], c, h => by simp at h
 | x :: l, c, h => by
  cases hx : p x with
  | false => rw [zmf hx] at h; simp at h
  | true =>
   rw [zeg hx, List.take_succ_cons] at h
   rcases List.mem_cons.1 h with rfl | h
   ·exact hx
   ·exact zdh h
theorem run_append {p : Int → Bool} : ∀ {a b : List Int}, (∀ c ∈ a, p c = true) → run p (a ++ b) = a.length + run p b
 | [], b, _ => by simp
 | x :: a, b, h => by
  rw [List.cons_append, zeg (h x List.mem_cons_self), run_append (fun c hc => h c (List.mem_cons_of_mem _ hc))]
  simp; omega
theorem run_stop_append {p : Int → Bool} {a b : List Int} (h : ∀ c ∈ a, p c = true) (hb : b = [] ∨ p (b.getD 0 0) = false) : run p (a ++ b) = a.length := by
 rw [run_append h]
 rcases hb with rfl | hb
 ·rfl
 ·cases b with
  | nil => rfl
  | cons x b => rw [zmf (show p x = false from hb)]; rfl
def isPt (c : Int) : Bool := decide (c = 46)
theorem splitP_pt (a b : List Int) : zvd isPt (a ++ 46 :: b) = zvd isPt a ++ zvd isPt b := by
 induction a with
 | nil => rfl
 | cons c a ih =>
  simp only [List.cons_append, zvd]
  split
  ·rw [ih]; rfl
  ·rw [ih]
   cases hs : zvd isPt a with
   | nil => exact absurd hs (splitP_ne _ a)
   | cons x L => rfl
theorem splitP_one {l : List Int} (h : ∀ c ∈ l, c ≠ 46) : zvd isPt l = [l] := by
 induction l with
 | nil => rfl
 | cons c l ih =>
  simp only [zvd]
  rw [if_neg (by have := h c List.mem_cons_self; simp [isPt, this]), ih (fun x hx => h x (List.mem_cons_of_mem _ hx))]
  rfl
theorem getD_head {l : List Int} {c : Int} (h : l.getD 0 0 = c) (hc : c ≠ 0) : l = c :: l.drop 1 := by
 cases l with
 | nil => exact absurd h.symm hc
 | cons x l => have : x = c := h; subst this; rfl
def numsP : Nat → List Int → List (List Int) × List Int
 | 0, l => ([], l)
 | n + 1, l => if run isD l = 0 then ([], l) else
  if (l.drop (run isD l)).getD 0 0 = 46 then (l.take (run isD l) :: (numsP n (l.drop (run isD l + 1))).1, (numsP n (l.drop (run isD l + 1))).2)
  else ([l.take (run isD l)], l.drop (run isD l))
theorem numsP_none {l : List Int} (h : run isD l = 0) : ∀ n, numsP n l = ([], l)
 | 0 => rfl
 | n + 1 => by simp only [numsP, h, if_true]
theorem take_run_ne {p : Int → Bool} {l : List Int} (h : run p l ≠ 0) : l.take (run p l) ≠ [] := by
 intro e
 have := congrArg List.length e
 have h1 := run_le p l
 rw [List.length_take, List.length_nil] at this
 omega
theorem isD_pt {c : Int} (h : isD c = true) : c ≠ 46 := by
 unfold isD at h
 have := of_decide_eq_true h
 omega
theorem ztf : ∀ (n : Nat) (l : List Int), ∃ sub, l = sub ++ (numsP n l).2 ∧ (zvd isPt sub).takeWhile (fun d => decide (d ≠ [])) = (numsP n l).1 ∧ ((numsP n l).1 = [] → sub = []) ∧ (∀ d ∈ (numsP n l).1, d ≠ [] ∧ ∀ c ∈ d, isD c = true)
 | 0, l => ⟨[], rfl, rfl, fun _ => rfl, fun d hd => by simp [numsP] at hd⟩
 | n + 1, l => by
  simp only [numsP]
  by_cases h0 : run isD l = 0
  ·rw [if_pos h0]
   exact ⟨[], rfl, rfl, fun _ => rfl, fun d hd => by simp at hd⟩
  ·rw [if_neg h0]
   have hne := take_run_ne h0
   have hdig : ∀ c ∈ l.take (run isD l), isD c = true := fun c hc => zdh hc
   by_cases h1 : (l.drop (run isD l)).getD 0 0 = 46
   ·rw [if_pos h1]
    obtain ⟨sub, e1, e2, e3, e4⟩ := ztf n (l.drop (run isD l + 1))
    have e := getD_head h1 (by omega)
    rw [List.drop_drop] at e
    refine ⟨l.take (run isD l) ++ 46 :: sub, ?_, ?_, fun h => by simp at h, fun d hd => ?_⟩
    ·show l = l.take (run isD l) ++ 46 :: sub ++ (numsP n (l.drop (run isD l + 1))).2
     rw [List.append_assoc, List.cons_append, ← e1, ← e, List.take_append_drop]
    ·rw [splitP_pt, splitP_one (fun c hc => isD_pt (hdig c hc))]
     show (l.take (run isD l) :: zvd isPt sub).takeWhile _ = _
     rw [List.takeWhile_cons_of_pos (by simpa using hne), e2]
    ·rcases List.mem_cons.1 hd with rfl | hd
     ·exact ⟨hne, hdig⟩
     ·exact e4 d hd
   ·rw [if_neg h1]
    refine ⟨l.take (run isD l), (List.take_append_drop _ _).symm, ?_, fun h => by simp at h, fun d hd => ?_⟩
    ·rw [splitP_one (fun c hc => isD_pt (hdig c hc)), List.takeWhile_cons_of_pos (by simpa using hne)]
     rfl
    ·have : d = l.take (run isD l) := by simpa using hd
     subst this
     exact ⟨hne, hdig⟩
theorem numsP_len (n : Nat) (l : List Int) : (numsP n l).2.length ≤ l.length := by
 obtain ⟨sub, e, _⟩ := ztf n l
 have := congrArg List.length e
 rw [List.length_append] at this
 omega
theorem numsP_part : ∀ (n : Nat) (l : List Int), ∀ d ∈ (numsP n l).1, d.length ≤ l.length
 | 0, l, d, h => by simp [numsP] at h
 | n + 1, l, d, h => by
  simp only [numsP] at h
  by_cases h0 : run isD l = 0
  ·rw [if_pos h0] at h; simp at h
  ·rw [if_neg h0] at h
   by_cases h1 : (l.drop (run isD l)).getD 0 0 = 46
   ·rw [if_pos h1] at h
    rcases List.mem_cons.1 h with rfl | h
    ·rw [List.length_take]; omega
    ·have := numsP_part n _ d h
     rw [List.length_drop] at this
     omega
   ·rw [if_neg h1] at h
    have : d = l.take (run isD l) := by simpa using h
    subst this
    rw [List.length_take]; omega
def zyd (l : List Int) : List Int × List Int := if isL (l.getD 0 0) = true then (l.take 1, l.drop 1) else ([], l)
def zdc : List (List Int) := [[97, 108, 112, 104, 97], [98, 101, 116, 97], [112, 114, 101], [114, 99], [99, 118, 115], [115, 118, 110], [103, 105, 116], [104, 103], [112]]
def wgtWords : List (List Int) := [[97, 108, 112, 104, 97], [98, 101, 116, 97], [112, 114, 101], [114, 99], [], [99, 118, 115], [115, 118, 110], [103, 105, 116], [104, 103]]
def wgt (w : List Int) : Nat := wgtWords.idxOf w
def pre (w l : List Int) : Bool := decide (l.take w.length = w)
def zld (l : List Int) : Option (List Int) := if l.getD 0 0 = 95 then zdc.find? (fun w => pre w (l.drop 1)) else none
def sufsP : Nat → List Int → List (List Int × List Int) × List Int
 | 0, l => ([], l)
 | n + 1, l => match zld l with
  | none => ([], l)
  | some w => ((w, (l.drop (1 + w.length)).take (run isD (l.drop (1 + w.length)))) :: (sufsP n ((l.drop (1 + w.length)).drop (run isD (l.drop (1 + w.length))))).1, (sufsP n ((l.drop (1 + w.length)).drop (run isD (l.drop (1 + w.length))))).2)
theorem zle {l : List Int} (h : zld l = none) : ∀ n, sufsP n l = ([], l)
 | 0 => rfl
 | n + 1 => by simp only [sufsP, h]
theorem zme {l w : List Int} (h : zld l = some w) (n : Nat) : sufsP (n + 1) l = ((w, (l.drop (1 + w.length)).take (run isD (l.drop (1 + w.length)))) :: (sufsP n ((l.drop (1 + w.length)).drop (run isD (l.drop (1 + w.length))))).1, (sufsP n ((l.drop (1 + w.length)).drop (run isD (l.drop (1 + w.length))))).2) := by simp only [sufsP, h]
theorem zje {l w : List Int} (h : zld l = some w) : w ∈ zdc ∧ l = 95 :: (w ++ l.drop (1 + w.length)) := by
 unfold zld at h
 by_cases h0 : l.getD 0 0 = 95
 ·rw [if_pos h0] at h
  have h1 := List.mem_of_find?_eq_some h
  have h2 := List.find?_some h
  unfold pre at h2
  have h3 : (l.drop 1).take w.length = w := of_decide_eq_true h2
  refine ⟨h1, ?_⟩
  have e := getD_head h0 (by omega)
  have e2 : l.drop 1 = w ++ (l.drop 1).drop w.length := by
   have := List.take_append_drop w.length (l.drop 1)
   rw [h3] at this
   exact this.symm
  rw [List.drop_drop] at e2
  rw [← e2]
  exact e
 ·rw [if_neg h0] at h; cases h
theorem zid {w : List Int} (h : w ∈ zdc) : 1 ≤ w.length ∧ w.length ≤ 5 := by
 have : ∀ w ∈ zdc, 1 ≤ w.length ∧ w.length ≤ 5 := by decide
 exact this w h
theorem zxf {w : List Int} (h : w ∈ zdc) : ∀ c ∈ w, 97 ≤ c ∧ c ≤ 122 := by
 have : ∀ w ∈ zdc, ∀ c ∈ w, 97 ≤ c ∧ c ≤ 122 := by decide
 exact this w h
theorem sufsP_len : ∀ (n : Nat) (l : List Int), (sufsP n l).2.length ≤ l.length
 | 0, l => Nat.le_refl _
 | n + 1, l => by
  cases h : zld l with
  | none => rw [zle h]; exact Nat.le_refl _
  | some w =>
   rw [zme h]
   have := sufsP_len n ((l.drop (1 + w.length)).drop (run isD (l.drop (1 + w.length))))
   rw [List.length_drop, List.length_drop] at this
   simp only
   omega
theorem sufsP_count : ∀ (n : Nat) (l : List Int), (sufsP n l).1.length ≤ l.length
 | 0, l => Nat.zero_le _
 | n + 1, l => by
  cases h : zld l with
  | none => rw [zle h]; exact Nat.zero_le _
  | some w =>
   rw [zme h]
   have := sufsP_count n ((l.drop (1 + w.length)).drop (run isD (l.drop (1 + w.length))))
   rw [List.length_drop, List.length_drop] at this
   have h1 := (zje h).2
   have h2 := congrArg List.length h1
   simp only [List.length_cons, List.length_append, List.length_drop] at h2 ⊢
   omega
theorem sufsP_mem : ∀ (n : Nat) (l : List Int), ∀ x ∈ (sufsP n l).1, x.1 ∈ zdc ∧ x.2.length ≤ l.length ∧ ∀ c ∈ x.2, isD c = true
 | 0, l, x, hx => by simp [sufsP] at hx
 | n + 1, l, x, hx => by
  cases h : zld l with
  | none => rw [zle h] at hx; simp at hx
  | some w =>
   rw [zme h] at hx
   rcases List.mem_cons.1 hx with rfl | hx
   ·refine ⟨(zje h).1, ?_, fun c hc => zdh hc⟩
    simp only [List.length_take, List.length_drop]
    omega
   ·have := sufsP_mem n _ x hx
    refine ⟨this.1, Nat.le_trans this.2.1 ?_, this.2.2⟩
    rw [List.length_drop, List.length_drop]
    omega
def isX (c : Int) : Bool := isD c || decide (97 ≤ c ∧ c ≤ 102)
def hashP (l : List Int) : List Int × List Int := if l.getD 0 0 = 126 ∧ run isX (l.drop 1) ≠ 0 then (l.take (1 + run isX (l.drop 1)), l.drop (1 + run isX (l.drop 1))) else ([], l)
def znd (l : List Int) : Bool × List Int × List Int := if l = [] then (false, [], []) else
 if l.take 2 = [45, 114] then (false, (l.drop 2).take (run isD (l.drop 2)), (l.drop 2).drop (run isD (l.drop 2))) else (true, [], l)
structure PV where
 o : List Int
 c : List (List Int)
 l : List Int
 s : List (List Int × List Int)
 h : List Int
 i : Bool
 b : List Int
 r : List Int
def rest1 (l : List Int) : List Int := (numsP l.length l).2
def rest2 (l : List Int) : List Int := (zyd (rest1 l)).2
def rest3 (l : List Int) : List Int := (sufsP (rest2 l).length (rest2 l)).2
def rest4 (l : List Int) : List Int := (hashP (rest3 l)).2
def zyc (l : List Int) : PV := ⟨l, (numsP l.length l).1, (zyd (rest1 l)).1, (sufsP (rest2 l).length (rest2 l)).1, (hashP (rest3 l)).1, (znd (rest4 l)).1, (znd (rest4 l)).2.1, (znd (rest4 l)).2.2⟩
def Clear (l : List Int) : Prop := ∀ j, zld (l.drop j) = none
theorem zph (l : List Int) : (rest1 l).length ≤ l.length := numsP_len _ l
theorem zyg (l : List Int) : (rest2 l).length ≤ l.length := by
 unfold rest2 zyd
 have := zph l
 split
 ·simp only [List.length_drop]; omega
 ·exact this
theorem rest3_len (l : List Int) : (rest3 l).length ≤ l.length := Nat.le_trans (sufsP_len _ _) (zyg l)
theorem rest4_len (l : List Int) : (rest4 l).length ≤ l.length := by
 unfold rest4 hashP
 have := rest3_len l
 split
 ·simp only [List.length_drop]; omega
 ·exact this
theorem Clear.drop {l : List Int} (h : Clear l) (i : Nat) : Clear (l.drop i) := fun j => by rw [List.drop_drop]; exact h (i + j)
end Go.Proofs.YtapaijpglfmfgaaDoorP
end
section
namespace Go.Proofs.YtapaijpglfmfgaaDoorP
open Go.RowKit YtapaijpglfmfgaaDoorG YtapaijpglfmfgaaDoorH YtapaijpglfmfgaaDoorB YtapaijpglfmfgaaDoorM YtapaijpglfmfgaaDoor.S YtapaijpglfmfgaaDoorW.PrintWords YtapaijpglfmfgaaDoorW.PrintLast
theorem run_drop {p : Int → Bool} : ∀ (l : List Int), run p (l.drop (run p l)) = 0
 | [] => rfl
 | x :: l => by
  cases hx : p x with
  | false => rw [zmf hx, List.drop_zero, zmf hx]
  | true => rw [zeg hx, List.drop_succ_cons]; exact run_drop l
theorem zzDigit_eq (c : Int) : zzb.f c = some (isD c) := by
 unfold zzb.f isD
 by_cases h : c ≥ 48
 ·rw [if_pos h]; simp; omega
 ·rw [if_neg h]; simp; omega
theorem digits_from (s : ByteArray) (hs : s.size ≤ 2000000) : ∀ (n i : Nat), s.size - i = n → i ≤ s.size →
  Ev (fun k => zdb.l0 k s (i : Int)) ((i + run isD ((bytesOf s).drop i) : Nat) : Int) := by
 intro n
 induction n with
 | zero =>
  intro i hn hi
  refine Ev.succ ?_
  simp only [zdb.l0]
  refine Ev.neg (fun _ => by first | omega | assumption | nofun) ?_
  refine Ev.eq (Ev.now _) ?_
  rw [List.drop_of_length_le (by rw [bytesOf_length]; omega), run_nil]
  rfl
 | succ n ih =>
  intro i hn hi
  have hl : i < (bytesOf s).length := by rw [bytesOf_length]; omega
  refine Ev.succ ?_
  simp only [zdb.l0, zif, zzDigit_eq, Option.bind_some]
  refine Ev.pos (fun _ => by first | omega | trivial | assumption) ?_
  refine Ev.pos (fun _ => by first | omega | trivial | assumption) ?_
  rw [zwf _ _ hl]
  cases hd : isD ((bytesOf s).getD i 0)
  ·refine Ev.neg (fun _ => Bool.false_ne_true) ?_
   refine Ev.eq (Ev.now _) ?_
   rw [zmf hd]
   rfl
  ·refine Ev.pos (fun _ => rfl) ?_
   rw [w64 (by omega) (by omega), zeg hd]
   refine Ev.eq (ih (i + 1) (by omega) (by omega)) ?_
   have : i + 1 + run isD ((bytesOf s).drop (i + 1)) = i + (run isD ((bytesOf s).drop (i + 1)) + 1) := by omega
   rw [this]
theorem zxh (s : ByteArray) (hs : s.size ≤ 2000000) (i : Nat) (hi : i ≤ s.size) : Ev (fun k => zdb.f k s (i : Int)) ((i + run isD ((bytesOf s).drop i) : Nat) : Int) := digits_from s hs _ i rfl hi
theorem zyf (s : ByteArray) (hs : s.size ≤ 2000000) (i : Nat) (hi : i ≤ s.size) (h : run isD ((bytesOf s).drop i) = 0) : Ev (fun k => zw.l0 k s (i : Int)) (s.extract 0 i) := by
 refine Ev.succ ?_
 simp only [zw.l0]
 refine Ev.bind (zxh s hs i hi) ?_
 rw [h, Nat.add_zero]
 refine Ev.pos (fun _ => rfl) ?_
 refine Ev.pos (fun _ => by first | omega | trivial | assumption) ?_
 refine Ev.pos (fun _ => by first | omega | trivial | assumption) ?_
 exact Ev.eq (Ev.now _) (by simp)
theorem numbers_from (s : ByteArray) (hs : s.size ≤ 2000000) : ∀ (n i : Nat), s.size - i ≤ n → i ≤ s.size →
  Ev (fun k => zw.l0 k s (i : Int)) (s.extract 0 (s.size - (numsP n ((bytesOf s).drop i)).2.length)) := by
 intro n
 induction n with
 | zero =>
  intro i hn hi
  have e : (bytesOf s).drop i = [] := List.drop_of_length_le (by rw [bytesOf_length]; omega)
  have := zyf s hs i hi (by rw [e]; rfl)
  rw [e]
  have e2 : s.size - (numsP 0 []).2.length = i := by simp [numsP]; omega
  rw [e2]
  exact this
 | succ n ih =>
  intro i hn hi
  by_cases h0 : run isD ((bytesOf s).drop i) = 0
  ·rw [numsP_none h0]
   have e2 : s.size - ((([] : List (List Int)), (bytesOf s).drop i)).2.length = i := by simp only [List.length_drop, bytesOf_length]; omega
   rw [e2]
   exact zyf s hs i hi h0
  ·have hr := run_le isD ((bytesOf s).drop i)
   rw [List.length_drop, bytesOf_length] at hr
   have hdd : ((bytesOf s).drop i).drop (run isD ((bytesOf s).drop i)) = (bytesOf s).drop (i + run isD ((bytesOf s).drop i)) := by rw [List.drop_drop]
   have hdd1 : ((bytesOf s).drop i).drop (run isD ((bytesOf s).drop i) + 1) = (bytesOf s).drop (i + run isD ((bytesOf s).drop i) + 1) := by rw [List.drop_drop, Nat.add_assoc]
   have hz : run isD ((bytesOf s).drop (i + run isD ((bytesOf s).drop i))) = 0 := by rw [← hdd]; exact run_drop _
   have hgt : (((bytesOf s).drop i).drop (run isD ((bytesOf s).drop i))).getD 0 0 = (bytesOf s).getD (i + run isD ((bytesOf s).drop i)) 0 := by
    rw [hdd]; simp [List.getD_eq_getElem?_getD]
   simp only [numsP]
   rw [if_neg h0, hgt, hdd, hdd1]
   have D := zxh s hs i hi
   generalize run isD ((bytesOf s).drop i) = r at D hr hz h0 ⊢
   refine Ev.succ ?_
   simp only [zw.l0]
   refine Ev.bind D ?_
   refine Ev.neg (fun _ => by omega) ?_
   by_cases hlt : i + r < s.size
   ·refine Ev.pos (fun _ => by omega) ?_
    refine Ev.pos (fun _ => by omega) ?_
    rw [zif]
    by_cases h46 : (bytesOf s).getD (i + r) 0 = 46
    ·rw [if_pos h46]
     refine Ev.pos (fun _ => h46) ?_
     rw [w64 (by omega) (by omega)]
     exact ih (i + r + 1) (by omega) (by omega)
    ·rw [if_neg h46]
     refine Ev.neg (fun _ => h46) ?_
     have e2 : s.size - ([((bytesOf s).drop i).take r], (bytesOf s).drop (i + r)).2.length = i + r := by simp only [List.length_drop, bytesOf_length]; omega
     rw [e2]
     exact zyf s hs (i + r) (by omega) hz
   ·refine Ev.neg (fun _ => by omega) ?_
    have e3 : (bytesOf s).drop (i + r) = [] := List.drop_of_length_le (by rw [bytesOf_length]; omega)
    have h46 : (bytesOf s).getD (i + r) 0 ≠ 46 := by
     rw [List.getD_eq_getElem?_getD, List.getElem?_eq_none (by rw [bytesOf_length]; omega)]
     simp
    rw [if_neg h46]
    have e2 : s.size - ([((bytesOf s).drop i).take r], (bytesOf s).drop (i + r)).2.length = i + r := by simp only [List.length_drop, bytesOf_length]; omega
    rw [e2]
    exact zyf s hs (i + r) (by omega) hz
def nPt (c : Int) : Bool := !isPt c
theorem index_from (s : ByteArray) (hs : s.size ≤ 1000000) : ∀ (n i : Nat), s.size - i = n → i ≤ s.size →
  Ev (fun k => zob.l0 k s (⟨#[46]⟩ : ByteArray) i) (if i + run nPt ((bytesOf s).drop i) < s.size then ((i + run nPt ((bytesOf s).drop i) : Nat) : Int) else -1) := by
 have e1 : ((⟨#[46]⟩ : ByteArray).size : Int) = 1 := rfl
 intro n
 induction n with
 | zero =>
  intro i hn hi
  refine Ev.succ ?_
  simp only [zob.l0]
  rw [e1, w64 (by omega) (by omega)]
  refine Ev.neg (fun _ => by first | omega | assumption | nofun) ?_
  refine Ev.eq (Ev.now _) ?_
  rw [if_neg (by omega)]
 | succ n ih =>
  intro i hn hi
  have hl : i < (bytesOf s).length := by rw [bytesOf_length]; omega
  have hg := zwf _ _ hl
  have hone : bytesOf (s.extract i (i + 1)) = [(bytesOf s).getD i 0] := by rw [zre, hg]; simp
  refine Ev.succ ?_
  simp only [zob.l0]
  rw [e1, w64 (by omega) (by omega)]
  have e2 : ((i : Int) + 1).toNat = i + 1 := by omega
  rw [e2, Int.toNat_natCast]
  refine Ev.pos (fun _ => by first | omega | trivial | assumption) ?_
  refine Ev.pos (fun _ => by first | omega | trivial | assumption) ?_
  refine Ev.pos (fun _ => by first | omega | trivial | assumption) ?_
  cases hp : isPt ((bytesOf s).getD i 0)
  ·refine Ev.neg (fun _ h => ?_) ?_
   ·rw [zzc, hone] at h
    have h2 : [(bytesOf s).getD i 0] = [46] := h
    injection h2 with h2 _
    rw [h2] at hp
    cases hp
   ·refine Ev.eq (ih (i + 1) (by omega) (by omega)) ?_
    rw [hg, zeg (show nPt ((bytesOf s).getD i 0) = true by unfold nPt; rw [hp]; rfl)]
    have e3 : i + 1 + run nPt ((bytesOf s).drop (i + 1)) = i + (run nPt ((bytesOf s).drop (i + 1)) + 1) := by omega
    rw [e3]
  ·refine Ev.pos (fun _ => ?_) ?_
   ·rw [zzc, hone]
    have : (bytesOf s).getD i 0 = 46 := by simpa [isPt] using hp
    rw [this]
    rfl
   ·refine Ev.eq (Ev.now _) ?_
    rw [hg, zmf (show nPt ((bytesOf s).getD i 0) = false by unfold nPt; rw [hp]; rfl), if_pos (by omega)]
    rfl
theorem split_from : ∀ (n : Nat) (s : ByteArray) (out : List ByteArray), s.size ≤ n → n ≤ 1000000 → out.length + n ≤ 2000000 →
  ∃ r, Ev (fun k => zkb.l1 k s (⟨#[46]⟩ : ByteArray) out) r ∧ r.map bytesOf = out.map bytesOf ++ zvd isPt (bytesOf s) := by
 have e1 : ((⟨#[46]⟩ : ByteArray).size : Int) = 1 := rfl
 intro n
 induction n using Nat.strongRecOn with
 | _ n ih =>
  intro s out hs hn ho
  have hix := index_from s (by omega) _ 0 rfl (by omega)
  have hix2 : Ev (fun k => zob.f k s (⟨#[46]⟩ : ByteArray)) (if run nPt (bytesOf s) < s.size then ((run nPt (bytesOf s) : Nat) : Int) else -1) := by simpa [zob.f] using hix
  have hsp := splitP_run isPt (bytesOf s)
  rw [bytesOf_length] at hsp
  have hrun : run (fun c => !isPt c) (bytesOf s) = run nPt (bytesOf s) := rfl
  rw [hrun] at hsp
  by_cases hlt : run nPt (bytesOf s) < s.size
  ·rw [if_pos hlt] at hix2 hsp
   obtain ⟨m, hm⟩ : ∃ m, m = run nPt (bytesOf s) := ⟨_, rfl⟩
   rw [← hm] at hix2 hsp hlt
   have hb : bytesOf (s.extract (m + 1) s.size) = (bytesOf s).drop (m + 1) := zlg _ _
   have hsz : (s.extract (m + 1) s.size).size = s.size - (m + 1) := by rw [zwb, hb, List.length_drop, bytesOf_length]
   obtain ⟨r, hr, h1⟩ := ih (s.size - (m + 1)) (by omega) (s.extract (m + 1) s.size) (out ++ [s.extract 0 m]) (by omega) (by omega) (by simp; omega)
   refine ⟨r, Ev.succ ?_, ?_⟩
   ·simp only [zkb.l1]
    refine Ev.bind hix2 ?_
    rw [e1, w64 (i := (m : Int) + 1) (by omega) (by omega)]
    have e2 : ((m : Int) + 1).toNat = m + 1 := by omega
    rw [e2, Int.toNat_natCast]
    refine Ev.neg (fun _ => by first | omega | assumption | nofun) ?_
    refine Ev.pos (fun _ => by first | omega | trivial | assumption) ?_
    refine Ev.pos (fun _ => by first | omega | trivial | assumption) ?_
    refine Ev.pos (fun _ => by first | omega | trivial | assumption) ?_
    refine Ev.pos (fun _ => by first | omega | trivial | assumption) ?_
    refine Ev.pos (fun _ => by first | omega | trivial | assumption) ?_
    exact hr
   ·rw [h1, hb, hsp, List.map_append, List.map_cons, List.map_nil, zof]
    simp
  ·rw [if_neg hlt] at hix2 hsp
   refine ⟨out ++ [s], Ev.succ ?_, ?_⟩
   ·simp only [zkb.l1]
    refine Ev.bind hix2 ?_
    refine Ev.pos (fun _ => by first | omega | trivial | assumption) ?_
    refine Ev.pos (fun _ => by first | omega | trivial | assumption) ?_
    exact Ev.now _
   ·rw [hsp]; simp
theorem split_ev (s : ByteArray) (hs : s.size ≤ 1000000) : ∃ r, Ev (fun k => zkb.f k s (⟨#[46]⟩ : ByteArray)) r ∧ r.map bytesOf = zvd isPt (bytesOf s) := by
 obtain ⟨r, h, h1⟩ := split_from s.size s [] (Nat.le_refl _) hs (by simp; omega)
 refine ⟨r, ?_, by simpa using h1⟩
 simp only [zkb.f]
 refine Ev.neg (fun _ h => by cases h) ?_
 exact h
theorem zdi {m : List Int} (h0 : m ≠ []) (h : ∀ c ∈ m, isD c = true) : zod (strOfNums m) ∧ bytesOf (strOfNums m) = m := by
 have hb : bytesOf (strOfNums m) = m := B_str (fun c hc => by have := h c hc; unfold isD at this; have := of_decide_eq_true this; omega)
 refine ⟨⟨by rw [zwb, hb]; exact List.length_pos_iff.2 h0, fun j hj => ?_⟩, hb⟩
 rw [zif, hb]
 rw [zwb, hb] at hj
 have hm : m.getD j 0 ∈ m := by rw [List.getD_eq_getElem?_getD, List.getElem?_eq_getElem hj]; exact List.getElem_mem hj
 have := h _ hm
 unfold isD at this
 exact of_decide_eq_true this
theorem plain_dig {d : ByteArray} (h : zod d) (hs : d.size ≤ 1000000) : Plain d := by
 have := h.2 0 h.1
 unfold Dig at this
 have e : bt d ((0 : Nat) : Int) = bt d 0 := rfl
 rw [e] at this
 exact ⟨hs, by omega, by omega⟩
theorem dv_decL (s : ByteArray) : ∀ k, k ≤ s.size → dv s k = decL ((bytesOf s).take k)
 | 0, _ => rfl
 | k + 1, h => by
  have hl : k < (bytesOf s).length := by rw [bytesOf_length]; omega
  have e : (bytesOf s).take (k + 1) = (bytesOf s).take k ++ [(bytesOf s).getD k 0] := by
   rw [List.take_add_one, List.getElem?_eq_getElem hl, List.getD_eq_getElem?_getD, List.getElem?_eq_getElem hl]
   rfl
  rw [e, decL_snoc, ← dv_decL s k (by omega)]
  show dv s k * 10 + (bt s (k : Int) - 48).toNat = _
  rw [zif]
  omega
theorem dv_all (s : ByteArray) : dv s s.size = decL (bytesOf s) := by
 rw [dv_decL s s.size (Nat.le_refl _), List.take_of_length_le (by rw [bytesOf_length]; exact Nat.le_refl _)]
theorem dv_str {m : List Int} (h : ∀ c ∈ m, 0 ≤ c ∧ c ≤ 255) : dv (strOfNums m) (strOfNums m).size = decL m := by
 rw [dv_all, B_str h]
theorem zeh (s p : ByteArray) (r : List Int) (h : bytesOf s = bytesOf p ++ r) (hs : s.size ≤ 2000000) : ∃ t, zeb.f s p = some t ∧ bytesOf t = r := by
 have hl : p.size ≤ s.size := by rw [zwb, zwb, h, List.length_append]; omega
 unfold zeb.f zvc.f zmc.f
 rw [if_pos (by omega), if_pos (by omega), if_pos (by omega)]
 have e : ((s.extract 0 ((p.size : Int)).toNat).toList == p.toList) = true := by
  rw [beq_iff_eq, zzc, zof, Int.toNat_natCast, h, zwb, List.take_left]
 rw [e]
 simp only [Option.bind_some]
 rw [if_pos True.intro, if_pos (by omega), if_pos (by omega)]
 simp only [Option.bind_some]
 refine ⟨_, rfl, ?_⟩
 rw [zlg, Int.toNat_natCast, h, zwb, List.drop_left]
theorem takeNe_map {l : List ByteArray} : (zse l).map bytesOf = (l.map bytesOf).takeWhile (fun d => decide (d ≠ [])) := by
 induction l with
 | nil => rfl
 | cons a l ih =>
  unfold zse at ih ⊢
  rw [List.map_cons]
  by_cases h : a.toList = []
  ·have h2 : bytesOf a = [] := (zrb a).1 h
   rw [List.takeWhile_cons_of_neg (by simpa using h), List.takeWhile_cons_of_neg (by simpa using h2)]
   rfl
  ·have h2 : bytesOf a ≠ [] := fun e => h ((zrb a).2 e)
   rw [List.takeWhile_cons_of_pos (by simpa using h), List.takeWhile_cons_of_pos (by simpa using h2), List.map_cons, ih]
theorem nums_ev (s : ByteArray) (hs : s.size ≤ 100000) : ∃ rest, Ev (fun k => numsRun k s) ((numsP (bytesOf s).length (bytesOf s)).1.map strOfNums, rest) ∧ bytesOf rest = rest1 (bytesOf s) := by
 obtain ⟨sub, e1, e2, e3, e4⟩ := ztf (bytesOf s).length (bytesOf s)
 have hN := numbers_from s (by omega) (bytesOf s).length 0 (by rw [bytesOf_length]; omega) (Nat.zero_le _)
 rw [List.drop_zero] at hN
 have hsub : bytesOf (s.extract 0 (s.size - (numsP (bytesOf s).length (bytesOf s)).2.length)) = sub := by
  rw [zof, zwb]
  have : (bytesOf s).length - (numsP (bytesOf s).length (bytesOf s)).2.length = sub.length := by
   have := congrArg List.length e1
   rw [List.length_append] at this
   omega
  rw [this]
  conv => lhs; rw [e1]
  exact List.take_left
 obtain ⟨S, hS⟩ : ∃ S, S = s.extract 0 (s.size - (numsP (bytesOf s).length (bytesOf s)).2.length) := ⟨_, rfl⟩
 rw [← hS] at hN hsub
 have hSs : S.size ≤ 1000000 := by
  have hz := hs
  have := congrArg List.length e1
  rw [List.length_append] at this
  rw [zwb, hsub]
  rw [zwb] at hs
  omega
 unfold numsRun
 by_cases h0 : sub = []
 ·have hn : (numsP (bytesOf s).length (bytesOf s)).1 = [] := by
   rw [← e2, h0]; rfl
  refine ⟨s, ?_, ?_⟩
  ·refine Ev.bind hN ?_
   refine Ev.pos (fun _ => (zrb S).2 (hsub.trans h0)) ?_
   rw [hn]
   exact Ev.now _
  ·unfold rest1
   conv => lhs; rw [e1, h0]
   rfl
 ·obtain ⟨parts, hp, hpb⟩ := split_ev S hSs
  obtain ⟨t, ht, htb⟩ := zeh s S _ (by rw [hsub]; exact e1) (by omega)
  have hpt : (zse parts).map bytesOf = (numsP (bytesOf s).length (bytesOf s)).1 := by rw [takeNe_map, hpb, hsub, e2]
  have hpt2 : zse parts = (numsP (bytesOf s).length (bytesOf s)).1.map strOfNums := by
   rw [← hpt, List.map_map]
   have : (strOfNums ∘ bytesOf) = id := by funext s; exact str_B s
   rw [this, List.map_id]
  refine ⟨t, ?_, htb⟩
  refine Ev.bind hN ?_
  refine Ev.neg (fun _ h => h0 (hsub.symm.trans ((zrb S).1 h))) ?_
  refine Ev.bind hp ?_
  have hlen : parts.length = (zvd isPt sub).length := by rw [← hsub, ← hpb, List.length_map]
  have hl2 := splitP_length isPt sub
  have hl3 : sub.length ≤ 1000000 - 0 := by rw [← hsub, ← zwb]; exact hSs
  have hl4 : sub.length ≤ (bytesOf s).length := by
   have := congrArg List.length e1
   rw [List.length_append] at this
   omega
  have hne : 0 < (zvd isPt sub).length := List.length_pos_iff.2 (splitP_ne _ _)
  have hle : parts.length ≤ 1000000 := by
   have hz := hs
   rw [zwb] at hz
   omega
  have hgood : ∀ d ∈ zse parts, Plain d ∧ zod d := by
   intro d hd
   rw [hpt2] at hd
   obtain ⟨m, hm, rfl⟩ := List.mem_map.1 hd
   obtain ⟨k1, k2⟩ := e4 m hm
   obtain ⟨k3, k4⟩ := zdi k1 k2
   refine ⟨plain_dig k3 ?_, k3⟩
   rw [zwb, k4]
   have := numsP_part (bytesOf s).length (bytesOf s) m hm
   rw [zwb] at hs
   omega
  refine Ev.pos (fun _ => ⟨by omega, hle, hgood⟩) ?_
  rw [ht, hpt2]
  exact Ev.now _
theorem letter_ev (s : ByteArray) (hs : s.size ≤ 100000) : ∃ rest, zhg s = some (strOfNums (zyd (bytesOf s)).1, rest) ∧ bytesOf rest = (zyd (bytesOf s)).2 := by
 have hE : zvb.f s = some (isL ((bytesOf s).getD 0 0)) := by
  unfold zvb.f
  by_cases h0 : bytesOf s = []
  ·rw [if_pos ((zrb s).2 h0), h0]; rfl
  ·have hpos : 0 < s.size := by rw [zwb]; exact List.length_pos_iff.2 h0
   rw [if_neg (fun h => h0 ((zrb s).1 h)), if_pos (by omega), zbh]
   unfold isL
   by_cases h1 : (bytesOf s).getD 0 0 ≥ 97
   ·rw [if_pos h1]
    congr 1
    rw [decide_eq_decide]
    omega
   ·rw [if_neg h1]
    congr 1
    symm
    rw [decide_eq_false_iff_not]
    omega
 unfold zhg zyd
 rw [hE]
 simp only [Option.bind_some]
 cases hc : isL ((bytesOf s).getD 0 0)
 ·obtain ⟨t, ht, htb⟩ := zeh s ⟨#[]⟩ (bytesOf s) (by rfl) (by omega)
  refine ⟨t, ?_, ?_⟩
  ·rw [if_neg (by rintro ⟨h, _⟩; cases h)]
   simp only [Bool.false_eq_true, if_false]
   rw [ht]
   rfl
  ·simpa using htb
 ·have hne : bytesOf s ≠ [] := by intro e; rw [e] at hc; exact absurd hc (by decide)
  have hpos : s.size ≠ 0 := fun h => hne ((size_nil s).1 h)
  obtain ⟨t, ht, htb⟩ := zeh s (s.extract 0 1) ((bytesOf s).drop 1) (by rw [zof]; exact (List.take_append_drop 1 _).symm) (by omega)
  refine ⟨t, ?_, ?_⟩
  ·rw [if_neg (by rintro ⟨_, h⟩; exact hpos h)]
   simp only [if_true]
   rw [ht]
   have : s.extract 0 1 = strOfNums ((bytesOf s).take 1) := by rw [← zof, str_B]
   rw [this]
   rfl
  ·simpa using htb
theorem has_ev (s w : ByteArray) (i : Nat) (hi : i ≤ s.size) (hs : s.size ≤ 2000000) (hw : w.size ≤ 100) : zxb.f s (i : Int) w = some (pre (bytesOf w) ((bytesOf s).drop i)) := by
 unfold zxb.f pre
 rw [w64 (by omega) (by omega), w64 (by omega) (by omega)]
 have e1 : ((i : Int) + (w.size : Int)).toNat = i + w.size := by omega
 by_cases h : ((s.size : Int) - i) ≥ w.size
 ·rw [if_pos h, if_pos (by omega), if_pos (by omega), if_pos (by omega), e1, Int.toNat_natCast]
  congr 1
  rw [Bool.eq_iff_iff, beq_iff_eq, zzc, decide_eq_true_iff, zre, Nat.add_sub_cancel_left, zwb]
 ·rw [if_neg h]
  congr 1
  symm
  rw [decide_eq_false_iff_not]
  intro e
  have := congrArg List.length e
  rw [List.length_take, List.length_drop, bytesOf_length, ← zwb] at this
  omega
def pick (L : List Int) : List ByteArray → ByteArray → ByteArray
 | [], w => w
 | x :: xs, w => if w.toList = [] then (if pre (bytesOf x) L = true then pick L xs x else pick L xs w) else pick L xs w
theorem pick_done {L : List Int} : ∀ (xs : List ByteArray) {w : ByteArray}, w.toList ≠ [] → pick L xs w = w
 | [], _, _ => rfl
 | x :: xs, w, h => by simp only [pick]; rw [if_neg h]; exact pick_done xs h
theorem pick_find {L : List Int} : ∀ (xs : List ByteArray), (∀ x ∈ xs, x.toList ≠ []) → bytesOf (pick L xs ⟨#[]⟩) = (((xs.map bytesOf).find? (fun w => pre w L)).getD [])
 | [], _ => rfl
 | x :: xs, h => by
  simp only [pick]
  rw [if_pos (show (⟨#[]⟩ : ByteArray).toList = [] by rw [B_toList])]
  simp only [List.map_cons, List.find?_cons]
  by_cases hp : pre (bytesOf x) L = true
  ·rw [if_pos hp, hp, pick_done xs (h x List.mem_cons_self)]
   rfl
  ·rw [if_neg hp, Bool.eq_false_iff.2 hp]
   exact pick_find xs (fun y hy => h y (List.mem_cons_of_mem _ hy))
theorem words_walk (s : ByteArray) (out : List (List ByteArray)) (i : Nat) (hi : i + 1 ≤ s.size) (hs : s.size ≤ 2000000) (ws : List ByteArray) (hw : ∀ w ∈ ws, w.size ≤ 100) (hl : ws.length ≤ 100) {r : List (List ByteArray)} : ∀ (m j : Nat) (word : ByteArray), ws.length - j = m → j ≤ ws.length →
  Ev (fun k => zh.l1 k s out (i : Int) (pick ((bytesOf s).drop (i + 1)) (ws.drop j) word) ws (ws.length : Int) (ws.length : Int)) r → Ev (fun k => zh.l1 k s out (i : Int) word ws (ws.length : Int) (j : Int)) r := by
 intro m
 induction m with
 | zero =>
  intro j word hm hj h
  obtain rfl : j = ws.length := by omega
  rw [List.drop_length] at h
  exact h
 | succ m ih =>
  intro j word hm hj h
  have hlt : j < ws.length := by omega
  have hd : ws.drop j = ws[j] :: ws.drop (j + 1) := List.drop_eq_getElem_cons hlt
  have hrd : rdOf ByteArray.empty ws (j : Int) = ws[j] := by
   simp only [rdOf, Int.toNat_natCast, List.getD_eq_getElem?_getD, List.getElem?_eq_getElem hlt, Option.getD_some]
  rw [hd] at h
  simp only [pick] at h
  refine Ev.succ ?_
  simp only [zh.l1]
  refine Ev.pos (fun _ => by first | omega | trivial | assumption) ?_
  refine Ev.pos (fun _ => by first | omega | trivial | assumption) ?_
  refine Ev.pos (fun _ => by first | omega | trivial | assumption) ?_
  rw [hrd, w64 (i := (j : Int) + 1) (by omega) (by omega)]
  by_cases hne : word.toList = []
  ·rw [if_pos hne] at h
   refine Ev.pos (fun _ => hne) ?_
   rw [w64 (i := (i : Int) + 1) (by omega) (by omega)]
   refine Ev.bind0 (has_ev s ws[j] (i + 1) hi hs (hw _ (List.getElem_mem hlt))) ?_
   by_cases hp : pre (bytesOf ws[j]) ((bytesOf s).drop (i + 1)) = true
   ·rw [if_pos hp] at h
    refine Ev.pos (fun _ => hp) ?_
    exact ih (j + 1) _ (by omega) (by omega) h
   ·rw [if_neg hp] at h
    refine Ev.neg (fun _ => hp) ?_
    exact ih (j + 1) _ (by omega) (by omega) h
  ·rw [if_neg hne] at h
   refine Ev.neg (fun _ => hne) ?_
   exact ih (j + 1) _ (by omega) (by omega) h
def sufBs : List ByteArray := [(⟨#[97, 108, 112, 104, 97]⟩ : ByteArray), (⟨#[98, 101, 116, 97]⟩ : ByteArray), (⟨#[112, 114, 101]⟩ : ByteArray), (⟨#[114, 99]⟩ : ByteArray), (⟨#[99, 118, 115]⟩ : ByteArray), (⟨#[115, 118, 110]⟩ : ByteArray), (⟨#[103, 105, 116]⟩ : ByteArray), (⟨#[104, 103]⟩ : ByteArray), (⟨#[112]⟩ : ByteArray)]
theorem sufBs_B : sufBs.map bytesOf = zdc := by decide
theorem sufBs_ne : ∀ x ∈ sufBs, x.toList ≠ [] := by
 intro x hx e
 have h1 : bytesOf x ∈ zdc := by rw [← sufBs_B]; exact List.mem_map_of_mem hx
 have h2 := zid h1
 rw [(zrb x).1 e] at h2
 simp at h2
theorem sufBs_size : ∀ x ∈ sufBs, x.size ≤ 100 := by
 intro x hx
 have h1 : bytesOf x ∈ zdc := by rw [← sufBs_B]; exact List.mem_map_of_mem hx
 have h2 := zid h1
 rw [← zwb] at h2
 omega
def toM (x : List Int × List Int) : List ByteArray := [strOfNums (95 :: (x.1 ++ x.2)), strOfNums x.1, strOfNums x.2]
theorem suf_round (s : ByteArray) (out : List (List ByteArray)) (i : Nat) (hi : i < s.size) (hs : s.size ≤ 2000000) (ho : out.length ≤ 2000000) {r : List (List ByteArray)}
  (h : match zld ((bytesOf s).drop i) with
   | none => Ev (fun k => zh.l0 k s out ((i + 1 : Nat) : Int)) r
   | some w => Ev (fun k => zh.l0 k s (out ++ [toM (w, (((bytesOf s).drop i).drop (1 + w.length)).take (run isD (((bytesOf s).drop i).drop (1 + w.length))))]) ((i + 1 + w.length + run isD (((bytesOf s).drop i).drop (1 + w.length)) : Nat) : Int)) r) :
  Ev (fun k => zh.l0 k s out (i : Int)) r := by
 have hl : i < (bytesOf s).length := by rw [bytesOf_length]; exact hi
 have hg : ((bytesOf s).drop i).getD 0 0 = (bytesOf s).getD i 0 := by simp [List.getD_eq_getElem?_getD]
 refine Ev.succ ?_
 simp only [zh.l0, zif]
 refine Ev.pos (fun _ => by first | omega | trivial | assumption) ?_
 refine Ev.pos (fun _ => by first | omega | trivial | assumption) ?_
 by_cases h95 : (bytesOf s).getD i 0 = 95
 ·refine Ev.pos (fun _ => h95) ?_
  refine Ev.bind0 rfl ?_
  show Ev (fun k => zh.l1 k s out (i : Int) ⟨#[]⟩ sufBs (sufBs.length : Int) ((0 : Nat) : Int)) r
  refine words_walk s out i (by omega) hs sufBs sufBs_size (by decide) 9 0 _ rfl (by decide) ?_
  rw [List.drop_zero]
  have hp := pick_find (L := (bytesOf s).drop (i + 1)) sufBs sufBs_ne
  rw [sufBs_B] at hp
  have hw : zld ((bytesOf s).drop i) = zdc.find? (fun w => pre w ((bytesOf s).drop (i + 1))) := by
   unfold zld
   rw [if_pos (hg.trans h95), List.drop_drop]
  rw [hw] at h
  have hws := fun w (hq : zdc.find? (fun w => pre w ((bytesOf s).drop (i + 1))) = some w) => zje (hw.trans hq)
  obtain ⟨W, hW⟩ : ∃ W, W = pick ((bytesOf s).drop (i + 1)) sufBs ⟨#[]⟩ := ⟨_, rfl⟩
  rw [← hW] at hp ⊢
  refine Ev.succ ?_
  simp only [zh.l1]
  refine Ev.neg (fun _ => by first | omega | assumption | nofun) ?_
  cases hq : zdc.find? (fun w => pre w ((bytesOf s).drop (i + 1))) with
  | none =>
   rw [hq] at h hp
   refine Ev.pos (fun _ => (zrb W).2 hp) ?_
   rw [w64 (i := (i : Int) + 1) (by omega) (by omega)]
   exact h
  | some w =>
   rw [hq] at h hp
   obtain ⟨k1, k2⟩ := hws w hq
   have hpw : bytesOf W = w := hp
   have hlen := zid k1
   have hWs : W.size = w.length := by rw [zwb, hpw]
   have htot := congrArg List.length k2
   simp only [List.length_cons, List.length_append, List.length_drop, bytesOf_length] at htot
   refine Ev.neg (fun _ e => by have := (zrb W).1 e; rw [hpw] at this; rw [this] at hlen; simp at hlen) ?_
   rw [w64 (i := (i : Int) + 1) (by omega) (by omega), w64 (i := (i : Int) + 1 + (W.size : Int)) (by omega) (by omega), hWs]
   have hdd : ((bytesOf s).drop i).drop (1 + w.length) = (bytesOf s).drop (i + 1 + w.length) := by rw [List.drop_drop, Nat.add_assoc]
   simp only [hdd] at h
   have hr := run_le isD ((bytesOf s).drop (i + 1 + w.length))
   rw [List.length_drop, bytesOf_length] at hr
   have D := zxh s hs (i + 1 + w.length) (by omega)
   obtain ⟨n, hn⟩ : ∃ n, n = run isD ((bytesOf s).drop (i + 1 + w.length)) := ⟨_, rfl⟩
   rw [← hn] at D h hr
   have e1 : ((i : Int) + 1 + (w.length : Int)) = ((i + 1 + w.length : Nat) : Int) := by omega
   rw [e1]
   refine Ev.bind D ?_
   refine Ev.pos (fun _ => by omega) ?_
   refine Ev.pos (fun _ => by omega) ?_
   refine Ev.pos (fun _ => by omega) ?_
   refine Ev.pos (fun _ => by omega) ?_
   refine Ev.pos (fun _ => by omega) ?_
   refine Ev.pos (fun _ => by omega) ?_
   refine Ev.eq (g := _) ?_ rfl
   have m0 : s.extract i (i + 1 + w.length + n) = strOfNums (95 :: (w ++ ((bytesOf s).drop (i + 1 + w.length)).take n)) := by
    rw [← str_B (s.extract i (i + 1 + w.length + n)), zre]
    congr 1
    rw [show i + 1 + w.length + n - i = (w.length + n) + 1 by omega]
    rw [k2]
    rw [List.take_succ_cons, hdd]
    congr 1
    rw [List.take_append, List.take_of_length_le (by omega), Nat.add_sub_cancel_left]
   have m2 : s.extract (i + 1 + w.length) (i + 1 + w.length + n) = strOfNums (((bytesOf s).drop (i + 1 + w.length)).take n) := by
    rw [← str_B (s.extract (i + 1 + w.length) (i + 1 + w.length + n)), zre]
    rw [Nat.add_sub_cancel_left]
   have m1 : W = strOfNums w := by rw [← hpw, str_B]
   simp only [Int.toNat_natCast]
   rw [m0, m2, m1]
   exact h
 ·refine Ev.neg (fun _ => h95) ?_
  rw [w64 (i := (i : Int) + 1) (by omega) (by omega)]
  have hw : zld ((bytesOf s).drop i) = none := by
   unfold zld
   rw [if_neg (fun e => h95 (hg.symm.trans e))]
  rw [hw] at h
  exact h
theorem sufs_none (s : ByteArray) (hs : s.size ≤ 2000000) (out : List (List ByteArray)) (ho : out.length ≤ 2000000) : ∀ (n i : Nat), s.size - i = n → i ≤ s.size → Clear ((bytesOf s).drop i) →
  Ev (fun k => zh.l0 k s out (i : Int)) out := by
 intro n
 induction n with
 | zero =>
  intro i hn hi hc
  refine Ev.succ ?_
  simp only [zh.l0]
  refine Ev.neg (fun _ => by first | omega | assumption | nofun) ?_
  exact Ev.now _
 | succ n ih =>
  intro i hn hi hc
  refine suf_round s out i (by omega) hs ho ?_
  have h0 : zld ((bytesOf s).drop i) = none := hc 0
  rw [h0]
  refine ih (i + 1) (by omega) (by omega) ?_
  have := hc.drop 1
  rw [List.drop_drop] at this
  exact this
theorem sufs_from (s : ByteArray) (hs : s.size ≤ 1000000) : ∀ (n i : Nat) (out : List (List ByteArray)), s.size - i ≤ n → i ≤ s.size → out.length ≤ i → Clear (sufsP n ((bytesOf s).drop i)).2 →
  Ev (fun k => zh.l0 k s out (i : Int)) (out ++ (sufsP n ((bytesOf s).drop i)).1.map toM) := by
 intro n
 induction n with
 | zero =>
  intro i out hn hi ho hc
  refine Ev.eq (sufs_none s (by omega) out (by omega) _ i rfl hi hc) ?_
  simp [sufsP]
 | succ n ih =>
  intro i out hn hi ho hc
  cases hq : zld ((bytesOf s).drop i) with
  | none =>
   rw [zle hq] at hc ⊢
   refine Ev.eq (sufs_none s (by omega) out (by omega) _ i rfl hi hc) ?_
   simp
  | some w =>
   obtain ⟨k1, k2⟩ := zje hq
   have hlen := zid k1
   have htot := congrArg List.length k2
   simp only [List.length_cons, List.length_append, List.length_drop, bytesOf_length] at htot
   have hdd : ((bytesOf s).drop i).drop (1 + w.length) = (bytesOf s).drop (i + 1 + w.length) := by rw [List.drop_drop, Nat.add_assoc]
   have hr := run_le isD ((bytesOf s).drop (i + 1 + w.length))
   rw [List.length_drop, bytesOf_length] at hr
   rw [zme hq] at hc ⊢
   rw [hdd, List.drop_drop] at hc ⊢
   refine suf_round s out i (by omega) (by omega) (by omega) ?_
   rw [hq]
   simp only
   rw [hdd]
   have := ih (i + 1 + w.length + run isD ((bytesOf s).drop (i + 1 + w.length))) (out ++ [toM (w, ((bytesOf s).drop (i + 1 + w.length)).take (run isD ((bytesOf s).drop (i + 1 + w.length))))]) (by omega) (by omega) (by rw [List.length_append]; simp; omega) hc
   refine Ev.eq this ?_
   rw [List.append_assoc]
   rfl
end Go.Proofs.YtapaijpglfmfgaaDoorP
end
section
namespace Go.Proofs.YtapaijpglfmfgaaDoorP
open Go.RowKit YtapaijpglfmfgaaDoorG YtapaijpglfmfgaaDoorH YtapaijpglfmfgaaDoorB YtapaijpglfmfgaaDoorM YtapaijpglfmfgaaDoor.S YtapaijpglfmfgaaDoorW.PrintWords YtapaijpglfmfgaaDoorW.PrintLast
theorem Ev.map {α β : Type} {g : Nat → Option α} {a : α} {F : α → β} (h : Ev g a) : Ev (fun k => (g k).map F) (F a) := by
 obtain ⟨k0, hk⟩ := h
 exact ⟨k0, fun k h => by show Option.map F (g k) = _; rw [hk k h]; rfl⟩
def wgtBs : List ByteArray := [(⟨#[97, 108, 112, 104, 97]⟩ : ByteArray), (⟨#[98, 101, 116, 97]⟩ : ByteArray), (⟨#[112, 114, 101]⟩ : ByteArray), (⟨#[114, 99]⟩ : ByteArray), (⟨#[]⟩ : ByteArray), (⟨#[99, 118, 115]⟩ : ByteArray), (⟨#[115, 118, 110]⟩ : ByteArray), (⟨#[103, 105, 116]⟩ : ByteArray), (⟨#[104, 103]⟩ : ByteArray)]
theorem wgtBs_B : wgtBs.map bytesOf = wgtWords := by decide
theorem weight_from (x : ByteArray) (ws : List ByteArray) (hl : ws.length ≤ 100) : ∀ (m j : Nat), ws.length - j = m → j ≤ ws.length →
  Ev (fun k => zp.l0 k x ws ws (ws.length : Int) (j : Int)) ((j + ((ws.drop j).map bytesOf).idxOf (bytesOf x) : Nat) : Int) := by
 intro m
 induction m with
 | zero =>
  intro j hm hj
  obtain rfl : j = ws.length := by omega
  refine Ev.succ ?_
  simp only [zp.l0]
  refine Ev.neg (fun _ => by first | omega | assumption | nofun) ?_
  refine Ev.eq (Ev.now _) ?_
  rw [List.drop_length]
  rfl
 | succ m ih =>
  intro j hm hj
  have hlt : j < ws.length := by omega
  have hd : ws.drop j = ws[j] :: ws.drop (j + 1) := List.drop_eq_getElem_cons hlt
  have hrd : rdOf ByteArray.empty ws (j : Int) = ws[j] := by
   simp only [rdOf, Int.toNat_natCast, List.getD_eq_getElem?_getD, List.getElem?_eq_getElem hlt, Option.getD_some]
  refine Ev.succ ?_
  simp only [zp.l0]
  refine Ev.pos (fun _ => by first | omega | trivial | assumption) ?_
  refine Ev.pos (fun _ => by first | omega | trivial | assumption) ?_
  refine Ev.pos (fun _ => by first | omega | trivial | assumption) ?_
  rw [hrd, hd, List.map_cons, List.idxOf_cons]
  by_cases h : bytesOf x = bytesOf ws[j]
  ·refine Ev.pos (fun _ => (zzc _ _).2 h) ?_
   refine Ev.eq (Ev.now _) ?_
   have : (bytesOf ws[j] == bytesOf x) = true := by rw [beq_iff_eq]; exact h.symm
   rw [this]
   rfl
  ·refine Ev.neg (fun _ e => h ((zzc _ _).1 e)) ?_
   rw [w64 (i := (j : Int) + 1) (by omega) (by omega)]
   refine Ev.eq (ih (j + 1) (by omega) (by omega)) ?_
   have : (bytesOf ws[j] == bytesOf x) = false := by rw [beq_eq_false_iff_ne]; exact fun e => h e.symm
   rw [this]
   simp only [cond_false]
   omega
theorem weight_ev (x : ByteArray) : Ev (fun k => zp.f k x) (wgt (bytesOf x) : Int) := by
 simp only [zp.f]
 refine Ev.bind0 rfl ?_
 have h := weight_from x wgtBs (by decide) 9 0 rfl (by decide)
 rw [List.drop_zero, wgtBs_B] at h
 refine Ev.eq h ?_
 unfold wgt
 rw [Nat.zero_add]
def convS (x : List Int × List Int) : Int × ByteArray := ((wgt x.1 : Int), or0 (strOfNums x.2))
theorem digs_asc {d : List Int} (h : ∀ c ∈ d, isD c = true) : ∀ c ∈ d, 0 ≤ c ∧ c ≤ 255 := fun c hc => by
 have := h c hc
 unfold isD at this
 have := of_decide_eq_true this
 omega
theorem or0_good {d : List Int} (h : ∀ c ∈ d, isD c = true) (hl : d.length ≤ 1000000) : Plain (or0 (strOfNums d)) ∧ zod (or0 (strOfNums d)) ∧ dv (or0 (strOfNums d)) (or0 (strOfNums d)).size = decL d := by
 have hb := B_str (digs_asc h)
 unfold or0
 by_cases h0 : d = []
 ·subst h0
  rw [if_pos ((zrb _).2 hb)]
  refine ⟨by decide, ?_, by decide⟩
  have := (zdi (m := [48]) (by simp) (by decide)).1
  exact this
 ·rw [if_neg (fun e => h0 (hb.symm.trans ((zrb _).1 e)))]
  obtain ⟨k1, k2⟩ := zdi h0 h
  refine ⟨plain_dig k1 (by rw [zwb, hb]; exact hl), k1, ?_⟩
  rw [dv_all, hb]
theorem sufRun_ev : ∀ (n : Nat) (s : ByteArray), s.size ≤ 100000 → ∃ rest, Ev (fun k => zxe k ((sufsP n (bytesOf s)).1.map toM) s) ((sufsP n (bytesOf s)).1.map convS, rest) ∧ bytesOf rest = (sufsP n (bytesOf s)).2 := by
 intro n
 induction n with
 | zero => intro s hs; exact ⟨s, Ev.now _, rfl⟩
 | succ n ih =>
  intro s hs
  cases hq : zld (bytesOf s) with
  | none =>
   rw [zle hq]
   exact ⟨s, Ev.now _, rfl⟩
  | some w =>
   obtain ⟨k1, k2⟩ := zje hq
   rw [zme hq]
   obtain ⟨D, hD⟩ : ∃ D, D = (bytesOf s).drop (1 + w.length) := ⟨_, rfl⟩
   rw [← hD] at k2 ⊢
   have hdig : ∀ c ∈ D.take (run isD D), isD c = true := fun c hc => zdh hc
   have hDl : D.length ≤ 100000 := by rw [hD, List.length_drop, bytesOf_length]; omega
   have hm0 : bytesOf (strOfNums (95 :: (w ++ D.take (run isD D)))) = 95 :: (w ++ D.take (run isD D)) := B_str (fun c hc => by
    rcases List.mem_cons.1 hc with rfl | hc
    ·omega
    ·rcases List.mem_append.1 hc with hc | hc
     ·have := zxf k1 c hc; omega
     ·exact digs_asc hdig c hc)
   have hw : bytesOf (strOfNums w) = w := B_str (fun c hc => by have := zxf k1 c hc; omega)
   obtain ⟨t, ht, htb⟩ := zeh s (strOfNums (95 :: (w ++ D.take (run isD D)))) (D.drop (run isD D)) (by
    rw [hm0, k2]
    simp only [List.cons_append, List.append_assoc, List.take_append_drop]) (by omega)
   have hts : t.size ≤ 100000 := by rw [zwb, htb, List.length_drop]; omega
   obtain ⟨rest, hr, hrb⟩ := ih t hts
   rw [htb] at hr hrb
   refine ⟨rest, ?_, hrb⟩
   simp only [List.map_cons, toM, zxe]
   have hwe := weight_ev (strOfNums w)
   rw [hw] at hwe
   refine Ev.bind hwe ?_
   refine Ev.bind0 ht ?_
   obtain ⟨g1, g2, _⟩ := or0_good hdig (by rw [List.length_take]; omega)
   refine Ev.pos (fun _ => ⟨g1, g2⟩) ?_
   exact Ev.map hr
theorem sufs_ev (s : ByteArray) (hs : s.size ≤ 100000) (hc : Clear (sufsP (bytesOf s).length (bytesOf s)).2) : ∃ rest, Ev (fun k => sufsRun k s) ((sufsP (bytesOf s).length (bytesOf s)).1.map convS, rest) ∧ bytesOf rest = (sufsP (bytesOf s).length (bytesOf s)).2 := by
 obtain ⟨rest, hr, hrb⟩ := sufRun_ev (bytesOf s).length s hs
 refine ⟨rest, ?_, hrb⟩
 have h := sufs_from s (by omega) (bytesOf s).length 0 [] (by rw [bytesOf_length]; omega) (Nat.zero_le _) (Nat.zero_le _) (by rw [List.drop_zero]; exact hc)
 rw [List.drop_zero, List.nil_append] at h
 unfold sufsRun
 refine Ev.bind h ?_
 refine Ev.pos (fun _ => ?_) hr
 rw [List.length_map]
 have := sufsP_count (bytesOf s).length (bytesOf s)
 rw [zwb] at hs
 omega
theorem hash_from (s : ByteArray) (hs : s.size ≤ 2000000) : ∀ (m i : Nat), s.size - i = m → 1 ≤ i → i ≤ s.size →
  Ev (fun k => zr.l0 k s (i : Int)) (if i + run isX ((bytesOf s).drop i) = 1 then ⟨#[]⟩ else s.extract 0 (i + run isX ((bytesOf s).drop i))) := by
 intro m
 induction m with
 | zero =>
  intro i hm h1 hi
  refine Ev.succ ?_
  simp only [zr.l0]
  refine Ev.neg (fun _ => by first | omega | assumption | nofun) ?_
  rw [List.drop_of_length_le (by rw [bytesOf_length]; omega), run_nil, Nat.add_zero]
  by_cases h : i = 1
  ·rw [if_pos h]
   refine Ev.pos (fun _ => by omega) ?_
   exact Ev.now _
  ·rw [if_neg h]
   refine Ev.neg (fun _ => by omega) ?_
   refine Ev.pos (fun _ => by first | omega | trivial | assumption) ?_
   refine Ev.pos (fun _ => by first | omega | trivial | assumption) ?_
   exact Ev.eq (Ev.now _) (by simp)
 | succ m ih =>
  intro i hm h1 hi
  have hl : i < (bytesOf s).length := by rw [bytesOf_length]; omega
  have next := ih (i + 1) (by omega) (by omega) (by omega)
  refine Ev.succ ?_
  simp only [zr.l0, zif, zzDigit_eq, Option.bind_some]
  refine Ev.pos (fun _ => by first | omega | trivial | assumption) ?_
  refine Ev.pos (fun _ => by first | omega | trivial | assumption) ?_
  rw [w64 (i := (i : Int) + 1) (by omega) (by omega), zwf _ _ hl]
  obtain ⟨c, hcc⟩ : ∃ c, c = (bytesOf s).getD i 0 := ⟨_, rfl⟩
  rw [← hcc]
  cases hx : isX c with
  | true =>
   rw [zeg hx]
   have e : i + (run isX ((bytesOf s).drop (i + 1)) + 1) = i + 1 + run isX ((bytesOf s).drop (i + 1)) := by omega
   rw [e]
   cases hd : isD c with
   | true => exact Ev.pos (fun _ => rfl) next
   | false =>
    unfold isX at hx
    rw [hd, Bool.false_or] at hx
    have hx2 := of_decide_eq_true hx
    refine Ev.neg (fun _ => Bool.false_ne_true) ?_
    refine Ev.pos (fun _ => by omega) ?_
    exact Ev.pos (fun _ => by omega) next
  | false =>
   rw [zmf hx, Nat.add_zero]
   unfold isX at hx
   have hx1 := (Bool.or_eq_false_iff.1 hx).1
   have hx2 := of_decide_eq_false (Bool.or_eq_false_iff.1 hx).2
   rw [hx1]
   refine Ev.neg (fun _ => Bool.false_ne_true) ?_
   have fin : ∀ {g : Nat → Option ByteArray}, Ev g (if i = 1 then ⟨#[]⟩ else s.extract 0 i) → Ev g (if i = 1 then ⟨#[]⟩ else s.extract 0 i) := fun h => h
   have stop : Ev (fun k : Nat => if (i : Int) = 1 then some (⟨#[]⟩ : ByteArray) else if (i : Int) ≤ (s.size : Int) then some (s.extract 0 ((i : Int)).toNat) else none) (if i = 1 then ⟨#[]⟩ else s.extract 0 i) := by
    by_cases h : i = 1
    ·rw [if_pos h]
     refine Ev.pos (fun _ => by omega) ?_
     exact Ev.now _
    ·rw [if_neg h]
     refine Ev.neg (fun _ => by omega) ?_
     refine Ev.pos (fun _ => by first | omega | trivial | assumption) ?_
     exact Ev.eq (Ev.now _) (by simp)
   by_cases h97 : c ≥ 97
   ·refine Ev.pos (fun _ => h97) ?_
    refine Ev.neg (fun _ => by omega) ?_
    exact stop
   ·refine Ev.neg (fun _ => h97) ?_
    exact stop
theorem hash_ev (s : ByteArray) (hs : s.size ≤ 100000) : ∃ rest, Ev (fun k => hashRun k s) (strOfNums (hashP (bytesOf s)).1, rest) ∧ bytesOf rest = (hashP (bytesOf s)).2 := by
 have hE : Ev (fun k => zr.f k s) (strOfNums (hashP (bytesOf s)).1) := by
  simp only [zr.f]
  by_cases h0 : bytesOf s = []
  ·refine Ev.pos (fun _ => (zrb s).2 h0) ?_
   refine Ev.succ ?_
   simp only [zr.j0]
   rw [h0]
   exact Ev.now _
  ·have hpos : 0 < s.size := by rw [zwb]; exact List.length_pos_iff.2 h0
   refine Ev.neg (fun _ e => h0 ((zrb s).1 e)) ?_
   refine Ev.pos (fun _ => by omega) ?_
   refine Ev.succ ?_
   simp only [zr.j0, zbh]
   by_cases h1 : (bytesOf s).getD 0 0 = 126
   ·refine Ev.neg (fun _ => by rw [h1]; decide) ?_
    have h := hash_from s (by omega) _ 1 rfl (Nat.le_refl 1) (by omega)
    refine Ev.eq h ?_
    unfold hashP
    by_cases h2 : run isX ((bytesOf s).drop 1) = 0
    ·rw [if_pos (by omega), if_neg (fun h => h.2 h2)]
     rfl
    ·rw [if_neg (by omega), if_pos ⟨h1, h2⟩, ← zof, str_B]
   ·refine Ev.pos (fun _ => by rw [bne_iff_ne]; exact h1) ?_
    refine Ev.eq (Ev.now _) ?_
    unfold hashP
    rw [if_neg (fun h => h1 h.1)]
    rfl
 have hsplit : bytesOf s = (hashP (bytesOf s)).1 ++ (hashP (bytesOf s)).2 := by
  unfold hashP
  split
  ·exact (List.take_append_drop _ _).symm
  ·rfl
 have hb : bytesOf (strOfNums (hashP (bytesOf s)).1) = (hashP (bytesOf s)).1 := B_str (fun c hc => zcg s c (by rw [hsplit]; exact List.mem_append_left _ hc))
 obtain ⟨t, ht, htb⟩ := zeh s (strOfNums (hashP (bytesOf s)).1) (hashP (bytesOf s)).2 (by rw [hb]; exact hsplit) (by omega)
 refine ⟨t, ?_, htb⟩
 unfold hashRun
 refine Ev.bind hE ?_
 rw [ht]
 exact Ev.now _
theorem build_ev (s : ByteArray) (hs : s.size ≤ 100000) : ∃ rest, Ev (fun k => zih k s) ((znd (bytesOf s)).1, decL (znd (bytesOf s)).2.1, rest) ∧ bytesOf rest = (znd (bytesOf s)).2.2 := by
 unfold zih znd
 by_cases h0 : bytesOf s = []
 ·refine ⟨s, ?_, ?_⟩
  ·refine Ev.pos (fun _ => (zrb s).2 h0) ?_
   rw [if_pos h0]
   exact Ev.now _
  ·rw [if_pos h0]; exact h0
 ·rw [if_neg h0]
  have hh := has_ev s ⟨#[45, 114]⟩ 0 (Nat.zero_le _) (by omega) (by decide)
  rw [List.drop_zero] at hh
  have hh2 : zxb.f s 0 ⟨#[45, 114]⟩ = some (pre [45, 114] (bytesOf s)) := hh
  by_cases h1 : (bytesOf s).take 2 = [45, 114]
  ·rw [if_pos h1]
   have hp : pre [45, 114] (bytesOf s) = true := decide_eq_true h1
   rw [hp] at hh2
   have hl2 : 2 ≤ s.size := by
    have := congrArg List.length h1
    rw [List.length_take, bytesOf_length] at this
    simp at this
    omega
   have D := zxh s (by omega) 2 hl2
   have hr := run_le isD ((bytesOf s).drop 2)
   rw [List.length_drop, bytesOf_length] at hr
   have hdig : ∀ c ∈ ((bytesOf s).drop 2).take (run isD ((bytesOf s).drop 2)), isD c = true := fun c hc => zdh hc
   obtain ⟨n, hn⟩ : ∃ n, n = run isD ((bytesOf s).drop 2) := ⟨_, rfl⟩
   rw [← hn] at D hr hdig ⊢
   have e2 : s.extract 2 (2 + n) = strOfNums (((bytesOf s).drop 2).take n) := by
    rw [← str_B (s.extract 2 (2 + n)), zre, Nat.add_sub_cancel_left]
   have e0 : bytesOf (s.extract 0 (2 + n)) = (bytesOf s).take (2 + n) := zof _ _
   obtain ⟨g1, g2, g3⟩ := or0_good hdig (by rw [List.length_take]; omega)
   obtain ⟨t, ht, htb⟩ := zeh s (s.extract 0 (2 + n)) (((bytesOf s).drop 2).drop n) (by rw [e0, List.drop_drop]; exact (List.take_append_drop _ _).symm) (by omega)
   refine ⟨t, ?_, htb⟩
   refine Ev.neg (fun _ e => h0 ((zrb s).1 e)) ?_
   refine Ev.bind0 hh2 ?_
   refine Ev.pos (fun _ => rfl) ?_
   refine Ev.bind D ?_
   rw [Int.toNat_natCast, e2]
   refine Ev.pos (fun _ => ⟨by omega, by omega, g1, g2⟩) ?_
   rw [ht, g3]
   exact Ev.now _
  ·rw [if_neg h1]
   have hp : pre [45, 114] (bytesOf s) = false := decide_eq_false h1
   rw [hp] at hh2
   refine ⟨s, ?_, rfl⟩
   refine Ev.neg (fun _ e => h0 ((zrb s).1 e)) ?_
   refine Ev.bind0 hh2 ?_
   refine Ev.neg (fun _ => Bool.false_ne_true) ?_
   exact Ev.now _
def apOf (p : PV) : AP := ⟨strOfNums p.o, p.i, strOfNums p.r, p.c.map strOfNums, strOfNums p.l, p.s.map convS, strOfNums p.h, decL p.b⟩
theorem parseA_ev (s : ByteArray) (hs : s.size ≤ 100000) (hc : Clear (rest3 (bytesOf s))) : Ev (fun k => parseA k s) (apOf (zyc (bytesOf s))) := by
 obtain ⟨s1, h1, b1⟩ := nums_ev s hs
 have z1 : s1.size ≤ 100000 := by rw [zwb, b1]; have := zph (bytesOf s); rw [zwb] at hs; omega
 obtain ⟨s2, h2, b2⟩ := letter_ev s1 z1
 rw [b1] at h2 b2
 have b2' : bytesOf s2 = rest2 (bytesOf s) := b2
 have z2 : s2.size ≤ 100000 := by rw [zwb, b2']; have := zyg (bytesOf s); rw [zwb] at hs; omega
 obtain ⟨s3, h3, b3⟩ := sufs_ev s2 z2 (by rw [b2']; exact hc)
 rw [b2'] at h3 b3
 have b3' : bytesOf s3 = rest3 (bytesOf s) := b3
 have z3 : s3.size ≤ 100000 := by rw [zwb, b3']; have := rest3_len (bytesOf s); rw [zwb] at hs; omega
 obtain ⟨s4, h4, b4⟩ := hash_ev s3 z3
 rw [b3'] at h4 b4
 have b4' : bytesOf s4 = rest4 (bytesOf s) := b4
 have z4 : s4.size ≤ 100000 := by rw [zwb, b4']; have := rest4_len (bytesOf s); rw [zwb] at hs; omega
 obtain ⟨s5, h5, b5⟩ := build_ev s4 z4
 rw [b4'] at h5 b5
 unfold parseA
 refine Ev.bind h1 ?_
 refine Ev.bind0 h2 ?_
 refine Ev.bind h3 ?_
 refine Ev.bind h4 ?_
 refine Ev.bind h5 ?_
 refine Ev.eq (Ev.now _) ?_
 have e0 : s = strOfNums (bytesOf s) := (str_B s).symm
 have e5 : s5 = strOfNums (znd (rest4 (bytesOf s))).2.2 := by rw [← b5, str_B]
 unfold apOf zyc
 simp only
 rw [← e5, ← e0]
end Go.Proofs.YtapaijpglfmfgaaDoorP
end
section
namespace Go.Proofs.YtapaijpglfmfgaaDoorG
open Go.RowKit YtapaijpglfmfgaaDoorP YtapaijpglfmfgaaDoorB YtapaijpglfmfgaaDoorW.PrintWords YtapaijpglfmfgaaDoorW.PrintLast
def GL (w : World) : Prop := GLe w
theorem GL.at {w w' : World} (h : GL w) (hb : Below w.heap.size w w') : GL w' := GLe.below h hb (Nat.le_refl _)
def clearB : List Int → Bool
 | [] => true
 | x :: l => (zld (x :: l)).isNone && clearB l
theorem clearB_iff : ∀ (l : List Int), clearB l = true ↔ Clear l
 | [] => ⟨fun _ j => by rw [List.drop_nil]; rfl, fun _ => rfl⟩
 | x :: l => by
  simp only [clearB, Bool.and_eq_true, clearB_iff l]
  constructor
  ·rintro ⟨h1, h2⟩ j
   cases j with
   | zero => exact Option.isNone_iff_eq_none.1 h1
   | succ j => exact h2 j
  ·intro h
   exact ⟨Option.isNone_iff_eq_none.2 (h 0), fun j => h (j + 1)⟩
def AOk (s : ByteArray) : Prop := s.size ≤ 100000 ∧ clearB (rest3 (bytesOf s)) = true
instance (s : ByteArray) : Decidable (AOk s) := inferInstanceAs (Decidable (_ ∧ _))
theorem AOk.ev {s : ByteArray} (h : AOk s) : Ev (fun k => parseA k s) (apOf (zyc (bytesOf s))) := parseA_ev s h.1 ((clearB_iff _).1 h.2)
def impl_AlpineCompareText.f (a0 a1 : ByteArray) : Option (Int × Bool) := if AOk a0 ∧ AOk a1 then some (apC (apOf (zyc (bytesOf a0))) (apOf (zyc (bytesOf a1))), true) else none
end Go.Proofs.YtapaijpglfmfgaaDoorG
end
section
namespace Go.Proofs.YtapaijpglfmfgaaDoorW.PrintWords
open Go.RowKit
section
variable {P : Program} {d : Nat} {xs ys : Array Value} {f : Field} {fs : List Field} {a b : Value} {r s : Bool} {w : World}
theorem eqf_last (hn : (f.name == "_") = false) (ha : (part f.type xs f.offset).run P w = .ok a w) (hb : (part f.type ys f.offset).run P w = .ok b w) (he : (Op.equalIn d f.type a b).run P w = .ok r w) : (Op.eqFields d xs ys [f]).run P w = .ok r w := by
 have hn' : f.name ≠ "_" := by simpa using hn
 simp only [Op.eqFields, if_pos hn', Sem.run_bind, ha, hb, he, Result.andThen_ok]
 cases r <;> simp
theorem eqf_cons (hn : (f.name == "_") = false) (ha : (part f.type xs f.offset).run P w = .ok a w) (hb : (part f.type ys f.offset).run P w = .ok b w) (he : (Op.equalIn d f.type a b).run P w = .ok r w) (hr : (Op.eqFields d xs ys fs).run P w = .ok s w) : (Op.eqFields d xs ys (f :: fs)).run P w = .ok (r && s) w := by
 have hn' : f.name ≠ "_" := by simpa using hn
 rw [Op.eqFields]
 simp only [if_pos hn', Sem.run_bind, ha, hb, he, Result.andThen_ok]
 cases r
 ·simp
 ·simpa using hr
theorem eqA_of {t : TypeId} {fs : Array Field} (hu : P.underlying t = some (.struct fs)) (hp : P.stoodInHeld t = false) (h : (Op.eqFields d xs ys fs.toList).run P w = .ok r w) : (Op.equalIn (d + 1) t (.agg xs) (.agg ys)).run P w = .ok r w := by
 have hf : P.fieldsOf t = fs := by simp [Program.fieldsOf, hu]
 rw [run_equalIn_struct (P := P) w d t xs ys (by rw [hf]; exact hu) hp, hf]
 exact h
end
end Go.Proofs.YtapaijpglfmfgaaDoorW.PrintWords
end
section
namespace Go.Proofs.YtapaijpglfmfgaaDoor.Q
open Go.RowKit YtapaijpglfmfgaaDoorH YtapaijpglfmfgaaDoorG YtapaijpglfmfgaaDoorW.PrintWords YtapaijpglfmfgaaDoorW.PrintLast YtapaijpglfmfgaaDoorW.PrintMore
attribute [local go_sem] zsc zrc zbd zad zic zhc zqc ztc
def errW : Option Int → Value
 | none => .nilIface
 | some c => .iface 0 (.int .i64 c)
theorem zkf : errW none = .nilIface := rfl
theorem zpf (c : Int) : errW (some c) = .iface 0 (.int .i64 c) := rfl
theorem info5 : (Tryd.prog.info? 5).map (fun i => (i.zero, i.size, i.bytes)) = some (some (.int .u8 0), 1, 1) := by kernel_rfl
theorem info54 : (Tryd.prog.info? 54).map (fun i => (i.zero, i.size, i.bytes)) = some (some (.agg #[(.string ⟨#[]⟩), (.bool false), (.string ⟨#[]⟩), (.int .i64 0)]), 4, 48) := by kernel_rfl
theorem info58 : (Tryd.prog.info? 58).map (fun i => (i.zero, i.size, i.bytes)) = some (some (.agg #[(.int .i64 0), (.bool false), (.string ⟨#[]⟩)]), 3, 32) := by kernel_rfl
structure S77 where
 f0 : Bool
 f1 : ByteArray
def z77 : S77 := ⟨false, (⟨#[]⟩ : ByteArray)⟩
def k77 : Kd S77 := Kd.iso (Kd.pair Kd.bool Kd.string) (fun x : S77 => (x.f0, x.f1))
theorem k77_open {w : World} {x : S77} {cs : List Value} (h : k77.K w x cs) : cs = [.bool x.f0, .string x.f1] := by
 obtain ⟨_, _, rfl, rfl, rfl⟩ := h
 exact rfl
theorem k77_mkM (w : World) (base : Nat) (ok : Nat → Prop) (x : S77)  : k77.M w base ok x [.bool x.f0, .string x.f1] := ⟨[.bool x.f0], [.string x.f1], rfl, rfl, rfl⟩
structure S99 where
 f0 : ByteArray
 f1 : S77
 f2 : Int
def z99 : S99 := ⟨(⟨#[]⟩ : ByteArray), z77, (0 : Int)⟩
def k99 : Kd S99 := Kd.iso (Kd.pair Kd.string (Kd.pair k77 (Kd.int .i64))) (fun x : S99 => (x.f0, x.f1, x.f2))
theorem k99_open {w : World} {x : S99} {cs : List Value} (h : k99.K w x cs) : cs = [.string x.f0, .bool x.f1.f0, .string x.f1.f1, .int .i64 x.f2] := by
 obtain ⟨_, _, rfl, rfl, ⟨_, _, rfl, s1, rfl⟩⟩ := h
 obtain rfl := k77_open s1
 exact rfl
theorem k99_mkM (w : World) (base : Nat) (ok : Nat → Prop) (x : S99)  : k99.M w base ok x [.string x.f0, .bool x.f1.f0, .string x.f1.f1, .int .i64 x.f2] := ⟨[.string x.f0], [.bool x.f1.f0, .string x.f1.f1, .int .i64 x.f2], rfl, rfl, ⟨[.bool x.f1.f0, .string x.f1.f1], [.int .i64 x.f2], rfl, (k77_mkM w base ok x.f1 ), rfl⟩⟩
def zjd (xs : List S99) (i : Int) : S99 := xs.getD i.toNat z99
theorem at_T99 {w : World} {A : Option Addr} {n : Nat} {xs : List S99} (h : Kd.C k99 w A n xs) (i : Int) (h0 : 0 ≤ i) (h1 : i < n) : ∃ ad , A = some ad ∧ w.cell? (ad.add (i.toNat * 4)) = some (.string (zjd xs i).f0) ∧ w.cell? ⟨(ad.add (i.toNat * 4)).block, (ad.add (i.toNat * 4)).off + 1, none⟩ = some (.bool (zjd xs i).f1.f0) ∧ w.cell? ⟨(ad.add (i.toNat * 4)).block, (ad.add (i.toNat * 4)).off + 2, none⟩ = some (.string (zjd xs i).f1.f1) ∧ w.cell? ⟨(ad.add (i.toNat * 4)).block, (ad.add (i.toNat * 4)).off + 3, none⟩ = some (.int .i64 (zjd xs i).f2) := by
 obtain ⟨ad, c, e, _, hK, hc0⟩ := Kd.C_get h z99 i h0 h1
 have hc : ∀ j u, c[j]? = some u → w.cell? (ad.add (i.toNat * 4 + j)) = some u := hc0
 obtain rfl := k99_open hK
 exact ⟨ad, e, hc 0 _ rfl, by rw [← zge _ _ 1 (by omega)]; exact hc 1 _ rfl, by rw [← zge _ _ 2 (by omega)]; exact hc 2 _ rfl, by rw [← zge _ _ 3 (by omega)]; exact hc 3 _ rfl⟩
structure S101 where
 f0 : Int
 f1 : S77
def z101 : S101 := ⟨(0 : Int), z77⟩
def k101 : Kd S101 := Kd.iso (Kd.pair (Kd.int .i64) k77) (fun x : S101 => (x.f0, x.f1))
theorem k101_open {w : World} {x : S101} {cs : List Value} (h : k101.K w x cs) : cs = [.int .i64 x.f0, .bool x.f1.f0, .string x.f1.f1] := by
 obtain ⟨_, _, rfl, rfl, s1⟩ := h
 obtain rfl := k77_open s1
 exact rfl
theorem k101_mkM (w : World) (base : Nat) (ok : Nat → Prop) (x : S101)  : k101.M w base ok x [.int .i64 x.f0, .bool x.f1.f0, .string x.f1.f1] := ⟨[.int .i64 x.f0], [.bool x.f1.f0, .string x.f1.f1], rfl, rfl, (k77_mkM w base ok x.f1 )⟩
def zed (xs : List S101) (i : Int) : S101 := xs.getD i.toNat z101
theorem at_T101 {w : World} {A : Option Addr} {n : Nat} {xs : List S101} (h : Kd.C k101 w A n xs) (i : Int) (h0 : 0 ≤ i) (h1 : i < n) : ∃ ad , A = some ad ∧ w.cell? (ad.add (i.toNat * 3)) = some (.int .i64 (zed xs i).f0) ∧ w.cell? ⟨(ad.add (i.toNat * 3)).block, (ad.add (i.toNat * 3)).off + 1, none⟩ = some (.bool (zed xs i).f1.f0) ∧ w.cell? ⟨(ad.add (i.toNat * 3)).block, (ad.add (i.toNat * 3)).off + 2, none⟩ = some (.string (zed xs i).f1.f1) := by
 obtain ⟨ad, c, e, _, hK, hc0⟩ := Kd.C_get h z101 i h0 h1
 have hc : ∀ j u, c[j]? = some u → w.cell? (ad.add (i.toNat * 3 + j)) = some u := hc0
 obtain rfl := k101_open hK
 exact ⟨ad, e, hc 0 _ rfl, by rw [← zge _ _ 1 (by omega)]; exact hc 1 _ rfl, by rw [← zge _ _ 2 (by omega)]; exact hc 2 _ rfl⟩
structure S31 where
 f0 : Bool
 f1 : ByteArray
def z31 : S31 := ⟨false, (⟨#[]⟩ : ByteArray)⟩
def k31 : Kd S31 := Kd.iso (Kd.pair Kd.bool Kd.string) (fun x : S31 => (x.f0, x.f1))
theorem k31_open {w : World} {x : S31} {cs : List Value} (h : k31.K w x cs) : cs = [.bool x.f0, .string x.f1] := by
 obtain ⟨_, _, rfl, rfl, rfl⟩ := h
 exact rfl
theorem k31_mkM (w : World) (base : Nat) (ok : Nat → Prop) (x : S31)  : k31.M w base ok x [.bool x.f0, .string x.f1] := ⟨[.bool x.f0], [.string x.f1], rfl, rfl, rfl⟩
structure S54 where
 f0 : ByteArray
 f1 : S31
 f2 : Int
def z54 : S54 := ⟨(⟨#[]⟩ : ByteArray), z31, (0 : Int)⟩
def k54 : Kd S54 := Kd.iso (Kd.pair Kd.string (Kd.pair k31 (Kd.int .i64))) (fun x : S54 => (x.f0, x.f1, x.f2))
theorem k54_open {w : World} {x : S54} {cs : List Value} (h : k54.K w x cs) : cs = [.string x.f0, .bool x.f1.f0, .string x.f1.f1, .int .i64 x.f2] := by
 obtain ⟨_, _, rfl, rfl, ⟨_, _, rfl, s1, rfl⟩⟩ := h
 obtain rfl := k31_open s1
 exact rfl
theorem k54_mkM (w : World) (base : Nat) (ok : Nat → Prop) (x : S54)  : k54.M w base ok x [.string x.f0, .bool x.f1.f0, .string x.f1.f1, .int .i64 x.f2] := ⟨[.string x.f0], [.bool x.f1.f0, .string x.f1.f1, .int .i64 x.f2], rfl, rfl, ⟨[.bool x.f1.f0, .string x.f1.f1], [.int .i64 x.f2], rfl, (k31_mkM w base ok x.f1 ), rfl⟩⟩
def zxc (xs : List S54) (i : Int) : S54 := xs.getD i.toNat z54
theorem at_T54 {w : World} {A : Option Addr} {n : Nat} {xs : List S54} (h : Kd.C k54 w A n xs) (i : Int) (h0 : 0 ≤ i) (h1 : i < n) : ∃ ad , A = some ad ∧ w.cell? (ad.add (i.toNat * 4)) = some (.string (zxc xs i).f0) ∧ w.cell? ⟨(ad.add (i.toNat * 4)).block, (ad.add (i.toNat * 4)).off + 1, none⟩ = some (.bool (zxc xs i).f1.f0) ∧ w.cell? ⟨(ad.add (i.toNat * 4)).block, (ad.add (i.toNat * 4)).off + 2, none⟩ = some (.string (zxc xs i).f1.f1) ∧ w.cell? ⟨(ad.add (i.toNat * 4)).block, (ad.add (i.toNat * 4)).off + 3, none⟩ = some (.int .i64 (zxc xs i).f2) := by
 obtain ⟨ad, c, e, _, hK, hc0⟩ := Kd.C_get h z54 i h0 h1
 have hc : ∀ j u, c[j]? = some u → w.cell? (ad.add (i.toNat * 4 + j)) = some u := hc0
 obtain rfl := k54_open hK
 exact ⟨ad, e, hc 0 _ rfl, by rw [← zge _ _ 1 (by omega)]; exact hc 1 _ rfl, by rw [← zge _ _ 2 (by omega)]; exact hc 2 _ rfl, by rw [← zge _ _ 3 (by omega)]; exact hc 3 _ rfl⟩
structure S58 where
 f0 : Int
 f1 : S31
def z58 : S58 := ⟨(0 : Int), z31⟩
def k58 : Kd S58 := Kd.iso (Kd.pair (Kd.int .i64) k31) (fun x : S58 => (x.f0, x.f1))
theorem k58_open {w : World} {x : S58} {cs : List Value} (h : k58.K w x cs) : cs = [.int .i64 x.f0, .bool x.f1.f0, .string x.f1.f1] := by
 obtain ⟨_, _, rfl, rfl, s1⟩ := h
 obtain rfl := k31_open s1
 exact rfl
theorem k58_mkM (w : World) (base : Nat) (ok : Nat → Prop) (x : S58)  : k58.M w base ok x [.int .i64 x.f0, .bool x.f1.f0, .string x.f1.f1] := ⟨[.int .i64 x.f0], [.bool x.f1.f0, .string x.f1.f1], rfl, rfl, (k31_mkM w base ok x.f1 )⟩
def zkd (xs : List S58) (i : Int) : S58 := xs.getD i.toNat z58
theorem at_T58 {w : World} {A : Option Addr} {n : Nat} {xs : List S58} (h : Kd.C k58 w A n xs) (i : Int) (h0 : 0 ≤ i) (h1 : i < n) : ∃ ad , A = some ad ∧ w.cell? (ad.add (i.toNat * 3)) = some (.int .i64 (zkd xs i).f0) ∧ w.cell? ⟨(ad.add (i.toNat * 3)).block, (ad.add (i.toNat * 3)).off + 1, none⟩ = some (.bool (zkd xs i).f1.f0) ∧ w.cell? ⟨(ad.add (i.toNat * 3)).block, (ad.add (i.toNat * 3)).off + 2, none⟩ = some (.string (zkd xs i).f1.f1) := by
 obtain ⟨ad, c, e, _, hK, hc0⟩ := Kd.C_get h z58 i h0 h1
 have hc : ∀ j u, c[j]? = some u → w.cell? (ad.add (i.toNat * 3 + j)) = some u := hc0
 obtain rfl := k58_open hK
 exact ⟨ad, e, hc 0 _ rfl, by rw [← zge _ _ 1 (by omega)]; exact hc 1 _ rfl, by rw [← zge _ _ 2 (by omega)]; exact hc 2 _ rfl⟩
end Go.Proofs.YtapaijpglfmfgaaDoor.Q
end
section
namespace Go.Proofs.YtapaijpglfmfgaaDoorG
open Go.RowKit YtapaijpglfmfgaaDoorH YtapaijpglfmfgaaDoorB YtapaijpglfmfgaaDoorM YtapaijpglfmfgaaDoor.Q YtapaijpglfmfgaaDoorW.PrintWords YtapaijpglfmfgaaDoorW.PrintLast
theorem infoZN : (Tryd.prog.info? 99).map (fun i => (i.zero, i.size, i.bytes)) = some (some (.agg #[.string ⟨#[]⟩, .bool false, .string ⟨#[]⟩, .int .i64 0]), 4, 48) := by kernel_rfl
theorem infoZS : (Tryd.prog.info? 101).map (fun i => (i.zero, i.size, i.bytes)) = some (some (.agg #[.int .i64 0, .bool false, .string ⟨#[]⟩]), 3, 32) := by kernel_rfl
def tnN (x : Nm) (k : Nat) : S99 := ⟨x.o, ⟨false, magB x.n⟩, (k : Int)⟩
def numsT (l : List Nm) : List S99 := l.zipIdx.map fun p => tnN p.1 p.2
def tsS (x : Sx) : S101 := ⟨x.wt, ⟨false, magB x.n⟩⟩
def sufsT (l : List Sx) : List S101 := l.map tsS
theorem numsT_snoc (l : List Nm) (x : Nm) : numsT (l ++ [x]) = numsT l ++ [tnN x l.length] := by
 unfold numsT
 rw [Kd.zip_snoc]
 simp
theorem numsT_len (l : List Nm) : (numsT l).length = l.length := by simp [numsT]
theorem blk_apart {w : World} {g b : Nat} {o : Obj} (h : w.heap[g]? = some o) (hne : b ≠ g) (i : Nat) (v : Value) : (w.setCell ⟨b, i, none⟩ v).heap[g]? = some o := by
 rw [World.setCell, Array.getElem?_modify, if_neg hne]
 exact h
def butT (u : TypeId) (t : TypeId) : Bool := t != u
section
variable {w wr : World} {g1 g2 g3 : Nat} {o r l h : ByteArray} {i : Bool} {cv sv bv : Value} {v5 v6 : Value} {ys : List S99} {zs : List S101} {hb : Bool} {m : ByteArray}
structure TInv (w wr : World) (g1 g2 g3 : Nat) (o r l h : ByteArray) (i : Bool) (cv sv bv v5 v6 : Value) (ys : List S99) (zs : List S101) : Prop where
 b1 : wr.heap[g1]? = some (.cells #[.string o, .bool i, .string r, cv, .string l, sv, .string h, bv] 69 (0, 0))
 b2 : wr.heap[g2]? = some (.cells #[.string ⟨#[]⟩, .string ⟨#[]⟩, .string ⟨#[]⟩, .string ⟨#[]⟩, .bool false, .slice none 0 0, .slice none 0 0, .bool false, .bool false, .string ⟨#[]⟩] 79 (0, 0))
 b3 : wr.heap[g3]? = some (.cells #[.string o, .string r, .string l, .string h, .bool i, v5, v6, .bool false, .bool false, .string ⟨#[]⟩] 79 (0, 0))
 own5 : Kd.R k99 99 wr w.heap.size (fun _ => True) v5 ys
 own6 : Kd.R k101 101 wr w.heap.size (fun _ => True) v6 zs
 below : Below w.heap.size w wr
theorem TInv.to (H : TInv w wr g1 g2 g3 o r l h i cv sv bv v5 v6 ys zs) {w' : World} (k : Below wr.heap.size wr w') : TInv w w' g1 g2 g3 o r l h i cv sv bv v5 v6 ys zs :=
 ⟨zk H.b1 k, zk H.b2 k, zk H.b3 k, Kd.R_below H.own5 k, Kd.R_below H.own6 k, zei H.below H.below.size k⟩
theorem TInv.step5 (H : TInv w wr g1 g2 g3 o r l h i cv sv bv v5 v6 ys zs) (hg3 : w.heap.size ≤ g3) (h13 : g1 ≠ g3) (h23 : g2 ≠ g3) {w7 : World} {v1 : Value} {ys' : List S99} (ho : Kd.R k99 99 w7 w.heap.size (fun _ => True) v1 ys') (hg : wr.grownBy w7 v5.ownBlock) :
  w7.heap[g3]? = some (.cells #[.string o, .string r, .string l, .string h, .bool i, v5, v6, .bool false, .bool false, .string ⟨#[]⟩] 79 (0, 0)) ∧ TInv w (w7.setCell ⟨g3, 5, none⟩ v1) g1 g2 g3 o r l h i cv sv bv v1 v6 ys' zs := by
 have K : KeptT (butT 99) wr w7 := KeptT.row (by decide) H.own5 hg
 have B3 := K.blk H.b3 (by decide)
 refine ⟨B3, ?_, ?_, zv B3 5 _ rfl, ?_, ?_, ?_⟩
 ·rw [World.setCell, Array.getElem?_modify, if_neg (fun e => h13 e.symm)]; exact K.blk H.b1 (by decide)
 ·rw [World.setCell, Array.getElem?_modify, if_neg (fun e => h23 e.symm)]; exact K.blk H.b2 (by decide)
 ·exact zue (p := fun t => t != 79) rfl (by decide) ho (KeptT.set B3 (by decide) 5 _)
 ·exact zue (p := fun t => t == 101) rfl (by decide) H.own6 ((K.sub fun t ht => by rw [of_decide_eq_true ht]; decide).trans (KeptT.set B3 (by decide) 5 _))
 ·exact (H.below.grown hg H.below.size (fun b e => Kd.R_base H.own5 b e)).setCell (p := ⟨g3, 5, none⟩) hg3 _
theorem TInv.step6 (H : TInv w wr g1 g2 g3 o r l h i cv sv bv v5 v6 ys zs) (hg3 : w.heap.size ≤ g3) (h13 : g1 ≠ g3) (h23 : g2 ≠ g3) {w7 : World} {v1 : Value} {zs' : List S101} (ho : Kd.R k101 101 w7 w.heap.size (fun _ => True) v1 zs') (hg : wr.grownBy w7 v6.ownBlock) :
  w7.heap[g3]? = some (.cells #[.string o, .string r, .string l, .string h, .bool i, v5, v6, .bool false, .bool false, .string ⟨#[]⟩] 79 (0, 0)) ∧ TInv w (w7.setCell ⟨g3, 6, none⟩ v1) g1 g2 g3 o r l h i cv sv bv v5 v1 ys zs' := by
 have K : KeptT (butT 101) wr w7 := KeptT.row (by decide) H.own6 hg
 have B3 := K.blk H.b3 (by decide)
 refine ⟨B3, ?_, ?_, zv B3 6 _ rfl, ?_, ?_, ?_⟩
 ·rw [World.setCell, Array.getElem?_modify, if_neg (fun e => h13 e.symm)]; exact K.blk H.b1 (by decide)
 ·rw [World.setCell, Array.getElem?_modify, if_neg (fun e => h23 e.symm)]; exact K.blk H.b2 (by decide)
 ·exact zue (p := fun t => t == 99) rfl (by decide) H.own5 ((K.sub fun t ht => by rw [of_decide_eq_true ht]; decide).trans (KeptT.set B3 (by decide) 6 _))
 ·exact zue (p := fun t => t != 79) rfl (by decide) ho (KeptT.set B3 (by decide) 6 _)
 ·exact (H.below.grown hg H.below.size (fun b e => Kd.R_base H.own6 b e)).setCell (p := ⟨g3, 6, none⟩) hg3 _
end
theorem told_ (w : World) (v : Value) (x : AV) (hv : AVAt w v x) :
  Calls Tryd.prog 31 #[v] w fun e w' => ∃ v5 v6, e = .returned (.agg #[.string x.o, .string x.r, .string x.l, .string x.h, .bool x.i, v5, v6, .bool true, .bool false, .string (magB x.b)]) ∧
   Kd.R k99 99 w' w.heap.size (fun _ => True) v5 (numsT x.c) ∧ Kd.R k101 101 w' w.heap.size (fun _ => True) v6 (sufsT x.s) ∧ Below w.heap.size w w' := by
 obtain ⟨o, i, r, xc, l, xs, h, n⟩ := x
 obtain ⟨cv, sv, a, rfl, hc, hs, hn⟩ := hv
 unfold AVv
 simp only at hc hs hn ⊢
 have KC := za.mk hc
 have KS := za.mk hs
 have HP := za.mk (fun (W : World) (y : Nat) (q : Nat) (hb : BigAt W y q) => zzPlain_ W y q hb)
 have HN := za.mk hn
 have LC : za (xc.length ≤ 1000000) := ⟨by obtain ⟨_, _, _, hl, _⟩ := hc; exact hl⟩
 have LS : za (xs.length ≤ 1000000) := ⟨by obtain ⟨_, _, _, hl, _⟩ := hs; exact hl⟩
 obtain ⟨pc, cc, rfl⟩ := hc.len
 obtain ⟨ps, cs, rfl⟩ := hs.len
 clear hc hs hn
 obtain ⟨W0, hW0⟩ : ∃ W0, W0 = (((w.alloc (.cells #[.string o, .bool i, .string r, .slice pc xc.length cc, .string l, .slice ps xs.length cs, .string h, .pointer (some ⟨a, 0, none⟩)] 69)).alloc (.cells #[.string ⟨#[]⟩, .string ⟨#[]⟩, .string ⟨#[]⟩, .string ⟨#[]⟩, .bool false, .slice none 0 0, .slice none 0 0, .bool false, .bool false, .string ⟨#[]⟩] 79)).alloc (.cells #[.string o, .string r, .string l, .string h, .bool i, .slice none 0 0, .slice none 0 0, .bool false, .bool false, .string ⟨#[]⟩] 79)) := ⟨_, rfl⟩
 have I0 : za (TInv w W0 w.heap.size (w.heap.size + 1) (w.heap.size + 1 + 1) o r l h i (.slice pc xc.length cc) (.slice ps xs.length cs) (.pointer (some ⟨a, 0, none⟩)) (.slice none 0 0) (.slice none 0 0) [] []) := ⟨by
  rw [hW0]
  refine ⟨zub (zub (zdf w _) _) _, ?_, ?_, Kd.R_nil _ _ _ _ _, Kd.R_nil _ _ _ _ _, zo (zo (zo (Below.refl _ _) _) _) _⟩
  ·have h := zub (zdf (w.alloc (.cells #[.string o, .bool i, .string r, .slice pc xc.length cc, .string l, .slice ps xs.length cs, .string h, .pointer (some ⟨a, 0, none⟩)] 69)) (.cells #[.string ⟨#[]⟩, .string ⟨#[]⟩, .string ⟨#[]⟩, .string ⟨#[]⟩, .bool false, .slice none 0 0, .slice none 0 0, .bool false, .bool false, .string ⟨#[]⟩] 79)) (.cells #[.string o, .string r, .string l, .string h, .bool i, .slice none 0 0, .slice none 0 0, .bool false, .bool false, .string ⟨#[]⟩] 79)
   rw [zcd] at h
   exact h
  ·have h := zdf ((w.alloc (.cells #[.string o, .bool i, .string r, .slice pc xc.length cc, .string l, .slice ps xs.length cs, .string h, .pointer (some ⟨a, 0, none⟩)] 69)).alloc (.cells #[.string ⟨#[]⟩, .string ⟨#[]⟩, .string ⟨#[]⟩, .string ⟨#[]⟩, .bool false, .slice none 0 0, .slice none 0 0, .bool false, .bool false, .string ⟨#[]⟩] 79)) (.cells #[.string o, .string r, .string l, .string h, .bool i, .slice none 0 0, .slice none 0 0, .bool false, .bool false, .string ⟨#[]⟩] 79)
   rw [zcd, zcd] at h
   exact h⟩
 have HW0 := za.mk hW0
 have y3 := (zj I0.out.b1 3).trans rfl
 rw [hW0] at y3
 clear hW0
 go_enter Tryd.func31, Tryd.ntmps31
 go_wp2
 try rw [← HW0.out]
 go_loopw [22] (fun iv wr => ∃ (k : Nat) (v5 : Value), k ≤ xc.length ∧ iv = .int .i64 (k : Int) ∧ za (TInv w wr w.heap.size (w.heap.size + 1) (w.heap.size + 1 + 1) o r l h i (.slice pc xc.length cc) (.slice ps xs.length cs) (.pointer (some ⟨a, 0, none⟩)) v5 (.slice none 0 0) (numsT (xc.take k)) [])) (fun iv _ => xc.length - (intOf iv).toNat)
 case atStart => exact ⟨0, _, Nat.zero_le _, rfl, I0⟩
 case round =>
  obtain ⟨k, v5, hk, rfl, HI⟩ := hrel
  clear I0
  by_cases hlt : k < xc.length
  ·have i3 : decide ((k : Int) < (xc.length : Int)) = true := decide_eq_true (by omega)
   have i4 : ((k : Int) < (xc.length : Int)) = True := eq_true (by omega)
   have i5 : (0 ≤ (k : Int)) = True := eq_true (by omega)
   have WR : wrap64 ((k : Int) + 1) = ((k + 1 : Nat) : Int) := by have := LC.out; unfold wrap64; omega
   have LT := za.mk hlt
   obtain ⟨x, hx⟩ : ∃ x, x = xc[k] := ⟨_, rfl⟩
   have hx2 : xc[k]? = some x := by rw [hx, List.getElem?_eq_getElem hlt]
   obtain ⟨pc2, cc2, hpe, _, hrows⟩ := KC.out.below HI.out.below
   injection hpe with hp1 _ hp3
   subst hp1
   subst hp3
   obtain ⟨b, rfl, k1, k2, k3, k4, k5⟩ := hrows k x hx2
   have SN : za (numsT (xc.take (k + 1)) = numsT (xc.take k) ++ [tnN x k]) := ⟨by
    rw [List.take_add_one, hx2]
    show numsT (xc.take k ++ [x]) = _
    rw [numsT_snoc, List.length_take, Nat.min_eq_left (Nat.le_of_lt hlt)]⟩
   have K4 := za.mk k4
   have HLY : za ((numsT (xc.take k)).length ≤ 1000000) := ⟨by rw [numsT_len, List.length_take]; have := LC.out; omega⟩
   clear hlt hk hx hx2 hrows k4 k5
   go_upto_region 5 with (fail)
   have M3 := za.mk (HI.out.to (zo (Below.refl _ _) (.cells #[.string x.o, .pointer (some ⟨x.a, 0, none⟩), .int .i64 (k : Int)] 103)))
   have Y3 := za.mk (zdf wr (.cells #[.string x.o, .pointer (some ⟨x.a, 0, none⟩), .int .i64 (k : Int)] 103))
   have K3 := za.mk (K4.out.below (zo (Below.refl _ _) (.cells #[.string x.o, .pointer (some ⟨x.a, 0, none⟩), .int .i64 (k : Int)] 103)))
   clear HI K4
   generalize wr.alloc (.cells #[.string x.o, .pointer (some ⟨x.a, 0, none⟩), .int .i64 (k : Int)] 103) = w3 at M3 Y3 K3 ⊢
   generalize wr.heap.size = g5 at Y3 ⊢
   refine zsf (n := 14) (S := fun w' => w'.cell? ⟨w.heap.size + 1 + 1, 5, none⟩ = some v5 ∧ w'.cell? ⟨g5, 0, none⟩ = some (.string x.o) ∧ w'.cell? ⟨g5, 1, none⟩ = some (.pointer (some ⟨x.a, 0, none⟩)) ∧ w'.cell? ⟨g5, 2, none⟩ = some (.int .i64 (k : Int))) (ds := [11, 13]) #[false, false, false, false, false, false, false, false, false, false, false, false, false, false] (by kernel_rfl) rfl rfl ⟨(zj (zkc M3.out.b3) 5).trans rfl, (zj (zkc Y3.out) 0).trans rfl, (zj (zkc Y3.out) 1).trans rfl, (zj (zkc Y3.out) 2).trans rfl⟩ (fun hHeld => ?_)
   have M4 := za.mk (M3.out.to (zdd (Below.refl _ _)))
   have Y4 := za.mk (zkc Y3.out)
   have K5 := za.mk (K3.out.below (zdd (Below.refl _ _)))
   clear M3 Y3 K3
   generalize w3.drew = w4 at M4 Y4 K5 hHeld ⊢
   refine pure_ (i := 0) (N := some 26) (v := ?_) (a' := ?_) #[true, false, false, false, false, false, false, false, false, false, false, false, false, false] rfl rfl (by kernel_rfl) (fun _ _ _ h => h) (Or.inl ⟨by rfl, ?_⟩) ?_ ?_
   rotate_left
   ·intro w'
    go_simp
    with_reducible rfl
   rotate_left
   ·simp only [Act.put, List.setIfInBounds_toArray, List.set_cons_zero, List.set_cons_succ, i64_w, i32_w]
    rfl
   refine pure_ (i := 2) (N := some 28) (v := ?_) (a' := ?_) #[true, false, true, false, false, false, false, false, false, false, false, false, false, false] rfl rfl (by kernel_rfl) (fun _ _ _ h => h) (Or.inl ⟨by rfl, ?_⟩) ?_ ?_
   rotate_left
   ·intro w'
    go_simp
    with_reducible rfl
   rotate_left
   ·simp only [Act.put, List.setIfInBounds_toArray, List.set_cons_zero, List.set_cons_succ, i64_w, i32_w]
    rfl
   refine pure_ (i := 4) (N := some 30) (v := ?_) (a' := ?_) #[true, false, true, false, true, false, false, false, false, false, false, false, false, false] rfl rfl (by kernel_rfl) (fun _ _ _ h => h) (Or.inl ⟨by rfl, ?_⟩) ?_ ?_
   rotate_left
   ·intro w'
    go_simp
    with_reducible rfl
   rotate_left
   ·simp only [Act.put, List.setIfInBounds_toArray, List.set_cons_zero, List.set_cons_succ, i64_w, i32_w]
    rfl
   refine pure_ (i := 7) (N := some 33) (v := ?_) (a' := ?_) #[true, false, true, false, true, false, false, true, false, false, false, false, false, false] rfl rfl (by kernel_rfl) (fun _ _ _ h => h) (Or.inl ⟨by rfl, ?_⟩) ?_ ?_
   rotate_left
   ·intro w'
    go_simp
    with_reducible rfl
   rotate_left
   ·simp only [Act.put, List.setIfInBounds_toArray, List.set_cons_zero, List.set_cons_succ, i64_w, i32_w]
    rfl
   refine take_ (i := 1) (N := some 27) (v := ?_) (a' := ?_) #[true, true, true, false, true, false, false, true, false, false, false, false, false, false] rfl rfl (by kernel_rfl) (fun _ _ _ h => h) (Or.inl ⟨by rfl, ?_⟩) hHeld ?_ ?_
   rotate_left
   ·rintro w' ⟨s0, s1, s2, s3⟩
    go_simp
    with_reducible rfl
   rotate_left
   ·simp only [Act.put, List.setIfInBounds_toArray, List.set_cons_zero, List.set_cons_succ, i64_w, i32_w]
    rfl
   refine take_ (i := 3) (N := some 29) (v := ?_) (a' := ?_) #[true, true, true, true, true, false, false, true, false, false, false, false, false, false] rfl rfl (by kernel_rfl) (fun _ _ _ h => h) (Or.inl ⟨by rfl, ?_⟩) hHeld ?_ ?_
   rotate_left
   ·rintro w' ⟨s0, s1, s2, s3⟩
    go_simp
    with_reducible rfl
   rotate_left
   ·simp only [Act.put, List.setIfInBounds_toArray, List.set_cons_zero, List.set_cons_succ, i64_w, i32_w]
    rfl
   refine take_ (i := 5) (N := some 31) (v := ?_) (a' := ?_) #[true, true, true, true, true, true, false, true, false, false, false, false, false, false] rfl rfl (by kernel_rfl) (fun _ _ _ h => h) (Or.inl ⟨by rfl, ?_⟩) hHeld ?_ ?_
   rotate_left
   ·rintro w' ⟨s0, s1, s2, s3⟩
    go_simp
    with_reducible rfl
   rotate_left
   ·simp only [Act.put, List.setIfInBounds_toArray, List.set_cons_zero, List.set_cons_succ, i64_w, i32_w]
    rfl
   refine take_ (i := 8) (N := some 34) (v := ?_) (a' := ?_) #[true, true, true, true, true, true, false, true, true, false, false, false, false, false] rfl rfl (by kernel_rfl) (fun _ _ _ h => h) (Or.inl ⟨by rfl, ?_⟩) hHeld ?_ ?_
   rotate_left
   ·rintro w' ⟨s0, s1, s2, s3⟩
    go_simp
    with_reducible rfl
   rotate_left
   ·simp only [Act.put, List.setIfInBounds_toArray, List.set_cons_zero, List.set_cons_succ, i64_w, i32_w]
    rfl
   refine one_ (i := 6) (N := some 32) #[true, true, true, true, true, true, true, true, true, false, false, false, false, false] rfl rfl (by kernel_rfl) (by decide) (fun K hK => ?_)
   refine goes_ Tryd.func47 (by kernel_rfl) rfl #[.pointer (some ⟨x.a, 0, none⟩)] (by rfl) rfl rfl (by simp only [List.map_toArray, List.map_cons, List.map_nil]; rfl) ?_
   with_reducible refine (HP.out _ x.a x.n K5.out).mono ?_
   rintro e w5 ⟨rfl, hb⟩
   refine ⟨_, rfl, ?_⟩
   have M5 := za.mk (M4.out.to hb)
   have Y5 := za.mk (zk Y4.out hb)
   clear hb M4 Y4 K5
   refine hK.out _ _ ⟨(zj M5.out.b3 5).trans rfl, (zj Y5.out 0).trans rfl, (zj Y5.out 1).trans rfl, (zj Y5.out 2).trans rfl⟩ (fun hHeld => ?_)
   clear hK K
   refine Go.Proofs.YtapaijpglfmfgaaDoorW.PrintLast.norm_ (a' := ?_) ?_ ?_
   rotate_left
   ·show Act.put _ (some 32) _ = _
    simp only [Act.put, List.setIfInBounds_toArray, List.set_cons_zero, List.set_cons_succ, i64_w, i32_w]
    rfl
   refine pure_ (i := 9) (N := some 35) (v := ?_) (a' := ?_) #[true, true, true, true, true, true, true, true, true, true, false, false, false, false] rfl rfl (by kernel_rfl) (fun _ _ _ h => h) (Or.inl ⟨by rfl, ?_⟩) ?_ ?_
   rotate_left
   ·intro w'
    go_simp
    with_reducible rfl
   rotate_left
   ·simp only [Act.put, List.setIfInBounds_toArray, List.set_cons_zero, List.set_cons_succ, i64_w, i32_w]
    rfl
   refine one_ (i := 10) (N := some 36) #[true, true, true, true, true, true, true, true, true, true, true, false, false, false] rfl rfl (by kernel_rfl) (by decide) (fun K hK => ?_)
   refine value_ (w1 := ?_) (v := ?_) (by rfl) rfl ?_ ?_
   rotate_left 2
   ·go_simp
    constructor
    ·rfl
    ·rfl
   refine hK.out _ _ ⟨(zj (zub M5.out.b3 _) 5).trans rfl, (zj (zub Y5.out _) 0).trans rfl, (zj (zub Y5.out _) 1).trans rfl, (zj (zub Y5.out _) 2).trans rfl⟩ (fun hHeld => ?_)
   clear hK K
   refine Go.Proofs.YtapaijpglfmfgaaDoorW.PrintLast.norm_ (a' := ?_) ?_ ?_
   rotate_left
   ·show Act.put _ (some 36) _ = _
    simp only [Act.put, List.setIfInBounds_toArray, List.set_cons_zero, List.set_cons_succ, i64_w, i32_w]
    rfl
   refine last_ (i := 11) (N := some 37) #[true, true, true, true, true, true, true, true, true, true, true, true, false, false] rfl rfl (by kernel_rfl) (by decide) (fun K hK => ?_)
   refine Kd.R_append_step k99 (w0 := w5) w.heap.size (by rfl) (.tmp 27) (.tmp 36) 75 99 (.agg #[.string ⟨#[]⟩, .bool false, .string ⟨#[]⟩, .int .i64 0]) 48 rfl Tryd.underlying75 infoZN rfl (by decide) (by omega) v5 (numsT (xc.take k)) (tnN x k) [.string x.o, .bool false, .string (magB x.n), .int .i64 (k : Int)] (fun _ => True) (fun _ => False) rfl rfl ?aP (fun _ hk => hk.elim) (fun _ _ => trivial) M5.out.own5 (Below.refl _ _) M5.out.below.size ?aL ?_
   (case aP => exact k99_mkM _ _ _ (tnN x k))
   (case aL => have := HLY.out; omega)
   intro v1 w7 ho hb hg hat
   obtain ⟨A1, n1, cp1, rfl⟩ : ∃ A n c, v1 = .slice A n c := by
    obtain ⟨A, c, e⟩ := Kd.R_slice ho
    exact ⟨A, _, c, e⟩
   obtain ⟨b7, i7⟩ := M5.out.step5 (by omega) (by omega) (by omega) ho hg
   have x7 := (zj b7 5).trans rfl
   have f7 := zu b7 5
   have I7 := za.mk i7
   clear ho hb hg hat b7 i7
   refine hK.out _ _ ?_
   clear hK K
   refine Go.Proofs.YtapaijpglfmfgaaDoorW.PrintLast.norm_ (a' := ?_) ?_ ?_
   rotate_left
   ·show Act.put _ (some 37) _ = _
    simp only [Act.put, List.setIfInBounds_toArray, List.set_cons_zero, List.set_cons_succ, i64_w, i32_w]
    rfl
   refine pure_ (i := 12) (N := some 38) (v := ?_) (a' := ?_) #[true, true, true, true, true, true, true, true, true, true, true, true, true, false] rfl rfl (by kernel_rfl) (fun _ _ _ h => h) (Or.inl ⟨by rfl, ?_⟩) ?_ ?_
   rotate_left
   ·intro w'
    go_simp
    with_reducible rfl
   rotate_left
   ·simp only [Act.put, List.setIfInBounds_toArray, List.set_cons_zero, List.set_cons_succ, i64_w, i32_w]
    rfl
   refine last_ (i := 13) (N := none) #[true, true, true, true, true, true, true, true, true, true, true, true, true, true] rfl rfl (by kernel_rfl) (by decide) (fun K hK => ?_)
   refine skip_ (w1 := ?_) (by rfl) rfl ?_ ?_
   rotate_left
   ·go_simp
    rfl
   refine hK.out _ _ ?_
   clear hK K
   refine done_ (by kernel_rfl) ?_
   go_wp2
   go_roundw
   all_goals first | exact ⟨k + 1, .slice A1 n1 cp1, LT.out, by first | rfl | go_num, ⟨by rw [SN.out]; exact I7.out⟩⟩ | exact zzf _ k LT.out | exact meas_up1 _ k LT.out | exact zpg _ k LT.out WR
  ·obtain rfl : k = xc.length := by omega
   have i3 : decide ((xc.length : Int) < (xc.length : Int)) = false := decide_eq_false (by omega)
   have i4 : ((xc.length : Int) < (xc.length : Int)) = False := eq_false (by omega)
   have hi2 := HI.out
   rw [List.take_length] at hi2
   have H2 := za.mk hi2
   have y5 := (zj hi2.b1 5).trans rfl
   clear hlt hk HI hi2
   go_wp2
   go_loopw [43] (fun iv wr => ∃ (k : Nat) (v6 : Value), k ≤ xs.length ∧ iv = .int .i64 (k : Int) ∧ za (TInv w wr w.heap.size (w.heap.size + 1) (w.heap.size + 1 + 1) o r l h i (.slice pc xc.length cc) (.slice ps xs.length cs) (.pointer (some ⟨a, 0, none⟩)) v5 v6 (numsT xc) (sufsT (xs.take k)))) (fun iv _ => xs.length - (intOf iv).toNat)
   case atStart => exact ⟨0, _, Nat.zero_le _, rfl, H2⟩
   case round =>
    obtain ⟨k, v6, hk, rfl, HI⟩ := hrel
    clear H2
    by_cases hlt : k < xs.length
    ·have i3 : decide ((k : Int) < (xs.length : Int)) = true := decide_eq_true (by omega)
     have i4 : ((k : Int) < (xs.length : Int)) = True := eq_true (by omega)
     have i5 : (0 ≤ (k : Int)) = True := eq_true (by omega)
     have WR : wrap64 ((k : Int) + 1) = ((k + 1 : Nat) : Int) := by have := LS.out; unfold wrap64; omega
     have LT := za.mk hlt
     obtain ⟨x, hx⟩ : ∃ x, x = xs[k] := ⟨_, rfl⟩
     have hx2 : xs[k]? = some x := by rw [hx, List.getElem?_eq_getElem hlt]
     obtain ⟨pc2, cc2, hpe, _, hrows⟩ := KS.out.below HI.out.below
     injection hpe with hp1 _ hp3
     subst hp1
     subst hp3
     obtain ⟨b, rfl, k1, k2, k4⟩ := hrows k x hx2
     have SN : za (sufsT (xs.take (k + 1)) = sufsT (xs.take k) ++ [tsS x]) := ⟨by
      rw [List.take_add_one, hx2]
      show sufsT (xs.take k ++ [x]) = _
      simp [sufsT]⟩
     have K4 := za.mk k4
     have HLY : za ((sufsT (xs.take k)).length ≤ 1000000) := ⟨by unfold sufsT; rw [List.length_map, List.length_take]; have := LS.out; omega⟩
     clear hlt hk hx hx2 hrows k4
     go_upto_region 10 with (fail)
     have M3 := za.mk (HI.out.to (zo (Below.refl _ _) (.cells #[.int .i64 x.wt, .pointer (some ⟨x.a, 0, none⟩)] 106)))
     have Y3 := za.mk (zdf wr (.cells #[.int .i64 x.wt, .pointer (some ⟨x.a, 0, none⟩)] 106))
     have K3 := za.mk (K4.out.below (zo (Below.refl _ _) (.cells #[.int .i64 x.wt, .pointer (some ⟨x.a, 0, none⟩)] 106)))
     clear HI K4
     generalize wr.alloc (.cells #[.int .i64 x.wt, .pointer (some ⟨x.a, 0, none⟩)] 106) = w3 at M3 Y3 K3 ⊢
     generalize wr.heap.size = g5 at Y3 ⊢
     refine zsf (n := 12) (S := fun w' => w'.cell? ⟨w.heap.size + 1 + 1, 6, none⟩ = some v6 ∧ w'.cell? ⟨g5, 0, none⟩ = some (.int .i64 x.wt) ∧ w'.cell? ⟨g5, 1, none⟩ = some (.pointer (some ⟨x.a, 0, none⟩))) (ds := [9, 11]) #[false, false, false, false, false, false, false, false, false, false, false, false] (by kernel_rfl) rfl rfl ⟨(zj (zkc M3.out.b3) 6).trans rfl, (zj (zkc Y3.out) 0).trans rfl, (zj (zkc Y3.out) 1).trans rfl⟩ (fun hHeld => ?_)
     have M4 := za.mk (M3.out.to (zdd (Below.refl _ _)))
     have Y4 := za.mk (zkc Y3.out)
     have K5 := za.mk (K3.out.below (zdd (Below.refl _ _)))
     clear M3 Y3 K3
     generalize w3.drew = w4 at M4 Y4 K5 hHeld ⊢
     refine pure_ (i := 0) (N := some 47) (v := ?_) (a' := ?_) #[true, false, false, false, false, false, false, false, false, false, false, false] rfl rfl (by kernel_rfl) (fun _ _ _ h => h) (Or.inl ⟨by rfl, ?_⟩) ?_ ?_
     rotate_left
     ·intro w'
      go_simp
      with_reducible rfl
     rotate_left
     ·simp only [Act.put, List.setIfInBounds_toArray, List.set_cons_zero, List.set_cons_succ, i64_w, i32_w]
      rfl
     refine pure_ (i := 2) (N := some 49) (v := ?_) (a' := ?_) #[true, false, true, false, false, false, false, false, false, false, false, false] rfl rfl (by kernel_rfl) (fun _ _ _ h => h) (Or.inl ⟨by rfl, ?_⟩) ?_ ?_
     rotate_left
     ·intro w'
      go_simp
      with_reducible rfl
     rotate_left
     ·simp only [Act.put, List.setIfInBounds_toArray, List.set_cons_zero, List.set_cons_succ, i64_w, i32_w]
      rfl
     refine pure_ (i := 4) (N := some 51) (v := ?_) (a' := ?_) #[true, false, true, false, true, false, false, false, false, false, false, false] rfl rfl (by kernel_rfl) (fun _ _ _ h => h) (Or.inl ⟨by rfl, ?_⟩) ?_ ?_
     rotate_left
     ·intro w'
      go_simp
      with_reducible rfl
     rotate_left
     ·simp only [Act.put, List.setIfInBounds_toArray, List.set_cons_zero, List.set_cons_succ, i64_w, i32_w]
      rfl
     refine take_ (i := 1) (N := some 48) (v := ?_) (a' := ?_) #[true, true, true, false, true, false, false, false, false, false, false, false] rfl rfl (by kernel_rfl) (fun _ _ _ h => h) (Or.inl ⟨by rfl, ?_⟩) hHeld ?_ ?_
     rotate_left
     ·rintro w' ⟨s0, s1, s2⟩
      go_simp
      with_reducible rfl
     rotate_left
     ·simp only [Act.put, List.setIfInBounds_toArray, List.set_cons_zero, List.set_cons_succ, i64_w, i32_w]
      rfl
     refine take_ (i := 3) (N := some 50) (v := ?_) (a' := ?_) #[true, true, true, true, true, false, false, false, false, false, false, false] rfl rfl (by kernel_rfl) (fun _ _ _ h => h) (Or.inl ⟨by rfl, ?_⟩) hHeld ?_ ?_
     rotate_left
     ·rintro w' ⟨s0, s1, s2⟩
      go_simp
      with_reducible rfl
     rotate_left
     ·simp only [Act.put, List.setIfInBounds_toArray, List.set_cons_zero, List.set_cons_succ, i64_w, i32_w]
      rfl
     refine take_ (i := 5) (N := some 52) (v := ?_) (a' := ?_) #[true, true, true, true, true, true, false, false, false, false, false, false] rfl rfl (by kernel_rfl) (fun _ _ _ h => h) (Or.inl ⟨by rfl, ?_⟩) hHeld ?_ ?_
     rotate_left
     ·rintro w' ⟨s0, s1, s2⟩
      go_simp
      with_reducible rfl
     rotate_left
     ·simp only [Act.put, List.setIfInBounds_toArray, List.set_cons_zero, List.set_cons_succ, i64_w, i32_w]
      rfl
     refine one_ (i := 6) (N := some 53) #[true, true, true, true, true, true, true, false, false, false, false, false] rfl rfl (by kernel_rfl) (by decide) (fun K hK => ?_)
     refine goes_ Tryd.func47 (by kernel_rfl) rfl #[.pointer (some ⟨x.a, 0, none⟩)] (by rfl) rfl rfl (by simp only [List.map_toArray, List.map_cons, List.map_nil]; rfl) ?_
     with_reducible refine (HP.out _ x.a x.n K5.out).mono ?_
     rintro e w5 ⟨rfl, hb⟩
     refine ⟨_, rfl, ?_⟩
     have M5 := za.mk (M4.out.to hb)
     have Y5 := za.mk (zk Y4.out hb)
     clear hb M4 Y4 K5
     refine hK.out _ _ ⟨(zj M5.out.b3 6).trans rfl, (zj Y5.out 0).trans rfl, (zj Y5.out 1).trans rfl⟩ (fun hHeld => ?_)
     clear hK K
     refine Go.Proofs.YtapaijpglfmfgaaDoorW.PrintLast.norm_ (a' := ?_) ?_ ?_
     rotate_left
     ·show Act.put _ (some 53) _ = _
      simp only [Act.put, List.setIfInBounds_toArray, List.set_cons_zero, List.set_cons_succ, i64_w, i32_w]
      rfl
     refine pure_ (i := 7) (N := some 54) (v := ?_) (a' := ?_) #[true, true, true, true, true, true, true, true, false, false, false, false] rfl rfl (by kernel_rfl) (fun _ _ _ h => h) (Or.inl ⟨by rfl, ?_⟩) ?_ ?_
     rotate_left
     ·intro w'
      go_simp
      with_reducible rfl
     rotate_left
     ·simp only [Act.put, List.setIfInBounds_toArray, List.set_cons_zero, List.set_cons_succ, i64_w, i32_w]
      rfl
     refine one_ (i := 8) (N := some 55) #[true, true, true, true, true, true, true, true, true, false, false, false] rfl rfl (by kernel_rfl) (by decide) (fun K hK => ?_)
     refine value_ (w1 := ?_) (v := ?_) (by rfl) rfl ?_ ?_
     rotate_left 2
     ·go_simp
      constructor
      ·rfl
      ·rfl
     refine hK.out _ _ ⟨(zj (zub M5.out.b3 _) 6).trans rfl, (zj (zub Y5.out _) 0).trans rfl, (zj (zub Y5.out _) 1).trans rfl⟩ (fun hHeld => ?_)
     clear hK K
     refine Go.Proofs.YtapaijpglfmfgaaDoorW.PrintLast.norm_ (a' := ?_) ?_ ?_
     rotate_left
     ·show Act.put _ (some 55) _ = _
      simp only [Act.put, List.setIfInBounds_toArray, List.set_cons_zero, List.set_cons_succ, i64_w, i32_w]
      rfl
     refine last_ (i := 9) (N := some 56) #[true, true, true, true, true, true, true, true, true, true, false, false] rfl rfl (by kernel_rfl) (by decide) (fun K hK => ?_)
     refine Kd.R_append_step k101 (w0 := w5) w.heap.size (by rfl) (.tmp 48) (.tmp 55) 76 101 (.agg #[.int .i64 0, .bool false, .string ⟨#[]⟩]) 32 rfl Tryd.underlying76 infoZS rfl (by decide) (by omega) v6 (sufsT (xs.take k)) (tsS x) [.int .i64 x.wt, .bool false, .string (magB x.n)] (fun _ => True) (fun _ => False) rfl rfl ?aP (fun _ hk => hk.elim) (fun _ _ => trivial) M5.out.own6 (Below.refl _ _) M5.out.below.size ?aL ?_
     (case aP => exact k101_mkM _ _ _ (tsS x))
     (case aL => have := HLY.out; omega)
     intro v1 w7 ho hb hg hat
     obtain ⟨A1, n1, cp1, rfl⟩ : ∃ A n c, v1 = .slice A n c := by
      obtain ⟨A, c, e⟩ := Kd.R_slice ho
      exact ⟨A, _, c, e⟩
     obtain ⟨b7, i7⟩ := M5.out.step6 (by omega) (by omega) (by omega) ho hg
     have x7 := (zj b7 6).trans rfl
     have f7 := zu b7 6
     have I7 := za.mk i7
     clear ho hb hg hat b7 i7
     refine hK.out _ _ ?_
     clear hK K
     refine Go.Proofs.YtapaijpglfmfgaaDoorW.PrintLast.norm_ (a' := ?_) ?_ ?_
     rotate_left
     ·show Act.put _ (some 56) _ = _
      simp only [Act.put, List.setIfInBounds_toArray, List.set_cons_zero, List.set_cons_succ, i64_w, i32_w]
      rfl
     refine pure_ (i := 10) (N := some 57) (v := ?_) (a' := ?_) #[true, true, true, true, true, true, true, true, true, true, true, false] rfl rfl (by kernel_rfl) (fun _ _ _ h => h) (Or.inl ⟨by rfl, ?_⟩) ?_ ?_
     rotate_left
     ·intro w'
      go_simp
      with_reducible rfl
     rotate_left
     ·simp only [Act.put, List.setIfInBounds_toArray, List.set_cons_zero, List.set_cons_succ, i64_w, i32_w]
      rfl
     refine last_ (i := 11) (N := none) #[true, true, true, true, true, true, true, true, true, true, true, true] rfl rfl (by kernel_rfl) (by decide) (fun K hK => ?_)
     refine skip_ (w1 := ?_) (by rfl) rfl ?_ ?_
     rotate_left
     ·go_simp
      rfl
     refine hK.out _ _ ?_
     clear hK K
     refine done_ (by kernel_rfl) ?_
     go_wp2
     go_roundw
     all_goals first | exact ⟨k + 1, .slice A1 n1 cp1, LT.out, by first | rfl | go_num, ⟨by rw [SN.out]; exact I7.out⟩⟩ | exact zzf _ k LT.out | exact meas_up1 _ k LT.out | exact zpg _ k LT.out WR
    ·obtain rfl : k = xs.length := by omega
     have i3 : decide ((xs.length : Int) < (xs.length : Int)) = false := decide_eq_false (by omega)
     have i4 : ((xs.length : Int) < (xs.length : Int)) = False := eq_false (by omega)
     have hi2 := HI.out
     rw [List.take_length] at hi2
     obtain ⟨A5, c5, e5⟩ := Kd.R_slice hi2.own5
     subst e5
     obtain ⟨A6, c6, e6⟩ := Kd.R_slice hi2.own6
     subst e6
     have H2 := za.mk hi2
     have y7 := (zj hi2.b1 7).trans rfl
     have pn := neq_nilptr a
     have HNW := za.mk (HN.out.below hi2.below)
     clear hlt hk HI hi2
     go_wp2_with (first | (go_at_call 47; (with_reducible refine (HP.out _ a n HNW.out).mono ?_); rintro e' w5 ⟨rfl, hb⟩; have H5 := za.mk (H2.out.to hb); have f7 := zu H5.out.b3 7; have f8 := zu H5.out.b3 8; have f9 := zu H5.out.b3 9; have x7 := (zj H5.out.b3 7).trans rfl; have x8 := (zj H5.out.b3 8).trans rfl; have x9 := (zj H5.out.b3 9).trans rfl; have gF := za.mk (zv (cs' := #[.string o, .string r, .string l, .string h, .bool i, .slice A5 (numsT xc).length c5, .slice A6 (sufsT xs).length c6, .bool true, .bool false, .string (magB n)]) (zv (zv H5.out.b3 7 (.bool true) rfl) 8 (.bool false) rfl) 9 (.string (magB n)) rfl); have xF := fun j : Nat => zj gF.out j; have gG := za.mk (blk_apart (blk_apart (blk_apart H5.out.b2 (b := w.heap.size + 1 + 1) (by omega) 7 (.bool true)) (b := w.heap.size + 1 + 1) (by omega) 8 (.bool false)) (b := w.heap.size + 1 + 1) (by omega) 9 (.string (magB n))); have zF := fun j : Nat => zj gG.out j; have zf := fun j : Nat => zu gG.out j; clear hb))
     (try simp only [Exit.inBlock, Exit.then])
     have hk : ∀ (W : World), (∀ b, b ≠ w.heap.size + 1 + 1 → b ≠ w.heap.size + 1 → W.heap[b]? = w5.heap[b]?) → KeptT (butT 79) w5 W := fun W h b cs t fr hb ht => by
      refine h b (fun e => ?_) (fun e => ?_)
      ·subst e; rw [H5.out.b3] at hb; cases hb; exact absurd ht (by decide)
      ·subst e; rw [H5.out.b2] at hb; cases hb; exact absurd ht (by decide)
     have p0 := zv (cs' := #[.string o, .string ⟨#[]⟩, .string ⟨#[]⟩, .string ⟨#[]⟩, .bool false, .slice none 0 0, .slice none 0 0, .bool false, .bool false, .string ⟨#[]⟩]) gG.out 0 (.string o) rfl
     have p1 := zv (cs' := #[.string o, .string r, .string ⟨#[]⟩, .string ⟨#[]⟩, .bool false, .slice none 0 0, .slice none 0 0, .bool false, .bool false, .string ⟨#[]⟩]) p0 1 (.string r) rfl
     have p2 := zv (cs' := #[.string o, .string r, .string l, .string ⟨#[]⟩, .bool false, .slice none 0 0, .slice none 0 0, .bool false, .bool false, .string ⟨#[]⟩]) p1 2 (.string l) rfl
     have p3 := zv (cs' := #[.string o, .string r, .string l, .string h, .bool false, .slice none 0 0, .slice none 0 0, .bool false, .bool false, .string ⟨#[]⟩]) p2 3 (.string h) rfl
     have p4 := zv (cs' := #[.string o, .string r, .string l, .string h, .bool i, .slice none 0 0, .slice none 0 0, .bool false, .bool false, .string ⟨#[]⟩]) p3 4 (.bool i) rfl
     have p5 := zv (cs' := #[.string o, .string r, .string l, .string h, .bool i, .slice A5 (numsT xc).length c5, .slice none 0 0, .bool false, .bool false, .string ⟨#[]⟩]) p4 5 (.slice A5 (numsT xc).length c5) rfl
     have p6 := zv (cs' := #[.string o, .string r, .string l, .string h, .bool i, .slice A5 (numsT xc).length c5, .slice A6 (sufsT xs).length c6, .bool false, .bool false, .string ⟨#[]⟩]) p5 6 (.slice A6 (sufsT xs).length c6) rfl
     have p7 := zv (cs' := #[.string o, .string r, .string l, .string h, .bool i, .slice A5 (numsT xc).length c5, .slice A6 (sufsT xs).length c6, .bool true, .bool false, .string ⟨#[]⟩]) p6 7 (.bool true) rfl
     have p8 := zv (cs' := #[.string o, .string r, .string l, .string h, .bool i, .slice A5 (numsT xc).length c5, .slice A6 (sufsT xs).length c6, .bool true, .bool false, .string ⟨#[]⟩]) p7 8 (.bool false) rfl
     have p9 := zv (cs' := #[.string o, .string r, .string l, .string h, .bool i, .slice A5 (numsT xc).length c5, .slice A6 (sufsT xs).length c6, .bool true, .bool false, .string (magB n)]) p8 9 (.string (magB n)) rfl
     refine bodyPost_ret (results_cell_row rfl _ _ (w.heap.size + 1) 79 #[.string o, .string r, .string l, .string h, .bool i, .slice A5 (numsT xc).length c5, .slice A6 (sufsT xs).length c6, .bool true, .bool false, .string (magB n)] (0, 0) _ rfl p9 Tryd.underlying79 rfl (by kernel_rfl)) rfl ?_
     have K := hk (((((((((((((w5.setCell ⟨w.heap.size + 1 + 1, 7, none⟩ (.bool true)).setCell ⟨w.heap.size + 1 + 1, 8, none⟩ (.bool false)).setCell ⟨w.heap.size + 1 + 1, 9, none⟩ (.string (magB n))).setCell ⟨w.heap.size + 1, 0, none⟩ (.string o)).setCell ⟨w.heap.size + 1, 1, none⟩ (.string r)).setCell ⟨w.heap.size + 1, 2, none⟩ (.string l)).setCell ⟨w.heap.size + 1, 3, none⟩ (.string h)).setCell ⟨w.heap.size + 1, 4, none⟩ (.bool i)).setCell ⟨w.heap.size + 1, 5, none⟩ (.slice A5 (numsT xc).length c5)).setCell ⟨w.heap.size + 1, 6, none⟩ (.slice A6 (sufsT xs).length c6)).setCell ⟨w.heap.size + 1, 7, none⟩ (.bool true)).setCell ⟨w.heap.size + 1, 8, none⟩ (.bool false)).setCell ⟨w.heap.size + 1, 9, none⟩ (.string (magB n))) (fun b h1 h2 => by repeat (first | rw [Below.heap_setCell _ _ _ _ h2] | rw [Below.heap_setCell _ _ _ _ h1]))
     refine ⟨_, _, rfl, zue (p := butT 79) rfl (by decide) H5.out.own5 K, zue (p := butT 79) rfl (by decide) H5.out.own6 K, ?_⟩
     have b5 := H5.out.below
     repeat (first | (with_reducible exact b5) | refine zi ?_ (by omega))
end Go.Proofs.YtapaijpglfmfgaaDoorG
end
section
namespace Go.Proofs.YtapaijpglfmfgaaDoorC
open Go.RowKit YtapaijpglfmfgaaDoorW.PrintWords
theorem cl2 {w : World} {g : Nat} {t : TypeId} {a0 a1 : Value} (h : w.heap[g]? = some (.cells #[a0, a1] t (0, 0))) : w.cell? ⟨g, 0, none⟩ = some a0 ∧ w.cell? ⟨g, 1, none⟩ = some a1 ∧ w.frozen? ⟨g, 0, none⟩ = false ∧ w.frozen? ⟨g, 1, none⟩ = false :=
 ⟨(zj h 0).trans rfl, (zj h 1).trans rfl, zu h 0, zu h 1⟩
theorem cl3 {w : World} {g : Nat} {t : TypeId} {a0 a1 a2 : Value} (h : w.heap[g]? = some (.cells #[a0, a1, a2] t (0, 0))) : w.cell? ⟨g, 0, none⟩ = some a0 ∧ w.cell? ⟨g, 1, none⟩ = some a1 ∧ w.cell? ⟨g, 2, none⟩ = some a2 ∧ w.frozen? ⟨g, 0, none⟩ = false ∧ w.frozen? ⟨g, 1, none⟩ = false ∧ w.frozen? ⟨g, 2, none⟩ = false :=
 ⟨(zj h 0).trans rfl, (zj h 1).trans rfl, (zj h 2).trans rfl, zu h 0, zu h 1, zu h 2⟩
theorem cl4 {w : World} {g : Nat} {t : TypeId} {a0 a1 a2 a3 : Value} (h : w.heap[g]? = some (.cells #[a0, a1, a2, a3] t (0, 0))) : w.cell? ⟨g, 0, none⟩ = some a0 ∧ w.cell? ⟨g, 1, none⟩ = some a1 ∧ w.cell? ⟨g, 2, none⟩ = some a2 ∧ w.cell? ⟨g, 3, none⟩ = some a3 ∧ w.frozen? ⟨g, 0, none⟩ = false ∧ w.frozen? ⟨g, 1, none⟩ = false ∧ w.frozen? ⟨g, 2, none⟩ = false ∧ w.frozen? ⟨g, 3, none⟩ = false :=
 ⟨(zj h 0).trans rfl, (zj h 1).trans rfl, (zj h 2).trans rfl, (zj h 3).trans rfl, zu h 0, zu h 1, zu h 2, zu h 3⟩
theorem cl7 {w : World} {g : Nat} {t : TypeId} {a0 a1 a2 a3 a4 a5 a6 : Value} (h : w.heap[g]? = some (.cells #[a0, a1, a2, a3, a4, a5, a6] t (0, 0))) : w.cell? ⟨g, 0, none⟩ = some a0 ∧ w.cell? ⟨g, 1, none⟩ = some a1 ∧ w.cell? ⟨g, 2, none⟩ = some a2 ∧ w.cell? ⟨g, 3, none⟩ = some a3 ∧ w.cell? ⟨g, 4, none⟩ = some a4 ∧ w.cell? ⟨g, 5, none⟩ = some a5 ∧ w.cell? ⟨g, 6, none⟩ = some a6 ∧ w.frozen? ⟨g, 0, none⟩ = false ∧ w.frozen? ⟨g, 1, none⟩ = false ∧ w.frozen? ⟨g, 2, none⟩ = false ∧ w.frozen? ⟨g, 3, none⟩ = false ∧ w.frozen? ⟨g, 4, none⟩ = false ∧ w.frozen? ⟨g, 5, none⟩ = false ∧ w.frozen? ⟨g, 6, none⟩ = false :=
 ⟨(zj h 0).trans rfl, (zj h 1).trans rfl, (zj h 2).trans rfl, (zj h 3).trans rfl, (zj h 4).trans rfl, (zj h 5).trans rfl, (zj h 6).trans rfl, zu h 0, zu h 1, zu h 2, zu h 3, zu h 4, zu h 5, zu h 6⟩
theorem cl10 {w : World} {g : Nat} {t : TypeId} {a0 a1 a2 a3 a4 a5 a6 a7 a8 a9 : Value} (h : w.heap[g]? = some (.cells #[a0, a1, a2, a3, a4, a5, a6, a7, a8, a9] t (0, 0))) : w.cell? ⟨g, 0, none⟩ = some a0 ∧ w.cell? ⟨g, 1, none⟩ = some a1 ∧ w.cell? ⟨g, 2, none⟩ = some a2 ∧ w.cell? ⟨g, 3, none⟩ = some a3 ∧ w.cell? ⟨g, 4, none⟩ = some a4 ∧ w.cell? ⟨g, 5, none⟩ = some a5 ∧ w.cell? ⟨g, 6, none⟩ = some a6 ∧ w.cell? ⟨g, 7, none⟩ = some a7 ∧ w.cell? ⟨g, 8, none⟩ = some a8 ∧ w.cell? ⟨g, 9, none⟩ = some a9 ∧ w.frozen? ⟨g, 0, none⟩ = false ∧ w.frozen? ⟨g, 1, none⟩ = false ∧ w.frozen? ⟨g, 2, none⟩ = false ∧ w.frozen? ⟨g, 3, none⟩ = false ∧ w.frozen? ⟨g, 4, none⟩ = false ∧ w.frozen? ⟨g, 5, none⟩ = false ∧ w.frozen? ⟨g, 6, none⟩ = false ∧ w.frozen? ⟨g, 7, none⟩ = false ∧ w.frozen? ⟨g, 8, none⟩ = false ∧ w.frozen? ⟨g, 9, none⟩ = false :=
 ⟨(zj h 0).trans rfl, (zj h 1).trans rfl, (zj h 2).trans rfl, (zj h 3).trans rfl, (zj h 4).trans rfl, (zj h 5).trans rfl, (zj h 6).trans rfl, (zj h 7).trans rfl, (zj h 8).trans rfl, (zj h 9).trans rfl, zu h 0, zu h 1, zu h 2, zu h 3, zu h 4, zu h 5, zu h 6, zu h 7, zu h 8, zu h 9⟩
theorem farC {α : Type} {d : Kd α} {e : TypeId} {w : World} {base : Nat} {ok : Nat → Prop} {v : Value} {xs : List α} {g i : Nat} {u : Value} (h : d.R e w base (fun k => ok k ∧ k ≠ g) v xs) : d.R e (w.setCell ⟨g, i, none⟩ u) base (fun k => ok k ∧ k ≠ g) v xs :=
 Kd.R_far (p := ⟨g, i, none⟩) h (fun _ hk => hk.2) u
theorem put2 {w : World} {g : Nat} {t : TypeId} {a0 a1 b0 b1 : Value} (h : w.heap[g]? = some (.cells #[a0, a1] t (0, 0))) : ((w.setCell ⟨g, 0, none⟩ b0).setCell ⟨g, 1, none⟩ b1).heap[g]? = some (.cells #[b0, b1] t (0, 0)) := by
 replace h := zv (cs' := #[b0, a1]) h 0 b0 rfl
 replace h := zv (cs' := #[b0, b1]) h 1 b1 rfl
 exact h
theorem put3 {w : World} {g : Nat} {t : TypeId} {a0 a1 a2 b0 b1 b2 : Value} (h : w.heap[g]? = some (.cells #[a0, a1, a2] t (0, 0))) : (((w.setCell ⟨g, 0, none⟩ b0).setCell ⟨g, 1, none⟩ b1).setCell ⟨g, 2, none⟩ b2).heap[g]? = some (.cells #[b0, b1, b2] t (0, 0)) := by
 replace h := zv (cs' := #[b0, a1, a2]) h 0 b0 rfl
 replace h := zv (cs' := #[b0, b1, a2]) h 1 b1 rfl
 replace h := zv (cs' := #[b0, b1, b2]) h 2 b2 rfl
 exact h
theorem put4 {w : World} {g : Nat} {t : TypeId} {a0 a1 a2 a3 b0 b1 b2 b3 : Value} (h : w.heap[g]? = some (.cells #[a0, a1, a2, a3] t (0, 0))) : ((((w.setCell ⟨g, 0, none⟩ b0).setCell ⟨g, 1, none⟩ b1).setCell ⟨g, 2, none⟩ b2).setCell ⟨g, 3, none⟩ b3).heap[g]? = some (.cells #[b0, b1, b2, b3] t (0, 0)) := by
 replace h := zv (cs' := #[b0, a1, a2, a3]) h 0 b0 rfl
 replace h := zv (cs' := #[b0, b1, a2, a3]) h 1 b1 rfl
 replace h := zv (cs' := #[b0, b1, b2, a3]) h 2 b2 rfl
 replace h := zv (cs' := #[b0, b1, b2, b3]) h 3 b3 rfl
 exact h
theorem put10 {w : World} {g : Nat} {t : TypeId} {a0 a1 a2 a3 a4 a5 a6 a7 a8 a9 b0 b1 b2 b3 b4 b5 b6 b7 b8 b9 : Value} (h : w.heap[g]? = some (.cells #[a0, a1, a2, a3, a4, a5, a6, a7, a8, a9] t (0, 0))) : ((((((((((w.setCell ⟨g, 0, none⟩ b0).setCell ⟨g, 1, none⟩ b1).setCell ⟨g, 2, none⟩ b2).setCell ⟨g, 3, none⟩ b3).setCell ⟨g, 4, none⟩ b4).setCell ⟨g, 5, none⟩ b5).setCell ⟨g, 6, none⟩ b6).setCell ⟨g, 7, none⟩ b7).setCell ⟨g, 8, none⟩ b8).setCell ⟨g, 9, none⟩ b9).heap[g]? = some (.cells #[b0, b1, b2, b3, b4, b5, b6, b7, b8, b9] t (0, 0)) := by
 replace h := zv (cs' := #[b0, a1, a2, a3, a4, a5, a6, a7, a8, a9]) h 0 b0 rfl
 replace h := zv (cs' := #[b0, b1, a2, a3, a4, a5, a6, a7, a8, a9]) h 1 b1 rfl
 replace h := zv (cs' := #[b0, b1, b2, a3, a4, a5, a6, a7, a8, a9]) h 2 b2 rfl
 replace h := zv (cs' := #[b0, b1, b2, b3, a4, a5, a6, a7, a8, a9]) h 3 b3 rfl
 replace h := zv (cs' := #[b0, b1, b2, b3, b4, a5, a6, a7, a8, a9]) h 4 b4 rfl
 replace h := zv (cs' := #[b0, b1, b2, b3, b4, b5, a6, a7, a8, a9]) h 5 b5 rfl
 replace h := zv (cs' := #[b0, b1, b2, b3, b4, b5, b6, a7, a8, a9]) h 6 b6 rfl
 replace h := zv (cs' := #[b0, b1, b2, b3, b4, b5, b6, b7, a8, a9]) h 7 b7 rfl
 replace h := zv (cs' := #[b0, b1, b2, b3, b4, b5, b6, b7, b8, a9]) h 8 b8 rfl
 replace h := zv (cs' := #[b0, b1, b2, b3, b4, b5, b6, b7, b8, b9]) h 9 b9 rfl
 exact h
theorem zoe {W : World} {a : Addr} {g i0 i1 i2 i3 i4 i5 i6 i7 i8 i9 : Nat} {u0 u1 u2 u3 u4 u5 u6 u7 u8 u9 : Value} (h : a.block ≠ g) : ((((((((((W.setCell ⟨g, i0, none⟩ u0).setCell ⟨g, i1, none⟩ u1).setCell ⟨g, i2, none⟩ u2).setCell ⟨g, i3, none⟩ u3).setCell ⟨g, i4, none⟩ u4).setCell ⟨g, i5, none⟩ u5).setCell ⟨g, i6, none⟩ u6).setCell ⟨g, i7, none⟩ u7).setCell ⟨g, i8, none⟩ u8).setCell ⟨g, i9, none⟩ u9).cell? a = W.cell? a := by
 repeat rw [cell_far h]
theorem zgc {α : Type} {d : Kd α} {e : TypeId} {w : World} {base : Nat} {ok : Nat → Prop} {v : Value} {xs : List α} {g i0 i1 i2 i3 i4 i5 i6 i7 i8 i9 : Nat} {u0 u1 u2 u3 u4 u5 u6 u7 u8 u9 : Value} (h : d.R e w base (fun k => ok k ∧ k ≠ g) v xs) : d.R e ((((((((((w.setCell ⟨g, i0, none⟩ u0).setCell ⟨g, i1, none⟩ u1).setCell ⟨g, i2, none⟩ u2).setCell ⟨g, i3, none⟩ u3).setCell ⟨g, i4, none⟩ u4).setCell ⟨g, i5, none⟩ u5).setCell ⟨g, i6, none⟩ u6).setCell ⟨g, i7, none⟩ u7).setCell ⟨g, i8, none⟩ u8).setCell ⟨g, i9, none⟩ u9) base (fun k => ok k ∧ k ≠ g) v xs :=
 farC (farC (farC (farC (farC (farC (farC (farC (farC (farC h)))))))))
theorem farC12 {α : Type} {d : Kd α} {e : TypeId} {w : World} {base : Nat} {ok : Nat → Prop} {v : Value} {xs : List α} {g i0 i1 i2 i3 i4 i5 i6 i7 i8 i9 i10 i11 : Nat} {u0 u1 u2 u3 u4 u5 u6 u7 u8 u9 u10 u11 : Value} (h : d.R e w base (fun k => ok k ∧ k ≠ g) v xs) : d.R e ((((((((((((w.setCell ⟨g, i0, none⟩ u0).setCell ⟨g, i1, none⟩ u1).setCell ⟨g, i2, none⟩ u2).setCell ⟨g, i3, none⟩ u3).setCell ⟨g, i4, none⟩ u4).setCell ⟨g, i5, none⟩ u5).setCell ⟨g, i6, none⟩ u6).setCell ⟨g, i7, none⟩ u7).setCell ⟨g, i8, none⟩ u8).setCell ⟨g, i9, none⟩ u9).setCell ⟨g, i10, none⟩ u10).setCell ⟨g, i11, none⟩ u11) base (fun k => ok k ∧ k ≠ g) v xs :=
 farC (farC (farC (farC (farC (farC (farC (farC (farC (farC (farC (farC h)))))))))))
end Go.Proofs.YtapaijpglfmfgaaDoorC
end
section
namespace Go.Proofs.YtapaijpglfmfgaaDoor.Q
open Go.RowKit YtapaijpglfmfgaaDoorH YtapaijpglfmfgaaDoorG YtapaijpglfmfgaaDoorW.PrintWords YtapaijpglfmfgaaDoorW.PrintLast YtapaijpglfmfgaaDoorW.PrintMore YtapaijpglfmfgaaDoorC
attribute [local go_sem] zsc zrc zbd zad zic zhc zqc ztc
mutual
def zgb.l0 : Nat → List (S99) → Int → Int → ByteArray → ByteArray → ByteArray → ByteArray → Bool → List (S99) → List (S101) → Bool → Bool → ByteArray → ByteArray → ByteArray → ByteArray → ByteArray → Bool → List (S54) → Bool → Bool → ByteArray → Option (ByteArray × ByteArray × ByteArray × ByteArray × Bool × (List (S54)) × (List (S58)) × Bool × Bool × ByteArray)
 | 0, _, _, _, _, _, _, _, _, _, _, _, _, _, _, _, _, _, _, _, _, _, _ => none
 | k + 1, x24, x25, x26, x102000, x102001, x102002, x102003, x102004, x102005, x102006, x102007, x102008, x102009, x104000, x104001, x104002, x104003, x104004, x104005, x104007, x104008, x104009 => if x26 < x25 then (if 0 ≤ x26 then (if x26 < (x24.length : Int) then (if x104005.length < 2932031007402 then (zgb.l0 k x24 x25 (wrap64 (x26 + 1)) x102000 x102001 x102002 x102003 x102004 x102005 x102006 x102007 x102008 x102009 x104000 x104001 x104002 x104003 x104004 (x104005 ++ [(⟨(zjd x24 x26).f0, (⟨(zjd x24 x26).f1.f0, (zjd x24 x26).f1.f1⟩ : S31), (zjd x24 x26).f2⟩ : S54)]) x104007 x104008 x104009) else (none)) else (none)) else (none)) else (zgb.l1 k x102006 (x102006.length : Int) 0 x104000 x104001 x104002 x104003 x104004 x104005 ([] : List (S58)) x104007 x104008 x104009)
def zgb.l1 : Nat → List (S101) → Int → Int → ByteArray → ByteArray → ByteArray → ByteArray → Bool → List (S54) → List (S58) → Bool → Bool → ByteArray → Option (ByteArray × ByteArray × ByteArray × ByteArray × Bool × (List (S54)) × (List (S58)) × Bool × Bool × ByteArray)
 | 0, _, _, _, _, _, _, _, _, _, _, _, _, _ => none
 | k + 1, x44, x45, x46, x104000, x104001, x104002, x104003, x104004, x104005, x104006, x104007, x104008, x104009 => if x46 < x45 then (if 0 ≤ x46 then (if x46 < (x44.length : Int) then (if x104006.length < 4398046511104 then (zgb.l1 k x44 x45 (wrap64 (x46 + 1)) x104000 x104001 x104002 x104003 x104004 x104005 (x104006 ++ [(⟨(zed x44 x46).f0, (⟨(zed x44 x46).f1.f0, (zed x44 x46).f1.f1⟩ : S31)⟩ : S58)]) x104007 x104008 x104009) else (none)) else (none)) else (none)) else (some (x104000, x104001, x104002, x104003, x104004, x104005, x104006, x104007, x104008, x104009))
end
def zgb.f (k : Nat) (a0_0 : ByteArray) (a0_1 : ByteArray) (a0_2 : ByteArray) (a0_3 : ByteArray) (a0_4 : Bool) (l0_5 : List (S99)) (l0_6 : List (S101)) (a0_7 : Bool) (a0_8 : Bool) (a0_9 : ByteArray) : Option (ByteArray × ByteArray × ByteArray × ByteArray × Bool × (List (S54)) × (List (S58)) × Bool × Bool × ByteArray) := zgb.l0 k l0_5 (l0_5.length : Int) 0 a0_0 a0_1 a0_2 a0_3 a0_4 l0_5 l0_6 a0_7 a0_8 a0_9 a0_0 a0_1 a0_2 a0_3 a0_4 ([] : List (S54)) a0_7 a0_8 a0_9
theorem zgb.calls (k : Nat) (a0_0 : ByteArray) (a0_1 : ByteArray) (a0_2 : ByteArray) (a0_3 : ByteArray) (a0_4 : Bool) (A0_5 : Option Addr) (c0_5 : Nat) (l0_5 : List (S99)) (A0_6 : Option Addr) (c0_6 : Nat) (l0_6 : List (S101)) (a0_7 : Bool) (a0_8 : Bool) (a0_9 : ByteArray) (r1 : ByteArray) (r2 : ByteArray) (r3 : ByteArray) (r4 : ByteArray) (r5 : Bool) (r6 : List (S54)) (r7 : List (S58)) (r8 : Bool) (r9 : Bool) (r10 : ByteArray) (w : World) (hr0_5 : Kd.C k99 w A0_5 l0_5.length l0_5) (hc0_5 : l0_5.length ≤ c0_5) (hr0_6 : Kd.C k101 w A0_6 l0_6.length l0_6) (hc0_6 : l0_6.length ≤ c0_6) (h : zgb.f k a0_0 a0_1 a0_2 a0_3 a0_4 l0_5 l0_6 a0_7 a0_8 a0_9 = some (r1, r2, r3, r4, r5, r6, r7, r8, r9, r10)) :
  Calls Tryd.prog 30 #[.agg #[.string a0_0, .string a0_1, .string a0_2, .string a0_3, .bool a0_4, .slice A0_5 l0_5.length c0_5, .slice A0_6 l0_6.length c0_6, .bool a0_7, .bool a0_8, .string a0_9]] w fun e w' => ∃ v5_ v6_ : Value, e = .returned (.agg #[.string r1, .string r2, .string r3, .string r4, .bool r5, v5_, v6_, .bool r8, .bool r9, .string r10]) ∧ Kd.R k54 54 w' w.heap.size (fun _ => True) v5_ r6 ∧ Kd.R k58 58 w' w.heap.size (fun _ => True) v6_ r7 ∧ Below w.heap.size w w' := by
 have hu79 := Tryd.underlying79
 have hu33 := Tryd.underlying33
 have hu77 := Tryd.underlying77
 have hu99 := Tryd.underlying99
 have hu54 := Tryd.underlying54
 have hu101 := Tryd.underlying101
 have hu58 := Tryd.underlying58
 have HR0_5 := za.mk hr0_5
 have HC0_5 := za.mk hc0_5
 clear hr0_5 hc0_5
 have HR0_6 := za.mk hr0_6
 have HC0_6 := za.mk hc0_6
 clear hr0_6 hc0_6
 have HB := za.mk (Below.refl w.heap.size w)
 have H : (zgb.l0 k l0_5 (l0_5.length : Int) 0 a0_0 a0_1 a0_2 a0_3 a0_4 l0_5 l0_6 a0_7 a0_8 a0_9 a0_0 a0_1 a0_2 a0_3 a0_4 ([] : List (S54)) a0_7 a0_8 a0_9) = some (r1, r2, r3, r4, r5, r6, r7, r8, r9, r10) := h
 clear h
 have H' := za.mk H
 clear H
 go_enter Tryd.func30, Tryd.ntmps30
 go_wp2_with (first | ((with_reducible refine zjb (N := 1) rfl ?_); refine zec ?hg (N := 1) ?hd (cs := #[.string a0_0, .string a0_1, .string a0_2, .string a0_3, .bool a0_4, .slice A0_5 l0_5.length c0_5, .slice A0_6 l0_6.length c0_6, .bool a0_7, .bool a0_8, .string a0_9]) (t := 79) ?hr ?_; (case hd => rfl); (case hg => rfl); (case hr => first | (go_simp; done) | (go_simp; rfl)); intro gb101 hg w2 hbox hb; have BK101 := za.mk hbox; have GW101 := za.mk ((by rw [hg]; exact (zl (by (with_reducible exact HB.out))) : w.heap.size ≤ gb101)); have GE101 := za.mk ((by rw [hg]; exact (zl (by (with_reducible exact HB.out))) : w.heap.size ≤ gb101)); replace HB := za.mk (zm (by (with_reducible exact HB.out)) hb); clear hb hbox hg) | ((with_reducible refine zjb (N := 2) rfl ?_); refine zec ?hg (N := 2) ?hd (cs := #[.string ⟨#[]⟩, .string ⟨#[]⟩, .string ⟨#[]⟩, .string ⟨#[]⟩, .bool false, .slice none 0 0, .slice none 0 0, .bool false, .bool false, .string ⟨#[]⟩]) (t := 33) ?hr ?_; (case hd => rfl); (case hg => rfl); (case hr => first | (go_simp; done) | (go_simp; rfl)); intro gb102 hg w3 hbox hb; have n0_ := za.mk (zk BK101.out hb); have n1_ := za.mk (zm (by (with_reducible exact HB.out)) hb); have n2_ := za.mk hbox; have n3_ := za.mk ((by rw [hg]; exact (zl (by (with_reducible exact HB.out))) : w.heap.size ≤ gb102)); have n4_ := za.mk ((by rw [hg]; exact (zl (by (with_reducible exact HB.out))) : w.heap.size ≤ gb102)); have n5_ := za.mk ((by rw [hg]; exact Nat.ne_of_lt (zac BK101.out) : gb101 ≠ gb102)); have n6_ := za.mk ((by rw [hg]; exact Nat.ne_of_gt (zac BK101.out) : gb102 ≠ gb101)); clear BK101; clear HB; have BK101 := n0_; have HB := n1_; have BK102 := n2_; have GW102 := n3_; have GE102 := n4_; have NB101_102 := n5_; have NB102_101 := n6_; clear n0_ n1_ n2_ n3_ n4_ n5_ n6_; clear hb hbox hg; have hnb4 := NB101_102.out; have hnc4 := NB102_101.out; obtain ⟨hcz5_0, hcz5_1, hcz5_2, hcz5_3, hcz5_4, hcz5_5, hcz5_6, hcz5_7, hcz5_8, hcz5_9, hfz5_0, hfz5_1, hfz5_2, hfz5_3, hfz5_4, hfz5_5, hfz5_6, hfz5_7, hfz5_8, hfz5_9⟩ := cl10 BK101.out) | ((with_reducible refine zjb (N := 3) rfl ?_); refine zec ?hg (N := 3) ?hd (cs := #[.string ⟨#[]⟩, .string ⟨#[]⟩, .string ⟨#[]⟩, .string ⟨#[]⟩, .bool false, .slice none 0 0, .slice none 0 0, .bool false, .bool false, .string ⟨#[]⟩]) (t := 33) ?hr ?_; (case hd => rfl); (case hg => rfl); (case hr => first | (go_simp; done) | (go_simp; rfl)); intro gb103 hg w6 hbox hb; have n0_ := za.mk (zk BK101.out hb); have n1_ := za.mk (zk BK102.out hb); have n2_ := za.mk (zm (by (with_reducible exact HB.out)) hb); have n3_ := za.mk hbox; have n4_ := za.mk ((by rw [hg]; exact (zl (by (with_reducible exact HB.out))) : w.heap.size ≤ gb103)); have n5_ := za.mk ((by rw [hg]; exact (zl (by (with_reducible exact HB.out))) : w.heap.size ≤ gb103)); have n6_ := za.mk ((by rw [hg]; exact Nat.ne_of_lt (zac BK101.out) : gb101 ≠ gb103)); have n7_ := za.mk ((by rw [hg]; exact Nat.ne_of_gt (zac BK101.out) : gb103 ≠ gb101)); have n8_ := za.mk ((by rw [hg]; exact Nat.ne_of_lt (zac BK102.out) : gb102 ≠ gb103)); have n9_ := za.mk ((by rw [hg]; exact Nat.ne_of_gt (zac BK102.out) : gb103 ≠ gb102)); clear BK101; clear BK102; clear HB; have BK101 := n0_; have BK102 := n1_; have HB := n2_; have BK103 := n3_; have GW103 := n4_; have GE103 := n5_; have NB101_103 := n6_; have NB103_101 := n7_; have NB102_103 := n8_; have NB103_102 := n9_; clear n0_ n1_ n2_ n3_ n4_ n5_ n6_ n7_ n8_ n9_; clear hb hbox hg; have hnb7 := NB103_101.out; have hnc7 := NB101_103.out; have hnb8 := NB103_102.out; have hnc8 := NB102_103.out; obtain ⟨hcz9_0, hcz9_1, hcz9_2, hcz9_3, hcz9_4, hcz9_5, hcz9_6, hcz9_7, hcz9_8, hcz9_9, hfz9_0, hfz9_1, hfz9_2, hfz9_3, hfz9_4, hfz9_5, hfz9_6, hfz9_7, hfz9_8, hfz9_9⟩ := cl10 BK103.out; obtain ⟨hcz10_0, hcz10_1, hcz10_2, hcz10_3, hcz10_4, hcz10_5, hcz10_6, hcz10_7, hcz10_8, hcz10_9, hfz10_0, hfz10_1, hfz10_2, hfz10_3, hfz10_4, hfz10_5, hfz10_6, hfz10_7, hfz10_8, hfz10_9⟩ := cl10 BK101.out))
 (try simp only [Act.put, List.setIfInBounds_toArray, List.set_cons_zero, List.set_cons_succ])
 go_loopg [26] k (fun kq v26 w' => ∃ (x26_1 : Int) (x104005_1 : List (S54)) (u104005 : Value), v26 = .int .i64 x26_1 ∧ za (zgb.l0 kq l0_5 (l0_5.length : Int) x26_1 a0_0 a0_1 a0_2 a0_3 a0_4 l0_5 l0_6 a0_7 a0_8 a0_9 a0_0 a0_1 a0_2 a0_3 a0_4 x104005_1 a0_7 a0_8 a0_9 = some (r1, r2, r3, r4, r5, r6, r7, r8, r9, r10)) ∧ za (kq ≤ k) ∧ za (Kd.R k54 54 w' w.heap.size (fun _ => True) u104005 x104005_1) ∧ za (w'.heap[gb101]? = some (.cells #[.string a0_0, .string a0_1, .string a0_2, .string a0_3, .bool a0_4, (.slice A0_5 l0_5.length c0_5), (.slice A0_6 l0_6.length c0_6), .bool a0_7, .bool a0_8, .string a0_9] 79 (0, 0))) ∧ za (w'.heap[gb102]? = some (.cells #[.string ⟨#[]⟩, .string ⟨#[]⟩, .string ⟨#[]⟩, .string ⟨#[]⟩, .bool false, (.slice none 0 0), (.slice none 0 0), .bool false, .bool false, .string ⟨#[]⟩] 33 (0, 0))) ∧ za (w'.heap[gb103]? = some (.cells #[.string a0_0, .string a0_1, .string a0_2, .string a0_3, .bool a0_4, u104005, (.slice none 0 0), .bool a0_7, .bool a0_8, .string a0_9] 33 (0, 0))) ∧ za (Below w.heap.size w w'))
 case atStart => exact ⟨(0), (([] : List (S54))), (.slice none 0 0), (by rfl), H', ⟨Nat.le_refl _⟩, ⟨by exact Kd.R_nil _ _ _ _ _⟩, ⟨by (iterate 10 refine zmb ?_ NB101_103.out _); exact BK101.out⟩, ⟨by (iterate 10 refine zmb ?_ NB102_103.out _); exact BK102.out⟩, ⟨by exact put10 BK103.out⟩, ⟨by repeat (first | (with_reducible first | exact HB.out | apply zo | apply ze | apply zy | refine zi ?_ GE101.out | refine zi ?_ GE102.out | refine zi ?_ GE103.out) | exact HB.out)⟩⟩
 case round =>
  clear H'
  clear hcz10_0 hcz10_1 hcz10_2 hcz10_3 hcz10_4 hcz10_5 hcz10_6 hcz10_7 hcz10_8 hcz10_9 hcz5_0 hcz5_1 hcz5_2 hcz5_3 hcz5_4 hcz5_5 hcz5_6 hcz5_7 hcz5_8 hcz5_9 hcz9_0 hcz9_1 hcz9_2 hcz9_3 hcz9_4 hcz9_5 hcz9_6 hcz9_7 hcz9_8 hcz9_9 hfz10_0 hfz10_1 hfz10_2 hfz10_3 hfz10_4 hfz10_5 hfz10_6 hfz10_7 hfz10_8 hfz10_9 hfz5_0 hfz5_1 hfz5_2 hfz5_3 hfz5_4 hfz5_5 hfz5_6 hfz5_7 hfz5_8 hfz5_9 hfz9_0 hfz9_1 hfz9_2 hfz9_3 hfz9_4 hfz9_5 hfz9_6 hfz9_7 hfz9_8 hfz9_9
  obtain ⟨x26_1, x104005_1, u104005, rfl, HA, HK1, HO_104005, BK101, BK102, BK103, HB⟩ := hrel
  cases gk with
  | zero => exact absurd HA.out (by simp [zgb.l0])
  | succ k1 =>
   have H := HA.out
   clear HA
   simp only [zgb.l0] at H
   by_cases c11 : x26_1 < (l0_5.length : Int)
   ·rw [if_pos c11] at H
    have c11b0 : decide (x26_1 < (l0_5.length : Int)) = true := decide_eq_true c11
    clear c11
    by_cases c12 : 0 ≤ x26_1
    ·rw [if_pos c12] at H
     have c12b0 : decide (0 ≤ x26_1) = true := decide_eq_true c12
     clear c12
     by_cases c13 : x26_1 < (l0_5.length : Int)
     ·rw [if_pos c13] at H
      have c13b0 : decide (x26_1 < (l0_5.length : Int)) = true := decide_eq_true c13
      clear c13
      by_cases c14 : x104005_1.length < 2932031007402
      ·rw [if_pos c14] at H
       have LMc14 := za.mk c14
       clear c14
       obtain ⟨y106, hy106⟩ : ∃ y_ : List (S54), y_ = (x104005_1 ++ [(⟨(zjd l0_5 x26_1).f0, (⟨(zjd l0_5 x26_1).f1.f0, (zjd l0_5 x26_1).f1.f1⟩ : S31), (zjd l0_5 x26_1).f2⟩ : S54)]) := ⟨_, rfl⟩
       replace H : (zgb.l0 k1 l0_5 (l0_5.length : Int) (wrap64 (x26_1 + 1)) a0_0 a0_1 a0_2 a0_3 a0_4 l0_5 l0_6 a0_7 a0_8 a0_9 a0_0 a0_1 a0_2 a0_3 a0_4 y106 a0_7 a0_8 a0_9) = some (r1, r2, r3, r4, r5, r6, r7, r8, r9, r10) := by (rw [hy106]; with_reducible exact H)
       have Ny106 := za.mk hy106
       clear hy106
       have H' := za.mk H
       clear H
       have p104 : 0 ≤ (x26_1 : Int) := of_decide_eq_true (by (with_reducible assumption))
       have q104 : x26_1 < (l0_5.length : Int) := of_decide_eq_true (by (with_reducible assumption))
       obtain ⟨ad104, e104, hx104_0, hx104_1, hx104_2, hx104_3⟩ := at_T99 HR0_5.out x26_1 p104 q104
       cases e104
       replace hx104_0 := (HB.out.cell (World.block_lt_of_cell? w _ hx104_0)).trans hx104_0
       replace hx104_1 := (HB.out.cell (World.block_lt_of_cell? w _ hx104_1)).trans hx104_1
       replace hx104_2 := (HB.out.cell (World.block_lt_of_cell? w _ hx104_2)).trans hx104_2
       replace hx104_3 := (HB.out.cell (World.block_lt_of_cell? w _ hx104_3)).trans hx104_3
       replace p104 := eq_true p104
       replace q104 := eq_true q104
       go_wp2_with (first | ((with_reducible refine zjb (N := 5) rfl ?_); refine zec ?hg (N := 5) ?hd (cs := #[.string ⟨#[]⟩, .bool false, .string ⟨#[]⟩, .int .i64 0]) (t := 99) ?hr ?_; (case hd => rfl); (case hg => rfl); (case hr => first | (go_simp; done) | (go_simp; rfl)); intro gb105 hg w15 hbox hb; have n0_ := za.mk (Kd.R_below (by (with_reducible repeat (first | apply Kd.R_alloc | apply Kd.R_drewN | apply Kd.R_drew)); exact HO_104005.out) hb); have n1_ := za.mk (zk BK101.out hb); have n2_ := za.mk (zk BK102.out hb); have n3_ := za.mk (zk BK103.out hb); have n4_ := za.mk (zm (by (with_reducible exact HB.out)) hb); have n5_ := za.mk hbox; have n6_ := za.mk ((by rw [hg]; exact (zl (by (with_reducible exact HB.out))) : w.heap.size ≤ gb105)); have n7_ := za.mk ((by rw [hg]; exact (zl (by (with_reducible exact HB.out))) : w.heap.size ≤ gb105)); have n8_ := za.mk ((by rw [hg]; exact Nat.ne_of_lt (zac BK101.out) : gb101 ≠ gb105)); have n9_ := za.mk ((by rw [hg]; exact Nat.ne_of_gt (zac BK101.out) : gb105 ≠ gb101)); have n10_ := za.mk ((by rw [hg]; exact Nat.ne_of_lt (zac BK102.out) : gb102 ≠ gb105)); have n11_ := za.mk ((by rw [hg]; exact Nat.ne_of_gt (zac BK102.out) : gb105 ≠ gb102)); have n12_ := za.mk ((by rw [hg]; exact Nat.ne_of_lt (zac BK103.out) : gb103 ≠ gb105)); have n13_ := za.mk ((by rw [hg]; exact Nat.ne_of_gt (zac BK103.out) : gb105 ≠ gb103)); clear HO_104005; clear BK101; clear BK102; clear BK103; clear HB; have HO_104005 := n0_; have BK101 := n1_; have BK102 := n2_; have BK103 := n3_; have HB := n4_; have BK105 := n5_; have GW105 := n6_; have GE105 := n7_; have NB101_105 := n8_; have NB105_101 := n9_; have NB102_105 := n10_; have NB105_102 := n11_; have NB103_105 := n12_; have NB105_103 := n13_; clear n0_ n1_ n2_ n3_ n4_ n5_ n6_ n7_ n8_ n9_ n10_ n11_ n12_ n13_; clear hb hbox hg; have hnb16 := NB105_101.out; have hnc16 := NB101_105.out; have hnb17 := NB105_102.out; have hnc17 := NB102_105.out; have hnb18 := NB105_103.out; have hnc18 := NB103_105.out; obtain ⟨hcz19_0, hcz19_1, hcz19_2, hcz19_3, hfz19_0, hfz19_1, hfz19_2, hfz19_3⟩ := cl4 BK105.out; have hnb20 := NB103_101.out; have hnc20 := NB101_103.out; have hnb21 := NB103_102.out; have hnc21 := NB102_103.out; obtain ⟨hcz22_0, hcz22_1, hcz22_2, hcz22_3, hcz22_4, hcz22_5, hcz22_6, hcz22_7, hcz22_8, hcz22_9, hfz22_0, hfz22_1, hfz22_2, hfz22_3, hfz22_4, hfz22_5, hfz22_6, hfz22_7, hfz22_8, hfz22_9⟩ := cl10 BK103.out) | ((with_reducible refine zqd (b := .append) (xs := #[.tmp 31, .tmp 39]) rfl ?_); at_builtin; refine Kd.R_append k54 (w0 := w) w.heap.size rfl (.tmp 31) (.tmp 39) 28 54 (.agg #[(.string ⟨#[]⟩), (.bool false), (.string ⟨#[]⟩), (.int .i64 0)]) 48 rfl Tryd.underlying28 info54 rfl (by decide) (by omega) u104005 x104005_1 (⟨(zjd l0_5 x26_1).f0, (⟨(zjd l0_5 x26_1).f1.f0, (zjd l0_5 x26_1).f1.f1⟩ : S31), (zjd l0_5 x26_1).f2⟩ : S54) [.string ((zjd l0_5 x26_1).f0), .bool ((zjd l0_5 x26_1).f1.f0), .string ((zjd l0_5 x26_1).f1.f1), .int .i64 ((zjd l0_5 x26_1).f2)] (fun _ => True) (fun _ => False) rfl (by (go_simp; done)) ?aP (fun _ hk => hk.elim) ?aF ?aO ?aB ?aS ?aL ?_; (case aP => exact k54_mkM _ _ _ (⟨(zjd l0_5 x26_1).f0, (⟨(zjd l0_5 x26_1).f1.f0, (zjd l0_5 x26_1).f1.f1⟩ : S31), (zjd l0_5 x26_1).f2⟩ : S54)); (case aB => exact (by (with_reducible refine zi ?_ GE105.out; with_reducible refine zi ?_ GE105.out; with_reducible refine zi ?_ GE105.out; with_reducible refine zi ?_ GE105.out; with_reducible exact HB.out))); (case aF => exact (fun _ _ => trivial)); (case aO => exact (by (with_reducible repeat (first | apply Kd.R_alloc | apply Kd.R_drewN | apply Kd.R_drew)); exact Kd.R_mono (farC (farC (farC (farC (Kd.R_types HO_104005.out BK105.out (by decide)))))) (fun _ hk => trivial))); (case aS => exact (zl (by (with_reducible refine zi ?_ GE105.out; with_reducible refine zi ?_ GE105.out; with_reducible refine zi ?_ GE105.out; with_reducible refine zi ?_ GE105.out; with_reducible exact HB.out)))); (case aL => have := LMc14.out; omega); intro v107 w23 ho hb hg hat; rw [← Ny106.out] at ho; replace BK101 := za.mk (zoc (g := gb101) (o := .cells #[.string a0_0, .string a0_1, .string a0_2, .string a0_3, .bool a0_4, .slice (some ad104) l0_5.length c0_5, .slice A0_6 l0_6.length c0_6, .bool a0_7, .bool a0_8, .string a0_9] 79 (0, 0)) (by (iterate 4 refine zmb ?_ NB101_105.out _); exact BK101.out) hg (Kd.R_ne HO_104005.out BK101.out (by decide))); replace BK102 := za.mk (zoc (g := gb102) (o := .cells #[.string ⟨#[]⟩, .string ⟨#[]⟩, .string ⟨#[]⟩, .string ⟨#[]⟩, .bool false, .slice none 0 0, .slice none 0 0, .bool false, .bool false, .string ⟨#[]⟩] 33 (0, 0)) (by (iterate 4 refine zmb ?_ NB102_105.out _); exact BK102.out) hg (Kd.R_ne HO_104005.out BK102.out (by decide))); replace BK103 := za.mk (zoc (g := gb103) (o := .cells #[.string a0_0, .string a0_1, .string a0_2, .string a0_3, .bool a0_4, u104005, .slice none 0 0, .bool a0_7, .bool a0_8, .string a0_9] 33 (0, 0)) (by (iterate 4 refine zmb ?_ NB103_105.out _); exact BK103.out) hg (Kd.R_ne HO_104005.out BK103.out (by decide))); replace BK105 := za.mk (zoc (g := gb105) (o := .cells #[.string ((zjd l0_5 x26_1).f0), .bool ((zjd l0_5 x26_1).f1.f0), .string ((zjd l0_5 x26_1).f1.f1), .int .i64 ((zjd l0_5 x26_1).f2)] 99 (0, 0)) (by exact put4 BK105.out) hg (Kd.R_ne HO_104005.out BK105.out (by decide))); have HO108 := za.mk ho; replace HB := za.mk hb; clear HO_104005; clear ho hb hg hat; obtain ⟨Ao24, co24, eo24⟩ := Kd.R_slice HO108.out; subst eo24; obtain ⟨hcz25_0, hcz25_1, hcz25_2, hcz25_3, hcz25_4, hcz25_5, hcz25_6, hcz25_7, hcz25_8, hcz25_9, hfz25_0, hfz25_1, hfz25_2, hfz25_3, hfz25_4, hfz25_5, hfz25_6, hfz25_7, hfz25_8, hfz25_9⟩ := cl10 BK103.out))
       go_roundg k1
       case measure => have := HK1.out; omega
       case rel => exact ⟨(wrap64 (x26_1 + 1)), (y106), (.slice Ao24 y106.length co24), (by rfl), H', ⟨by have := HK1.out; omega⟩, ⟨by (with_reducible repeat (first | apply Kd.R_alloc | apply Kd.R_drewN | apply Kd.R_drew)); exact Kd.R_mono (farC (Kd.R_types HO108.out BK103.out (by decide))) (fun _ hk => trivial)⟩, ⟨by refine zmb ?_ NB101_103.out _; exact BK101.out⟩, ⟨by refine zmb ?_ NB102_103.out _; exact BK102.out⟩, ⟨by refine zv (cs := #[.string a0_0, .string a0_1, .string a0_2, .string a0_3, .bool a0_4, u104005, .slice none 0 0, .bool a0_7, .bool a0_8, .string a0_9]) ?_ 5 _ rfl; exact BK103.out⟩, ⟨by (with_reducible refine zi ?_ GE103.out; with_reducible exact HB.out)⟩⟩
      ·rw [if_neg c14] at H
       exact absurd H (by simp)
     ·rw [if_neg c13] at H
      exact absurd H (by simp)
    ·rw [if_neg c12] at H
     exact absurd H (by simp)
   ·rw [if_neg c11] at H
    have c11b0 : decide (x26_1 < (l0_5.length : Int)) = false := decide_eq_false c11
    clear c11
    have H' := za.mk H
    clear H
    have hnb26 := NB101_102.out
    have hnc26 := NB102_101.out
    have hnb27 := NB101_103.out
    have hnc27 := NB103_101.out
    obtain ⟨hcz28_0, hcz28_1, hcz28_2, hcz28_3, hcz28_4, hcz28_5, hcz28_6, hcz28_7, hcz28_8, hcz28_9, hfz28_0, hfz28_1, hfz28_2, hfz28_3, hfz28_4, hfz28_5, hfz28_6, hfz28_7, hfz28_8, hfz28_9⟩ := cl10 BK101.out
    go_wp2
    (try simp only [Act.put, List.setIfInBounds_toArray, List.set_cons_zero, List.set_cons_succ])
    go_loopg [46] k1 (fun kq v46 w' => ∃ (x46_2 : Int) (x104006_2 : List (S58)) (u104006 : Value), v46 = .int .i64 x46_2 ∧ za (zgb.l1 kq l0_6 (l0_6.length : Int) x46_2 a0_0 a0_1 a0_2 a0_3 a0_4 x104005_1 x104006_2 a0_7 a0_8 a0_9 = some (r1, r2, r3, r4, r5, r6, r7, r8, r9, r10)) ∧ za (kq ≤ k1) ∧ za (Kd.R k54 54 w' w.heap.size (fun _ => True) u104005 x104005_1) ∧ za (Kd.R k58 58 w' w.heap.size (fun _ => True) u104006 x104006_2) ∧ za (w'.heap[gb101]? = some (.cells #[.string a0_0, .string a0_1, .string a0_2, .string a0_3, .bool a0_4, (.slice A0_5 l0_5.length c0_5), (.slice A0_6 l0_6.length c0_6), .bool a0_7, .bool a0_8, .string a0_9] 79 (0, 0))) ∧ za (w'.heap[gb102]? = some (.cells #[.string ⟨#[]⟩, .string ⟨#[]⟩, .string ⟨#[]⟩, .string ⟨#[]⟩, .bool false, (.slice none 0 0), (.slice none 0 0), .bool false, .bool false, .string ⟨#[]⟩] 33 (0, 0))) ∧ za (w'.heap[gb103]? = some (.cells #[.string a0_0, .string a0_1, .string a0_2, .string a0_3, .bool a0_4, u104005, u104006, .bool a0_7, .bool a0_8, .string a0_9] 33 (0, 0))) ∧ za (Below w.heap.size w w'))
    case atStart => exact ⟨(0), (([] : List (S58))), (.slice none 0 0), (by rfl), H', ⟨Nat.le_refl _⟩, ⟨by (with_reducible repeat (first | apply Kd.R_alloc | apply Kd.R_drewN | apply Kd.R_drew)); exact HO_104005.out⟩, ⟨by exact Kd.R_nil _ _ _ _ _⟩, ⟨by exact BK101.out⟩, ⟨by exact BK102.out⟩, ⟨by exact BK103.out⟩, ⟨by (with_reducible exact HB.out)⟩⟩
    case round =>
     clear H'
     clear c11b0 hcz28_0 hcz28_1 hcz28_2 hcz28_3 hcz28_4 hcz28_5 hcz28_6 hcz28_7 hcz28_8 hcz28_9 hfz28_0 hfz28_1 hfz28_2 hfz28_3 hfz28_4 hfz28_5 hfz28_6 hfz28_7 hfz28_8 hfz28_9
     obtain ⟨x46_2, x104006_2, u104006, rfl, HA, HK2, HO_104005, HO_104006, BK101, BK102, BK103, HB⟩ := hrel
     cases gk with
     | zero => exact absurd HA.out (by simp [zgb.l1])
     | succ k2 =>
      have H := HA.out
      clear HA
      simp only [zgb.l1] at H
      by_cases c29 : x46_2 < (l0_6.length : Int)
      ·rw [if_pos c29] at H
       have c29b0 : decide (x46_2 < (l0_6.length : Int)) = true := decide_eq_true c29
       clear c29
       by_cases c30 : 0 ≤ x46_2
       ·rw [if_pos c30] at H
        have c30b0 : decide (0 ≤ x46_2) = true := decide_eq_true c30
        clear c30
        by_cases c31 : x46_2 < (l0_6.length : Int)
        ·rw [if_pos c31] at H
         have c31b0 : decide (x46_2 < (l0_6.length : Int)) = true := decide_eq_true c31
         clear c31
         by_cases c32 : x104006_2.length < 4398046511104
         ·rw [if_pos c32] at H
          have LMc32 := za.mk c32
          clear c32
          obtain ⟨y111, hy111⟩ : ∃ y_ : List (S58), y_ = (x104006_2 ++ [(⟨(zed l0_6 x46_2).f0, (⟨(zed l0_6 x46_2).f1.f0, (zed l0_6 x46_2).f1.f1⟩ : S31)⟩ : S58)]) := ⟨_, rfl⟩
          replace H : (zgb.l1 k2 l0_6 (l0_6.length : Int) (wrap64 (x46_2 + 1)) a0_0 a0_1 a0_2 a0_3 a0_4 x104005_1 y111 a0_7 a0_8 a0_9) = some (r1, r2, r3, r4, r5, r6, r7, r8, r9, r10) := by (rw [hy111]; with_reducible exact H)
          have Ny111 := za.mk hy111
          clear hy111
          have H' := za.mk H
          clear H
          have p109 : 0 ≤ (x46_2 : Int) := of_decide_eq_true (by (with_reducible assumption))
          have q109 : x46_2 < (l0_6.length : Int) := of_decide_eq_true (by (with_reducible assumption))
          obtain ⟨ad109, e109, hx109_0, hx109_1, hx109_2⟩ := at_T101 HR0_6.out x46_2 p109 q109
          cases e109
          replace hx109_0 := (HB.out.cell (World.block_lt_of_cell? w _ hx109_0)).trans hx109_0
          replace hx109_1 := (HB.out.cell (World.block_lt_of_cell? w _ hx109_1)).trans hx109_1
          replace hx109_2 := (HB.out.cell (World.block_lt_of_cell? w _ hx109_2)).trans hx109_2
          replace p109 := eq_true p109
          replace q109 := eq_true q109
          go_wp2_with (first | ((with_reducible refine zjb (N := 7) rfl ?_); refine zec ?hg (N := 7) ?hd (cs := #[.int .i64 0, .bool false, .string ⟨#[]⟩]) (t := 101) ?hr ?_; (case hd => rfl); (case hg => rfl); (case hr => first | (go_simp; done) | (go_simp; rfl)); intro gb110 hg w33 hbox hb; have n0_ := za.mk (Kd.R_below (by (with_reducible repeat (first | apply Kd.R_alloc | apply Kd.R_drewN | apply Kd.R_drew)); exact HO_104005.out) hb); have n1_ := za.mk (Kd.R_below (by (with_reducible repeat (first | apply Kd.R_alloc | apply Kd.R_drewN | apply Kd.R_drew)); exact HO_104006.out) hb); have n2_ := za.mk (zk BK101.out hb); have n3_ := za.mk (zk BK102.out hb); have n4_ := za.mk (zk BK103.out hb); have n5_ := za.mk (zm (by (with_reducible exact HB.out)) hb); have n6_ := za.mk hbox; have n7_ := za.mk ((by rw [hg]; exact (zl (by (with_reducible exact HB.out))) : w.heap.size ≤ gb110)); have n8_ := za.mk ((by rw [hg]; exact (zl (by (with_reducible exact HB.out))) : w.heap.size ≤ gb110)); have n9_ := za.mk ((by rw [hg]; exact Nat.ne_of_lt (zac BK101.out) : gb101 ≠ gb110)); have n10_ := za.mk ((by rw [hg]; exact Nat.ne_of_gt (zac BK101.out) : gb110 ≠ gb101)); have n11_ := za.mk ((by rw [hg]; exact Nat.ne_of_lt (zac BK102.out) : gb102 ≠ gb110)); have n12_ := za.mk ((by rw [hg]; exact Nat.ne_of_gt (zac BK102.out) : gb110 ≠ gb102)); have n13_ := za.mk ((by rw [hg]; exact Nat.ne_of_lt (zac BK103.out) : gb103 ≠ gb110)); have n14_ := za.mk ((by rw [hg]; exact Nat.ne_of_gt (zac BK103.out) : gb110 ≠ gb103)); clear HO_104005; clear HO_104006; clear BK101; clear BK102; clear BK103; clear HB; have HO_104005 := n0_; have HO_104006 := n1_; have BK101 := n2_; have BK102 := n3_; have BK103 := n4_; have HB := n5_; have BK110 := n6_; have GW110 := n7_; have GE110 := n8_; have NB101_110 := n9_; have NB110_101 := n10_; have NB102_110 := n11_; have NB110_102 := n12_; have NB103_110 := n13_; have NB110_103 := n14_; clear n0_ n1_ n2_ n3_ n4_ n5_ n6_ n7_ n8_ n9_ n10_ n11_ n12_ n13_ n14_; clear hb hbox hg; have hnb34 := NB110_101.out; have hnc34 := NB101_110.out; have hnb35 := NB110_102.out; have hnc35 := NB102_110.out; have hnb36 := NB110_103.out; have hnc36 := NB103_110.out; obtain ⟨hcz37_0, hcz37_1, hcz37_2, hfz37_0, hfz37_1, hfz37_2⟩ := cl3 BK110.out; have hnb38 := NB103_101.out; have hnc38 := NB101_103.out; have hnb39 := NB103_102.out; have hnc39 := NB102_103.out; obtain ⟨hcz40_0, hcz40_1, hcz40_2, hcz40_3, hcz40_4, hcz40_5, hcz40_6, hcz40_7, hcz40_8, hcz40_9, hfz40_0, hfz40_1, hfz40_2, hfz40_3, hfz40_4, hfz40_5, hfz40_6, hfz40_7, hfz40_8, hfz40_9⟩ := cl10 BK103.out) | ((with_reducible refine zqd (b := .append) (xs := #[.tmp 51, .tmp 57]) rfl ?_); at_builtin; refine Kd.R_append k58 (w0 := w) w.heap.size rfl (.tmp 51) (.tmp 57) 29 58 (.agg #[(.int .i64 0), (.bool false), (.string ⟨#[]⟩)]) 32 rfl Tryd.underlying29 info58 rfl (by decide) (by omega) u104006 x104006_2 (⟨(zed l0_6 x46_2).f0, (⟨(zed l0_6 x46_2).f1.f0, (zed l0_6 x46_2).f1.f1⟩ : S31)⟩ : S58) [.int .i64 ((zed l0_6 x46_2).f0), .bool ((zed l0_6 x46_2).f1.f0), .string ((zed l0_6 x46_2).f1.f1)] (fun _ => True) (fun _ => False) rfl (by (go_simp; done)) ?aP (fun _ hk => hk.elim) ?aF ?aO ?aB ?aS ?aL ?_; (case aP => exact k58_mkM _ _ _ (⟨(zed l0_6 x46_2).f0, (⟨(zed l0_6 x46_2).f1.f0, (zed l0_6 x46_2).f1.f1⟩ : S31)⟩ : S58)); (case aB => exact (by (with_reducible refine zi ?_ GE110.out; with_reducible refine zi ?_ GE110.out; with_reducible refine zi ?_ GE110.out; with_reducible exact HB.out))); (case aF => exact (fun _ _ => trivial)); (case aO => exact (by (with_reducible repeat (first | apply Kd.R_alloc | apply Kd.R_drewN | apply Kd.R_drew)); exact Kd.R_mono (farC (farC (farC (Kd.R_types HO_104006.out BK110.out (by decide))))) (fun _ hk => trivial))); (case aS => exact (zl (by (with_reducible refine zi ?_ GE110.out; with_reducible refine zi ?_ GE110.out; with_reducible refine zi ?_ GE110.out; with_reducible exact HB.out)))); (case aL => have := LMc32.out; omega); intro v112 w41 ho hb hg hat; rw [← Ny111.out] at ho; replace HO_104005 := za.mk (Kd.R_over' (by (with_reducible repeat (first | apply Kd.R_alloc | apply Kd.R_drewN | apply Kd.R_drew)); exact (Kd.R_mono (farC (farC (farC (Kd.R_types HO_104005.out BK110.out (by decide))))) (fun _ h_ => h_.1))) (Kd.R_typed (by (with_reducible repeat (first | apply Kd.R_alloc | apply Kd.R_drewN | apply Kd.R_drew)); exact (Kd.R_mono (farC (farC (farC (Kd.R_types HO_104006.out BK110.out (by decide))))) (fun _ h_ => h_.1)))) (by decide) hg); replace BK101 := za.mk (zoc (g := gb101) (o := .cells #[.string a0_0, .string a0_1, .string a0_2, .string a0_3, .bool a0_4, .slice A0_5 l0_5.length c0_5, .slice (some ad109) l0_6.length c0_6, .bool a0_7, .bool a0_8, .string a0_9] 79 (0, 0)) (by (iterate 3 refine zmb ?_ NB101_110.out _); exact BK101.out) hg (Kd.R_ne HO_104006.out BK101.out (by decide))); replace BK102 := za.mk (zoc (g := gb102) (o := .cells #[.string ⟨#[]⟩, .string ⟨#[]⟩, .string ⟨#[]⟩, .string ⟨#[]⟩, .bool false, .slice none 0 0, .slice none 0 0, .bool false, .bool false, .string ⟨#[]⟩] 33 (0, 0)) (by (iterate 3 refine zmb ?_ NB102_110.out _); exact BK102.out) hg (Kd.R_ne HO_104006.out BK102.out (by decide))); replace BK103 := za.mk (zoc (g := gb103) (o := .cells #[.string a0_0, .string a0_1, .string a0_2, .string a0_3, .bool a0_4, u104005, u104006, .bool a0_7, .bool a0_8, .string a0_9] 33 (0, 0)) (by (iterate 3 refine zmb ?_ NB103_110.out _); exact BK103.out) hg (Kd.R_ne HO_104006.out BK103.out (by decide))); replace BK110 := za.mk (zoc (g := gb110) (o := .cells #[.int .i64 ((zed l0_6 x46_2).f0), .bool ((zed l0_6 x46_2).f1.f0), .string ((zed l0_6 x46_2).f1.f1)] 101 (0, 0)) (by exact put3 BK110.out) hg (Kd.R_ne HO_104006.out BK110.out (by decide))); have HO113 := za.mk ho; replace HB := za.mk hb; clear HO_104006; clear ho hb hg hat; obtain ⟨Ao42, co42, eo42⟩ := Kd.R_slice HO113.out; subst eo42; obtain ⟨hcz43_0, hcz43_1, hcz43_2, hcz43_3, hcz43_4, hcz43_5, hcz43_6, hcz43_7, hcz43_8, hcz43_9, hfz43_0, hfz43_1, hfz43_2, hfz43_3, hfz43_4, hfz43_5, hfz43_6, hfz43_7, hfz43_8, hfz43_9⟩ := cl10 BK103.out))
          go_roundg k2
          case measure => have := HK1.out; have := HK2.out; omega
          case rel => exact ⟨(wrap64 (x46_2 + 1)), (y111), (.slice Ao42 y111.length co42), (by rfl), H', ⟨by have := HK1.out; have := HK2.out; omega⟩, ⟨by (with_reducible repeat (first | apply Kd.R_alloc | apply Kd.R_drewN | apply Kd.R_drew)); exact Kd.R_mono (farC (Kd.R_types HO_104005.out BK103.out (by decide))) (fun _ hk => trivial)⟩, ⟨by (with_reducible repeat (first | apply Kd.R_alloc | apply Kd.R_drewN | apply Kd.R_drew)); exact Kd.R_mono (farC (Kd.R_types HO113.out BK103.out (by decide))) (fun _ hk => trivial)⟩, ⟨by refine zmb ?_ NB101_103.out _; exact BK101.out⟩, ⟨by refine zmb ?_ NB102_103.out _; exact BK102.out⟩, ⟨by refine zv (cs := #[.string a0_0, .string a0_1, .string a0_2, .string a0_3, .bool a0_4, u104005, u104006, .bool a0_7, .bool a0_8, .string a0_9]) ?_ 6 _ rfl; exact BK103.out⟩, ⟨by (with_reducible refine zi ?_ GE103.out; with_reducible exact HB.out)⟩⟩
         ·rw [if_neg c32] at H
          exact absurd H (by simp)
        ·rw [if_neg c31] at H
         exact absurd H (by simp)
       ·rw [if_neg c30] at H
        exact absurd H (by simp)
      ·rw [if_neg c29] at H
       have c29b0 : decide (x46_2 < (l0_6.length : Int)) = false := decide_eq_false c29
       clear c29
       simp only [Option.some.injEq, Prod.mk.injEq] at H
       obtain ⟨rfl, rfl, rfl, rfl, rfl, rfl, rfl, rfl, rfl, rfl⟩ := H
       have hnb44 := NB103_101.out
       have hnc44 := NB101_103.out
       have hnb45 := NB103_102.out
       have hnc45 := NB102_103.out
       obtain ⟨hcz46_0, hcz46_1, hcz46_2, hcz46_3, hcz46_4, hcz46_5, hcz46_6, hcz46_7, hcz46_8, hcz46_9, hfz46_0, hfz46_1, hfz46_2, hfz46_3, hfz46_4, hfz46_5, hfz46_6, hfz46_7, hfz46_8, hfz46_9⟩ := cl10 BK103.out
       have hnb47 := NB102_101.out
       have hnc47 := NB101_102.out
       obtain ⟨hcz48_0, hcz48_1, hcz48_2, hcz48_3, hcz48_4, hcz48_5, hcz48_6, hcz48_7, hcz48_8, hcz48_9, hfz48_0, hfz48_1, hfz48_2, hfz48_3, hfz48_4, hfz48_5, hfz48_6, hfz48_7, hfz48_8, hfz48_9⟩ := cl10 BK102.out
       obtain ⟨Ao49, co49, eo49⟩ := Kd.R_slice HO_104005.out
       subst eo49
       obtain ⟨Ao50, co50, eo50⟩ := Kd.R_slice HO_104006.out
       subst eo50
       go_wp2
       refine bodyPost_ret (results_cell_row rfl _ _ gb102 33 #[.string a0_0, .string a0_1, .string a0_2, .string a0_3, .bool a0_4, .slice Ao49 x104005_1.length co49, .slice Ao50 x104006_2.length co50, .bool a0_7, .bool a0_8, .string a0_9] (0, 0) _ rfl (by exact put10 BK102.out) Tryd.underlying33 rfl (by kernel_rfl)) rfl ?_
       exact ⟨_, _, by rfl, by (with_reducible repeat (first | apply Kd.R_alloc | apply Kd.R_drewN | apply Kd.R_drew)); exact Kd.R_mono (farC (farC (farC (farC (farC (farC (farC (farC (farC (farC (Kd.R_types HO_104005.out BK102.out (by decide)))))))))))) (fun _ hk => trivial), by (with_reducible repeat (first | apply Kd.R_alloc | apply Kd.R_drewN | apply Kd.R_drew)); exact Kd.R_mono (farC (farC (farC (farC (farC (farC (farC (farC (farC (farC (Kd.R_types HO_104006.out BK102.out (by decide)))))))))))) (fun _ hk => trivial), by repeat (first | (with_reducible first | exact HB.out | apply zo | apply ze | apply zy | refine zi ?_ GE101.out | refine zi ?_ GE102.out | refine zi ?_ GE103.out) | exact HB.out)⟩
def zbe.f  : Option (List ByteArray) := some (([(⟨#[97, 108, 112, 104, 97]⟩ : ByteArray), (⟨#[98, 101, 116, 97]⟩ : ByteArray), (⟨#[112, 114, 101]⟩ : ByteArray), (⟨#[114, 99]⟩ : ByteArray), (⟨#[99, 118, 115]⟩ : ByteArray), (⟨#[115, 118, 110]⟩ : ByteArray), (⟨#[103, 105, 116]⟩ : ByteArray), (⟨#[104, 103]⟩ : ByteArray), (⟨#[112]⟩ : ByteArray)] : List ByteArray))
theorem zbe.calls  (r : List ByteArray) (w : World) (h : zbe.f  = some r) :
  Calls Tryd.prog 17 #[] w fun e w' => ∃ v0_ : Value, e = .returned (v0_) ∧ Kd.R Kd.string 9 w' w.heap.size (fun _ => True) v0_ r ∧ Below w.heap.size w w' := by
 have HB := za.mk (Below.refl w.heap.size w)
 have H : (some (([(⟨#[97, 108, 112, 104, 97]⟩ : ByteArray), (⟨#[98, 101, 116, 97]⟩ : ByteArray), (⟨#[112, 114, 101]⟩ : ByteArray), (⟨#[114, 99]⟩ : ByteArray), (⟨#[99, 118, 115]⟩ : ByteArray), (⟨#[115, 118, 110]⟩ : ByteArray), (⟨#[103, 105, 116]⟩ : ByteArray), (⟨#[104, 103]⟩ : ByteArray), (⟨#[112]⟩ : ByteArray)] : List ByteArray))) = some r := h
 clear h
 obtain ⟨y114, hy114⟩ : ∃ y_ : List ByteArray, y_ = (([(⟨#[97, 108, 112, 104, 97]⟩ : ByteArray), (⟨#[98, 101, 116, 97]⟩ : ByteArray), (⟨#[112, 114, 101]⟩ : ByteArray), (⟨#[114, 99]⟩ : ByteArray), (⟨#[99, 118, 115]⟩ : ByteArray), (⟨#[115, 118, 110]⟩ : ByteArray), (⟨#[103, 105, 116]⟩ : ByteArray), (⟨#[104, 103]⟩ : ByteArray), (⟨#[112]⟩ : ByteArray)] : List ByteArray)) := ⟨_, rfl⟩
 replace H : (some y114) = some r := by (rw [hy114]; with_reducible exact H)
 have Ny114 := za.mk hy114
 clear hy114
 obtain rfl := Option.some.inj H
 go_enter Tryd.func17, Tryd.ntmps17
 go_wp2_with (((with_reducible refine zjb (N := 1) rfl ?_); refine Kd.R_lit Kd.string _ 9 ?hg (N := 1) ?hd (xs := ([(⟨#[97, 108, 112, 104, 97]⟩ : ByteArray), (⟨#[98, 101, 116, 97]⟩ : ByteArray), (⟨#[112, 114, 101]⟩ : ByteArray), (⟨#[114, 99]⟩ : ByteArray), (⟨#[99, 118, 115]⟩ : ByteArray), (⟨#[115, 118, 110]⟩ : ByteArray), (⟨#[103, 105, 116]⟩ : ByteArray), (⟨#[104, 103]⟩ : ByteArray), (⟨#[112]⟩ : ByteArray)] : List ByteArray)) (inner := [.string (⟨#[97, 108, 112, 104, 97]⟩ : ByteArray), .string (⟨#[98, 101, 116, 97]⟩ : ByteArray), .string (⟨#[112, 114, 101]⟩ : ByteArray), .string (⟨#[114, 99]⟩ : ByteArray), .string (⟨#[99, 118, 115]⟩ : ByteArray), .string (⟨#[115, 118, 110]⟩ : ByteArray), .string (⟨#[103, 105, 116]⟩ : ByteArray), .string (⟨#[104, 103]⟩ : ByteArray), .string (⟨#[112]⟩ : ByteArray)]) (ok := fun _ => True) (okp := fun _ => True) ?hr ?hp (fun _ hk => hk) trivial (Below.refl _ _) (Nat.le_refl _) (by simp) ?_; (case hd => rfl); (case hg => rfl); (case hr => first | (go_simp; done) | (go_simp; rfl)); (case hp => exact (Reps.one (show Kd.M Kd.string _ _ _ (⟨#[97, 108, 112, 104, 97]⟩ : ByteArray) [.string (⟨#[97, 108, 112, 104, 97]⟩ : ByteArray)] from rfl) (Reps.one (show Kd.M Kd.string _ _ _ (⟨#[98, 101, 116, 97]⟩ : ByteArray) [.string (⟨#[98, 101, 116, 97]⟩ : ByteArray)] from rfl) (Reps.one (show Kd.M Kd.string _ _ _ (⟨#[112, 114, 101]⟩ : ByteArray) [.string (⟨#[112, 114, 101]⟩ : ByteArray)] from rfl) (Reps.one (show Kd.M Kd.string _ _ _ (⟨#[114, 99]⟩ : ByteArray) [.string (⟨#[114, 99]⟩ : ByteArray)] from rfl) (Reps.one (show Kd.M Kd.string _ _ _ (⟨#[99, 118, 115]⟩ : ByteArray) [.string (⟨#[99, 118, 115]⟩ : ByteArray)] from rfl) (Reps.one (show Kd.M Kd.string _ _ _ (⟨#[115, 118, 110]⟩ : ByteArray) [.string (⟨#[115, 118, 110]⟩ : ByteArray)] from rfl) (Reps.one (show Kd.M Kd.string _ _ _ (⟨#[103, 105, 116]⟩ : ByteArray) [.string (⟨#[103, 105, 116]⟩ : ByteArray)] from rfl) (Reps.one (show Kd.M Kd.string _ _ _ (⟨#[104, 103]⟩ : ByteArray) [.string (⟨#[104, 103]⟩ : ByteArray)] from rfl) (Reps.one (show Kd.M Kd.string _ _ _ (⟨#[112]⟩ : ByteArray) [.string (⟨#[112]⟩ : ByteArray)] from rfl) (Reps.none _ _))))))))))); intro v115 w1 ho2 hb hg_ hnew_; clear hg_ hnew_; (first | rw [← Ny114.out] at ho2 | (simp only [Int.reduceToNat] at ho2; rw [← Ny114.out] at ho2)); have HO116 := za.mk (Kd.R_lower ho2 (zl (by (with_reducible exact HB.out)))); replace HB := za.mk (zm (by (with_reducible exact HB.out)) hb); clear hb ho2))
 go_ret
 exact ⟨_, by rfl, by (with_reducible repeat (first | apply Kd.R_alloc | apply Kd.R_drewN | apply Kd.R_drew)); exact HO116.out, by (with_reducible exact HB.out)⟩
def zfb.l0 : Nat → Int → ByteArray → Option (ByteArray)
 | 0, _, _ => none
 | k + 1, x0, x3 => if (Utf8.encode (wrap32 (IntKind.u16.wrap (48 + (Int.tmod x0 10))))).size + x3.size ≤ 9223372036854775807 then (if (IntKind.u16.wrap (Int.tdiv x0 10)) = 0 then (some ((Utf8.encode (wrap32 (IntKind.u16.wrap (48 + (Int.tmod x0 10))))) ++ x3)) else (zfb.l0 k (IntKind.u16.wrap (Int.tdiv x0 10)) ((Utf8.encode (wrap32 (IntKind.u16.wrap (48 + (Int.tmod x0 10))))) ++ x3))) else (none)
def zfb.f (k : Nat) (a0 : Int) : Option (ByteArray) := zfb.l0 k a0 (⟨#[]⟩ : ByteArray)
theorem zfb.calls (k : Nat) (a0 : Int) (r : ByteArray) (w : World) (h : zfb.f k a0 = some r) :
  Calls Tryd.prog 19 #[.int .u16 a0] w fun e w' => e = .returned (.string r) ∧ zt w w' := by
 have H : (zfb.l0 k a0 (⟨#[]⟩ : ByteArray)) = some r := h
 clear h
 have H' := za.mk H
 clear H
 go_enter Tryd.func19, Tryd.ntmps19
 go_wp2
 (try simp only [Act.put, List.setIfInBounds_toArray, List.set_cons_zero, List.set_cons_succ])
 go_loopg [0, 3] k (fun kq v0 v3 w' => ∃ (x0_1 : Int) (x3_1 : ByteArray), v0 = .int .u16 x0_1 ∧ v3 = .string x3_1 ∧ za (zfb.l0 kq x0_1 x3_1 = some r) ∧ za (kq ≤ k) ∧ zt w w')
 case atStart => exact ⟨(a0), ((⟨#[]⟩ : ByteArray)), (by rfl), (by rfl), H', ⟨Nat.le_refl _⟩, by repeat (first | exact zt.refl _ | apply zt.step)⟩
 case round =>
  clear H'
  obtain ⟨x0_1, x3_1, rfl, rfl, HA, HK1, ⟨m1, rfl⟩⟩ := hrel
  cases gk with
  | zero => exact absurd HA.out (by simp [zfb.l0])
  | succ k1 =>
   have H := HA.out
   clear HA
   simp only [zfb.l0] at H
   by_cases c2 : (Utf8.encode (wrap32 (IntKind.u16.wrap (48 + (Int.tmod x0_1 10))))).size + x3_1.size ≤ 9223372036854775807
   ·rw [if_pos c2] at H
    have c2b0 := eq_true c2
    have c2b1 : decide ((Utf8.encode (wrap32 (IntKind.u16.wrap (48 + (Int.tmod x0_1 10))))).size + x3_1.size ≤ 9223372036854775807) = true := decide_eq_true c2
    try have c2b2 : (9223372036854775807 < (Utf8.encode (wrap32 (IntKind.u16.wrap (48 + (Int.tmod x0_1 10))))).size + x3_1.size) = False := eq_false (Nat.not_lt.2 c2)
    by_cases c3 : (IntKind.u16.wrap (Int.tdiv x0_1 10)) = 0
    ·rw [if_pos c3] at H
     have c3b0 : ((IntKind.u16.wrap (Int.tdiv x0_1 10)) == 0) = true := beq_iff_eq.mpr c3
     have c3b1 : ((IntKind.u16.wrap (Int.tdiv x0_1 10)) != 0) = false := bne_eq_false_iff_eq.mpr c3
     clear c3
     obtain rfl := Option.some.inj H
     have hcv4 := fun (W_ : World) => run_convert_int_string (P := Tryd.prog) W_ 21 9 .i32 (wrap32 (IntKind.u16.wrap (48 + (Int.tmod x0_1 10)))) (by rw [Tryd.underlying21]; rfl) Tryd.underlying9
     go_wp2
     go_ret
     exact ⟨by rfl, by repeat (first | exact zt.refl _ | apply zt.step)⟩
    ·rw [if_neg c3] at H
     have c3b0 : ((IntKind.u16.wrap (Int.tdiv x0_1 10)) == 0) = false := beq_eq_false_iff_ne.mpr c3
     have c3b1 : ((IntKind.u16.wrap (Int.tdiv x0_1 10)) != 0) = true := bne_iff_ne.mpr c3
     have H' := za.mk H
     clear H
     have hcv5 := fun (W_ : World) => run_convert_int_string (P := Tryd.prog) W_ 21 9 .i32 (wrap32 (IntKind.u16.wrap (48 + (Int.tmod x0_1 10)))) (by rw [Tryd.underlying21]; rfl) Tryd.underlying9
     go_wp2
     go_roundg k1
     case measure => have := HK1.out; omega
     case rel => exact ⟨(IntKind.u16.wrap (Int.tdiv x0_1 10)), ((Utf8.encode (wrap32 (IntKind.u16.wrap (48 + (Int.tmod x0_1 10))))) ++ x3_1), (by rfl), (by rfl), H', ⟨by have := HK1.out; omega⟩, by repeat (first | exact zt.refl _ | apply zt.step)⟩
   ·rw [if_neg c2] at H
    exact absurd H (by simp)
end Go.Proofs.YtapaijpglfmfgaaDoor.Q
end
section
namespace Go.Proofs.YtapaijpglfmfgaaDoorG
open Go.RowKit YtapaijpglfmfgaaDoorH YtapaijpglfmfgaaDoorB YtapaijpglfmfgaaDoorM YtapaijpglfmfgaaDoorP YtapaijpglfmfgaaDoor.Q YtapaijpglfmfgaaDoorW.PrintWords YtapaijpglfmfgaaDoorW.PrintLast
def pNum (y : S99) : S54 := ⟨y.f0, ⟨y.f1.f0, y.f1.f1⟩, y.f2⟩
def pSuf (y : S101) : S58 := ⟨y.f0, ⟨y.f1.f0, y.f1.f1⟩⟩
theorem rd_at {α : Type} (z : α) (l : List α) (i : Nat) (h : i < l.length) : l.getD ((i : Int)).toNat z = l[i] := by
 rw [Int.toNat_natCast, List.getD_eq_getElem?_getD, List.getElem?_eq_getElem h]
 rfl
theorem plain_l1 (ss : List S101) (hs : ss.length ≤ 1000000) (o r l h : ByteArray) (i : Bool) (ys : List S54) (hb ng : Bool) (m : ByteArray) : ∀ (n k : Nat) (acc : List S58), ss.length - k = n → k ≤ ss.length → acc.length ≤ k →
  Ev (fun q => zgb.l1 q ss (ss.length : Int) (k : Int) o r l h i ys acc hb ng m) (o, r, l, h, i, ys, acc ++ (ss.drop k).map pSuf, hb, ng, m) := by
 intro n
 induction n with
 | zero =>
  intro k acc hn hk ha
  refine Ev.succ ?_
  simp only [zgb.l1]
  refine Ev.neg (fun _ => by first | omega | assumption | nofun) ?_
  refine Ev.eq (Ev.now _) ?_
  rw [List.drop_of_length_le (by omega), List.map_nil, List.append_nil]
 | succ n ih =>
  intro k acc hn hk ha
  have hlt : k < ss.length := by omega
  refine Ev.succ ?_
  simp only [zgb.l1]
  refine Ev.pos (fun _ => by first | omega | trivial | assumption) ?_
  refine Ev.pos (fun _ => by first | omega | trivial | assumption) ?_
  refine Ev.pos (fun _ => by first | omega | trivial | assumption) ?_
  refine Ev.pos (fun _ => by first | omega | trivial | assumption) ?_
  rw [w64 (by omega) (by omega)]
  refine Ev.eq (ih (k + 1) _ (by omega) (by omega) (by simp; omega)) ?_
  have e : zed ss (k : Int) = ss[k] := rd_at _ _ _ hlt
  rw [e, List.drop_eq_getElem_cons hlt, List.map_cons, List.append_assoc]
  rfl
theorem plain_l0 (ns : List S99) (ss : List S101) (hn1 : ns.length ≤ 1000000) (hs : ss.length ≤ 1000000) (o r l h : ByteArray) (i : Bool) (hb ng : Bool) (m : ByteArray) : ∀ (n k : Nat) (acc : List S54), ns.length - k = n → k ≤ ns.length → acc.length ≤ k →
  Ev (fun q => zgb.l0 q ns (ns.length : Int) (k : Int) o r l h i ns ss hb ng m o r l h i acc hb ng m) (o, r, l, h, i, acc ++ (ns.drop k).map pNum, ss.map pSuf, hb, ng, m) := by
 intro n
 induction n with
 | zero =>
  intro k acc hn hk ha
  refine Ev.succ ?_
  simp only [zgb.l0]
  refine Ev.neg (fun _ => by first | omega | assumption | nofun) ?_
  refine Ev.eq (plain_l1 ss hs o r l h i acc hb ng m _ 0 [] rfl (Nat.zero_le _) (Nat.le_refl _)) ?_
  rw [List.drop_zero, List.nil_append, show ns.drop k = [] from List.drop_of_length_le (by omega), List.map_nil, List.append_nil]
 | succ n ih =>
  intro k acc hn hk ha
  have hlt : k < ns.length := by omega
  refine Ev.succ ?_
  simp only [zgb.l0]
  refine Ev.pos (fun _ => by first | omega | trivial | assumption) ?_
  refine Ev.pos (fun _ => by first | omega | trivial | assumption) ?_
  refine Ev.pos (fun _ => by first | omega | trivial | assumption) ?_
  refine Ev.pos (fun _ => by first | omega | trivial | assumption) ?_
  rw [w64 (by omega) (by omega)]
  refine Ev.eq (ih (k + 1) _ (by omega) (by omega) (by simp; omega)) ?_
  have e : zjd ns (k : Int) = ns[k] := rd_at _ _ _ hlt
  rw [e, List.drop_eq_getElem_cons hlt, List.map_cons, List.append_assoc]
  rfl
theorem plain_ev (ns : List S99) (ss : List S101) (hn1 : ns.length ≤ 1000000) (hs : ss.length ≤ 1000000) (o r l h : ByteArray) (i hb ng : Bool) (m : ByteArray) :
  Ev (fun q => zgb.f q o r l h i ns ss hb ng m) (o, r, l, h, i, ns.map pNum, ss.map pSuf, hb, ng, m) := by
 have h1 := plain_l0 ns ss hn1 hs o r l h i hb ng m _ 0 [] rfl (Nat.zero_le _) (Nat.le_refl _)
 simpa [zgb.f] using h1
def numsA (c : List (List Int)) : List S54 := c.zipIdx.map fun p => ⟨strOfNums p.1, ⟨false, magB (decL p.1)⟩, (p.2 : Int)⟩
def sufsA (s : List (List Int × List Int)) : List S58 := s.map fun x => ⟨(wgt x.1 : Int), ⟨false, magB (decL x.2)⟩⟩
def znc.f (a0 : ByteArray) : Option (ByteArray × ByteArray × ByteArray × ByteArray × Bool × List S54 × List S58 × Bool × Bool × ByteArray × Bool) := if AOk a0 then
 some (a0, strOfNums (zyc (bytesOf a0)).r, strOfNums (zyc (bytesOf a0)).l, strOfNums (zyc (bytesOf a0)).h, (zyc (bytesOf a0)).i, numsA (zyc (bytesOf a0)).c, sufsA (zyc (bytesOf a0)).s, true, false, magB (decL (zyc (bytesOf a0)).b), true) else none
theorem nums_told {l : List Nm} {c : List (List Int)} (h : l.map (·.o) = c.map strOfNums) (hn : ∀ y ∈ l, y.n = dv y.o y.o.size) (hc : ∀ d ∈ c, ∀ x ∈ d, 0 ≤ x ∧ x ≤ 255) : (numsT l).map pNum = numsA c := by
  have e1 : ∀ (l : List Nm) (k : Nat), (∀ y ∈ l, y.n = dv y.o y.o.size) → (l.zipIdx k).map (fun p => pNum (tnN p.1 p.2)) = ((l.map (·.o)).zipIdx k).map (fun p => (⟨p.1, ⟨false, magB (dv p.1 p.1.size)⟩, (p.2 : Int)⟩ : S54)) := by
    intro l
    induction l with
    | nil => intro k _; rfl
    | cons y l ih =>
      intro k hy
      have e := hy y List.mem_cons_self
      simp only [List.map_cons, List.zipIdx_cons, List.map_cons]
      rw [ih (k + 1) (fun z hz => hy z (List.mem_cons_of_mem _ hz))]
      congr 1
      show pNum (tnN y k) = _
      unfold pNum tnN
      rw [e]
  have e2 : ∀ (c : List (List Int)) (k : Nat), (∀ d ∈ c, ∀ x ∈ d, 0 ≤ x ∧ x ≤ 255) → ((c.map strOfNums).zipIdx k).map (fun p => (⟨p.1, ⟨false, magB (dv p.1 p.1.size)⟩, (p.2 : Int)⟩ : S54)) = (c.zipIdx k).map (fun p => (⟨strOfNums p.1, ⟨false, magB (decL p.1)⟩, (p.2 : Int)⟩ : S54)) := by
    intro c
    induction c with
    | nil => intro k _; rfl
    | cons d c ih =>
      intro k hd
      simp only [List.map_cons, List.zipIdx_cons, List.map_cons]
      rw [ih (k + 1) (fun z hz => hd z (List.mem_cons_of_mem _ hz)), dv_str (hd d List.mem_cons_self)]
  unfold numsT numsA
  rw [List.map_map]
  have := e1 l 0 hn
  rw [h, e2 c 0 hc] at this
  exact this
theorem sufs_told2 {l : List Sx} {s : List (List Int × List Int)} (h : zzg l = zag (s.map convS)) (hd : ∀ x ∈ s, (∀ c ∈ x.2, isD c = true) ∧ x.2.length ≤ 1000000) : (sufsT l).map pSuf = sufsA s := by
 have e1 : (sufsT l).map pSuf = (zzg l).map (fun p => (⟨p.1, ⟨false, magB p.2⟩⟩ : S58)) := by
  unfold sufsT zzg
  rw [List.map_map, List.map_map]
  rfl
 rw [e1, h]
 unfold sufsA zag
 rw [List.map_map, List.map_map]
 refine List.map_congr_left (fun x hx => ?_)
 have := (or0_good (hd x hx).1 (hd x hx).2).2.2
 show (⟨(convS x).1, ⟨false, magB (dv (convS x).2 (convS x).2.size)⟩⟩ : S58) = _
 unfold convS
 simp only
 rw [this]
theorem AVAt.lens {w : World} {v : Value} {x : AV} (h : AVAt w v x) : x.c.length ≤ 1000000 ∧ x.s.length ≤ 1000000 := by
 obtain ⟨cv, sv, a, _, h1, h2, _⟩ := h
 obtain ⟨_, _, _, k1, _⟩ := h1
 obtain ⟨_, _, _, k2, _⟩ := h2
 exact ⟨k1, k2⟩
theorem parseImpl_ (w : World) (s : ByteArray) (p : AP) (q : Nat) (hGL : GLe w) (h0 : parseA q s = some p) :
  Calls Tryd.prog 12 #[.string s] w fun e w' => ∃ (x : AV) (v5 v6 : Value), Told x p ∧ e = .returned (.tuple #[.agg #[.string x.o, .string x.r, .string x.l, .string x.h, .bool x.i, v5, v6, .bool true, .bool false, .string (magB x.b)], .bool true]) ∧
   Kd.R k54 54 w' w.heap.size (fun _ => True) v5 ((numsT x.c).map pNum) ∧ Kd.R k58 58 w' w.heap.size (fun _ => True) v6 ((sufsT x.s).map pSuf) ∧ Below w.heap.size w w' := by
 have HP := za.mk (fun (W : World) (h : Below w.heap.size w W) => parse_ W s p q (hGL.lt h) h0)
 have HB := za.mk (Below.refl w.heap.size w)
 have G0 := za.mk (zdf w (.cells #[.string ⟨#[]⟩, .string ⟨#[]⟩, .string ⟨#[]⟩, .string ⟨#[]⟩, .bool false, .slice none 0 0, .slice none 0 0, .bool false, .bool false, .string ⟨#[]⟩] 33))
 clear hGL h0
 go_enter Tryd.func12, Tryd.ntmps12
 go_wp2_with (first | (go_at_call 29; (with_reducible refine (HP.out _ (zo HB.out _)).mono ?_); rintro e' w1 ⟨u, y, rfl, hy, hty, hb⟩; have HY := za.mk hy; have HYL := za.mk hy.lens; obtain ⟨p3, c3, p4, c4, a', e⟩ := hy.form; unfold AVv at e; subst e; have HTY := za.mk hty; have B1 := za.mk (zm (zo HB.out _) hb); have G1 := za.mk (zk G0.out hb); have xx := fun j : Nat => zj (zdf w1 (.cells #[.string y.o, .bool y.i, .string y.r, .slice p3 y.c.length c3, .string y.l, .slice p4 y.s.length c4, .string y.h, .pointer (some ⟨a', 0, none⟩)] 69)) j; clear hy hty hb) | (go_at_call 31; (with_reducible refine (told_ _ _ y (HY.out.below (zo (Below.refl _ _) _))).mono ?_); rintro e' w2 ⟨v5, v6, rfl, ho5, ho6, hb⟩; obtain ⟨A5, c5, rfl⟩ := Kd.R_slice ho5; obtain ⟨A6, c6, rfl⟩ := Kd.R_slice ho6; have O5 := za.mk ho5; have O6 := za.mk ho6; have B2 := za.mk (zm (zo B1.out _) hb); have G2 := za.mk (zk (zub G1.out _) hb); clear ho5 ho6 hb) | (go_at_call 30; obtain ⟨q2, hq2⟩ := plain_ev (numsT y.c) (sufsT y.s) (by rw [numsT_len]; exact HYL.out.1) (by unfold sufsT; rw [List.length_map]; exact HYL.out.2) y.o y.r y.l y.h y.i true false (magB y.b); (with_reducible refine (zgb.calls q2 y.o y.r y.l y.h y.i A5 c5 (numsT y.c) A6 c6 (sufsT y.s) true false (magB y.b) _ _ _ _ _ _ _ _ _ _ _ (Kd.R_reads' O5.out).2.2 (Kd.R_reads' O5.out).2.1 (Kd.R_reads' O6.out).2.2 (Kd.R_reads' O6.out).2.1 (hq2 q2 (Nat.le_refl _))).mono ?_); rintro e' w3 ⟨v7, v8, rfl, ho7, ho8, hb⟩; obtain ⟨A7, c7, rfl⟩ := Kd.R_slice ho7; obtain ⟨A8, c8, rfl⟩ := Kd.R_slice ho8; have B3 := za.mk (zm B2.out hb); have G3 := za.mk (zk G2.out hb); have zF := fun j : Nat => zj G3.out j; have zf := fun j : Nat => zu G3.out j; have O7 := za.mk (Kd.R_lower ho7 B2.out.size); have O8 := za.mk (Kd.R_lower ho8 B2.out.size); clear ho7 ho8 hb hq2))
 (try simp only [Exit.inBlock, Exit.then])
 have p0 := zv (cs' := #[.string y.o, .string ⟨#[]⟩, .string ⟨#[]⟩, .string ⟨#[]⟩, .bool false, .slice none 0 0, .slice none 0 0, .bool false, .bool false, .string ⟨#[]⟩]) G3.out 0 (.string y.o) rfl
 have p1 := zv (cs' := #[.string y.o, .string y.r, .string ⟨#[]⟩, .string ⟨#[]⟩, .bool false, .slice none 0 0, .slice none 0 0, .bool false, .bool false, .string ⟨#[]⟩]) p0 1 (.string y.r) rfl
 have p2 := zv (cs' := #[.string y.o, .string y.r, .string y.l, .string ⟨#[]⟩, .bool false, .slice none 0 0, .slice none 0 0, .bool false, .bool false, .string ⟨#[]⟩]) p1 2 (.string y.l) rfl
 have p3 := zv (cs' := #[.string y.o, .string y.r, .string y.l, .string y.h, .bool false, .slice none 0 0, .slice none 0 0, .bool false, .bool false, .string ⟨#[]⟩]) p2 3 (.string y.h) rfl
 have p4 := zv (cs' := #[.string y.o, .string y.r, .string y.l, .string y.h, .bool y.i, .slice none 0 0, .slice none 0 0, .bool false, .bool false, .string ⟨#[]⟩]) p3 4 (.bool y.i) rfl
 have p5 := zv (cs' := #[.string y.o, .string y.r, .string y.l, .string y.h, .bool y.i, .slice A7 (numsT y.c).length c7, .slice none 0 0, .bool false, .bool false, .string ⟨#[]⟩]) p4 5 (.slice A7 (numsT y.c).length c7) rfl
 have p6 := zv (cs' := #[.string y.o, .string y.r, .string y.l, .string y.h, .bool y.i, .slice A7 (numsT y.c).length c7, .slice A8 (sufsT y.s).length c8, .bool false, .bool false, .string ⟨#[]⟩]) p5 6 (.slice A8 (sufsT y.s).length c8) rfl
 have p7 := zv (cs' := #[.string y.o, .string y.r, .string y.l, .string y.h, .bool y.i, .slice A7 (numsT y.c).length c7, .slice A8 (sufsT y.s).length c8, .bool true, .bool false, .string ⟨#[]⟩]) p6 7 (.bool true) rfl
 have p8 := zv (cs' := #[.string y.o, .string y.r, .string y.l, .string y.h, .bool y.i, .slice A7 (numsT y.c).length c7, .slice A8 (sufsT y.s).length c8, .bool true, .bool false, .string ⟨#[]⟩]) p7 8 (.bool false) rfl
 have p9 := zv (cs' := #[.string y.o, .string y.r, .string y.l, .string y.h, .bool y.i, .slice A7 (numsT y.c).length c7, .slice A8 (sufsT y.s).length c8, .bool true, .bool false, .string (magB y.b)]) p8 9 (.string (magB y.b)) rfl
 have o7 := O7.out
 have o8 := O8.out
 rw [List.length_map] at o7 o8
 refine bodyPost_ret (zig rfl _ _ w.heap.size 33 #[.string y.o, .string y.r, .string y.l, .string y.h, .bool y.i, .slice A7 (numsT y.c).length c7, .slice A8 (sufsT y.s).length c8, .bool true, .bool false, .string (magB y.b)] (0, 0) _ rfl p9 Tryd.underlying33 rfl (by kernel_rfl)) rfl ?_
 have hk : ∀ (W : World), (∀ b, b ≠ w.heap.size → W.heap[b]? = w3.heap[b]?) → KeptT (butT 33) w3 W := fun W h b cs t fr hb ht => by
  refine h b (fun e => ?_)
  subst e; rw [G3.out] at hb; cases hb; exact absurd ht (by decide)
 have K := hk ((((((((((w3.setCell ⟨w.heap.size, 0, none⟩ (.string y.o)).setCell ⟨w.heap.size, 1, none⟩ (.string y.r)).setCell ⟨w.heap.size, 2, none⟩ (.string y.l)).setCell ⟨w.heap.size, 3, none⟩ (.string y.h)).setCell ⟨w.heap.size, 4, none⟩ (.bool y.i)).setCell ⟨w.heap.size, 5, none⟩ (.slice A7 (numsT y.c).length c7)).setCell ⟨w.heap.size, 6, none⟩ (.slice A8 (sufsT y.s).length c8)).setCell ⟨w.heap.size, 7, none⟩ (.bool true)).setCell ⟨w.heap.size, 8, none⟩ (.bool false)).setCell ⟨w.heap.size, 9, none⟩ (.string (magB y.b))) (fun b h1 => by repeat rw [Below.heap_setCell _ _ _ _ h1])
 refine ⟨y, _, _, HTY.out, rfl, zue (p := butT 33) rfl (by decide) o7 K, zue (p := butT 33) rfl (by decide) o8 K, ?_⟩
 have b5 := B3.out
 repeat (first | (with_reducible exact b5) | refine zi ?_ (Nat.le_refl _))
theorem znc.calls (a0 : ByteArray) (r1 r2 r3 r4 : ByteArray) (r5 : Bool) (r6 : List S54) (r7 : List S58) (r8 r9 : Bool) (r10 : ByteArray) (r11 : Bool) (w : World) (h : znc.f a0 = some (r1, r2, r3, r4, r5, r6, r7, r8, r9, r10, r11)) (hG : GL w) :
  Calls Tryd.prog 12 #[.string a0] w fun e w' => ∃ v5_ v6_ : Value, e = .returned (.tuple #[.agg #[.string r1, .string r2, .string r3, .string r4, .bool r5, v5_, v6_, .bool r8, .bool r9, .string r10], .bool r11]) ∧ Kd.R k54 54 w' w.heap.size (fun _ => True) v5_ r6 ∧ Kd.R k58 58 w' w.heap.size (fun _ => True) v6_ r7 ∧ Below w.heap.size w w' := by
 unfold znc.f at h
 by_cases hc : AOk a0
 ·rw [if_pos hc] at h
  simp only [Option.some.injEq, Prod.mk.injEq] at h
  obtain ⟨rfl, rfl, rfl, rfl, rfl, rfl, rfl, rfl, rfl, rfl, rfl⟩ := h
  obtain ⟨k1, h1⟩ := hc.ev
  refine (parseImpl_ w a0 _ k1 hG (h1 k1 (Nat.le_refl _))).mono ?_
  rintro e w' ⟨x, v5, v6, ⟨t1, t2, t3, t4, t5, t6, t7, t8, t9⟩, rfl, h5, h6, hb⟩
  have e1 : x.o = a0 := t1.trans (str_B a0)
  rw [nums_told t4 t5 (fun d hd => digs_asc (by
   obtain ⟨_, _, _, _, k⟩ := ztf (bytesOf a0).length (bytesOf a0)
   exact (k d hd).2))] at h5
  rw [sufs_told2 t7 (fun y hy => by
   have k := sufsP_mem _ _ y hy
   refine ⟨k.2.2, ?_⟩
   have k2 := zyg (bytesOf a0)
   have k3 := hc.1
   rw [zwb] at k3
   omega)] at h6
  refine ⟨v5, v6, ?_, h5, h6, hb⟩
  rw [e1, t2, t3, t6, t8, t9]
  rfl
 ·rw [if_neg hc] at h
  cases h
end Go.Proofs.YtapaijpglfmfgaaDoorG
end
section
namespace Go.Proofs.YtapaijpglfmfgaaDoor.Q
open Go.RowKit YtapaijpglfmfgaaDoorH YtapaijpglfmfgaaDoorG YtapaijpglfmfgaaDoorW.PrintWords YtapaijpglfmfgaaDoorW.PrintLast YtapaijpglfmfgaaDoorW.PrintMore YtapaijpglfmfgaaDoorC
attribute [local go_sem] zsc zrc zbd zad zic zhc zqc ztc
mutual
def zbb.l0 : Nat → ByteArray → List Int → Int → Option (Bool × ByteArray)
 | 0, _, _, _ => none
 | k + 1, x0, x3, x4 => if x4 < (x0.size : Int) then (if 0 ≤ x4 then (zbb.l1 k x0 x3 x4 (((bt x0 x4) - 48) % 256) 0) else (none)) else (if 0 ≤ (x3.length : Int) then (if ((x3.length : Int) : Int).toNat ≤ 281474976710656 then (zbb.l2 k x3 (List.replicate ((x3.length : Int) : Int).toNat 0) 0) else (none)) else (none))
def zbb.l1 : Nat → ByteArray → List Int → Int → Int → Int → Option (Bool × ByteArray)
 | 0, _, _, _, _, _ => none
 | k + 1, x0, x3, x4, x5, x6 => if x6 < (x3.length : Int) then (if 0 ≤ x6 then (zbb.l1 k x0 (x3.set (x6 : Int).toNat ((Int.tmod (wrap64 (x5 + (wrap64 (10 * (wrap64 (rd x3 x6)))))) 256) % 256)) x4 (wrap64 (Int.tdiv (wrap64 (x5 + (wrap64 (10 * (wrap64 (rd x3 x6)))))) 256)) (wrap64 (x6 + 1))) else (none)) else (if x5 > 0 then (if x3.length < 140737488355328 then (zbb.l0 k x0 (x3 ++ [(x5) % 256]) (wrap64 (x4 + 1))) else (none)) else (zbb.l0 k x0 x3 (wrap64 (x4 + 1))))
def zbb.l2 : Nat → List Int → List Int → Int → Option (Bool × ByteArray)
 | 0, _, _, _ => none
 | k + 1, x3, x7, x8 => if x8 < (x3.length : Int) then (if 0 ≤ x8 then (if 0 ≤ (wrap64 ((wrap64 ((x3.length : Int) - 1)) - x8)) then (if (wrap64 ((wrap64 ((x3.length : Int) - 1)) - x8)) < (x7.length : Int) then (zbb.l2 k x3 (x7.set ((wrap64 ((wrap64 ((x3.length : Int) - 1)) - x8)) : Int).toNat (rd x3 x8)) (wrap64 (x8 + 1))) else (none)) else (none)) else (none)) else (some (false, strOfNums x7))
end
def zbb.f (k : Nat) (a0 : ByteArray) : Option (Bool × ByteArray) := zbb.l0 k a0 ([] : List Int) 0
theorem zbb.calls (k : Nat) (a0 : ByteArray) (r1 : Bool) (r2 : ByteArray) (w : World) (h : zbb.f k a0 = some (r1, r2)) :
  Calls Tryd.prog 35 #[.string a0] w fun e w' => e = .returned (.agg #[.bool r1, .string r2]) ∧ Below w.heap.size w w' := by
 have hu31 := Tryd.underlying31
 have HB := za.mk (Below.refl w.heap.size w)
 have H : (zbb.l0 k a0 ([] : List Int) 0) = some (r1, r2) := h
 clear h
 have H' := za.mk H
 clear H
 go_enter Tryd.func35, Tryd.ntmps35
 go_wp2_with (((with_reducible refine zjb (N := 2) rfl ?_); refine zec ?hg (N := 2) ?hd (cs := #[.bool false, .string ⟨#[]⟩]) (t := 31) ?hr ?_; (case hd => rfl); (case hg => rfl); (case hr => first | (go_simp; done) | (go_simp; rfl)); intro gb117 hg w2 hbox hb; have BK117 := za.mk hbox; have GW117 := za.mk ((by rw [hg]; exact (zl (by (with_reducible exact HB.out))) : w.heap.size ≤ gb117)); have GE117 := za.mk ((by rw [hg]; exact (zl (by (with_reducible exact HB.out))) : w.heap.size ≤ gb117)); replace HB := za.mk (zm (by (with_reducible exact HB.out)) hb); clear hb hbox hg))
 (try simp only [Act.put, List.setIfInBounds_toArray, List.set_cons_zero, List.set_cons_succ])
 go_loopg [3, 4] k (fun kq v3 v4 w' => ∃ (x3_1 : List Int) (x4_1 : Int), v4 = .int .i64 x4_1 ∧ za (zbb.l0 kq a0 x3_1 x4_1 = some (r1, r2)) ∧ za (kq ≤ k) ∧ za (Kd.R (Kd.int .u8) 5 w' w.heap.size (fun _ => True) v3 x3_1) ∧ za (w'.heap[gb117]? = some (.cells #[.bool false, .string ⟨#[]⟩] 31 (0, 0))) ∧ za (Below w.heap.size w w'))
 case atStart => exact ⟨(([] : List Int)), (0), (by rfl), H', ⟨Nat.le_refl _⟩, ⟨by exact Kd.R_nil _ _ _ _ _⟩, ⟨by exact BK117.out⟩, ⟨by (with_reducible exact HB.out)⟩⟩
 case round =>
  clear H'
  obtain ⟨x3_1, x4_1, rfl, HA, HK1, HO_3, BK117, HB⟩ := hrel
  cases gk with
  | zero => exact absurd HA.out (by simp [zbb.l0])
  | succ k1 =>
   have H := HA.out
   clear HA
   simp only [zbb.l0] at H
   by_cases c3 : x4_1 < (a0.size : Int)
   ·rw [if_pos c3] at H
    have c3b0 : decide (x4_1 < (a0.size : Int)) = true := decide_eq_true c3
    clear c3
    by_cases c4 : 0 ≤ x4_1
    ·rw [if_pos c4] at H
     have c4b0 : decide (0 ≤ x4_1) = true := decide_eq_true c4
     clear c4
     have H' := za.mk H
     clear H
     have p5 : 0 ≤ (x4_1 : Int) := of_decide_eq_true (by (with_reducible assumption))
     have q5 : x4_1 < (a0.size : Int) := of_decide_eq_true (by (with_reducible assumption))
     have hx5 := bt_at a0 x4_1
     replace p5 := eq_true p5
     replace q5 := eq_true q5
     go_wp2
     (try simp only [Act.put, List.setIfInBounds_toArray, List.set_cons_zero, List.set_cons_succ])
     go_loopg [5, 6] k1 (fun kq v5 v6 w' => ∃ (x3_2 : List Int) (x5_2 : Int) (x6_2 : Int), v5 = .int .i64 x5_2 ∧ v6 = .int .i64 x6_2 ∧ za (zbb.l1 kq a0 x3_2 x4_1 x5_2 x6_2 = some (r1, r2)) ∧ za (kq ≤ k1) ∧ za (Kd.R (Kd.int .u8) 5 w' w.heap.size (fun _ => True) u3 x3_2) ∧ za (w'.heap[gb117]? = some (.cells #[.bool false, .string ⟨#[]⟩] 31 (0, 0))) ∧ za (Below w.heap.size w w'))
     case atStart => exact ⟨(x3_1), (((bt a0 x4_1) - 48) % 256), (0), (by rfl), (by rfl), H', ⟨Nat.le_refl _⟩, ⟨by (with_reducible repeat (first | apply Kd.R_alloc | apply Kd.R_drewN | apply Kd.R_drew)); exact HO_3.out⟩, ⟨by exact BK117.out⟩, ⟨by (with_reducible exact HB.out)⟩⟩
     case round =>
      clear H'
      clear c3b0 c4b0 p5 q5 hx5
      obtain ⟨x3_2, x5_2, x6_2, rfl, rfl, HA, HK2, HO_3, BK117, HB⟩ := hrel
      cases gk with
      | zero => exact absurd HA.out (by simp [zbb.l1])
      | succ k2 =>
       have H := HA.out
       clear HA
       simp only [zbb.l1] at H
       by_cases c6 : x6_2 < (x3_2.length : Int)
       ·rw [if_pos c6] at H
        have c6b0 : decide (x6_2 < (x3_2.length : Int)) = true := decide_eq_true c6
        clear c6
        by_cases c7 : 0 ≤ x6_2
        ·rw [if_pos c7] at H
         have c7b0 : decide (0 ≤ x6_2) = true := decide_eq_true c7
         clear c7
         obtain ⟨y119, hy119⟩ : ∃ y_ : List Int, y_ = (x3_2.set (x6_2 : Int).toNat ((Int.tmod (wrap64 (x5_2 + (wrap64 (10 * (wrap64 (rd x3_2 x6_2)))))) 256) % 256)) := ⟨_, rfl⟩
         replace H : (zbb.l1 k2 a0 y119 x4_1 (wrap64 (Int.tdiv (wrap64 (x5_2 + (wrap64 (10 * (wrap64 (rd x3_2 x6_2)))))) 256)) (wrap64 (x6_2 + 1))) = some (r1, r2) := by (rw [hy119]; with_reducible exact H)
         have Ny119 := za.mk hy119
         clear hy119
         have H' := za.mk H
         clear H
         obtain ⟨Ao9, co9, eo9⟩ := Kd.R_slice HO_3.out
         subst eo9
         have p118 : 0 ≤ (x6_2 : Int) := of_decide_eq_true (by (with_reducible assumption))
         have q118 : x6_2 < (x3_2.length : Int) := of_decide_eq_true (by (with_reducible assumption))
         obtain ⟨ad118, e118, hx118_0⟩ := Kd.at_int (Kd.R_reads' HO_3.out).2.2 x6_2 p118 q118
         cases e118
         replace p118 := eq_true p118
         replace q118 := eq_true q118
         have p8 : 0 ≤ (x6_2 : Int) := of_decide_eq_true (by (with_reducible assumption))
         have q8 : (x6_2 : Int) < ((x3_2.length : Int) : Int) := of_decide_eq_true (by (with_reducible assumption))
         obtain ⟨go8, co8, eo8, gb8, gl8, cl8, HG8⟩ := Kd.R_form HO_3.out (by omega)
         (first | cases eo8 | (injection eo8 with ea_ en_ ec_; (first | subst ea_ | (injection ea_ with ea_; subst ea_)); subst ec_; clear en_))
         have GB8 := za.mk gb8
         have GG8 := za.mk HG8
         clear gb8 gl8 HG8
         (first | simp only [add_plain] at hx118_0 | skip)
         obtain ⟨hx8_0, hf8_0⟩ := Kd.R_celln 0 HO_3.out (x6_2 : Int) p8 q8
         replace p8 := eq_true p8
         replace q8 := eq_true q8
         have HP10 := Kd.R_putg HO_3.out (x6_2 : Int) ((Int.tmod (wrap64 (x5_2 + (wrap64 (10 * (wrap64 (rd x3_2 x6_2)))))) 256) % 256)
         go_wp2_with (((with_reducible refine gate_store (t := 5) (p := 39) rfl ?_); refine store_event (t := 5) (p := 39) (v := ?vo_w11) (w1 := (wr.setCell ⟨go8, (x6_2 : Int).toNat, none⟩ (.int .u8 ((Int.tmod (wrap64 (x5_2 + (wrap64 (10 * (wrap64 (rd x3_2 x6_2)))))) 256) % 256)))) ?hg ?ho ?hn ?hr ?_; (case ho => rfl); (case hg => rfl); (case hn => rfl); (case hr => first | (go_simp; done) | (go_simp; rfl)); intro w11 hw; have hg : wr.grownBy w11 (some go8) := (by rw [hw]; exact HP10.2); have hp_ : Kd.R (Kd.int .u8) 5 w11 w.heap.size (fun _ => True) (.slice (some ⟨go8, 0, none⟩) x3_2.length co9) y119 := (by rw [hw, Ny119.out]; exact HP10.1); clear HP10; have n0_ := za.mk hp_; have n1_ := za.mk (zoc BK117.out hg (Kd.R_ne HO_3.out BK117.out (by decide))); have n2_ := za.mk ((by rw [hw]; exact zi (HB.out) GB8.out : Below w.heap.size w w11)); clear HO_3; clear BK117; clear HB; have HO_3 := n0_; have BK117 := n1_; have HB := n2_; clear n0_ n1_ n2_; clear hg hw hp_))
         go_roundg k2
         case measure => have := HK1.out; have := HK2.out; omega
         case rel => exact ⟨(y119), (wrap64 (Int.tdiv (wrap64 (x5_2 + (wrap64 (10 * (wrap64 (rd x3_2 x6_2)))))) 256)), (wrap64 (x6_2 + 1)), (by rfl), (by rfl), H', ⟨by have := HK1.out; have := HK2.out; omega⟩, ⟨by (with_reducible repeat (first | apply Kd.R_alloc | apply Kd.R_drewN | apply Kd.R_drew)); exact HO_3.out⟩, ⟨by exact BK117.out⟩, ⟨by (with_reducible exact HB.out)⟩⟩
        ·rw [if_neg c7] at H
         exact absurd H (by simp)
       ·rw [if_neg c6] at H
        have c6b0 : decide (x6_2 < (x3_2.length : Int)) = false := decide_eq_false c6
        clear c6
        by_cases c12 : x5_2 > 0
        ·rw [if_pos c12] at H
         have c12b0 : decide (0 < x5_2) = true := decide_eq_true c12
         clear c12
         by_cases c13 : x3_2.length < 140737488355328
         ·rw [if_pos c13] at H
          have LMc13 := za.mk c13
          clear c13
          obtain ⟨y120, hy120⟩ : ∃ y_ : List Int, y_ = (x3_2 ++ [(x5_2) % 256]) := ⟨_, rfl⟩
          replace H : (zbb.l0 k2 a0 y120 (wrap64 (x4_1 + 1))) = some (r1, r2) := by (rw [hy120]; with_reducible exact H)
          have Ny120 := za.mk hy120
          clear hy120
          have H' := za.mk H
          clear H
          obtain ⟨Ao14, co14, eo14⟩ := Kd.R_slice HO_3.out
          subst eo14
          go_wp2_with (((with_reducible refine zqd (b := .append) (xs := #[.tmp 44, .tmp 47]) rfl ?_); at_builtin; refine Kd.R_append (Kd.int .u8) (w0 := w) w.heap.size rfl (.tmp 44) (.tmp 47) 23 5 (.int .u8 0) 1 rfl Tryd.underlying23 info5 rfl (by decide) (by omega) (.slice Ao14 x3_2.length co14) x3_2 ((x5_2) % 256) [.int .u8 ((x5_2) % 256)] (fun _ => True) (fun _ => False) rfl rfl ?aP (fun _ hk => hk.elim) ?aF ?aO ?aB ?aS ?aL ?_; (case aP => exact rfl); (case aB => exact (by (with_reducible exact HB.out))); (case aF => exact (fun _ _ => trivial)); (case aO => exact (by (with_reducible repeat (first | apply Kd.R_alloc | apply Kd.R_drewN | apply Kd.R_drew)); exact HO_3.out)); (case aS => exact (zl (by (with_reducible exact HB.out)))); (case aL => have := LMc13.out; omega); intro v121 w15 ho hb hg hat; rw [← Ny120.out] at ho; replace BK117 := za.mk (zoc BK117.out hg (Kd.R_ne HO_3.out BK117.out (by decide))); have HO122 := za.mk ho; replace HB := za.mk hb; clear HO_3; clear ho hb hg hat))
          go_roundg k2
          case measure => have := HK1.out; have := HK2.out; omega
          case rel => exact ⟨(y120), (wrap64 (x4_1 + 1)), (by rfl), H', ⟨by have := HK1.out; have := HK2.out; omega⟩, ⟨by (with_reducible repeat (first | apply Kd.R_alloc | apply Kd.R_drewN | apply Kd.R_drew)); exact HO122.out⟩, ⟨by exact BK117.out⟩, ⟨by (with_reducible exact HB.out)⟩⟩
         ·rw [if_neg c13] at H
          exact absurd H (by simp)
        ·rw [if_neg c12] at H
         have c12b0 : decide (0 < x5_2) = false := decide_eq_false c12
         clear c12
         have H' := za.mk H
         clear H
         obtain ⟨Ao16, co16, eo16⟩ := Kd.R_slice HO_3.out
         subst eo16
         go_wp2
         go_roundg k2
         case measure => have := HK1.out; have := HK2.out; omega
         case rel => exact ⟨(x3_2), (wrap64 (x4_1 + 1)), (by rfl), H', ⟨by have := HK1.out; have := HK2.out; omega⟩, ⟨by (with_reducible repeat (first | apply Kd.R_alloc | apply Kd.R_drewN | apply Kd.R_drew)); exact HO_3.out⟩, ⟨by exact BK117.out⟩, ⟨by (with_reducible exact HB.out)⟩⟩
    ·rw [if_neg c4] at H
     exact absurd H (by simp)
   ·rw [if_neg c3] at H
    have c3b0 : decide (x4_1 < (a0.size : Int)) = false := decide_eq_false c3
    clear c3
    by_cases c17 : 0 ≤ (x3_1.length : Int)
    ·rw [if_pos c17] at H
     have c17b0 := eq_true c17
     have c17b1 : decide (0 ≤ (x3_1.length : Int)) = true := decide_eq_true c17
     clear c17
     by_cases c18 : ((x3_1.length : Int) : Int).toNat ≤ 281474976710656
     ·rw [if_pos c18] at H
      have c18b0 := eq_true c18
      have c18b1 : decide (((x3_1.length : Int) : Int).toNat ≤ 281474976710656) = true := decide_eq_true c18
      clear c18
      obtain ⟨y123, hy123⟩ : ∃ y_ : List Int, y_ = (List.replicate ((x3_1.length : Int) : Int).toNat 0) := ⟨_, rfl⟩
      replace H : (zbb.l2 k1 x3_1 y123 0) = some (r1, r2) := by (rw [hy123]; with_reducible exact H)
      have Ny123 := za.mk hy123
      clear hy123
      have H' := za.mk H
      clear H
      obtain ⟨Ao19, co19, eo19⟩ := Kd.R_slice HO_3.out
      subst eo19
      go_wp2_with (((with_reducible refine zjb (N := 51) rfl ?_); refine Kd.R_make (Kd.int .u8) _ 5 rfl (N := 51) rfl 23 _ _ rfl (x3_1.length : Int) rfl rfl Tryd.underlying23 (.int .u8 0) 1 info5 rfl (by decide) (by omega) 0 (ok := fun _ => True) (okp := fun _ => True) rfl (fun _ hk => hk) trivial (of_decide_eq_true (by (with_reducible assumption))) (Nat.le_trans (Nat.mul_le_mul_right _ (of_decide_eq_true (by (with_reducible assumption)) : (x3_1.length : Int).toNat ≤ 281474976710656)) (by omega)) (Below.refl _ _) (Nat.le_refl _) ?_; intro v124 w20 ho21 hb hg_ hnew_; clear hg_ hnew_; (first | rw [← Ny123.out] at ho21 | (simp only [Int.reduceToNat] at ho21; rw [← Ny123.out] at ho21)); have n0_ := za.mk (Kd.R_elder' (by (with_reducible repeat (first | apply Kd.R_alloc | apply Kd.R_drewN | apply Kd.R_drew)); exact HO_3.out) (Kd.R_base ho21) hb); have n1_ := za.mk (Kd.R_lower (Kd.R_new' ho21 (Kd.R_lt (by (with_reducible repeat (first | apply Kd.R_alloc | apply Kd.R_drewN | apply Kd.R_drew)); exact HO_3.out))) (zl (by (with_reducible exact HB.out)))); have n2_ := za.mk (zk BK117.out hb); have n3_ := za.mk (zm (by (with_reducible exact HB.out)) hb); clear HO_3; clear BK117; clear HB; have HO_3 := n0_; have HO125 := n1_; have BK117 := n2_; have HB := n3_; clear n0_ n1_ n2_ n3_; clear hb ho21))
      (try simp only [Act.put, List.setIfInBounds_toArray, List.set_cons_zero, List.set_cons_succ])
      go_loopg [8] k1 (fun kq v8 w' => ∃ (x7_2 : List Int) (x8_2 : Int), v8 = .int .i64 x8_2 ∧ za (zbb.l2 kq x3_1 x7_2 x8_2 = some (r1, r2)) ∧ za (kq ≤ k1) ∧ za (Kd.R (Kd.int .u8) 5 w' w.heap.size (fun k_ => some k_ ≠ (v124 : Value).ownBlock) (.slice Ao19 x3_1.length co19) x3_1) ∧ za (Kd.R (Kd.int .u8) 5 w' w.heap.size (fun k_ => some k_ ≠ ((.slice Ao19 x3_1.length co19) : Value).ownBlock) v124 x7_2) ∧ za (w'.heap[gb117]? = some (.cells #[.bool false, .string ⟨#[]⟩] 31 (0, 0))) ∧ za (Below w.heap.size w w'))
      case atStart => exact ⟨(y123), (0), (by rfl), H', ⟨Nat.le_refl _⟩, ⟨by (with_reducible repeat (first | apply Kd.R_alloc | apply Kd.R_drewN | apply Kd.R_drew)); exact Kd.R_mono HO_3.out (fun _ hk => hk.2)⟩, ⟨by (with_reducible repeat (first | apply Kd.R_alloc | apply Kd.R_drewN | apply Kd.R_drew)); exact Kd.R_mono HO125.out (fun _ hk => hk.2)⟩, ⟨by exact BK117.out⟩, ⟨by (with_reducible exact HB.out)⟩⟩
      case round =>
       clear H'
       clear c3b0 c17b0 c17b1 c18b0 c18b1
       obtain ⟨x7_2, x8_2, rfl, HA, HK2, HO_3, HO_7, BK117, HB⟩ := hrel
       cases gk with
       | zero => exact absurd HA.out (by simp [zbb.l2])
       | succ k2 =>
        have H := HA.out
        clear HA
        simp only [zbb.l2] at H
        by_cases c22 : x8_2 < (x3_1.length : Int)
        ·rw [if_pos c22] at H
         have c22b0 : decide (x8_2 < (x3_1.length : Int)) = true := decide_eq_true c22
         clear c22
         by_cases c23 : 0 ≤ x8_2
         ·rw [if_pos c23] at H
          have c23b0 : decide (0 ≤ x8_2) = true := decide_eq_true c23
          clear c23
          obtain ⟨ji24, hji24⟩ : ∃ j_ : Int, (wrap64 ((wrap64 ((x3_1.length : Int) - 1)) - x8_2)) = j_ := ⟨_, rfl⟩
          replace H : (if 0 ≤ (ji24) then (if (ji24) < (x7_2.length : Int) then (zbb.l2 k2 x3_1 (x7_2.set ((ji24) : Int).toNat (rd x3_1 x8_2)) (wrap64 (x8_2 + 1))) else (none)) else (none)) = some (r1, r2) := by (rw [hji24] at H; exact H)
          have hji24w : (IntKind.i64.wrap ((wrap64 ((x3_1.length : Int) - 1)) - x8_2)) = ji24 := (i64_w _).trans hji24
          by_cases c25 : 0 ≤ (ji24)
          ·rw [if_pos c25] at H
           have c25b0 : decide (0 ≤ (ji24)) = true := decide_eq_true c25
           clear c25
           by_cases c26 : (ji24) < (x7_2.length : Int)
           ·rw [if_pos c26] at H
            have c26b0 : decide ((ji24) < (x7_2.length : Int)) = true := decide_eq_true c26
            clear c26
            obtain ⟨y127, hy127⟩ : ∃ y_ : List Int, y_ = (x7_2.set ((ji24) : Int).toNat (rd x3_1 x8_2)) := ⟨_, rfl⟩
            replace H : (zbb.l2 k2 x3_1 y127 (wrap64 (x8_2 + 1))) = some (r1, r2) := by (rw [hy127]; with_reducible exact H)
            have Ny127 := za.mk hy127
            clear hy127
            have H' := za.mk H
            clear H
            have p126 : 0 ≤ (x8_2 : Int) := of_decide_eq_true (by (with_reducible assumption))
            have q126 : x8_2 < (x3_1.length : Int) := of_decide_eq_true (by (with_reducible assumption))
            obtain ⟨ad126, e126, hx126_0⟩ := Kd.at_int (Kd.R_reads' HO_3.out).2.2 x8_2 p126 q126
            cases e126
            replace p126 := eq_true p126
            replace q126 := eq_true q126
            have p27 : 0 ≤ ((ji24) : Int) := of_decide_eq_true (by (with_reducible assumption))
            have q27 : ((ji24) : Int) < ((x7_2.length : Int) : Int) := of_decide_eq_true (by (with_reducible assumption))
            obtain ⟨go27, co27, eo27, gb27, gl27, cl27, HG27⟩ := Kd.R_form HO_7.out (by omega)
            (first | cases eo27 | (injection eo27 with ea_ en_ ec_; (first | subst ea_ | (injection ea_ with ea_; subst ea_)); subst ec_; clear en_))
            have GB27 := za.mk gb27
            have GG27 := za.mk HG27
            clear gb27 gl27 HG27
            obtain ⟨hx27_0, hf27_0⟩ := Kd.R_celln 0 HO_7.out ((ji24) : Int) p27 q27
            replace p27 := eq_true p27
            replace q27 := eq_true q27
            have HP28 := Kd.R_putg HO_7.out ((ji24) : Int) (rd x3_1 x8_2)
            go_wp2_with (((with_reducible refine gate_store (t := 5) (p := 68) rfl ?_); refine store_event (t := 5) (p := 68) (v := ?vo_w29) (w1 := (wr.setCell ⟨go27, ((ji24) : Int).toNat, none⟩ (.int .u8 (rd x3_1 x8_2)))) ?hg ?ho ?hn ?hr ?_; (case ho => rfl); (case hg => rfl); (case hn => rfl); (case hr => first | (go_simp; done) | (go_simp; rfl)); intro w29 hw; have hg : wr.grownBy w29 (some go27) := (by rw [hw]; exact HP28.2); have hp_ : Kd.R (Kd.int .u8) 5 w29 w.heap.size (fun k_ => some k_ ≠ (.slice (some ad126) x3_1.length co19 : Value).ownBlock) (.slice (some ⟨go27, 0, none⟩) x7_2.length co27) y127 := (by rw [hw, Ny127.out]; exact HP28.1); clear HP28; have n0_ := za.mk (Kd.R_after (v := (.slice (some ⟨go27, 0, none⟩) x7_2.length co27)) (v1 := (.slice (some ⟨go27, 0, none⟩) x7_2.length co27)) (ok := (fun _ => True)) (by (with_reducible repeat (first | apply Kd.R_alloc | apply Kd.R_drewN | apply Kd.R_drew)); exact Kd.R_mono HO_3.out (fun _ hk => ⟨trivial, hk⟩)) hg (.inl rfl)); have n1_ := za.mk hp_; have n2_ := za.mk (zoc BK117.out hg (Kd.R_ne HO_7.out BK117.out (by decide))); have n3_ := za.mk ((by rw [hw]; exact zi (HB.out) GB27.out : Below w.heap.size w w29)); clear HO_3; clear HO_7; clear BK117; clear HB; have HO_3 := n0_; have HO_7 := n1_; have BK117 := n2_; have HB := n3_; clear n0_ n1_ n2_ n3_; clear hg hw hp_))
            go_roundg k2
            case measure => have := HK1.out; have := HK2.out; omega
            case rel => exact ⟨(y127), (wrap64 (x8_2 + 1)), (by rfl), H', ⟨by have := HK1.out; have := HK2.out; omega⟩, ⟨by (with_reducible repeat (first | apply Kd.R_alloc | apply Kd.R_drewN | apply Kd.R_drew)); exact Kd.R_mono HO_3.out (fun _ hk => hk.2)⟩, ⟨by (with_reducible repeat (first | apply Kd.R_alloc | apply Kd.R_drewN | apply Kd.R_drew)); exact HO_7.out⟩, ⟨by exact BK117.out⟩, ⟨by (with_reducible exact HB.out)⟩⟩
           ·rw [if_neg c26] at H
            exact absurd H (by simp)
          ·rw [if_neg c25] at H
           exact absurd H (by simp)
         ·rw [if_neg c23] at H
          exact absurd H (by simp)
        ·rw [if_neg c22] at H
         have c22b0 : decide (x8_2 < (x3_1.length : Int)) = false := decide_eq_false c22
         clear c22
         simp only [Option.some.injEq, Prod.mk.injEq] at H
         obtain ⟨rfl, rfl⟩ := H
         have hcv30 := own_string (P := Tryd.prog) Tryd.underlying23 Tryd.underlying5 Tryd.underlying9 (Kd.own_of_R HO_7.out)
         obtain ⟨hcz31_0, hcz31_1, hfz31_0, hfz31_1⟩ := cl2 BK117.out
         go_wp2
         refine bodyPost_ret (results_cell_row rfl _ _ gb117 31 #[.bool false, .string (strOfNums x7_2)] (0, 0) _ rfl (by exact put2 BK117.out) Tryd.underlying31 rfl (by kernel_rfl)) rfl ?_
         exact ⟨by rfl, by (with_reducible refine zi ?_ GE117.out; with_reducible refine zi ?_ GE117.out; with_reducible exact HB.out)⟩
     ·rw [if_neg c18] at H
      exact absurd H (by simp)
    ·rw [if_neg c17] at H
     exact absurd H (by simp)
def zib.f (a0 : Int) : Option (Bool) := if a0 ≥ 48 then (some (decide (a0 ≤ 57))) else (some false)
theorem zib.calls (a0 : Int) (r : Bool) (w : World) (h : zib.f a0 = some r) :
  Calls Tryd.prog 34 #[.int .u8 a0] w fun e w' => e = .returned (.bool r) ∧ zt w w' := by
 have H : (if a0 ≥ 48 then (some (decide (a0 ≤ 57))) else (some false)) = some r := h
 clear h
 by_cases c2 : a0 ≥ 48
 ·rw [if_pos c2] at H
  have c2b0 : decide (48 ≤ a0) = true := decide_eq_true c2
  clear c2
  obtain rfl := Option.some.inj H
  go_enter Tryd.func34, Tryd.ntmps34
  go_wp2
  go_ret
  exact ⟨by rfl, by repeat (first | exact zt.refl _ | apply zt.step)⟩
 ·rw [if_neg c2] at H
  have c2b0 : decide (48 ≤ a0) = false := decide_eq_false c2
  clear c2
  obtain rfl := Option.some.inj H
  go_enter Tryd.func34, Tryd.ntmps34
  go_wp2
  go_ret
  exact ⟨by rfl, by repeat (first | exact zt.refl _ | apply zt.step)⟩
def zsb.l0 : Nat → ByteArray → Int → Option (Bool)
 | 0, _, _ => none
 | k + 1, x0, x3 => if x3 < (x0.size : Int) then (if 0 ≤ x3 then ((zib.f (bt x0 x3)).bind fun t128 => (if t128 = true then (zsb.l0 k x0 (wrap64 (x3 + 1))) else (some false))) else (none)) else (some (decide ((x0.size : Int) > 0)))
def zsb.f (k : Nat) (a0 : ByteArray) : Option (Bool) := zsb.l0 k a0 0
theorem zsb.calls (k : Nat) (a0 : ByteArray) (r : Bool) (w : World) (h : zsb.f k a0 = some r) :
  Calls Tryd.prog 67 #[.string a0] w fun e w' => e = .returned (.bool r) ∧ zt w w' := by
 have H : (zsb.l0 k a0 0) = some r := h
 clear h
 have H' := za.mk H
 clear H
 go_enter Tryd.func67, Tryd.ntmps67
 go_wp2
 (try simp only [Act.put, List.setIfInBounds_toArray, List.set_cons_zero, List.set_cons_succ])
 go_loopg [3] k (fun kq v3 w' => ∃ (x3_1 : Int), v3 = .int .i64 x3_1 ∧ za (zsb.l0 kq a0 x3_1 = some r) ∧ za (kq ≤ k) ∧ zt w w')
 case atStart => exact ⟨(0), (by rfl), H', ⟨Nat.le_refl _⟩, by repeat (first | exact zt.refl _ | apply zt.step)⟩
 case round =>
  clear H'
  obtain ⟨x3_1, rfl, HA, HK1, ⟨m1, rfl⟩⟩ := hrel
  cases gk with
  | zero => exact absurd HA.out (by simp [zsb.l0])
  | succ k1 =>
   have H := HA.out
   clear HA
   simp only [zsb.l0] at H
   by_cases c2 : x3_1 < (a0.size : Int)
   ·rw [if_pos c2] at H
    have c2b0 : decide (x3_1 < (a0.size : Int)) = true := decide_eq_true c2
    clear c2
    by_cases c3 : 0 ≤ x3_1
    ·rw [if_pos c3] at H
     have c3b0 : decide (0 ≤ x3_1) = true := decide_eq_true c3
     clear c3
     replace H := Option.bind_eq_some_iff.mp H
     obtain ⟨t128, A50, H⟩ := H
     replace H : (if t128 = true then (zsb.l0 k1 a0 (wrap64 (x3_1 + 1))) else (some false)) = some r := H
     have A5 := za.mk A50
     clear A50
     by_cases c6 : t128 = true
     ·subst c6
      have H1 : (zsb.l0 k1 a0 (wrap64 (x3_1 + 1))) = some r := by rw [if_pos rfl] at H; exact H
      clear H
      have H := H1
      clear H1
      have H' := za.mk H
      clear H
      have p4 : 0 ≤ (x3_1 : Int) := of_decide_eq_true (by (with_reducible assumption))
      have q4 : x3_1 < (a0.size : Int) := of_decide_eq_true (by (with_reducible assumption))
      have hx4 := bt_at a0 x3_1
      replace p4 := eq_true p4
      replace q4 := eq_true q4
      go_wp2_with (((with_reducible refine zab (f := 34) rfl ?_); refine zjc (some 13) rfl rfl Tryd.func34 (by kernel_rfl) rfl #[.int .u8 (bt a0 x3_1)] rfl (by (try simp only [List.map_toArray, List.map_cons, List.map_nil]); first | done | rfl | (simp only [List.length_drop, List.length_take]; rfl)) ?_; (with_reducible refine (zib.calls (bt a0 x3_1) true _ A5.out).mono ?_); rintro e w' ⟨rfl, ⟨nd, rfl⟩⟩; refine ⟨_, rfl, ?_⟩))
      go_roundg k1
      case measure => have := HK1.out; omega
      case rel => exact ⟨(wrap64 (x3_1 + 1)), (by rfl), H', ⟨by have := HK1.out; omega⟩, by repeat (first | exact zt.refl _ | apply zt.step)⟩
     ·replace c6 := Bool.eq_false_iff.mpr c6
      subst c6
      have H1 : (some false) = some r := by rw [if_neg (show ¬ (false = true) by decide)] at H; exact H
      clear H
      have H := H1
      clear H1
      obtain rfl := Option.some.inj H
      have p4 : 0 ≤ (x3_1 : Int) := of_decide_eq_true (by (with_reducible assumption))
      have q4 : x3_1 < (a0.size : Int) := of_decide_eq_true (by (with_reducible assumption))
      have hx4 := bt_at a0 x3_1
      replace p4 := eq_true p4
      replace q4 := eq_true q4
      go_wp2_with (((with_reducible refine zab (f := 34) rfl ?_); refine zjc (some 13) rfl rfl Tryd.func34 (by kernel_rfl) rfl #[.int .u8 (bt a0 x3_1)] rfl (by (try simp only [List.map_toArray, List.map_cons, List.map_nil]); first | done | rfl | (simp only [List.length_drop, List.length_take]; rfl)) ?_; (with_reducible refine (zib.calls (bt a0 x3_1) false _ A5.out).mono ?_); rintro e w' ⟨rfl, ⟨nd, rfl⟩⟩; refine ⟨_, rfl, ?_⟩))
      go_ret
      exact ⟨by rfl, by repeat (first | exact zt.refl _ | apply zt.step)⟩
    ·rw [if_neg c3] at H
     exact absurd H (by simp)
   ·rw [if_neg c2] at H
    have c2b0 : decide (x3_1 < (a0.size : Int)) = false := decide_eq_false c2
    clear c2
    obtain rfl := Option.some.inj H
    go_wp2
    go_ret
    exact ⟨by rfl, by repeat (first | exact zt.refl _ | apply zt.step)⟩
mutual
def ztb.j0 : Nat → ByteArray → Bool → Bool → Option (Bool × ByteArray × Bool)
 | 0, _, _, _ => none
 | k + 1, x0, x4, x17 => if x17 = true then (if 0 < (x0.size : Int) then (if 1 ≤ (x0.size : Int) then (ztb.j1 k (x0.extract 1 x0.size) ((bt x0 0) == 45)) else (none)) else (none)) else (ztb.j1 k x0 x4)
def ztb.j1 : Nat → ByteArray → Bool → Option (Bool × ByteArray × Bool)
 | 0, _, _ => none
 | k + 1, x0, x4 => (zsb.f k x0).bind fun t130 => (if t130 = true then ((zbb.f k x0).bind fun bt131 => (if x4 = true then (some ((bt131.2.toList != ([] : List UInt8)), bt131.2, true)) else (some (false, bt131.2, true)))) else (some (false, (⟨#[]⟩ : ByteArray), false)))
end
def ztb.f (k : Nat) (a0 : ByteArray) : Option (Bool × ByteArray × Bool) := if (a0.size : Int) > 0 then (if 0 < (a0.size : Int) then (if (bt a0 0) = 43 then (ztb.j0 k a0 false true) else (ztb.j0 k a0 false ((bt a0 0) == 45))) else (none)) else (ztb.j0 k a0 false false)
theorem ztb.calls (k : Nat) (a0 : ByteArray) (r1 : Bool) (r2 : ByteArray) (r3 : Bool) (w : World) (h : ztb.f k a0 = some (r1, r2, r3)) :
  Calls Tryd.prog 49 #[.string a0] w fun e w' => e = .returned (.tuple #[.agg #[.bool r1, .string r2], .bool r3]) ∧ Below w.heap.size w w' := by
 have hu31 := Tryd.underlying31
 have HB := za.mk (Below.refl w.heap.size w)
 have H : (if (a0.size : Int) > 0 then (if 0 < (a0.size : Int) then (if (bt a0 0) = 43 then (ztb.j0 k a0 false true) else (ztb.j0 k a0 false ((bt a0 0) == 45))) else (none)) else (ztb.j0 k a0 false false)) = some (r1, r2, r3) := h
 clear h
 have HC2 := za.mk H
 clear H
 go_enter Tryd.func49, Tryd.ntmps49
 go_upto_region 2 with (((with_reducible refine zjb (N := 2) rfl ?_); refine zec ?hg (N := 2) ?hd (cs := #[.bool false, .string ⟨#[]⟩]) (t := 31) ?hr ?_; (case hd => rfl); (case hg => rfl); (case hr => first | (go_simp; done) | (go_simp; rfl)); intro gb129 hg w3 hbox hb; have BK129 := za.mk hbox; have GW129 := za.mk ((by rw [hg]; exact (zl (by (with_reducible exact HB.out))) : w.heap.size ≤ gb129)); have GE129 := za.mk ((by rw [hg]; exact (zl (by (with_reducible exact HB.out))) : w.heap.size ≤ gb129)); replace HB := za.mk (zm (by (with_reducible exact HB.out)) hb); clear hb hbox hg))
 repeat (go_quiet (fail); go_upto_region 2 with (fail))
 (try simp only [Act.put, List.setIfInBounds_toArray, List.set_cons_zero, List.set_cons_succ])
 go_cut [17] (fun v17 wc => ∃ (kq : Nat) (x17_1 : Bool), v17 = .bool x17_1 ∧ za (ztb.j0 kq a0 false x17_1 = some (r1, r2, r3)) ∧ za (kq ≤ k) ∧ za (wc.heap[gb129]? = some (.cells #[.bool false, .string ⟨#[]⟩] 31 (0, 0))) ∧ za (Below w.heap.size w wc))
 case first =>
  have H := HC2.out
  clear HC2
  by_cases c4 : (a0.size : Int) > 0
  ·rw [if_pos c4] at H
   have c4b0 : decide (0 < (a0.size : Int)) = true := decide_eq_true c4
   have c4b1 : decide (0 < a0.size) = true := decide_eq_true (by omega)
   clear c4
   (first | rw [c4b0] | (simp only [i64_w, i32_w]; rw [c4b0]) | skip)
   by_cases c5 : 0 < (a0.size : Int)
   ·rw [if_pos c5] at H
    have c5b0 : decide (0 < (a0.size : Int)) = true := decide_eq_true c5
    have c5b1 : decide (0 < a0.size) = true := decide_eq_true (by omega)
    clear c5
    by_cases c7 : (bt a0 0) = 43
    ·rw [if_pos c7] at H
     have c7b0 : ((bt a0 0) == 43) = true := beq_iff_eq.mpr c7
     have c7b1 : ((bt a0 0) != 43) = false := bne_eq_false_iff_eq.mpr c7
     clear c7
     have H' := za.mk H
     clear H
     have p6 : 0 ≤ (0 : Int) := (by omega)
     have q6 : 0 < a0.size := (by have : (0 : Int) < (a0.size : Int) := of_decide_eq_true (by (with_reducible assumption)); omega)
     have hx6 : ∀ h : 0 < a0.size, ((a0[0]'h).toNat : Int) = bt a0 0 := bt_at a0 0
     clear p6
     have qi6 : (0 < (a0.size : Int)) = True := eq_true (of_decide_eq_true (by (with_reducible assumption)))
     replace q6 := eq_true q6
     go_wp2
     repeat (go_quiet (fail); try go_wp2)
     go_meet
     case rel => exact ⟨_, (true), (by rfl), H', ⟨by omega⟩, ⟨by exact BK129.out⟩, ⟨by (with_reducible exact HB.out)⟩⟩
    ·rw [if_neg c7] at H
     have c7b0 : ((bt a0 0) == 43) = false := beq_eq_false_iff_ne.mpr c7
     have c7b1 : ((bt a0 0) != 43) = true := bne_iff_ne.mpr c7
     have H' := za.mk H
     clear H
     have p6 : 0 ≤ (0 : Int) := (by omega)
     have q6 : 0 < a0.size := (by have : (0 : Int) < (a0.size : Int) := of_decide_eq_true (by (with_reducible assumption)); omega)
     have hx6 : ∀ h : 0 < a0.size, ((a0[0]'h).toNat : Int) = bt a0 0 := bt_at a0 0
     clear p6
     have qi6 : (0 < (a0.size : Int)) = True := eq_true (of_decide_eq_true (by (with_reducible assumption)))
     replace q6 := eq_true q6
     have p8 : 0 ≤ (0 : Int) := (by omega)
     have q8 : 0 < a0.size := (by have : (0 : Int) < (a0.size : Int) := of_decide_eq_true (by (with_reducible assumption)); omega)
     have hx8 : ∀ h : 0 < a0.size, ((a0[0]'h).toNat : Int) = bt a0 0 := bt_at a0 0
     clear p8
     have qi8 : (0 < (a0.size : Int)) = True := eq_true (of_decide_eq_true (by (with_reducible assumption)))
     replace q8 := eq_true q8
     go_wp2
     repeat (go_quiet (fail); try go_wp2)
     go_meet
     case rel => exact ⟨_, (((bt a0 0) == 45)), (by rfl), H', ⟨by omega⟩, ⟨by exact BK129.out⟩, ⟨by (with_reducible exact HB.out)⟩⟩
   ·rw [if_neg c5] at H
    exact absurd H (by simp)
  ·rw [if_neg c4] at H
   have c4b0 : decide (0 < (a0.size : Int)) = false := decide_eq_false c4
   have c4b1 : decide (0 < a0.size) = false := decide_eq_false (by omega)
   clear c4
   (first | rw [c4b0] | (simp only [i64_w, i32_w]; rw [c4b0]) | skip)
   have H' := za.mk H
   clear H
   go_wp2
   repeat (go_quiet (fail); try go_wp2)
   go_meet
   case rel => exact ⟨_, (false), (by rfl), H', ⟨by omega⟩, ⟨by exact BK129.out⟩, ⟨by (with_reducible exact HB.out)⟩⟩
 case rest =>
  clear HC2
  obtain ⟨kq, x17_1, rfl, HA, HJ1, BK129, HB⟩ := hcut
  cases kq with
  | zero => exact absurd HA.out (by simp [ztb.j0])
  | succ kj1 =>
   have H := HA.out
   clear HA
   simp only [ztb.j0] at H
   have HC9 := za.mk H
   clear H
   go_upto_if 17 with (fail)
   repeat (go_quiet (fail); go_upto_if 17 with (fail))
   go_cut [0, 4, 17] (fun v0 v4 v17 wc => ∃ (kq : Nat) (x0_8 : ByteArray) (x4_8 : Bool), v0 = .string x0_8 ∧ v4 = .bool x4_8 ∧ za (ztb.j1 kq x0_8 x4_8 = some (r1, r2, r3)) ∧ za (kq ≤ kj1) ∧ za (wc.heap[gb129]? = some (.cells #[.bool false, .string ⟨#[]⟩] 31 (0, 0))) ∧ za (Below w.heap.size w wc))
   case first =>
    have H := HC9.out
    clear HC9
    by_cases c10 : x17_1 = true
    ·subst c10
     have H1 : (if 0 < (a0.size : Int) then (if 1 ≤ (a0.size : Int) then (ztb.j1 kj1 (a0.extract 1 a0.size) ((bt a0 0) == 45)) else (none)) else (none)) = some (r1, r2, r3) := by rw [if_pos rfl] at H; exact H
     clear H
     have H := H1
     clear H1
     by_cases c11 : 0 < (a0.size : Int)
     ·rw [if_pos c11] at H
      have c11b0 : decide (0 < (a0.size : Int)) = true := decide_eq_true c11
      have c11b1 : decide (0 < a0.size) = true := decide_eq_true (by omega)
      clear c11
      (first | rw [c11b0] | (simp only [i64_w, i32_w]; rw [c11b0]) | skip)
      by_cases c13 : 1 ≤ (a0.size : Int)
      ·rw [if_pos c13] at H
       have c13b0 := eq_true c13
       have c13b1 : decide (1 ≤ (a0.size : Int)) = true := decide_eq_true c13
       clear c13
       have H' := za.mk H
       clear H
       have p12 : 0 ≤ (0 : Int) := (by omega)
       have q12 : 0 < a0.size := (by have : (0 : Int) < (a0.size : Int) := of_decide_eq_true (by (with_reducible assumption)); omega)
       have hx12 : ∀ h : 0 < a0.size, ((a0[0]'h).toNat : Int) = bt a0 0 := bt_at a0 0
       clear p12
       have qi12 : (0 < (a0.size : Int)) = True := eq_true (of_decide_eq_true (by (with_reducible assumption)))
       replace q12 := eq_true q12
       go_wp2
       repeat (go_quiet (fail); try go_wp2)
       go_meet
       case rel => exact ⟨_, (a0.extract 1 a0.size), (((bt a0 0) == 45)), (by rfl), (by rfl), (by exact H'), ⟨by have := HJ1.out; first | omega | exact Nat.le_refl _⟩, ⟨by (with_reducible (refine zz ?_ _)); exact BK129.out⟩, ⟨by (with_reducible apply ze; with_reducible exact HB.out)⟩⟩
      ·rw [if_neg c13] at H
       exact absurd H (by simp)
     ·rw [if_neg c11] at H
      exact absurd H (by simp)
    ·replace c10 := Bool.eq_false_iff.mpr c10
     subst c10
     have H1 : (ztb.j1 kj1 a0 false) = some (r1, r2, r3) := by rw [if_neg (show ¬ (false = true) by decide)] at H; exact H
     clear H
     have H := H1
     clear H1
     have H' := za.mk H
     clear H
     go_wp2
     repeat (go_quiet (fail); try go_wp2)
     go_meet
     case rel => exact ⟨_, (a0), (false), (by rfl), (by rfl), (by exact H'), ⟨by have := HJ1.out; first | omega | exact Nat.le_refl _⟩, ⟨by exact BK129.out⟩, ⟨by (with_reducible exact HB.out)⟩⟩
   case rest =>
    clear HC9
    obtain ⟨kq, x0_8, x4_8, rfl, rfl, HA, HJ8, BK129, HB⟩ := hcut
    cases kq with
    | zero => exact absurd HA.out (by simp [ztb.j1])
    | succ kj8 =>
     have H := HA.out
     clear HA
     simp only [ztb.j1] at H
     replace H := Option.bind_eq_some_iff.mp H
     obtain ⟨t130, A140, H⟩ := H
     replace H : (if t130 = true then ((zbb.f kj8 x0_8).bind fun bt131 => (if x4_8 = true then (some ((bt131.2.toList != ([] : List UInt8)), bt131.2, true)) else (some (false, bt131.2, true)))) else (some (false, (⟨#[]⟩ : ByteArray), false))) = some (r1, r2, r3) := H
     have A14 := za.mk A140
     clear A140
     by_cases c15 : t130 = true
     ·subst c15
      have H1 : ((zbb.f kj8 x0_8).bind fun bt131 => (if x4_8 = true then (some ((bt131.2.toList != ([] : List UInt8)), bt131.2, true)) else (some (false, bt131.2, true)))) = some (r1, r2, r3) := by rw [if_pos rfl] at H; exact H
      clear H
      have H := H1
      clear H1
      replace H := Option.bind_eq_some_iff.mp H
      obtain ⟨⟨t131, t132⟩, A160, H⟩ := H
      replace H : (if x4_8 = true then (some ((t132.toList != ([] : List UInt8)), t132, true)) else (some (false, t132, true))) = some (r1, r2, r3) := H
      have A16 := za.mk A160
      clear A160
      by_cases c17 : x4_8 = true
      ·subst c17
       have H1 : (some ((t132.toList != ([] : List UInt8)), t132, true)) = some (r1, r2, r3) := by rw [if_pos rfl] at H; exact H
       clear H
       have H := H1
       clear H1
       simp only [Option.some.injEq, Prod.mk.injEq] at H
       obtain ⟨rfl, rfl, rfl⟩ := H
       go_wp2_with (first | (go_at_call 67; (with_reducible refine (zsb.calls kj8 x0_8 true _ A14.out).mono ?_); rintro e w' ⟨rfl, ⟨nd, rfl⟩⟩; (try first | exact ⟨rfl, _, World.drewN_drewN _ _ _⟩ | exact ⟨rfl, _, Eq.trans (World.drewN_drewN _ _ _) (congrArg (World.drewN _) (Nat.add_assoc _ _ _))⟩)) | (go_at_call 35; (with_reducible refine (zbb.calls kj8 x0_8 t131 t132 _ A16.out).mono ?_); rintro e w18 ⟨rfl, hb⟩; replace BK129 := za.mk (zk (zz BK129.out _) hb); replace HB := za.mk (zm (by (with_reducible apply ze; with_reducible exact HB.out)) hb); (try clear hb); (try clear hb2); (try clear hk); (try clear hi); obtain ⟨hcz19_0, hcz19_1, hfz19_0, hfz19_1⟩ := cl2 BK129.out))
       repeat (go_quiet (fail); try go_wp2_with (fail))
       refine bodyPost_ret (zze rfl _ _ gb129 31 #[.bool (t132.toList != ([] : List UInt8)), .string t132] (0, 0) _ rfl (by refine zv (cs := #[.bool (t132.toList != ([] : List UInt8)), .string t132]) ?_ 1 _ (by rfl); refine zv (cs := #[.bool (t132.toList != ([] : List UInt8)), .string t132]) ?_ 0 _ (by (simp [zpc]; done)); refine zv (cs := #[.bool t131, .string t132]) ?_ 0 _ (by (simp [zpc]; done)); refine zv (cs := #[.bool t131, .string ⟨#[]⟩]) ?_ 1 _ (by rfl); refine zv (cs := #[.bool false, .string ⟨#[]⟩]) ?_ 0 _ (by rfl); exact BK129.out) Tryd.underlying31 rfl (by kernel_rfl)) rfl ?_
       exact ⟨by rfl, by repeat (first | (with_reducible first | exact HB.out | apply zo | apply ze | apply zy | refine zi ?_ GE129.out) | exact HB.out)⟩
      ·replace c17 := Bool.eq_false_iff.mpr c17
       subst c17
       have H1 : (some (false, t132, true)) = some (r1, r2, r3) := by rw [if_neg (show ¬ (false = true) by decide)] at H; exact H
       clear H
       have H := H1
       clear H1
       simp only [Option.some.injEq, Prod.mk.injEq] at H
       obtain ⟨rfl, rfl, rfl⟩ := H
       go_wp2_with (first | (go_at_call 67; (with_reducible refine (zsb.calls kj8 x0_8 true _ A14.out).mono ?_); rintro e w' ⟨rfl, ⟨nd, rfl⟩⟩; (try first | exact ⟨rfl, _, World.drewN_drewN _ _ _⟩ | exact ⟨rfl, _, Eq.trans (World.drewN_drewN _ _ _) (congrArg (World.drewN _) (Nat.add_assoc _ _ _))⟩)) | (go_at_call 35; (with_reducible refine (zbb.calls kj8 x0_8 t131 t132 _ A16.out).mono ?_); rintro e w20 ⟨rfl, hb⟩; replace BK129 := za.mk (zk (zz BK129.out _) hb); replace HB := za.mk (zm (by (with_reducible apply ze; with_reducible exact HB.out)) hb); (try clear hb); (try clear hb2); (try clear hk); (try clear hi); obtain ⟨hcz21_0, hcz21_1, hfz21_0, hfz21_1⟩ := cl2 BK129.out))
       repeat (go_quiet (fail); try go_wp2_with (fail))
       refine bodyPost_ret (zze rfl _ _ gb129 31 #[.bool false, .string t132] (0, 0) _ rfl (by refine zv (cs := #[.bool false, .string t132]) ?_ 1 _ rfl; refine zv (cs := #[.bool false, .string t132]) ?_ 0 _ rfl; refine zv (cs := #[.bool t131, .string t132]) ?_ 0 _ rfl; exact put2 BK129.out) Tryd.underlying31 rfl (by kernel_rfl)) rfl ?_
       exact ⟨by rfl, by repeat (first | (with_reducible first | exact HB.out | apply zo | apply ze | apply zy | refine zi ?_ GE129.out) | exact HB.out)⟩
     ·replace c15 := Bool.eq_false_iff.mpr c15
      subst c15
      have H1 : (some (false, (⟨#[]⟩ : ByteArray), false)) = some (r1, r2, r3) := by rw [if_neg (show ¬ (false = true) by decide)] at H; exact H
      clear H
      have H := H1
      clear H1
      simp only [Option.some.injEq, Prod.mk.injEq] at H
      obtain ⟨rfl, rfl, rfl⟩ := H
      go_wp2_with ((go_at_call 67; (with_reducible refine (zsb.calls kj8 x0_8 false _ A14.out).mono ?_); rintro e w' ⟨rfl, ⟨nd, rfl⟩⟩; (try first | exact ⟨rfl, _, World.drewN_drewN _ _ _⟩ | exact ⟨rfl, _, Eq.trans (World.drewN_drewN _ _ _) (congrArg (World.drewN _) (Nat.add_assoc _ _ _))⟩); obtain ⟨hcz22_0, hcz22_1, hfz22_0, hfz22_1⟩ := cl2 BK129.out))
      repeat (go_quiet (fail); try go_wp2_with (fail))
      refine bodyPost_ret (zze rfl _ _ gb129 31 #[.bool false, .string ⟨#[]⟩] (0, 0) _ rfl (by refine zv (cs := #[.bool false, .string ⟨#[]⟩]) ?_ 1 _ rfl; refine zv (cs := #[.bool false, .string ⟨#[]⟩]) ?_ 0 _ rfl; (with_reducible (refine zz ?_ _)); exact BK129.out) Tryd.underlying31 rfl (by kernel_rfl)) rfl ?_
      exact ⟨by rfl, by (with_reducible refine zi ?_ GE129.out; with_reducible refine zi ?_ GE129.out; with_reducible apply ze; with_reducible exact HB.out)⟩
def zce.f (k : Nat) (a0 : ByteArray) : Option (Bool × ByteArray × Bool) := (ztb.f k a0).bind fun bt134 => (some (bt134.1, bt134.2.1, bt134.2.2))
theorem zce.calls (k : Nat) (a0 : ByteArray) (r1 : Bool) (r2 : ByteArray) (r3 : Bool) (w : World) (h : zce.f k a0 = some (r1, r2, r3)) :
  Calls Tryd.prog 39 #[.string a0] w fun e w' => e = .returned (.tuple #[.agg #[.bool r1, .string r2], .bool r3]) ∧ Below w.heap.size w w' := by
 have hu31 := Tryd.underlying31
 have HB := za.mk (Below.refl w.heap.size w)
 have H : ((ztb.f k a0).bind fun bt134 => (some (bt134.1, bt134.2.1, bt134.2.2))) = some (r1, r2, r3) := h
 clear h
 replace H := Option.bind_eq_some_iff.mp H
 obtain ⟨⟨t134, t135, t136⟩, A20, H⟩ := H
 replace H : (some (t134, t135, t136)) = some (r1, r2, r3) := H
 have A2 := za.mk A20
 clear A20
 simp only [Option.some.injEq, Prod.mk.injEq] at H
 obtain ⟨rfl, rfl, rfl⟩ := H
 go_enter Tryd.func39, Tryd.ntmps39
 go_wp2_with (first | ((with_reducible refine zjb (N := 2) rfl ?_); refine zec ?hg (N := 2) ?hd (cs := #[.bool false, .string ⟨#[]⟩]) (t := 31) ?hr ?_; (case hd => rfl); (case hg => rfl); (case hr => first | (go_simp; done) | (go_simp; rfl)); intro gb133 hg w3 hbox hb; have BK133 := za.mk hbox; have GW133 := za.mk ((by rw [hg]; exact (zl (by (with_reducible exact HB.out))) : w.heap.size ≤ gb133)); have GE133 := za.mk ((by rw [hg]; exact (zl (by (with_reducible exact HB.out))) : w.heap.size ≤ gb133)); replace HB := za.mk (zm (by (with_reducible exact HB.out)) hb); clear hb hbox hg) | ((with_reducible refine zab (f := 49) rfl ?_); refine zjc (some 5) rfl rfl Tryd.func49 (by kernel_rfl) rfl #[.string a0] rfl (by (try simp only [List.map_toArray, List.map_cons, List.map_nil]); first | done | rfl | (simp only [List.length_drop, List.length_take]; rfl)) ?_; (with_reducible refine (ztb.calls k a0 t134 t135 t136 _ A2.out).mono ?_); rintro e w4 ⟨rfl, hb⟩; refine ⟨_, rfl, ?_⟩; replace BK133 := za.mk (zk BK133.out hb); replace HB := za.mk (zm (by (with_reducible exact HB.out)) hb); (try clear hb); (try clear hb2); (try clear hk); (try clear hi); obtain ⟨hcz5_0, hcz5_1, hfz5_0, hfz5_1⟩ := cl2 BK133.out))
 refine bodyPost_ret (zze rfl _ _ gb133 31 #[.bool t134, .string t135] (0, 0) _ rfl (by exact put2 BK133.out) Tryd.underlying31 rfl (by kernel_rfl)) rfl ?_
 exact ⟨by rfl, by (with_reducible refine zi ?_ GE133.out; with_reducible refine zi ?_ GE133.out; with_reducible exact HB.out)⟩
end Go.Proofs.YtapaijpglfmfgaaDoor.Q
end
section
namespace Go.Proofs.YtapaijpglfmfgaaDoor.Q
open Go.RowKit YtapaijpglfmfgaaDoorH YtapaijpglfmfgaaDoorG YtapaijpglfmfgaaDoorW.PrintWords YtapaijpglfmfgaaDoorW.PrintLast YtapaijpglfmfgaaDoorW.PrintMore
attribute [local go_sem] zsc zrc zbd zad zic zhc zqc ztc
def zlc.f (k : Nat) (a0 : ByteArray) : Option (Bool × ByteArray) := (zce.f k a0).bind fun bt138 => (some (bt138.1, bt138.2.1))
theorem zlc.calls (k : Nat) (a0 : ByteArray) (r1 : Bool) (r2 : ByteArray) (w : World) (h : zlc.f k a0 = some (r1, r2)) :
  Calls Tryd.prog 23 #[.string a0] w fun e w' => e = .returned (.agg #[.bool r1, .string r2]) ∧ Below w.heap.size w w' := by
 have hu31 := Tryd.underlying31
 have HB := za.mk (Below.refl w.heap.size w)
 have H : ((zce.f k a0).bind fun bt138 => (some (bt138.1, bt138.2.1))) = some (r1, r2) := h
 clear h
 replace H := Option.bind_eq_some_iff.mp H
 obtain ⟨⟨t138, t139, t140⟩, A20, H⟩ := H
 replace H : (some (t138, t139)) = some (r1, r2) := H
 have A2 := za.mk A20
 clear A20
 simp only [Option.some.injEq, Prod.mk.injEq] at H
 obtain ⟨rfl, rfl⟩ := H
 go_enter Tryd.func23, Tryd.ntmps23
 go_wp2_with (first | ((with_reducible refine zjb (N := 2) rfl ?_); refine zec ?hg (N := 2) ?hd (cs := #[.bool false, .string (⟨#[]⟩ : ByteArray)]) (t := 31) ?hr ?_; (case hd => rfl); (case hg => rfl); (case hr => first | (go_simp; done) | (go_simp; rfl)); intro gb137 hg w3 hbox hb; have n0_ := za.mk (zm (by repeat (first | (with_reducible first | exact HB.out | apply zo | apply ze | apply zy) | exact HB.out)) hb); have n1_ := za.mk (hbox); have n2_ := za.mk ((by rw [hg]; exact (zl (by repeat (first | (with_reducible first | exact HB.out | apply zo | apply ze | apply zy) | exact HB.out))) : w.heap.size ≤ gb137)); have n3_ := za.mk ((by rw [hg]; exact (zl (by repeat (first | (with_reducible first | exact HB.out | apply zo | apply ze | apply zy) | exact HB.out))) : w.heap.size ≤ gb137)); clear HB; have HB := n0_; have BK137 := n1_; have GW137 := n2_; have GE137 := n3_; clear n0_ n1_ n2_ n3_; clear hb hbox hg) | ((with_reducible refine zab (f := 39) rfl ?_); refine zjc (some 7) rfl rfl Tryd.func39 (by kernel_rfl) rfl #[.string a0] rfl (by (try simp only [List.map_toArray, List.map_cons, List.map_nil]); first | done | rfl | (simp only [List.length_drop, List.length_take]; rfl)) ?_; (with_reducible refine (zce.calls k a0 t138 t139 t140 _ A2.out).mono ?_); rintro e w4 ⟨rfl, hb⟩; refine ⟨_, rfl, ?_⟩; have n0_ := za.mk (zk (g := gb137) (o := .cells #[.bool false, .string (⟨#[]⟩ : ByteArray)] 31 (0, 0)) (by (with_reducible repeat (first | refine zz ?_ _ | refine zkc ?_ | refine zub ?_ _)); exact BK137.out) hb); have n1_ := za.mk (zm (by repeat (first | (with_reducible first | exact HB.out | apply zo | apply ze | apply zy | refine zi ?_ GE137.out) | exact HB.out)) hb); clear BK137; clear HB; have BK137 := n0_; have HB := n1_; clear n0_ n1_; (try clear hb); (try clear hb2); (try clear hk); (try clear hi)) | ((with_reducible refine zjb (N := 3) rfl ?_); refine zec ?hg (N := 3) ?hd (cs := #[.bool false, .string (⟨#[]⟩ : ByteArray)]) (t := 31) ?hr ?_; (case hd => rfl); (case hg => rfl); (case hr => first | (go_simp; done) | (go_simp; rfl)); intro gb141 hg w5 hbox hb; have n0_ := za.mk (zk (g := gb137) (o := .cells #[.bool false, .string (⟨#[]⟩ : ByteArray)] 31 (0, 0)) (by (with_reducible repeat (first | refine zz ?_ _ | refine zkc ?_ | refine zub ?_ _)); exact BK137.out) hb); have n1_ := za.mk (zm (by repeat (first | (with_reducible first | exact HB.out | apply zo | apply ze | apply zy | refine zi ?_ GE137.out) | exact HB.out)) hb); have n2_ := za.mk (hbox); have n3_ := za.mk ((by rw [hg]; exact (zl (by repeat (first | (with_reducible first | exact HB.out | apply zo | apply ze | apply zy | refine zi ?_ GE137.out) | exact HB.out))) : w.heap.size ≤ gb141)); have n4_ := za.mk ((by rw [hg]; exact (zl (by repeat (first | (with_reducible first | exact HB.out | apply zo | apply ze | apply zy | refine zi ?_ GE137.out) | exact HB.out))) : w.heap.size ≤ gb141)); have n5_ := za.mk ((by rw [hg]; exact Nat.ne_of_lt (zac (g := gb137) (o := .cells #[.bool false, .string (⟨#[]⟩ : ByteArray)] 31 (0, 0)) (by (with_reducible repeat (first | refine zz ?_ _ | refine zkc ?_ | refine zub ?_ _)); exact BK137.out)) : gb137 ≠ gb141)); have n6_ := za.mk ((by rw [hg]; exact Nat.ne_of_gt (zac (g := gb137) (o := .cells #[.bool false, .string (⟨#[]⟩ : ByteArray)] 31 (0, 0)) (by (with_reducible repeat (first | refine zz ?_ _ | refine zkc ?_ | refine zub ?_ _)); exact BK137.out)) : gb141 ≠ gb137)); clear BK137; clear HB; have BK137 := n0_; have HB := n1_; have BK141 := n2_; have GW141 := n3_; have GE141 := n4_; have NB137_141 := n5_; have NB141_137 := n6_; clear n0_ n1_ n2_ n3_ n4_ n5_ n6_; clear hb hbox hg; have hnb6 := NB141_137.out; have hnc6 := NB137_141.out; have hcz7_0 : w5.cell? ⟨gb141, 0, none⟩ = some (.bool false) := (zj BK141.out 0).trans rfl; have hcz7_1 : w5.cell? ⟨gb141, 1, none⟩ = some (.string (⟨#[]⟩ : ByteArray)) := (zj BK141.out 1).trans rfl; have hfz7_0 := zu BK141.out 0; have hfz7_1 := zu BK141.out 1; have hcz8_0 : w5.cell? ⟨gb137, 0, none⟩ = some (.bool false) := (zj BK137.out 0).trans rfl; have hcz8_1 : w5.cell? ⟨gb137, 1, none⟩ = some (.string (⟨#[]⟩ : ByteArray)) := (zj BK137.out 1).trans rfl; have hfz8_0 := zu BK137.out 0; have hfz8_1 := zu BK137.out 1))
 refine bodyPost_ret (results_cell_row rfl _ _ gb137 31 #[.bool t138, .string t139] (0, 0) _ rfl (by (with_reducible repeat (first | refine zz ?_ _ | refine zkc ?_ | refine zub ?_ _)); refine zv (cs := #[.bool t138, .string (⟨#[]⟩ : ByteArray)]) ?_ 1 _ rfl; (with_reducible repeat (first | refine zz ?_ _ | refine zkc ?_ | refine zub ?_ _)); refine zv (cs := #[.bool false, .string (⟨#[]⟩ : ByteArray)]) ?_ 0 _ rfl; (with_reducible repeat (first | refine zz ?_ _ | refine zkc ?_ | refine zub ?_ _)); refine zmb ?_ NB137_141.out _; (with_reducible repeat (first | refine zz ?_ _ | refine zkc ?_ | refine zub ?_ _)); refine zmb ?_ NB137_141.out _; (with_reducible repeat (first | refine zz ?_ _ | refine zkc ?_ | refine zub ?_ _)); exact BK137.out) Tryd.underlying31 rfl (by kernel_rfl)) rfl ?_
 exact ⟨by first | rfl | (simp [zkf, zpf] <;> rfl) | (simp [*, zkf, zpf] <;> rfl) | (simp [zpc]; done), by repeat (first | (with_reducible first | exact HB.out | apply zo | apply ze | apply zy | refine zi ?_ GE137.out | refine zi ?_ GE141.out) | exact HB.out)⟩
def zuf.f  : Option (List Int) := some (([0, 1, 2, 3, 5, 6, 7, 8, 9] : List Int))
theorem zuf.calls  (r : List Int) (w : World) (h : zuf.f  = some r) :
  Calls Tryd.prog 24 #[] w fun e w' => ∃ v0_ : Value, e = .returned (v0_) ∧ Kd.R (Kd.int .i64) 3 w' w.heap.size (fun _ => True) v0_ r ∧ Below w.heap.size w w' := by
 have HB := za.mk (Below.refl w.heap.size w)
 have H : (some (([0, 1, 2, 3, 5, 6, 7, 8, 9] : List Int))) = some r := h
 clear h
 obtain ⟨y142, hy142⟩ : ∃ y_ : List Int, y_ = (([0, 1, 2, 3, 5, 6, 7, 8, 9] : List Int)) := ⟨_, rfl⟩
 replace H : (some y142) = some r := by first | (rw [hy142]; with_reducible exact H) | (have H2_ := (Option.bind_some _ _).symm.trans H; rw [hy142]; with_reducible exact H2_) | (have H2_ := (Option.bind_some _ _).symm.trans H; with_reducible exact H2_) | with_reducible exact H | (rw [hy142]; exact H) | exact H
 have Ny142 := za.mk hy142
 clear hy142
 obtain rfl := Option.some.inj H
 go_enter Tryd.func24, Tryd.ntmps24
 go_wp2_with (first | ((with_reducible refine zjb (N := 1) rfl ?_); refine Kd.R_lit (Kd.int .i64) _ 3 ?hg (N := 1) ?hd (xs := ([0, 1, 2, 3, 5, 6, 7, 8, 9] : List Int)) (inner := [.int .i64 0, .int .i64 1, .int .i64 2, .int .i64 3, .int .i64 5, .int .i64 6, .int .i64 7, .int .i64 8, .int .i64 9]) (ok := fun _ => True) (okp := fun _ => True) ?hr ?hp (fun _ hk => hk) trivial (Below.refl _ _) (Nat.le_refl _) (by simp) ?_; (case hd => rfl); (case hg => rfl); (case hr => first | (go_simp; done) | (go_simp; rfl)); (case hp => exact (Reps.one (show Kd.M (Kd.int .i64) _ _ _ 0 [.int .i64 0] from rfl) (Reps.one (show Kd.M (Kd.int .i64) _ _ _ 1 [.int .i64 1] from rfl) (Reps.one (show Kd.M (Kd.int .i64) _ _ _ 2 [.int .i64 2] from rfl) (Reps.one (show Kd.M (Kd.int .i64) _ _ _ 3 [.int .i64 3] from rfl) (Reps.one (show Kd.M (Kd.int .i64) _ _ _ 5 [.int .i64 5] from rfl) (Reps.one (show Kd.M (Kd.int .i64) _ _ _ 6 [.int .i64 6] from rfl) (Reps.one (show Kd.M (Kd.int .i64) _ _ _ 7 [.int .i64 7] from rfl) (Reps.one (show Kd.M (Kd.int .i64) _ _ _ 8 [.int .i64 8] from rfl) (Reps.one (show Kd.M (Kd.int .i64) _ _ _ 9 [.int .i64 9] from rfl) (Reps.none _ _))))))))))); intro v143 w1 ho2 hb hg_ hnew_; clear hg_ hnew_; (first | rw [← Ny142.out] at ho2 | (simp only [Int.reduceToNat] at ho2; rw [← Ny142.out] at ho2)); have n0_ := za.mk (Kd.R_lower ho2 (zl (by repeat (first | (with_reducible first | exact HB.out | apply zo | apply ze | apply zy) | exact HB.out)))); have n1_ := za.mk (zm (by repeat (first | (with_reducible first | exact HB.out | apply zo | apply ze | apply zy) | exact HB.out)) hb); clear HB; have HO144 := n0_; have HB := n1_; clear n0_ n1_; clear hb ho2))
 go_ret
 exact ⟨_, by first | rfl | (simp [zkf, zpf] <;> rfl) | (simp [*, zkf, zpf] <;> rfl) | (simp [zpc]; done), by (with_reducible repeat (first | apply Kd.R_alloc | apply Kd.R_drewN | apply Kd.R_drew)); exact HO144.out, by repeat (first | (with_reducible first | exact HB.out | apply zo | apply ze | apply zy) | exact HB.out)⟩
end Go.Proofs.YtapaijpglfmfgaaDoor.Q
end
section
namespace Go.Proofs.YtapaijpglfmfgaaDoor.Q
open Go.RowKit YtapaijpglfmfgaaDoorH YtapaijpglfmfgaaDoorG YtapaijpglfmfgaaDoorW.PrintWords YtapaijpglfmfgaaDoorW.PrintLast YtapaijpglfmfgaaDoorW.PrintMore
attribute [local go_sem] zsc zrc zbd zad zic zhc zqc ztc
mutual
def zb.j0 : Nat → Bool → List Int → Int → List Int → List Int → ByteArray → Bool → Int → Option (ByteArray × ByteArray × ByteArray × ByteArray × ByteArray × Bool × (List (S54)) × (List (S58)) × Bool × Bool × ByteArray × Bool)
 | 0, _, _, _, _, _, _, _, _ => none
 | k + 1, x36, x146000, x146001, x146002, x146003, x146004, x146005, x146006 => if x36 = true then (some ((⟨#[]⟩ : ByteArray), (⟨#[]⟩ : ByteArray), (⟨#[]⟩ : ByteArray), (⟨#[]⟩ : ByteArray), (⟨#[]⟩ : ByteArray), false, ([] : List (S54)), ([] : List (S58)), false, false, (⟨#[]⟩ : ByteArray), false)) else (zb.l0 k (⟨#[]⟩ : ByteArray) x146000 (x146000.length : Int) 0 x146000 x146001 x146002 x146003 x146004 x146005 x146006 (⟨#[]⟩ : ByteArray) (⟨#[]⟩ : ByteArray) (⟨#[]⟩ : ByteArray) (⟨#[]⟩ : ByteArray) false ([] : List (S54)) false false (⟨#[]⟩ : ByteArray))
def zb.l0 : Nat → ByteArray → List Int → Int → Int → List Int → Int → List Int → List Int → ByteArray → Bool → Int → ByteArray → ByteArray → ByteArray → ByteArray → Bool → List (S54) → Bool → Bool → ByteArray → Option (ByteArray × ByteArray × ByteArray × ByteArray × ByteArray × Bool × (List (S54)) × (List (S58)) × Bool × Bool × ByteArray × Bool)
 | 0, _, _, _, _, _, _, _, _, _, _, _, _, _, _, _, _, _, _, _, _ => none
 | k + 1, x6, x40, x41, x42, x146000, x146001, x146002, x146003, x146004, x146005, x146006, x148000, x148001, x148002, x148003, x148004, x148005, x148007, x148008, x148009 => if x42 < x41 then (if 0 ≤ x42 then (if x42 < (x40.length : Int) then (if x42 > 0 then (if x6.size + 1 ≤ 9223372036854775807 then (zb.j2 k (x6 ++ (⟨#[46]⟩ : ByteArray)) x42 (rd x40 x42) x40 x41 x42 x146000 x146001 x146002 x146003 x146004 x146005 x146006 x148000 x148001 x148002 x148003 x148004 x148005 x148007 x148008 x148009) else (none)) else (zb.j2 k x6 x42 (rd x40 x42) x40 x41 x42 x146000 x146001 x146002 x146003 x146004 x146005 x146006 x148000 x148001 x148002 x148003 x148004 x148005 x148007 x148008 x148009)) else (none)) else (none)) else (if (Int.tmod x146001 27) > 0 then (if x6.size + (Utf8.encode ((97 + (Int.tmod x146001 27) - 1) % 256)).size ≤ 9223372036854775807 then (zb.j3 k (x6 ++ (Utf8.encode ((97 + (Int.tmod x146001 27) - 1) % 256))) x146000 x146001 x146002 x146003 x146004 x146005 x146006 x148000 x148001 (Utf8.encode ((97 + (Int.tmod x146001 27) - 1) % 256)) x148003 x148004 x148005 x148007 x148008 x148009) else (none)) else (zb.j3 k x6 x146000 x146001 x146002 x146003 x146004 x146005 x146006 x148000 x148001 x148002 x148003 x148004 x148005 x148007 x148008 x148009))
def zb.j2 : Nat → ByteArray → Int → Int → List Int → Int → Int → List Int → Int → List Int → List Int → ByteArray → Bool → Int → ByteArray → ByteArray → ByteArray → ByteArray → Bool → List (S54) → Bool → Bool → ByteArray → Option (ByteArray × ByteArray × ByteArray × ByteArray × ByteArray × Bool × (List (S54)) × (List (S58)) × Bool × Bool × ByteArray × Bool)
 | 0, _, _, _, _, _, _, _, _, _, _, _, _, _, _, _, _, _, _, _, _, _, _ => none
 | k + 1, x6, x7, x8, x40, x41, x42, x146000, x146001, x146002, x146003, x146004, x146005, x146006, x148000, x148001, x148002, x148003, x148004, x148005, x148007, x148008, x148009 => (zfb.f k x8).bind fun t149 => (if x6.size + t149.size ≤ 9223372036854775807 then ((zfb.f k x8).bind fun t150 => ((zfb.f k x8).bind fun t151 => ((zlc.f k t151).bind fun bt152 => (if x148005.length < 2932031007402 then (zb.l0 k (x6 ++ t149) x40 x41 (wrap64 (x42 + 1)) x146000 x146001 x146002 x146003 x146004 x146005 x146006 x148000 x148001 x148002 x148003 x148004 (x148005 ++ [(⟨t150, (⟨bt152.1, bt152.2⟩ : S31), x7⟩ : S54)]) x148007 x148008 x148009) else (none))))) else (none))
def zb.j3 : Nat → ByteArray → List Int → Int → List Int → List Int → ByteArray → Bool → Int → ByteArray → ByteArray → ByteArray → ByteArray → Bool → List (S54) → Bool → Bool → ByteArray → Option (ByteArray × ByteArray × ByteArray × ByteArray × ByteArray × Bool × (List (S54)) × (List (S58)) × Bool × Bool × ByteArray × Bool)
 | 0, _, _, _, _, _, _, _, _, _, _, _, _, _, _, _, _, _ => none
 | k + 1, x6, x146000, x146001, x146002, x146003, x146004, x146005, x146006, x148000, x148001, x148002, x148003, x148004, x148005, x148007, x148008, x148009 => zb.l1 k x6 x146002 (x146002.length : Int) 0 x146000 x146001 x146002 x146003 x146004 x146005 x146006 x148000 x148001 x148002 x148003 x148004 x148005 ([] : List (S58)) x148007 x148008 x148009
def zb.l1 : Nat → ByteArray → List Int → Int → Int → List Int → Int → List Int → List Int → ByteArray → Bool → Int → ByteArray → ByteArray → ByteArray → ByteArray → Bool → List (S54) → List (S58) → Bool → Bool → ByteArray → Option (ByteArray × ByteArray × ByteArray × ByteArray × ByteArray × Bool × (List (S54)) × (List (S58)) × Bool × Bool × ByteArray × Bool)
 | 0, _, _, _, _, _, _, _, _, _, _, _, _, _, _, _, _, _, _, _, _, _ => none
 | k + 1, x6, x84, x85, x86, x146000, x146001, x146002, x146003, x146004, x146005, x146006, x148000, x148001, x148002, x148003, x148004, x148005, x148006, x148007, x148008, x148009 => if x86 < x85 then (if 0 ≤ x86 then (if x86 < (x84.length : Int) then ((zuf.f).bind fun t158 => (if 0 ≤ (Int.tmod (rd x84 x86) 9) then (if (Int.tmod (rd x84 x86) 9) < (t158.length : Int) then ((zbe.f).bind fun t163 => (if (Int.tmod (rd x84 x86) 9) < (t163.length : Int) then (if 1 + (rdOf ByteArray.empty t163 (Int.tmod (rd x84 x86) 9)).size ≤ 9223372036854775807 then (if x6.size + ((⟨#[95]⟩ : ByteArray) ++ (rdOf ByteArray.empty t163 (Int.tmod (rd x84 x86) 9))).size ≤ 9223372036854775807 then (if x86 < (x146003.length : Int) then (zb.j5 k (x6 ++ ((⟨#[95]⟩ : ByteArray) ++ (rdOf ByteArray.empty t163 (Int.tmod (rd x84 x86) 9)))) x86 x84 x85 x86 (decide ((rd x146003 x86) > 0)) x146000 x146001 x146002 x146003 x146004 x146005 x146006 x148000 x148001 x148002 x148003 x148004 x148005 x148006 x148007 x148008 x148009 (rd t158 (Int.tmod (rd x84 x86) 9)) false (⟨#[]⟩ : ByteArray)) else (zb.j5 k (x6 ++ ((⟨#[95]⟩ : ByteArray) ++ (rdOf ByteArray.empty t163 (Int.tmod (rd x84 x86) 9)))) x86 x84 x85 x86 false x146000 x146001 x146002 x146003 x146004 x146005 x146006 x148000 x148001 x148002 x148003 x148004 x148005 x148006 x148007 x148008 x148009 (rd t158 (Int.tmod (rd x84 x86) 9)) false (⟨#[]⟩ : ByteArray))) else (none)) else (none)) else (none))) else (none)) else (none))) else (none)) else (none)) else (zb.l2 k x6 0 x146000 x146001 x146002 x146003 x146004 x146005 x146006 x148000 x148001 x148002 x148003 x148004 x148005 x148006 x148007 x148008 x148009)
def zb.j5 : Nat → ByteArray → Int → List Int → Int → Int → Bool → List Int → Int → List Int → List Int → ByteArray → Bool → Int → ByteArray → ByteArray → ByteArray → ByteArray → Bool → List (S54) → List (S58) → Bool → Bool → ByteArray → Int → Bool → ByteArray → Option (ByteArray × ByteArray × ByteArray × ByteArray × ByteArray × Bool × (List (S54)) × (List (S58)) × Bool × Bool × ByteArray × Bool)
 | 0, _, _, _, _, _, _, _, _, _, _, _, _, _, _, _, _, _, _, _, _, _, _, _, _, _, _ => none
 | k + 1, x6, x10, x84, x85, x86, x117, x146000, x146001, x146002, x146003, x146004, x146005, x146006, x148000, x148001, x148002, x148003, x148004, x148005, x148006, x148007, x148008, x148009, x163000, x163001, x163002 => if x117 = true then (if 0 ≤ x10 then (if x10 < (x146003.length : Int) then ((zfb.f k (rd x146003 x10)).bind fun t169 => ((zlc.f k t169).bind fun bt170 => ((zfb.f k (rd x146003 x10)).bind fun t173 => (if x6.size + t173.size ≤ 9223372036854775807 then (if x148006.length < 4398046511104 then (zb.l1 k (x6 ++ t173) x84 x85 (wrap64 (x86 + 1)) x146000 x146001 x146002 x146003 x146004 x146005 x146006 x148000 x148001 x148002 x148003 x148004 x148005 (x148006 ++ [(⟨x163000, (⟨bt170.1, bt170.2⟩ : S31)⟩ : S58)]) x148007 x148008 x148009) else (none)) else (none))))) else (none)) else (none)) else (if x148006.length < 4398046511104 then (zb.l1 k x6 x84 x85 (wrap64 (x86 + 1)) x146000 x146001 x146002 x146003 x146004 x146005 x146006 x148000 x148001 x148002 x148003 x148004 x148005 (x148006 ++ [(⟨x163000, (⟨x163001, x163002⟩ : S31)⟩ : S58)]) x148007 x148008 x148009) else (none))
def zb.l2 : Nat → ByteArray → Int → List Int → Int → List Int → List Int → ByteArray → Bool → Int → ByteArray → ByteArray → ByteArray → ByteArray → Bool → List (S54) → List (S58) → Bool → Bool → ByteArray → Option (ByteArray × ByteArray × ByteArray × ByteArray × ByteArray × Bool × (List (S54)) × (List (S58)) × Bool × Bool × ByteArray × Bool)
 | 0, _, _, _, _, _, _, _, _, _, _, _, _, _, _, _, _, _, _, _ => none
 | k + 1, x6, x13, x146000, x146001, x146002, x146003, x146004, x146005, x146006, x148000, x148001, x148002, x148003, x148004, x148005, x148006, x148007, x148008, x148009 => if x13 < (x146004.size : Int) then (if 0 ≤ x13 then (if (bt x146004 x13) ≥ 48 then (if (bt x146004 x13) ≤ 57 then (zb.l2 k x6 (wrap64 (x13 + 1)) x146000 x146001 x146002 x146003 x146004 x146005 x146006 x148000 x148001 x148002 x148003 x148004 x148005 x148006 x148007 x148008 x148009) else (if (bt x146004 x13) ≥ 97 then (if ((bt x146004 x13) ≤ 102) then (zb.l2 k x6 (wrap64 (x13 + 1)) x146000 x146001 x146002 x146003 x146004 x146005 x146006 x148000 x148001 x148002 x148003 x148004 x148005 x148006 x148007 x148008 x148009) else (some ((⟨#[]⟩ : ByteArray), (⟨#[]⟩ : ByteArray), (⟨#[]⟩ : ByteArray), (⟨#[]⟩ : ByteArray), (⟨#[]⟩ : ByteArray), false, ([] : List (S54)), ([] : List (S58)), false, false, (⟨#[]⟩ : ByteArray), false))) else (some ((⟨#[]⟩ : ByteArray), (⟨#[]⟩ : ByteArray), (⟨#[]⟩ : ByteArray), (⟨#[]⟩ : ByteArray), (⟨#[]⟩ : ByteArray), false, ([] : List (S54)), ([] : List (S58)), false, false, (⟨#[]⟩ : ByteArray), false)))) else (if (bt x146004 x13) ≥ 97 then (if ((bt x146004 x13) ≤ 102) then (zb.l2 k x6 (wrap64 (x13 + 1)) x146000 x146001 x146002 x146003 x146004 x146005 x146006 x148000 x148001 x148002 x148003 x148004 x148005 x148006 x148007 x148008 x148009) else (some ((⟨#[]⟩ : ByteArray), (⟨#[]⟩ : ByteArray), (⟨#[]⟩ : ByteArray), (⟨#[]⟩ : ByteArray), (⟨#[]⟩ : ByteArray), false, ([] : List (S54)), ([] : List (S58)), false, false, (⟨#[]⟩ : ByteArray), false))) else (some ((⟨#[]⟩ : ByteArray), (⟨#[]⟩ : ByteArray), (⟨#[]⟩ : ByteArray), (⟨#[]⟩ : ByteArray), (⟨#[]⟩ : ByteArray), false, ([] : List (S54)), ([] : List (S58)), false, false, (⟨#[]⟩ : ByteArray), false)))) else (none)) else (if x146004.toList = ([] : List UInt8) then (zb.j7 k x6 x146000 x146001 x146002 x146003 x146004 x146005 x146006 x148000 x148001 x148002 x148003 x148004 x148005 x148006 x148007 x148008 x148009) else (if 1 + x146004.size ≤ 9223372036854775807 then (if x6.size + ((⟨#[126]⟩ : ByteArray) ++ x146004).size ≤ 9223372036854775807 then (zb.j7 k (x6 ++ ((⟨#[126]⟩ : ByteArray) ++ x146004)) x146000 x146001 x146002 x146003 x146004 x146005 x146006 x148000 x148001 x148002 ((⟨#[126]⟩ : ByteArray) ++ x146004) x148004 x148005 x148006 x148007 x148008 x148009) else (none)) else (none)))
def zb.j7 : Nat → ByteArray → List Int → Int → List Int → List Int → ByteArray → Bool → Int → ByteArray → ByteArray → ByteArray → ByteArray → Bool → List (S54) → List (S58) → Bool → Bool → ByteArray → Option (ByteArray × ByteArray × ByteArray × ByteArray × ByteArray × Bool × (List (S54)) × (List (S58)) × Bool × Bool × ByteArray × Bool)
 | 0, _, _, _, _, _, _, _, _, _, _, _, _, _, _, _, _, _, _ => none
 | k + 1, x6, x146000, x146001, x146002, x146003, x146004, x146005, x146006, x148000, x148001, x148002, x148003, x148004, x148005, x148006, x148007, x148008, x148009 => if x146005 = true then ((zfb.f k x146006).bind fun t180 => ((zlc.f k t180).bind fun bt181 => ((zfb.f k x146006).bind fun t183 => (if 2 + t183.size ≤ 9223372036854775807 then (if x6.size + ((⟨#[45, 114]⟩ : ByteArray) ++ t183).size ≤ 9223372036854775807 then (some (x6 ++ ((⟨#[45, 114]⟩ : ByteArray) ++ t183), x6 ++ ((⟨#[45, 114]⟩ : ByteArray) ++ t183), x148001, x148002, x148003, x148004, x148005, x148006, true, bt181.1, bt181.2, true)) else (none)) else (none))))) else (some (x6, x6, x148001, x148002, x148003, x148004, x148005, x148006, true, x148008, x148009, true))
end
def zb.f (k : Nat) (l0_0 : List Int) (a0_1 : Int) (l0_2 : List Int) (l0_3 : List Int) (a0_4 : ByteArray) (a0_5 : Bool) (a0_6 : Int) : Option (ByteArray × ByteArray × ByteArray × ByteArray × ByteArray × Bool × (List (S54)) × (List (S58)) × Bool × Bool × ByteArray × Bool) := if (l0_0.length : Int) = 0 then (zb.j0 k true l0_0 a0_1 l0_2 l0_3 a0_4 a0_5 a0_6) else (if (l0_0.length : Int) > 60 then (zb.j0 k true l0_0 a0_1 l0_2 l0_3 a0_4 a0_5 a0_6) else (if (l0_2.length : Int) > 60 then (zb.j0 k true l0_0 a0_1 l0_2 l0_3 a0_4 a0_5 a0_6) else (zb.j0 k (decide ((a0_4.size : Int) > 1200)) l0_0 a0_1 l0_2 l0_3 a0_4 a0_5 a0_6)))
def zb.T11 : Bool × List (List Nat × List Nat) := (true, [([], []), ([0], [0]), ([], []), ([2], [2]), ([], []), ([4, 3], [4]), ([5, 5], [5]), ([], []), ([3, 6, 7], [3, 6, 7]), ([8], [8]), ([1, 9, 6], [1, 9]), ([0, 1, 2, 3, 4, 5, 6, 7, 8, 9, 10], []), ([11, 10, 10, 0, 1, 2, 3, 4, 5, 6, 7, 8, 9, 10], [10, 11])])
def zb.B11 : List Nat := [0, 1, 0, 4, 0, 28, 60, 0, 252, 508, 1023, 2047, 4095]
theorem zb.tab11 : rtab .any (opsOf Tryd.f10 11) = zb.T11 := by kernel_rfl
theorem zb.bits11 : zfg zb.T11.2 zb.B11 = true := by kernel_rfl
end Go.Proofs.YtapaijpglfmfgaaDoor.Q
end
