/- Proved here, for the row of the law FnAlpineParse: contracts of the Go functions that it reaches, each as its theorem 'calls' says, and the words and plain laws that they need (Qx20, BA, BB, BC, PureFnAlpineParse, K19). -/
import Derived.Test.YtapaijpglfmfgaaDoorFnAlpineParseD
import Derived.Test.YtapaijpglfmfgaaDoorRows
import Derived.Stop.LaidErr
import Derived.Stop.Joined
import Derived.LaidSub
import Derived.MakeChecks
section -- Qx20
namespace Go.Proofs.YtapaijpglfmfgaaDoor.Q
open Go.RowKit Go.Proofs.YtapaijpglfmfgaaDoorH Go.Proofs.YtapaijpglfmfgaaDoorG Go.Proofs.YtapaijpglfmfgaaDoorW.PrintWords Go.Proofs.YtapaijpglfmfgaaDoorW.PrintLast Go.Proofs.YtapaijpglfmfgaaDoorW.PrintMore
attribute [local go_sem] max2_int min2_int max_two min_two max_three min_three max_four min_four   -- for this text's walks alone
set_option linter.unusedVariables false
set_option linter.unusedSimpArgs false
def laws_short.l0 : Nat → List ByteArray → List ByteArray → Int → Int → Option (Bool)
 | 0, _, _, _, _ => none
 | k + 1, x0, x5, x6, x7 => if x7 < x6 then (if 0 ≤ x7 then (if x7 < (x5.length : Int) then (if ((rdOf ByteArray.empty x5 x7).size : Int) > 1200 then (some false) else (laws_short.l0 k x0 x5 x6 (wrap64 (x7 + 1)))) else (none)) else (none)) else (some (decide ((x0.length : Int) ≤ 60)))
def laws_short.f (k : Nat) (l0 : List ByteArray) : Option (Bool) := laws_short.l0 k l0 l0 (l0.length : Int) 0
set_option maxHeartbeats 8000000 in
set_option maxRecDepth 100000 in
theorem laws_short.calls (k : Nat) (A0 : Option Addr) (c0 : Nat) (l0 : List ByteArray) (r : Bool) (w : World) (hr0 : Kd.C Kd.string w A0 l0.length l0) (hc0 : l0.length ≤ c0) (h : laws_short.f k l0 = some r) :
  Calls Tryd.prog 15 #[.slice A0 l0.length c0] w fun e w' => e = .returned (.bool r) ∧ Drawn0 w w' := by
 have HR0 := Aside0.mk hr0
 have HC0 := Aside0.mk hc0
 clear hr0 hc0
 have H : (laws_short.l0 k l0 l0 (l0.length : Int) 0) = some r := h
 clear h
 have H' := Aside0.mk H
 clear H
 go_enter Tryd.func15, Tryd.ntmps15
 go_wp2
 (try simp only [Act.put, List.setIfInBounds_toArray, List.set_cons_zero, List.set_cons_succ])
 go_loopg [7] k (fun kq v7 w' => ∃ (x7_1 : Int), v7 = .int .i64 x7_1 ∧ Aside0 (laws_short.l0 kq l0 l0 (l0.length : Int) x7_1 = some r) ∧ Aside0 (kq ≤ k) ∧ Drawn0 w w')
 case atStart => exact ⟨(0), (by rfl), H', ⟨Nat.le_refl _⟩, by repeat (first | exact Drawn0.refl _ | apply Drawn0.step)⟩
 case round =>
  clear H'
  obtain ⟨x7_1, rfl, HA, HK1, ⟨m1, rfl⟩⟩ := hrel
  cases gk with
  | zero => exact absurd HA.out (by simp [laws_short.l0])
  | succ k1 =>
   have H := HA.out
   clear HA
   simp only [laws_short.l0] at H
   by_cases c2 : x7_1 < (l0.length : Int)
   ·rw [if_pos c2] at H
    have c2b0 : decide (x7_1 < (l0.length : Int)) = true := decide_eq_true c2
    clear c2
    by_cases c3 : 0 ≤ x7_1
    ·rw [if_pos c3] at H
     have c3b0 : decide (0 ≤ x7_1) = true := decide_eq_true c3
     clear c3
     by_cases c4 : x7_1 < (l0.length : Int)
     ·rw [if_pos c4] at H
      have c4b0 : decide (x7_1 < (l0.length : Int)) = true := decide_eq_true c4
      clear c4
      by_cases c5 : ((rdOf ByteArray.empty l0 x7_1).size : Int) > 1200
      ·rw [if_pos c5] at H
       have c5b0 : decide (1200 < ((rdOf ByteArray.empty l0 x7_1).size : Int)) = true := decide_eq_true c5
       have c5b1 : decide (1200 < (rdOf ByteArray.empty l0 x7_1).size) = true := decide_eq_true (by omega)
       clear c5
       obtain rfl := Option.some.inj H
       have p452 : 0 ≤ (x7_1 : Int) := of_decide_eq_true (by (with_reducible assumption))
       have q452 : x7_1 < (l0.length : Int) := of_decide_eq_true (by (with_reducible assumption))
       obtain ⟨ad452, e452, hx452_0⟩ := Kd.at_string HR0.out x7_1 p452 q452
       cases e452
       replace p452 := eq_true p452
       replace q452 := eq_true q452
       go_wp2
       go_ret
       exact ⟨by rfl, by repeat (first | exact Drawn0.refl _ | apply Drawn0.step)⟩
      ·rw [if_neg c5] at H
       have c5b0 : decide (1200 < ((rdOf ByteArray.empty l0 x7_1).size : Int)) = false := decide_eq_false c5
       have c5b1 : decide (1200 < (rdOf ByteArray.empty l0 x7_1).size) = false := decide_eq_false (by omega)
       clear c5
       have H' := Aside0.mk H
       clear H
       have p452 : 0 ≤ (x7_1 : Int) := of_decide_eq_true (by (with_reducible assumption))
       have q452 : x7_1 < (l0.length : Int) := of_decide_eq_true (by (with_reducible assumption))
       obtain ⟨ad452, e452, hx452_0⟩ := Kd.at_string HR0.out x7_1 p452 q452
       cases e452
       replace p452 := eq_true p452
       replace q452 := eq_true q452
       go_wp2
       go_roundg k1
       case measure => have := HK1.out; omega
       case rel => exact ⟨(wrap64 (x7_1 + 1)), (by rfl), H', ⟨by have := HK1.out; omega⟩, by repeat (first | exact Drawn0.refl _ | apply Drawn0.step)⟩
     ·rw [if_neg c4] at H
      exact absurd H (by simp)
    ·rw [if_neg c3] at H
     exact absurd H (by simp)
   ·rw [if_neg c2] at H
    have c2b0 : decide (x7_1 < (l0.length : Int)) = false := decide_eq_false c2
    clear c2
    obtain rfl := Option.some.inj H
    go_wp2
    go_ret
    exact ⟨by rfl, by repeat (first | exact Drawn0.refl _ | apply Drawn0.step)⟩
def laws_FnAlpineParse.j0 : Nat → ByteArray → Bool → Option (Bool)
 | 0, _, _ => none
 | k + 1, x0, x18 => if x18 = true then (some true) else ((impl_AlpineParse.f x0).bind fun bt458 => ((spec_AlpineParse.f k x0).bind fun bt474 => (if (bt458.2.2.2.2.2.2.2.2.2.2 == bt474.2.2.2.2.2.2.2.2.2.2) = true then ((laws_alpine.f k bt458.1 bt458.2.1 bt458.2.2.1 bt458.2.2.2.1 bt458.2.2.2.2.1 bt458.2.2.2.2.2.1 bt458.2.2.2.2.2.2.1 bt458.2.2.2.2.2.2.2.1 bt458.2.2.2.2.2.2.2.2.1 bt458.2.2.2.2.2.2.2.2.2.1 bt474.1 bt474.2.1 bt474.2.2.1 bt474.2.2.2.1 bt474.2.2.2.2.1 bt474.2.2.2.2.2.1 bt474.2.2.2.2.2.2.1 bt474.2.2.2.2.2.2.2.1 bt474.2.2.2.2.2.2.2.2.1 bt474.2.2.2.2.2.2.2.2.2.1).bind fun t490 => (some t490)) else (some false))))
def laws_FnAlpineParse.f (k : Nat) (a0 : ByteArray) : Option (Bool) := if (a0.size : Int) > 2147483647 then (some true) else ((laws_short.f k (([a0] : List ByteArray))).bind fun t456 => (if t456 = true then ((spec_AlpineTextKnown.f k a0).bind fun t457 => (laws_FnAlpineParse.j0 k a0 (!t457))) else (laws_FnAlpineParse.j0 k a0 true)))
set_option maxHeartbeats 8000000 in
set_option maxRecDepth 100000 in
theorem laws_FnAlpineParse.calls (k : Nat) (a0 : ByteArray) (r : Bool) (w : World) (h : laws_FnAlpineParse.f k a0 = some r) (hG : GL w) :
  Calls Tryd.prog 4 #[.string a0] w fun e w' => e = .returned (.bool r) ∧ Below w.heap.size w w' := by
 have HG := Aside0.mk hG
 clear hG
 have hu33 := Tryd.underlying33
 have HB := Aside0.mk (Below.refl w.heap.size w)
 have H : (if (a0.size : Int) > 2147483647 then (some true) else ((laws_short.f k (([a0] : List ByteArray))).bind fun t456 => (if t456 = true then ((spec_AlpineTextKnown.f k a0).bind fun t457 => (laws_FnAlpineParse.j0 k a0 (!t457))) else (laws_FnAlpineParse.j0 k a0 true)))) = some r := h
 clear h
 by_cases c2 : (a0.size : Int) > 2147483647
 ·rw [if_pos c2] at H
  have c2b0 : decide (2147483647 < (a0.size : Int)) = true := decide_eq_true c2
  have c2b1 : decide (2147483647 < a0.size) = true := decide_eq_true (by omega)
  clear c2
  obtain rfl := Option.some.inj H
  go_enter Tryd.func4, Tryd.ntmps4
  go_wp2
  go_ret
  exact ⟨by rfl, by (with_reducible exact HB.out)⟩
 ·rw [if_neg c2] at H
  have c2b0 : decide (2147483647 < (a0.size : Int)) = false := decide_eq_false c2
  have c2b1 : decide (2147483647 < a0.size) = false := decide_eq_false (by omega)
  clear c2
  have HC3 := Aside0.mk H
  clear H
  go_enter Tryd.func4, Tryd.ntmps4
  go_upto_region 3 with (fail)
  go_cut [18] (fun v18 wc => ∃ (kq : Nat) (x18_2 : Bool), v18 = .bool x18_2 ∧ Aside0 (laws_FnAlpineParse.j0 kq a0 x18_2 = some r) ∧ Aside0 (kq ≤ k) ∧ Aside0 (Below w.heap.size w wc))
  case first =>
   have H := HC3.out
   clear HC3
   obtain ⟨y453, hy453⟩ : ∃ y_ : List ByteArray, y_ = (([a0] : List ByteArray)) := ⟨_, rfl⟩
   replace H : ((laws_short.f k y453).bind fun t456 => (if t456 = true then ((spec_AlpineTextKnown.f k a0).bind fun t457 => (laws_FnAlpineParse.j0 k a0 (!t457))) else (laws_FnAlpineParse.j0 k a0 true))) = some r := by (rw [hy453]; with_reducible exact H)
   have Ny453 := Aside0.mk hy453
   clear hy453
   replace H := Option.bind_eq_some_iff.mp H
   obtain ⟨t456, A40, H⟩ := H
   replace H : (if t456 = true then ((spec_AlpineTextKnown.f k a0).bind fun t457 => (laws_FnAlpineParse.j0 k a0 (!t457))) else (laws_FnAlpineParse.j0 k a0 true)) = some r := H
   have A4 := Aside0.mk A40
   clear A40
   by_cases c5 : t456 = true
   ·subst c5
    have H1 : ((spec_AlpineTextKnown.f k a0).bind fun t457 => (laws_FnAlpineParse.j0 k a0 (!t457))) = some r := by rw [if_pos rfl] at H; exact H
    clear H
    have H := H1
    clear H1
    replace H := Option.bind_eq_some_iff.mp H
    obtain ⟨t457, A60, H⟩ := H
    replace H : (laws_FnAlpineParse.j0 k a0 (!t457)) = some r := H
    have A6 := Aside0.mk A60
    clear A60
    have H' := Aside0.mk H
    clear H
    go_wp2_with (first | ((with_reducible refine gate_dst (N := 11) rfl ?_); refine Kd.R_lit Kd.string _ 9 ?hg (N := 11) ?hd (xs := ([a0] : List ByteArray)) (inner := [.string a0]) (ok := fun _ => True) (okp := fun _ => True) ?hr ?hp (fun _ hk => hk) trivial (Below.refl _ _) (Nat.le_refl _) (by simp) ?_; (case hd => rfl); (case hg => rfl); (case hr => first | (go_simp; done) | (go_simp; rfl)); (case hp => exact (Reps.one (show Kd.M Kd.string _ _ _ a0 [.string a0] from rfl) (Reps.none _ _))); intro v454 w7 ho8 hb hg_ hnew_; clear hg_ hnew_; (first | rw [← Ny453.out] at ho8 | (simp only [Int.reduceToNat] at ho8; rw [← Ny453.out] at ho8)); have n0_ := Aside0.mk (Kd.R_lower ho8 (below_size (by (with_reducible exact HB.out)))); have n1_ := Aside0.mk (below_step (by (with_reducible exact HB.out)) hb); clear HB; have HO455 := n0_; have HB := n1_; clear n0_ n1_; clear hb ho8; obtain ⟨Ao9, co9, eo9⟩ := Kd.R_slice HO455.out; subst eo9) | ((with_reducible refine gate_callee (f := 15) rfl ?_); refine goesL_ (some 12) rfl rfl Tryd.func15 (by kernel_rfl) rfl #[.slice Ao9 y453.length co9] rfl (by (try simp only [List.map_toArray, List.map_cons, List.map_nil]); first | done | rfl | (simp only [List.length_drop, List.length_take]; rfl)) ?_; (with_reducible refine (laws_short.calls k _ _ y453 true _ ?side1 ?side2 A4.out).mono ?_); (case side1 => repeat (first | exact (Kd.R_reads' HO455.out).2.2 | (with_reducible refine Kd.C_alloc ?_ _) | (with_reducible refine Kd.C_drewN ?_ _) | (with_reducible refine Kd.C_drew ?_))); (case side2 => exact (Kd.R_reads' HO455.out).2.1); rintro e w' ⟨rfl, ⟨nd, rfl⟩⟩; refine ⟨_, rfl, ?_⟩) | (go_at_call 11; (with_reducible refine (spec_AlpineTextKnown.calls k a0 t457 _ A6.out).mono ?_); rintro e w10 ⟨rfl, hb⟩; have n0_ := Aside0.mk (Kd.R_below (by (with_reducible repeat (first | apply Kd.R_alloc | apply Kd.R_drewN | apply Kd.R_drew)); exact HO455.out) hb); have n1_ := Aside0.mk (below_step (by (with_reducible apply pw_below_drewN; with_reducible exact HB.out)) hb); clear HO455; clear HB; have HO455 := n0_; have HB := n1_; clear n0_ n1_; (try clear hb); (try clear hb2); (try clear hk); (try clear hi)))
    go_meet
    case rel => exact ⟨_, (!t457), (by rfl), H', ⟨by omega⟩, ⟨by (with_reducible exact HB.out)⟩⟩
   ·replace c5 := Bool.eq_false_iff.mpr c5
    subst c5
    have H1 : (laws_FnAlpineParse.j0 k a0 true) = some r := by rw [if_neg (show ¬ (false = true) by decide)] at H; exact H
    clear H
    have H := H1
    clear H1
    have H' := Aside0.mk H
    clear H
    go_wp2_with (first | ((with_reducible refine gate_dst (N := 11) rfl ?_); refine Kd.R_lit Kd.string _ 9 ?hg (N := 11) ?hd (xs := ([a0] : List ByteArray)) (inner := [.string a0]) (ok := fun _ => True) (okp := fun _ => True) ?hr ?hp (fun _ hk => hk) trivial (Below.refl _ _) (Nat.le_refl _) (by simp) ?_; (case hd => rfl); (case hg => rfl); (case hr => first | (go_simp; done) | (go_simp; rfl)); (case hp => exact (Reps.one (show Kd.M Kd.string _ _ _ a0 [.string a0] from rfl) (Reps.none _ _))); intro v454 w11 ho12 hb hg_ hnew_; clear hg_ hnew_; (first | rw [← Ny453.out] at ho12 | (simp only [Int.reduceToNat] at ho12; rw [← Ny453.out] at ho12)); have n0_ := Aside0.mk (Kd.R_lower ho12 (below_size (by (with_reducible exact HB.out)))); have n1_ := Aside0.mk (below_step (by (with_reducible exact HB.out)) hb); clear HB; have HO455 := n0_; have HB := n1_; clear n0_ n1_; clear hb ho12; obtain ⟨Ao13, co13, eo13⟩ := Kd.R_slice HO455.out; subst eo13) | ((with_reducible refine gate_callee (f := 15) rfl ?_); refine goesL_ (some 12) rfl rfl Tryd.func15 (by kernel_rfl) rfl #[.slice Ao13 y453.length co13] rfl (by (try simp only [List.map_toArray, List.map_cons, List.map_nil]); first | done | rfl | (simp only [List.length_drop, List.length_take]; rfl)) ?_; (with_reducible refine (laws_short.calls k _ _ y453 false _ ?side1 ?side2 A4.out).mono ?_); (case side1 => repeat (first | exact (Kd.R_reads' HO455.out).2.2 | (with_reducible refine Kd.C_alloc ?_ _) | (with_reducible refine Kd.C_drewN ?_ _) | (with_reducible refine Kd.C_drew ?_))); (case side2 => exact (Kd.R_reads' HO455.out).2.1); rintro e w' ⟨rfl, ⟨nd, rfl⟩⟩; refine ⟨_, rfl, ?_⟩))
    go_meet
    case rel => exact ⟨_, (true), (by rfl), H', ⟨by omega⟩, ⟨by (with_reducible apply pw_below_drewN; with_reducible exact HB.out)⟩⟩
  case rest =>
   clear HC3
   clear c2b0 c2b1
   obtain ⟨kq, x18_2, rfl, HA, HJ2, HB⟩ := hcut
   cases kq with
   | zero => exact absurd HA.out (by simp [laws_FnAlpineParse.j0])
   | succ kj2 =>
    have H := HA.out
    clear HA
    simp only [laws_FnAlpineParse.j0] at H
    by_cases c14 : x18_2 = true
    ·subst c14
     have H1 : (some true) = some r := by rw [if_pos rfl] at H; exact H
     clear H
     have H := H1
     clear H1
     obtain rfl := Option.some.inj H
     go_wp2
     go_ret
     exact ⟨by rfl, by (with_reducible exact HB.out)⟩
    ·replace c14 := Bool.eq_false_iff.mpr c14
     subst c14
     have H1 : ((impl_AlpineParse.f a0).bind fun bt458 => ((spec_AlpineParse.f kj2 a0).bind fun bt474 => (if (bt458.2.2.2.2.2.2.2.2.2.2 == bt474.2.2.2.2.2.2.2.2.2.2) = true then ((laws_alpine.f kj2 bt458.1 bt458.2.1 bt458.2.2.1 bt458.2.2.2.1 bt458.2.2.2.2.1 bt458.2.2.2.2.2.1 bt458.2.2.2.2.2.2.1 bt458.2.2.2.2.2.2.2.1 bt458.2.2.2.2.2.2.2.2.1 bt458.2.2.2.2.2.2.2.2.2.1 bt474.1 bt474.2.1 bt474.2.2.1 bt474.2.2.2.1 bt474.2.2.2.2.1 bt474.2.2.2.2.2.1 bt474.2.2.2.2.2.2.1 bt474.2.2.2.2.2.2.2.1 bt474.2.2.2.2.2.2.2.2.1 bt474.2.2.2.2.2.2.2.2.2.1).bind fun t490 => (some t490)) else (some false)))) = some r := by rw [if_neg (show ¬ (false = true) by decide)] at H; exact H
     clear H
     have H := H1
     clear H1
     replace H := Option.bind_eq_some_iff.mp H
     obtain ⟨⟨t458, t459, t460, t461, t462, t463, t466, t469, t470, t471, t472⟩, A150, H⟩ := H
     replace H : ((spec_AlpineParse.f kj2 a0).bind fun bt474 => (if (t472 == bt474.2.2.2.2.2.2.2.2.2.2) = true then ((laws_alpine.f kj2 t458 t459 t460 t461 t462 t463 t466 t469 t470 t471 bt474.1 bt474.2.1 bt474.2.2.1 bt474.2.2.2.1 bt474.2.2.2.2.1 bt474.2.2.2.2.2.1 bt474.2.2.2.2.2.2.1 bt474.2.2.2.2.2.2.2.1 bt474.2.2.2.2.2.2.2.2.1 bt474.2.2.2.2.2.2.2.2.2.1).bind fun t490 => (some t490)) else (some false))) = some r := H
     have A15 := Aside0.mk A150
     clear A150
     replace H := Option.bind_eq_some_iff.mp H
     obtain ⟨⟨t474, t475, t476, t477, t478, t479, t482, t485, t486, t487, t488⟩, A160, H⟩ := H
     replace H : (if (t472 == t488) = true then ((laws_alpine.f kj2 t458 t459 t460 t461 t462 t463 t466 t469 t470 t471 t474 t475 t476 t477 t478 t479 t482 t485 t486 t487).bind fun t490 => (some t490)) else (some false)) = some r := H
     have A16 := Aside0.mk A160
     clear A160
     by_cases c17 : (t472 == t488) = true
     ·rw [if_pos c17] at H
      have c17b0 : (t472 == t488) = true := c17
      (try (have c17b1 : decide (t472 = t488) = true := by simpa using c17))
      (try (have c17b2 : (t472 == t488) = true := by simpa using c17))
      clear c17
      replace H := Option.bind_eq_some_iff.mp H
      obtain ⟨t490, A180, H⟩ := H
      replace H : (some t490) = some r := H
      have A18 := Aside0.mk A180
      clear A180
      obtain rfl := Option.some.inj H
      go_wp2_with (first | ((with_reducible refine gate_callee (f := 12) rfl ?_); refine goesL_ (some 21) rfl rfl Tryd.func12 (by kernel_rfl) rfl #[.string a0] rfl (by (try simp only [List.map_toArray, List.map_cons, List.map_nil]); first | done | rfl | (simp only [List.length_drop, List.length_take]; rfl)) ?_; (with_reducible refine (impl_AlpineParse.calls a0 t458 t459 t460 t461 t462 t463 t466 t469 t470 t471 t472 _ A15.out (by exact GL.at HG.out (by repeat (first | (with_reducible first | exact HB.out | apply below_alloc | apply pw_below_drewN | apply below_drew1) | exact HB.out)))).mono ?_); rintro e w19 ⟨v464, v467, rfl, ho0, ho1, hb⟩; refine ⟨_, rfl, ?_⟩; have n0_ := Aside0.mk (Kd.R_lower ho0 (below_size (by (with_reducible exact HB.out)))); have n1_ := Aside0.mk (Kd.R_lower ho1 (below_size (by (with_reducible exact HB.out)))); have n2_ := Aside0.mk (below_step (by (with_reducible exact HB.out)) hb); clear HB; have HO465 := n0_; have HO468 := n1_; have HB := n2_; clear n0_ n1_ n2_; (try clear hb); (try clear hb2); (try clear hk); (try clear hi); (try clear ho0); (try clear ho1)) | ((with_reducible refine gate_dst (N := 3) rfl ?_); refine box_event ?hg (N := 3) ?hd (cs := #[.string ⟨#[]⟩, .string ⟨#[]⟩, .string ⟨#[]⟩, .string ⟨#[]⟩, .bool false, .slice none 0 0, .slice none 0 0, .bool false, .bool false, .string ⟨#[]⟩]) (t := 33) ?hr ?_; (case hd => rfl); (case hg => rfl); (case hr => first | (go_simp; done) | (go_simp; rfl)); intro gb473 hg w20 hbox hb; have n0_ := Aside0.mk (Kd.R_below (by (with_reducible repeat (first | apply Kd.R_alloc | apply Kd.R_drewN | apply Kd.R_drew)); exact HO465.out) hb); have n1_ := Aside0.mk (Kd.R_below (by (with_reducible repeat (first | apply Kd.R_alloc | apply Kd.R_drewN | apply Kd.R_drew)); exact HO468.out) hb); have n2_ := Aside0.mk (below_step (by (with_reducible exact HB.out)) hb); have n3_ := Aside0.mk (hbox); have n4_ := Aside0.mk ((by rw [hg]; exact (below_size (by (with_reducible exact HB.out))) : w.heap.size ≤ gb473)); have n5_ := Aside0.mk ((by rw [hg]; exact (below_size (by (with_reducible exact HB.out))) : w.heap.size ≤ gb473)); clear HO465; clear HO468; clear HB; have HO465 := n0_; have HO468 := n1_; have HB := n2_; have BK473 := n3_; have GW473 := n4_; have GE473 := n5_; clear n0_ n1_ n2_ n3_ n4_ n5_; clear hb hbox hg; have hcz21_0 : w20.cell? ⟨gb473, 0, none⟩ = some (.string ⟨#[]⟩) := (blk_cell BK473.out 0).trans rfl; have hcz21_1 : w20.cell? ⟨gb473, 1, none⟩ = some (.string ⟨#[]⟩) := (blk_cell BK473.out 1).trans rfl; have hcz21_2 : w20.cell? ⟨gb473, 2, none⟩ = some (.string ⟨#[]⟩) := (blk_cell BK473.out 2).trans rfl; have hcz21_3 : w20.cell? ⟨gb473, 3, none⟩ = some (.string ⟨#[]⟩) := (blk_cell BK473.out 3).trans rfl; have hcz21_4 : w20.cell? ⟨gb473, 4, none⟩ = some (.bool false) := (blk_cell BK473.out 4).trans rfl; have hcz21_5 : w20.cell? ⟨gb473, 5, none⟩ = some (.slice none 0 0) := (blk_cell BK473.out 5).trans rfl; have hcz21_6 : w20.cell? ⟨gb473, 6, none⟩ = some (.slice none 0 0) := (blk_cell BK473.out 6).trans rfl; have hcz21_7 : w20.cell? ⟨gb473, 7, none⟩ = some (.bool false) := (blk_cell BK473.out 7).trans rfl; have hcz21_8 : w20.cell? ⟨gb473, 8, none⟩ = some (.bool false) := (blk_cell BK473.out 8).trans rfl; have hcz21_9 : w20.cell? ⟨gb473, 9, none⟩ = some (.string ⟨#[]⟩) := (blk_cell BK473.out 9).trans rfl; have hfz21_0 := blk_frozen BK473.out 0; have hfz21_1 := blk_frozen BK473.out 1; have hfz21_2 := blk_frozen BK473.out 2; have hfz21_3 := blk_frozen BK473.out 3; have hfz21_4 := blk_frozen BK473.out 4; have hfz21_5 := blk_frozen BK473.out 5; have hfz21_6 := blk_frozen BK473.out 6; have hfz21_7 := blk_frozen BK473.out 7; have hfz21_8 := blk_frozen BK473.out 8; have hfz21_9 := blk_frozen BK473.out 9; obtain ⟨Ao22, co22, eo22⟩ := Kd.R_slice HO465.out; subst eo22; obtain ⟨Ao23, co23, eo23⟩ := Kd.R_slice HO468.out; subst eo23) | ((with_reducible refine gate_callee (f := 13) rfl ?_); refine goesL_ (some 26) rfl rfl Tryd.func13 (by kernel_rfl) rfl #[.string a0] rfl (by (try simp only [List.map_toArray, List.map_cons, List.map_nil]); first | done | rfl | (simp only [List.length_drop, List.length_take]; rfl)) ?_; (with_reducible refine (spec_AlpineParse.calls kj2 a0 t474 t475 t476 t477 t478 t479 t482 t485 t486 t487 t488 _ A16.out).mono ?_); rintro e w24 ⟨v480, v483, rfl, ho0, ho1, hb⟩; refine ⟨_, rfl, ?_⟩; have n0_ := Aside0.mk (Kd.R_elder' (by (with_reducible repeat (first | apply Kd.R_alloc | apply Kd.R_drewN | apply Kd.R_drew)); exact (Kd.R_mono (Kd.R_far (p := ⟨gb473, 9, none⟩) (Kd.R_far (p := ⟨gb473, 8, none⟩) (Kd.R_far (p := ⟨gb473, 7, none⟩) (Kd.R_far (p := ⟨gb473, 6, none⟩) (Kd.R_far (p := ⟨gb473, 5, none⟩) (Kd.R_far (p := ⟨gb473, 4, none⟩) (Kd.R_far (p := ⟨gb473, 3, none⟩) (Kd.R_far (p := ⟨gb473, 2, none⟩) (Kd.R_far (p := ⟨gb473, 1, none⟩) (Kd.R_far (p := ⟨gb473, 0, none⟩) (Kd.R_types HO465.out BK473.out (by decide)) (fun _ hk => hk.2) (.string t458)) (fun _ hk => hk.2) (.string t459)) (fun _ hk => hk.2) (.string t460)) (fun _ hk => hk.2) (.string t461)) (fun _ hk => hk.2) (.bool t462)) (fun _ hk => hk.2) (.slice Ao22 t463.length co22)) (fun _ hk => hk.2) (.slice Ao23 t466.length co23)) (fun _ hk => hk.2) (.bool t469)) (fun _ hk => hk.2) (.bool t470)) (fun _ hk => hk.2) (.string t471)) (fun _ h_ => h_.1))) (Kd.R_base ho0) hb); have n1_ := Aside0.mk (Kd.R_elder' (by (with_reducible repeat (first | apply Kd.R_alloc | apply Kd.R_drewN | apply Kd.R_drew)); exact (Kd.R_mono (Kd.R_far (p := ⟨gb473, 9, none⟩) (Kd.R_far (p := ⟨gb473, 8, none⟩) (Kd.R_far (p := ⟨gb473, 7, none⟩) (Kd.R_far (p := ⟨gb473, 6, none⟩) (Kd.R_far (p := ⟨gb473, 5, none⟩) (Kd.R_far (p := ⟨gb473, 4, none⟩) (Kd.R_far (p := ⟨gb473, 3, none⟩) (Kd.R_far (p := ⟨gb473, 2, none⟩) (Kd.R_far (p := ⟨gb473, 1, none⟩) (Kd.R_far (p := ⟨gb473, 0, none⟩) (Kd.R_types HO468.out BK473.out (by decide)) (fun _ hk => hk.2) (.string t458)) (fun _ hk => hk.2) (.string t459)) (fun _ hk => hk.2) (.string t460)) (fun _ hk => hk.2) (.string t461)) (fun _ hk => hk.2) (.bool t462)) (fun _ hk => hk.2) (.slice Ao22 t463.length co22)) (fun _ hk => hk.2) (.slice Ao23 t466.length co23)) (fun _ hk => hk.2) (.bool t469)) (fun _ hk => hk.2) (.bool t470)) (fun _ hk => hk.2) (.string t471)) (fun _ h_ => h_.1))) (Kd.R_base ho1) hb); have n2_ := Aside0.mk (Kd.R_lower (Kd.R_new' ho0 (Kd.R_lt (by (with_reducible repeat (first | apply Kd.R_alloc | apply Kd.R_drewN | apply Kd.R_drew)); exact (Kd.R_mono (Kd.R_far (p := ⟨gb473, 9, none⟩) (Kd.R_far (p := ⟨gb473, 8, none⟩) (Kd.R_far (p := ⟨gb473, 7, none⟩) (Kd.R_far (p := ⟨gb473, 6, none⟩) (Kd.R_far (p := ⟨gb473, 5, none⟩) (Kd.R_far (p := ⟨gb473, 4, none⟩) (Kd.R_far (p := ⟨gb473, 3, none⟩) (Kd.R_far (p := ⟨gb473, 2, none⟩) (Kd.R_far (p := ⟨gb473, 1, none⟩) (Kd.R_far (p := ⟨gb473, 0, none⟩) (Kd.R_types HO465.out BK473.out (by decide)) (fun _ hk => hk.2) (.string t458)) (fun _ hk => hk.2) (.string t459)) (fun _ hk => hk.2) (.string t460)) (fun _ hk => hk.2) (.string t461)) (fun _ hk => hk.2) (.bool t462)) (fun _ hk => hk.2) (.slice Ao22 t463.length co22)) (fun _ hk => hk.2) (.slice Ao23 t466.length co23)) (fun _ hk => hk.2) (.bool t469)) (fun _ hk => hk.2) (.bool t470)) (fun _ hk => hk.2) (.string t471)) (fun _ h_ => h_.1))))) (below_size (by repeat (first | (with_reducible first | exact HB.out | apply below_alloc | apply pw_below_drewN | apply below_drew1 | refine below_set ?_ GE473.out) | exact HB.out)))); have n3_ := Aside0.mk (Kd.R_lower (Kd.R_new' ho1 (Kd.R_lt (by (with_reducible repeat (first | apply Kd.R_alloc | apply Kd.R_drewN | apply Kd.R_drew)); exact (Kd.R_mono (Kd.R_far (p := ⟨gb473, 9, none⟩) (Kd.R_far (p := ⟨gb473, 8, none⟩) (Kd.R_far (p := ⟨gb473, 7, none⟩) (Kd.R_far (p := ⟨gb473, 6, none⟩) (Kd.R_far (p := ⟨gb473, 5, none⟩) (Kd.R_far (p := ⟨gb473, 4, none⟩) (Kd.R_far (p := ⟨gb473, 3, none⟩) (Kd.R_far (p := ⟨gb473, 2, none⟩) (Kd.R_far (p := ⟨gb473, 1, none⟩) (Kd.R_far (p := ⟨gb473, 0, none⟩) (Kd.R_types HO468.out BK473.out (by decide)) (fun _ hk => hk.2) (.string t458)) (fun _ hk => hk.2) (.string t459)) (fun _ hk => hk.2) (.string t460)) (fun _ hk => hk.2) (.string t461)) (fun _ hk => hk.2) (.bool t462)) (fun _ hk => hk.2) (.slice Ao22 t463.length co22)) (fun _ hk => hk.2) (.slice Ao23 t466.length co23)) (fun _ hk => hk.2) (.bool t469)) (fun _ hk => hk.2) (.bool t470)) (fun _ hk => hk.2) (.string t471)) (fun _ h_ => h_.1))))) (below_size (by repeat (first | (with_reducible first | exact HB.out | apply below_alloc | apply pw_below_drewN | apply below_drew1 | refine below_set ?_ GE473.out) | exact HB.out)))); have n4_ := Aside0.mk (blk_below (g := gb473) (o := .cells #[.string t458, .string t459, .string t460, .string t461, .bool t462, .slice Ao22 t463.length co22, .slice Ao23 t466.length co23, .bool t469, .bool t470, .string t471] 33 (0, 0)) (by refine blk_put (cs := #[.string t458, .string t459, .string t460, .string t461, .bool t462, .slice Ao22 t463.length co22, .slice Ao23 t466.length co23, .bool t469, .bool t470, .string ⟨#[]⟩]) ?_ 9 _ rfl; refine blk_put (cs := #[.string t458, .string t459, .string t460, .string t461, .bool t462, .slice Ao22 t463.length co22, .slice Ao23 t466.length co23, .bool t469, .bool false, .string ⟨#[]⟩]) ?_ 8 _ rfl; refine blk_put (cs := #[.string t458, .string t459, .string t460, .string t461, .bool t462, .slice Ao22 t463.length co22, .slice Ao23 t466.length co23, .bool false, .bool false, .string ⟨#[]⟩]) ?_ 7 _ rfl; refine blk_put (cs := #[.string t458, .string t459, .string t460, .string t461, .bool t462, .slice Ao22 t463.length co22, .slice none 0 0, .bool false, .bool false, .string ⟨#[]⟩]) ?_ 6 _ rfl; refine blk_put (cs := #[.string t458, .string t459, .string t460, .string t461, .bool t462, .slice none 0 0, .slice none 0 0, .bool false, .bool false, .string ⟨#[]⟩]) ?_ 5 _ rfl; refine blk_put (cs := #[.string t458, .string t459, .string t460, .string t461, .bool false, .slice none 0 0, .slice none 0 0, .bool false, .bool false, .string ⟨#[]⟩]) ?_ 4 _ rfl; refine blk_put (cs := #[.string t458, .string t459, .string t460, .string ⟨#[]⟩, .bool false, .slice none 0 0, .slice none 0 0, .bool false, .bool false, .string ⟨#[]⟩]) ?_ 3 _ rfl; refine blk_put (cs := #[.string t458, .string t459, .string ⟨#[]⟩, .string ⟨#[]⟩, .bool false, .slice none 0 0, .slice none 0 0, .bool false, .bool false, .string ⟨#[]⟩]) ?_ 2 _ rfl; refine blk_put (cs := #[.string t458, .string ⟨#[]⟩, .string ⟨#[]⟩, .string ⟨#[]⟩, .bool false, .slice none 0 0, .slice none 0 0, .bool false, .bool false, .string ⟨#[]⟩]) ?_ 1 _ rfl; refine blk_put (cs := #[.string ⟨#[]⟩, .string ⟨#[]⟩, .string ⟨#[]⟩, .string ⟨#[]⟩, .bool false, .slice none 0 0, .slice none 0 0, .bool false, .bool false, .string ⟨#[]⟩]) ?_ 0 _ rfl; exact BK473.out) hb); have n5_ := Aside0.mk (below_step (by repeat (first | (with_reducible first | exact HB.out | apply below_alloc | apply pw_below_drewN | apply below_drew1 | refine below_set ?_ GE473.out) | exact HB.out)) hb); clear HO465; clear HO468; clear BK473; clear HB; have HO465 := n0_; have HO468 := n1_; have HO481 := n2_; have HO484 := n3_; have BK473 := n4_; have HB := n5_; clear n0_ n1_ n2_ n3_ n4_ n5_; (try clear hb); (try clear hb2); (try clear hk); (try clear hi); (try clear ho0); (try clear ho1)) | ((with_reducible refine gate_dst (N := 5) rfl ?_); refine box_event ?hg (N := 5) ?hd (cs := #[.string ⟨#[]⟩, .string ⟨#[]⟩, .string ⟨#[]⟩, .string ⟨#[]⟩, .bool false, .slice none 0 0, .slice none 0 0, .bool false, .bool false, .string ⟨#[]⟩]) (t := 33) ?hr ?_; (case hd => rfl); (case hg => rfl); (case hr => first | (go_simp; done) | (go_simp; rfl)); intro gb489 hg w25 hbox hb; have n0_ := Aside0.mk (Kd.R_below (by (with_reducible repeat (first | apply Kd.R_alloc | apply Kd.R_drewN | apply Kd.R_drew)); exact HO465.out) hb); have n1_ := Aside0.mk (Kd.R_below (by (with_reducible repeat (first | apply Kd.R_alloc | apply Kd.R_drewN | apply Kd.R_drew)); exact HO468.out) hb); have n2_ := Aside0.mk (Kd.R_below (by (with_reducible repeat (first | apply Kd.R_alloc | apply Kd.R_drewN | apply Kd.R_drew)); exact HO481.out) hb); have n3_ := Aside0.mk (Kd.R_below (by (with_reducible repeat (first | apply Kd.R_alloc | apply Kd.R_drewN | apply Kd.R_drew)); exact HO484.out) hb); have n4_ := Aside0.mk (blk_below (g := gb473) (o := .cells #[.string t458, .string t459, .string t460, .string t461, .bool t462, .slice Ao22 t463.length co22, .slice Ao23 t466.length co23, .bool t469, .bool t470, .string t471] 33 (0, 0)) (by exact BK473.out) hb); have n5_ := Aside0.mk (below_step (by (with_reducible exact HB.out)) hb); have n6_ := Aside0.mk (hbox); have n7_ := Aside0.mk ((by rw [hg]; exact (below_size (by (with_reducible exact HB.out))) : w.heap.size ≤ gb489)); have n8_ := Aside0.mk ((by rw [hg]; exact (below_size (by (with_reducible exact HB.out))) : w.heap.size ≤ gb489)); have n9_ := Aside0.mk ((by rw [hg]; exact Nat.ne_of_lt (blk_lt (g := gb473) (o := .cells #[.string t458, .string t459, .string t460, .string t461, .bool t462, .slice Ao22 t463.length co22, .slice Ao23 t466.length co23, .bool t469, .bool t470, .string t471] 33 (0, 0)) (by exact BK473.out)) : gb473 ≠ gb489)); have n10_ := Aside0.mk ((by rw [hg]; exact Nat.ne_of_gt (blk_lt (g := gb473) (o := .cells #[.string t458, .string t459, .string t460, .string t461, .bool t462, .slice Ao22 t463.length co22, .slice Ao23 t466.length co23, .bool t469, .bool t470, .string t471] 33 (0, 0)) (by exact BK473.out)) : gb489 ≠ gb473)); clear HO465; clear HO468; clear HO481; clear HO484; clear BK473; clear HB; have HO465 := n0_; have HO468 := n1_; have HO481 := n2_; have HO484 := n3_; have BK473 := n4_; have HB := n5_; have BK489 := n6_; have GW489 := n7_; have GE489 := n8_; have NB473_489 := n9_; have NB489_473 := n10_; clear n0_ n1_ n2_ n3_ n4_ n5_ n6_ n7_ n8_ n9_ n10_; clear hb hbox hg; have hnb26 := NB489_473.out; have hnc26 := NB473_489.out; have hcz27_0 : w25.cell? ⟨gb489, 0, none⟩ = some (.string ⟨#[]⟩) := (blk_cell BK489.out 0).trans rfl; have hcz27_1 : w25.cell? ⟨gb489, 1, none⟩ = some (.string ⟨#[]⟩) := (blk_cell BK489.out 1).trans rfl; have hcz27_2 : w25.cell? ⟨gb489, 2, none⟩ = some (.string ⟨#[]⟩) := (blk_cell BK489.out 2).trans rfl; have hcz27_3 : w25.cell? ⟨gb489, 3, none⟩ = some (.string ⟨#[]⟩) := (blk_cell BK489.out 3).trans rfl; have hcz27_4 : w25.cell? ⟨gb489, 4, none⟩ = some (.bool false) := (blk_cell BK489.out 4).trans rfl; have hcz27_5 : w25.cell? ⟨gb489, 5, none⟩ = some (.slice none 0 0) := (blk_cell BK489.out 5).trans rfl; have hcz27_6 : w25.cell? ⟨gb489, 6, none⟩ = some (.slice none 0 0) := (blk_cell BK489.out 6).trans rfl; have hcz27_7 : w25.cell? ⟨gb489, 7, none⟩ = some (.bool false) := (blk_cell BK489.out 7).trans rfl; have hcz27_8 : w25.cell? ⟨gb489, 8, none⟩ = some (.bool false) := (blk_cell BK489.out 8).trans rfl; have hcz27_9 : w25.cell? ⟨gb489, 9, none⟩ = some (.string ⟨#[]⟩) := (blk_cell BK489.out 9).trans rfl; have hfz27_0 := blk_frozen BK489.out 0; have hfz27_1 := blk_frozen BK489.out 1; have hfz27_2 := blk_frozen BK489.out 2; have hfz27_3 := blk_frozen BK489.out 3; have hfz27_4 := blk_frozen BK489.out 4; have hfz27_5 := blk_frozen BK489.out 5; have hfz27_6 := blk_frozen BK489.out 6; have hfz27_7 := blk_frozen BK489.out 7; have hfz27_8 := blk_frozen BK489.out 8; have hfz27_9 := blk_frozen BK489.out 9; obtain ⟨Ao28, co28, eo28⟩ := Kd.R_slice HO481.out; subst eo28; obtain ⟨Ao29, co29, eo29⟩ := Kd.R_slice HO484.out; subst eo29; have hcz30_0 : w25.cell? ⟨gb473, 0, none⟩ = some (.string t458) := (blk_cell BK473.out 0).trans rfl; have hcz30_1 : w25.cell? ⟨gb473, 1, none⟩ = some (.string t459) := (blk_cell BK473.out 1).trans rfl; have hcz30_2 : w25.cell? ⟨gb473, 2, none⟩ = some (.string t460) := (blk_cell BK473.out 2).trans rfl; have hcz30_3 : w25.cell? ⟨gb473, 3, none⟩ = some (.string t461) := (blk_cell BK473.out 3).trans rfl; have hcz30_4 : w25.cell? ⟨gb473, 4, none⟩ = some (.bool t462) := (blk_cell BK473.out 4).trans rfl; have hcz30_5 : w25.cell? ⟨gb473, 5, none⟩ = some (.slice Ao22 t463.length co22) := (blk_cell BK473.out 5).trans rfl; have hcz30_6 : w25.cell? ⟨gb473, 6, none⟩ = some (.slice Ao23 t466.length co23) := (blk_cell BK473.out 6).trans rfl; have hcz30_7 : w25.cell? ⟨gb473, 7, none⟩ = some (.bool t469) := (blk_cell BK473.out 7).trans rfl; have hcz30_8 : w25.cell? ⟨gb473, 8, none⟩ = some (.bool t470) := (blk_cell BK473.out 8).trans rfl; have hcz30_9 : w25.cell? ⟨gb473, 9, none⟩ = some (.string t471) := (blk_cell BK473.out 9).trans rfl; have hfz30_0 := blk_frozen BK473.out 0; have hfz30_1 := blk_frozen BK473.out 1; have hfz30_2 := blk_frozen BK473.out 2; have hfz30_3 := blk_frozen BK473.out 3; have hfz30_4 := blk_frozen BK473.out 4; have hfz30_5 := blk_frozen BK473.out 5; have hfz30_6 := blk_frozen BK473.out 6; have hfz30_7 := blk_frozen BK473.out 7; have hfz30_8 := blk_frozen BK473.out 8; have hfz30_9 := blk_frozen BK473.out 9) | (go_at_call 14; (with_reducible refine (laws_alpine.calls kj2 t458 t459 t460 t461 t462 _ _ t463 _ _ t466 t469 t470 t471 t474 t475 t476 t477 t478 _ _ t479 _ _ t482 t485 t486 t487 t490 _ ?side1 ?side2 ?side3 ?side4 ?side5 ?side6 ?side7 ?side8 A18.out).mono ?_); (case side1 => refine (Kd.R_reads' (e := 54) (base := w.heap.size) (ok := fun k_ => (True ∧ some k_ ≠ (.slice Ao28 t479.length co28 : Value).ownBlock)) (n := t463.length) (c := co22) ?_).2.2; exact (by (with_reducible repeat (first | apply Kd.R_alloc | apply Kd.R_drewN | apply Kd.R_drew)); exact (Kd.R_mono (Kd.R_far (p := ⟨gb489, 9, none⟩) (Kd.R_far (p := ⟨gb489, 8, none⟩) (Kd.R_far (p := ⟨gb489, 7, none⟩) (Kd.R_far (p := ⟨gb489, 6, none⟩) (Kd.R_far (p := ⟨gb489, 5, none⟩) (Kd.R_far (p := ⟨gb489, 4, none⟩) (Kd.R_far (p := ⟨gb489, 3, none⟩) (Kd.R_far (p := ⟨gb489, 2, none⟩) (Kd.R_far (p := ⟨gb489, 1, none⟩) (Kd.R_far (p := ⟨gb489, 0, none⟩) (Kd.R_types HO465.out BK489.out (by decide)) (fun _ hk => hk.2) (.string t474)) (fun _ hk => hk.2) (.string t475)) (fun _ hk => hk.2) (.string t476)) (fun _ hk => hk.2) (.string t477)) (fun _ hk => hk.2) (.bool t478)) (fun _ hk => hk.2) (.slice Ao28 t479.length co28)) (fun _ hk => hk.2) (.slice Ao29 t482.length co29)) (fun _ hk => hk.2) (.bool t485)) (fun _ hk => hk.2) (.bool t486)) (fun _ hk => hk.2) (.string t487)) (fun _ h_ => h_.1)))); (case side2 => exact (Kd.R_reads' HO465.out).2.1); (case side3 => refine (Kd.R_reads' (e := 58) (base := w.heap.size) (ok := fun k_ => (True ∧ some k_ ≠ (.slice Ao29 t482.length co29 : Value).ownBlock)) (n := t466.length) (c := co23) ?_).2.2; exact (by (with_reducible repeat (first | apply Kd.R_alloc | apply Kd.R_drewN | apply Kd.R_drew)); exact (Kd.R_mono (Kd.R_far (p := ⟨gb489, 9, none⟩) (Kd.R_far (p := ⟨gb489, 8, none⟩) (Kd.R_far (p := ⟨gb489, 7, none⟩) (Kd.R_far (p := ⟨gb489, 6, none⟩) (Kd.R_far (p := ⟨gb489, 5, none⟩) (Kd.R_far (p := ⟨gb489, 4, none⟩) (Kd.R_far (p := ⟨gb489, 3, none⟩) (Kd.R_far (p := ⟨gb489, 2, none⟩) (Kd.R_far (p := ⟨gb489, 1, none⟩) (Kd.R_far (p := ⟨gb489, 0, none⟩) (Kd.R_types HO468.out BK489.out (by decide)) (fun _ hk => hk.2) (.string t474)) (fun _ hk => hk.2) (.string t475)) (fun _ hk => hk.2) (.string t476)) (fun _ hk => hk.2) (.string t477)) (fun _ hk => hk.2) (.bool t478)) (fun _ hk => hk.2) (.slice Ao28 t479.length co28)) (fun _ hk => hk.2) (.slice Ao29 t482.length co29)) (fun _ hk => hk.2) (.bool t485)) (fun _ hk => hk.2) (.bool t486)) (fun _ hk => hk.2) (.string t487)) (fun _ h_ => h_.1)))); (case side4 => exact (Kd.R_reads' HO468.out).2.1); (case side5 => refine (Kd.R_reads' (e := 54) (base := w.heap.size) (ok := fun k_ => (True ∧ some k_ ≠ (.slice Ao22 t463.length co22 : Value).ownBlock)) (n := t479.length) (c := co28) ?_).2.2; exact (by (with_reducible repeat (first | apply Kd.R_alloc | apply Kd.R_drewN | apply Kd.R_drew)); exact (Kd.R_mono (Kd.R_far (p := ⟨gb489, 9, none⟩) (Kd.R_far (p := ⟨gb489, 8, none⟩) (Kd.R_far (p := ⟨gb489, 7, none⟩) (Kd.R_far (p := ⟨gb489, 6, none⟩) (Kd.R_far (p := ⟨gb489, 5, none⟩) (Kd.R_far (p := ⟨gb489, 4, none⟩) (Kd.R_far (p := ⟨gb489, 3, none⟩) (Kd.R_far (p := ⟨gb489, 2, none⟩) (Kd.R_far (p := ⟨gb489, 1, none⟩) (Kd.R_far (p := ⟨gb489, 0, none⟩) (Kd.R_types HO481.out BK489.out (by decide)) (fun _ hk => hk.2) (.string t474)) (fun _ hk => hk.2) (.string t475)) (fun _ hk => hk.2) (.string t476)) (fun _ hk => hk.2) (.string t477)) (fun _ hk => hk.2) (.bool t478)) (fun _ hk => hk.2) (.slice Ao28 t479.length co28)) (fun _ hk => hk.2) (.slice Ao29 t482.length co29)) (fun _ hk => hk.2) (.bool t485)) (fun _ hk => hk.2) (.bool t486)) (fun _ hk => hk.2) (.string t487)) (fun _ h_ => h_.1)))); (case side6 => exact (Kd.R_reads' HO481.out).2.1); (case side7 => refine (Kd.R_reads' (e := 58) (base := w.heap.size) (ok := fun k_ => (True ∧ some k_ ≠ (.slice Ao23 t466.length co23 : Value).ownBlock)) (n := t482.length) (c := co29) ?_).2.2; exact (by (with_reducible repeat (first | apply Kd.R_alloc | apply Kd.R_drewN | apply Kd.R_drew)); exact (Kd.R_mono (Kd.R_far (p := ⟨gb489, 9, none⟩) (Kd.R_far (p := ⟨gb489, 8, none⟩) (Kd.R_far (p := ⟨gb489, 7, none⟩) (Kd.R_far (p := ⟨gb489, 6, none⟩) (Kd.R_far (p := ⟨gb489, 5, none⟩) (Kd.R_far (p := ⟨gb489, 4, none⟩) (Kd.R_far (p := ⟨gb489, 3, none⟩) (Kd.R_far (p := ⟨gb489, 2, none⟩) (Kd.R_far (p := ⟨gb489, 1, none⟩) (Kd.R_far (p := ⟨gb489, 0, none⟩) (Kd.R_types HO484.out BK489.out (by decide)) (fun _ hk => hk.2) (.string t474)) (fun _ hk => hk.2) (.string t475)) (fun _ hk => hk.2) (.string t476)) (fun _ hk => hk.2) (.string t477)) (fun _ hk => hk.2) (.bool t478)) (fun _ hk => hk.2) (.slice Ao28 t479.length co28)) (fun _ hk => hk.2) (.slice Ao29 t482.length co29)) (fun _ hk => hk.2) (.bool t485)) (fun _ hk => hk.2) (.bool t486)) (fun _ hk => hk.2) (.string t487)) (fun _ h_ => h_.1)))); (case side8 => exact (Kd.R_reads' HO484.out).2.1); rintro e w31 ⟨rfl, hb⟩; have n0_ := Aside0.mk (Kd.R_below (by (with_reducible repeat (first | apply Kd.R_alloc | apply Kd.R_drewN | apply Kd.R_drew)); exact (Kd.R_mono (Kd.R_far (p := ⟨gb489, 9, none⟩) (Kd.R_far (p := ⟨gb489, 8, none⟩) (Kd.R_far (p := ⟨gb489, 7, none⟩) (Kd.R_far (p := ⟨gb489, 6, none⟩) (Kd.R_far (p := ⟨gb489, 5, none⟩) (Kd.R_far (p := ⟨gb489, 4, none⟩) (Kd.R_far (p := ⟨gb489, 3, none⟩) (Kd.R_far (p := ⟨gb489, 2, none⟩) (Kd.R_far (p := ⟨gb489, 1, none⟩) (Kd.R_far (p := ⟨gb489, 0, none⟩) (Kd.R_types HO465.out BK489.out (by decide)) (fun _ hk => hk.2) (.string t474)) (fun _ hk => hk.2) (.string t475)) (fun _ hk => hk.2) (.string t476)) (fun _ hk => hk.2) (.string t477)) (fun _ hk => hk.2) (.bool t478)) (fun _ hk => hk.2) (.slice Ao28 t479.length co28)) (fun _ hk => hk.2) (.slice Ao29 t482.length co29)) (fun _ hk => hk.2) (.bool t485)) (fun _ hk => hk.2) (.bool t486)) (fun _ hk => hk.2) (.string t487)) (fun _ h_ => h_.1))) hb); have n1_ := Aside0.mk (Kd.R_below (by (with_reducible repeat (first | apply Kd.R_alloc | apply Kd.R_drewN | apply Kd.R_drew)); exact (Kd.R_mono (Kd.R_far (p := ⟨gb489, 9, none⟩) (Kd.R_far (p := ⟨gb489, 8, none⟩) (Kd.R_far (p := ⟨gb489, 7, none⟩) (Kd.R_far (p := ⟨gb489, 6, none⟩) (Kd.R_far (p := ⟨gb489, 5, none⟩) (Kd.R_far (p := ⟨gb489, 4, none⟩) (Kd.R_far (p := ⟨gb489, 3, none⟩) (Kd.R_far (p := ⟨gb489, 2, none⟩) (Kd.R_far (p := ⟨gb489, 1, none⟩) (Kd.R_far (p := ⟨gb489, 0, none⟩) (Kd.R_types HO468.out BK489.out (by decide)) (fun _ hk => hk.2) (.string t474)) (fun _ hk => hk.2) (.string t475)) (fun _ hk => hk.2) (.string t476)) (fun _ hk => hk.2) (.string t477)) (fun _ hk => hk.2) (.bool t478)) (fun _ hk => hk.2) (.slice Ao28 t479.length co28)) (fun _ hk => hk.2) (.slice Ao29 t482.length co29)) (fun _ hk => hk.2) (.bool t485)) (fun _ hk => hk.2) (.bool t486)) (fun _ hk => hk.2) (.string t487)) (fun _ h_ => h_.1))) hb); have n2_ := Aside0.mk (Kd.R_below (by (with_reducible repeat (first | apply Kd.R_alloc | apply Kd.R_drewN | apply Kd.R_drew)); exact (Kd.R_mono (Kd.R_far (p := ⟨gb489, 9, none⟩) (Kd.R_far (p := ⟨gb489, 8, none⟩) (Kd.R_far (p := ⟨gb489, 7, none⟩) (Kd.R_far (p := ⟨gb489, 6, none⟩) (Kd.R_far (p := ⟨gb489, 5, none⟩) (Kd.R_far (p := ⟨gb489, 4, none⟩) (Kd.R_far (p := ⟨gb489, 3, none⟩) (Kd.R_far (p := ⟨gb489, 2, none⟩) (Kd.R_far (p := ⟨gb489, 1, none⟩) (Kd.R_far (p := ⟨gb489, 0, none⟩) (Kd.R_types HO481.out BK489.out (by decide)) (fun _ hk => hk.2) (.string t474)) (fun _ hk => hk.2) (.string t475)) (fun _ hk => hk.2) (.string t476)) (fun _ hk => hk.2) (.string t477)) (fun _ hk => hk.2) (.bool t478)) (fun _ hk => hk.2) (.slice Ao28 t479.length co28)) (fun _ hk => hk.2) (.slice Ao29 t482.length co29)) (fun _ hk => hk.2) (.bool t485)) (fun _ hk => hk.2) (.bool t486)) (fun _ hk => hk.2) (.string t487)) (fun _ h_ => h_.1))) hb); have n3_ := Aside0.mk (Kd.R_below (by (with_reducible repeat (first | apply Kd.R_alloc | apply Kd.R_drewN | apply Kd.R_drew)); exact (Kd.R_mono (Kd.R_far (p := ⟨gb489, 9, none⟩) (Kd.R_far (p := ⟨gb489, 8, none⟩) (Kd.R_far (p := ⟨gb489, 7, none⟩) (Kd.R_far (p := ⟨gb489, 6, none⟩) (Kd.R_far (p := ⟨gb489, 5, none⟩) (Kd.R_far (p := ⟨gb489, 4, none⟩) (Kd.R_far (p := ⟨gb489, 3, none⟩) (Kd.R_far (p := ⟨gb489, 2, none⟩) (Kd.R_far (p := ⟨gb489, 1, none⟩) (Kd.R_far (p := ⟨gb489, 0, none⟩) (Kd.R_types HO484.out BK489.out (by decide)) (fun _ hk => hk.2) (.string t474)) (fun _ hk => hk.2) (.string t475)) (fun _ hk => hk.2) (.string t476)) (fun _ hk => hk.2) (.string t477)) (fun _ hk => hk.2) (.bool t478)) (fun _ hk => hk.2) (.slice Ao28 t479.length co28)) (fun _ hk => hk.2) (.slice Ao29 t482.length co29)) (fun _ hk => hk.2) (.bool t485)) (fun _ hk => hk.2) (.bool t486)) (fun _ hk => hk.2) (.string t487)) (fun _ h_ => h_.1))) hb); have n4_ := Aside0.mk (blk_below (g := gb473) (o := .cells #[.string t458, .string t459, .string t460, .string t461, .bool t462, .slice Ao22 t463.length co22, .slice Ao23 t466.length co23, .bool t469, .bool t470, .string t471] 33 (0, 0)) (by refine blk_far ?_ NB473_489.out _; refine blk_far ?_ NB473_489.out _; refine blk_far ?_ NB473_489.out _; refine blk_far ?_ NB473_489.out _; refine blk_far ?_ NB473_489.out _; refine blk_far ?_ NB473_489.out _; refine blk_far ?_ NB473_489.out _; refine blk_far ?_ NB473_489.out _; refine blk_far ?_ NB473_489.out _; refine blk_far ?_ NB473_489.out _; exact BK473.out) hb); have n5_ := Aside0.mk (blk_below (g := gb489) (o := .cells #[.string t474, .string t475, .string t476, .string t477, .bool t478, .slice Ao28 t479.length co28, .slice Ao29 t482.length co29, .bool t485, .bool t486, .string t487] 33 (0, 0)) (by refine blk_put (cs := #[.string t474, .string t475, .string t476, .string t477, .bool t478, .slice Ao28 t479.length co28, .slice Ao29 t482.length co29, .bool t485, .bool t486, .string ⟨#[]⟩]) ?_ 9 _ rfl; refine blk_put (cs := #[.string t474, .string t475, .string t476, .string t477, .bool t478, .slice Ao28 t479.length co28, .slice Ao29 t482.length co29, .bool t485, .bool false, .string ⟨#[]⟩]) ?_ 8 _ rfl; refine blk_put (cs := #[.string t474, .string t475, .string t476, .string t477, .bool t478, .slice Ao28 t479.length co28, .slice Ao29 t482.length co29, .bool false, .bool false, .string ⟨#[]⟩]) ?_ 7 _ rfl; refine blk_put (cs := #[.string t474, .string t475, .string t476, .string t477, .bool t478, .slice Ao28 t479.length co28, .slice none 0 0, .bool false, .bool false, .string ⟨#[]⟩]) ?_ 6 _ rfl; refine blk_put (cs := #[.string t474, .string t475, .string t476, .string t477, .bool t478, .slice none 0 0, .slice none 0 0, .bool false, .bool false, .string ⟨#[]⟩]) ?_ 5 _ rfl; refine blk_put (cs := #[.string t474, .string t475, .string t476, .string t477, .bool false, .slice none 0 0, .slice none 0 0, .bool false, .bool false, .string ⟨#[]⟩]) ?_ 4 _ rfl; refine blk_put (cs := #[.string t474, .string t475, .string t476, .string ⟨#[]⟩, .bool false, .slice none 0 0, .slice none 0 0, .bool false, .bool false, .string ⟨#[]⟩]) ?_ 3 _ rfl; refine blk_put (cs := #[.string t474, .string t475, .string ⟨#[]⟩, .string ⟨#[]⟩, .bool false, .slice none 0 0, .slice none 0 0, .bool false, .bool false, .string ⟨#[]⟩]) ?_ 2 _ rfl; refine blk_put (cs := #[.string t474, .string ⟨#[]⟩, .string ⟨#[]⟩, .string ⟨#[]⟩, .bool false, .slice none 0 0, .slice none 0 0, .bool false, .bool false, .string ⟨#[]⟩]) ?_ 1 _ rfl; refine blk_put (cs := #[.string ⟨#[]⟩, .string ⟨#[]⟩, .string ⟨#[]⟩, .string ⟨#[]⟩, .bool false, .slice none 0 0, .slice none 0 0, .bool false, .bool false, .string ⟨#[]⟩]) ?_ 0 _ rfl; exact BK489.out) hb); have n6_ := Aside0.mk (below_step (by repeat (first | (with_reducible first | exact HB.out | apply below_alloc | apply pw_below_drewN | apply below_drew1 | refine below_set ?_ GE473.out | refine below_set ?_ GE489.out) | exact HB.out)) hb); clear HO465; clear HO468; clear HO481; clear HO484; clear BK473; clear BK489; clear HB; have HO465 := n0_; have HO468 := n1_; have HO481 := n2_; have HO484 := n3_; have BK473 := n4_; have BK489 := n5_; have HB := n6_; clear n0_ n1_ n2_ n3_ n4_ n5_ n6_; (try clear hb); (try clear hb2); (try clear hk); (try clear hi)))
      go_ret
      exact ⟨by rfl, by (with_reducible exact HB.out)⟩
     ·rw [if_neg c17] at H
      have c17b0 : (t472 == t488) = false := by simpa using c17
      (try (have c17b1 : decide (t472 = t488) = false := by simpa using c17))
      (try (have c17b2 : (t472 == t488) = false := by simpa using c17))
      (try (have c17b3 : ¬ (t472 = t488) := by simpa using c17))
      clear c17
      obtain rfl := Option.some.inj H
      go_wp2_with (first | ((with_reducible refine gate_callee (f := 12) rfl ?_); refine goesL_ (some 21) rfl rfl Tryd.func12 (by kernel_rfl) rfl #[.string a0] rfl (by (try simp only [List.map_toArray, List.map_cons, List.map_nil]); first | done | rfl | (simp only [List.length_drop, List.length_take]; rfl)) ?_; (with_reducible refine (impl_AlpineParse.calls a0 t458 t459 t460 t461 t462 t463 t466 t469 t470 t471 t472 _ A15.out (by exact GL.at HG.out (by repeat (first | (with_reducible first | exact HB.out | apply below_alloc | apply pw_below_drewN | apply below_drew1) | exact HB.out)))).mono ?_); rintro e w32 ⟨v464, v467, rfl, ho0, ho1, hb⟩; refine ⟨_, rfl, ?_⟩; have n0_ := Aside0.mk (Kd.R_lower ho0 (below_size (by (with_reducible exact HB.out)))); have n1_ := Aside0.mk (Kd.R_lower ho1 (below_size (by (with_reducible exact HB.out)))); have n2_ := Aside0.mk (below_step (by (with_reducible exact HB.out)) hb); clear HB; have HO465 := n0_; have HO468 := n1_; have HB := n2_; clear n0_ n1_ n2_; (try clear hb); (try clear hb2); (try clear hk); (try clear hi); (try clear ho0); (try clear ho1)) | ((with_reducible refine gate_dst (N := 3) rfl ?_); refine box_event ?hg (N := 3) ?hd (cs := #[.string ⟨#[]⟩, .string ⟨#[]⟩, .string ⟨#[]⟩, .string ⟨#[]⟩, .bool false, .slice none 0 0, .slice none 0 0, .bool false, .bool false, .string ⟨#[]⟩]) (t := 33) ?hr ?_; (case hd => rfl); (case hg => rfl); (case hr => first | (go_simp; done) | (go_simp; rfl)); intro gb473 hg w33 hbox hb; have n0_ := Aside0.mk (Kd.R_below (by (with_reducible repeat (first | apply Kd.R_alloc | apply Kd.R_drewN | apply Kd.R_drew)); exact HO465.out) hb); have n1_ := Aside0.mk (Kd.R_below (by (with_reducible repeat (first | apply Kd.R_alloc | apply Kd.R_drewN | apply Kd.R_drew)); exact HO468.out) hb); have n2_ := Aside0.mk (below_step (by (with_reducible exact HB.out)) hb); have n3_ := Aside0.mk (hbox); have n4_ := Aside0.mk ((by rw [hg]; exact (below_size (by (with_reducible exact HB.out))) : w.heap.size ≤ gb473)); have n5_ := Aside0.mk ((by rw [hg]; exact (below_size (by (with_reducible exact HB.out))) : w.heap.size ≤ gb473)); clear HO465; clear HO468; clear HB; have HO465 := n0_; have HO468 := n1_; have HB := n2_; have BK473 := n3_; have GW473 := n4_; have GE473 := n5_; clear n0_ n1_ n2_ n3_ n4_ n5_; clear hb hbox hg; have hcz34_0 : w33.cell? ⟨gb473, 0, none⟩ = some (.string ⟨#[]⟩) := (blk_cell BK473.out 0).trans rfl; have hcz34_1 : w33.cell? ⟨gb473, 1, none⟩ = some (.string ⟨#[]⟩) := (blk_cell BK473.out 1).trans rfl; have hcz34_2 : w33.cell? ⟨gb473, 2, none⟩ = some (.string ⟨#[]⟩) := (blk_cell BK473.out 2).trans rfl; have hcz34_3 : w33.cell? ⟨gb473, 3, none⟩ = some (.string ⟨#[]⟩) := (blk_cell BK473.out 3).trans rfl; have hcz34_4 : w33.cell? ⟨gb473, 4, none⟩ = some (.bool false) := (blk_cell BK473.out 4).trans rfl; have hcz34_5 : w33.cell? ⟨gb473, 5, none⟩ = some (.slice none 0 0) := (blk_cell BK473.out 5).trans rfl; have hcz34_6 : w33.cell? ⟨gb473, 6, none⟩ = some (.slice none 0 0) := (blk_cell BK473.out 6).trans rfl; have hcz34_7 : w33.cell? ⟨gb473, 7, none⟩ = some (.bool false) := (blk_cell BK473.out 7).trans rfl; have hcz34_8 : w33.cell? ⟨gb473, 8, none⟩ = some (.bool false) := (blk_cell BK473.out 8).trans rfl; have hcz34_9 : w33.cell? ⟨gb473, 9, none⟩ = some (.string ⟨#[]⟩) := (blk_cell BK473.out 9).trans rfl; have hfz34_0 := blk_frozen BK473.out 0; have hfz34_1 := blk_frozen BK473.out 1; have hfz34_2 := blk_frozen BK473.out 2; have hfz34_3 := blk_frozen BK473.out 3; have hfz34_4 := blk_frozen BK473.out 4; have hfz34_5 := blk_frozen BK473.out 5; have hfz34_6 := blk_frozen BK473.out 6; have hfz34_7 := blk_frozen BK473.out 7; have hfz34_8 := blk_frozen BK473.out 8; have hfz34_9 := blk_frozen BK473.out 9; obtain ⟨Ao35, co35, eo35⟩ := Kd.R_slice HO465.out; subst eo35; obtain ⟨Ao36, co36, eo36⟩ := Kd.R_slice HO468.out; subst eo36) | ((with_reducible refine gate_callee (f := 13) rfl ?_); refine goesL_ (some 26) rfl rfl Tryd.func13 (by kernel_rfl) rfl #[.string a0] rfl (by (try simp only [List.map_toArray, List.map_cons, List.map_nil]); first | done | rfl | (simp only [List.length_drop, List.length_take]; rfl)) ?_; (with_reducible refine (spec_AlpineParse.calls kj2 a0 t474 t475 t476 t477 t478 t479 t482 t485 t486 t487 t488 _ A16.out).mono ?_); rintro e w37 ⟨v480, v483, rfl, ho0, ho1, hb⟩; refine ⟨_, rfl, ?_⟩; have n0_ := Aside0.mk (Kd.R_elder' (by (with_reducible repeat (first | apply Kd.R_alloc | apply Kd.R_drewN | apply Kd.R_drew)); exact (Kd.R_mono (Kd.R_far (p := ⟨gb473, 9, none⟩) (Kd.R_far (p := ⟨gb473, 8, none⟩) (Kd.R_far (p := ⟨gb473, 7, none⟩) (Kd.R_far (p := ⟨gb473, 6, none⟩) (Kd.R_far (p := ⟨gb473, 5, none⟩) (Kd.R_far (p := ⟨gb473, 4, none⟩) (Kd.R_far (p := ⟨gb473, 3, none⟩) (Kd.R_far (p := ⟨gb473, 2, none⟩) (Kd.R_far (p := ⟨gb473, 1, none⟩) (Kd.R_far (p := ⟨gb473, 0, none⟩) (Kd.R_types HO465.out BK473.out (by decide)) (fun _ hk => hk.2) (.string t458)) (fun _ hk => hk.2) (.string t459)) (fun _ hk => hk.2) (.string t460)) (fun _ hk => hk.2) (.string t461)) (fun _ hk => hk.2) (.bool t462)) (fun _ hk => hk.2) (.slice Ao35 t463.length co35)) (fun _ hk => hk.2) (.slice Ao36 t466.length co36)) (fun _ hk => hk.2) (.bool t469)) (fun _ hk => hk.2) (.bool t470)) (fun _ hk => hk.2) (.string t471)) (fun _ h_ => h_.1))) (Kd.R_base ho0) hb); have n1_ := Aside0.mk (Kd.R_elder' (by (with_reducible repeat (first | apply Kd.R_alloc | apply Kd.R_drewN | apply Kd.R_drew)); exact (Kd.R_mono (Kd.R_far (p := ⟨gb473, 9, none⟩) (Kd.R_far (p := ⟨gb473, 8, none⟩) (Kd.R_far (p := ⟨gb473, 7, none⟩) (Kd.R_far (p := ⟨gb473, 6, none⟩) (Kd.R_far (p := ⟨gb473, 5, none⟩) (Kd.R_far (p := ⟨gb473, 4, none⟩) (Kd.R_far (p := ⟨gb473, 3, none⟩) (Kd.R_far (p := ⟨gb473, 2, none⟩) (Kd.R_far (p := ⟨gb473, 1, none⟩) (Kd.R_far (p := ⟨gb473, 0, none⟩) (Kd.R_types HO468.out BK473.out (by decide)) (fun _ hk => hk.2) (.string t458)) (fun _ hk => hk.2) (.string t459)) (fun _ hk => hk.2) (.string t460)) (fun _ hk => hk.2) (.string t461)) (fun _ hk => hk.2) (.bool t462)) (fun _ hk => hk.2) (.slice Ao35 t463.length co35)) (fun _ hk => hk.2) (.slice Ao36 t466.length co36)) (fun _ hk => hk.2) (.bool t469)) (fun _ hk => hk.2) (.bool t470)) (fun _ hk => hk.2) (.string t471)) (fun _ h_ => h_.1))) (Kd.R_base ho1) hb); have n2_ := Aside0.mk (Kd.R_lower (Kd.R_new' ho0 (Kd.R_lt (by (with_reducible repeat (first | apply Kd.R_alloc | apply Kd.R_drewN | apply Kd.R_drew)); exact (Kd.R_mono (Kd.R_far (p := ⟨gb473, 9, none⟩) (Kd.R_far (p := ⟨gb473, 8, none⟩) (Kd.R_far (p := ⟨gb473, 7, none⟩) (Kd.R_far (p := ⟨gb473, 6, none⟩) (Kd.R_far (p := ⟨gb473, 5, none⟩) (Kd.R_far (p := ⟨gb473, 4, none⟩) (Kd.R_far (p := ⟨gb473, 3, none⟩) (Kd.R_far (p := ⟨gb473, 2, none⟩) (Kd.R_far (p := ⟨gb473, 1, none⟩) (Kd.R_far (p := ⟨gb473, 0, none⟩) (Kd.R_types HO465.out BK473.out (by decide)) (fun _ hk => hk.2) (.string t458)) (fun _ hk => hk.2) (.string t459)) (fun _ hk => hk.2) (.string t460)) (fun _ hk => hk.2) (.string t461)) (fun _ hk => hk.2) (.bool t462)) (fun _ hk => hk.2) (.slice Ao35 t463.length co35)) (fun _ hk => hk.2) (.slice Ao36 t466.length co36)) (fun _ hk => hk.2) (.bool t469)) (fun _ hk => hk.2) (.bool t470)) (fun _ hk => hk.2) (.string t471)) (fun _ h_ => h_.1))))) (below_size (by repeat (first | (with_reducible first | exact HB.out | apply below_alloc | apply pw_below_drewN | apply below_drew1 | refine below_set ?_ GE473.out) | exact HB.out)))); have n3_ := Aside0.mk (Kd.R_lower (Kd.R_new' ho1 (Kd.R_lt (by (with_reducible repeat (first | apply Kd.R_alloc | apply Kd.R_drewN | apply Kd.R_drew)); exact (Kd.R_mono (Kd.R_far (p := ⟨gb473, 9, none⟩) (Kd.R_far (p := ⟨gb473, 8, none⟩) (Kd.R_far (p := ⟨gb473, 7, none⟩) (Kd.R_far (p := ⟨gb473, 6, none⟩) (Kd.R_far (p := ⟨gb473, 5, none⟩) (Kd.R_far (p := ⟨gb473, 4, none⟩) (Kd.R_far (p := ⟨gb473, 3, none⟩) (Kd.R_far (p := ⟨gb473, 2, none⟩) (Kd.R_far (p := ⟨gb473, 1, none⟩) (Kd.R_far (p := ⟨gb473, 0, none⟩) (Kd.R_types HO468.out BK473.out (by decide)) (fun _ hk => hk.2) (.string t458)) (fun _ hk => hk.2) (.string t459)) (fun _ hk => hk.2) (.string t460)) (fun _ hk => hk.2) (.string t461)) (fun _ hk => hk.2) (.bool t462)) (fun _ hk => hk.2) (.slice Ao35 t463.length co35)) (fun _ hk => hk.2) (.slice Ao36 t466.length co36)) (fun _ hk => hk.2) (.bool t469)) (fun _ hk => hk.2) (.bool t470)) (fun _ hk => hk.2) (.string t471)) (fun _ h_ => h_.1))))) (below_size (by repeat (first | (with_reducible first | exact HB.out | apply below_alloc | apply pw_below_drewN | apply below_drew1 | refine below_set ?_ GE473.out) | exact HB.out)))); have n4_ := Aside0.mk (blk_below (g := gb473) (o := .cells #[.string t458, .string t459, .string t460, .string t461, .bool t462, .slice Ao35 t463.length co35, .slice Ao36 t466.length co36, .bool t469, .bool t470, .string t471] 33 (0, 0)) (by refine blk_put (cs := #[.string t458, .string t459, .string t460, .string t461, .bool t462, .slice Ao35 t463.length co35, .slice Ao36 t466.length co36, .bool t469, .bool t470, .string ⟨#[]⟩]) ?_ 9 _ rfl; refine blk_put (cs := #[.string t458, .string t459, .string t460, .string t461, .bool t462, .slice Ao35 t463.length co35, .slice Ao36 t466.length co36, .bool t469, .bool false, .string ⟨#[]⟩]) ?_ 8 _ rfl; refine blk_put (cs := #[.string t458, .string t459, .string t460, .string t461, .bool t462, .slice Ao35 t463.length co35, .slice Ao36 t466.length co36, .bool false, .bool false, .string ⟨#[]⟩]) ?_ 7 _ rfl; refine blk_put (cs := #[.string t458, .string t459, .string t460, .string t461, .bool t462, .slice Ao35 t463.length co35, .slice none 0 0, .bool false, .bool false, .string ⟨#[]⟩]) ?_ 6 _ rfl; refine blk_put (cs := #[.string t458, .string t459, .string t460, .string t461, .bool t462, .slice none 0 0, .slice none 0 0, .bool false, .bool false, .string ⟨#[]⟩]) ?_ 5 _ rfl; refine blk_put (cs := #[.string t458, .string t459, .string t460, .string t461, .bool false, .slice none 0 0, .slice none 0 0, .bool false, .bool false, .string ⟨#[]⟩]) ?_ 4 _ rfl; refine blk_put (cs := #[.string t458, .string t459, .string t460, .string ⟨#[]⟩, .bool false, .slice none 0 0, .slice none 0 0, .bool false, .bool false, .string ⟨#[]⟩]) ?_ 3 _ rfl; refine blk_put (cs := #[.string t458, .string t459, .string ⟨#[]⟩, .string ⟨#[]⟩, .bool false, .slice none 0 0, .slice none 0 0, .bool false, .bool false, .string ⟨#[]⟩]) ?_ 2 _ rfl; refine blk_put (cs := #[.string t458, .string ⟨#[]⟩, .string ⟨#[]⟩, .string ⟨#[]⟩, .bool false, .slice none 0 0, .slice none 0 0, .bool false, .bool false, .string ⟨#[]⟩]) ?_ 1 _ rfl; refine blk_put (cs := #[.string ⟨#[]⟩, .string ⟨#[]⟩, .string ⟨#[]⟩, .string ⟨#[]⟩, .bool false, .slice none 0 0, .slice none 0 0, .bool false, .bool false, .string ⟨#[]⟩]) ?_ 0 _ rfl; exact BK473.out) hb); have n5_ := Aside0.mk (below_step (by repeat (first | (with_reducible first | exact HB.out | apply below_alloc | apply pw_below_drewN | apply below_drew1 | refine below_set ?_ GE473.out) | exact HB.out)) hb); clear HO465; clear HO468; clear BK473; clear HB; have HO465 := n0_; have HO468 := n1_; have HO481 := n2_; have HO484 := n3_; have BK473 := n4_; have HB := n5_; clear n0_ n1_ n2_ n3_ n4_ n5_; (try clear hb); (try clear hb2); (try clear hk); (try clear hi); (try clear ho0); (try clear ho1)) | ((with_reducible refine gate_dst (N := 5) rfl ?_); refine box_event ?hg (N := 5) ?hd (cs := #[.string ⟨#[]⟩, .string ⟨#[]⟩, .string ⟨#[]⟩, .string ⟨#[]⟩, .bool false, .slice none 0 0, .slice none 0 0, .bool false, .bool false, .string ⟨#[]⟩]) (t := 33) ?hr ?_; (case hd => rfl); (case hg => rfl); (case hr => first | (go_simp; done) | (go_simp; rfl)); intro gb489 hg w38 hbox hb; have n0_ := Aside0.mk (Kd.R_below (by (with_reducible repeat (first | apply Kd.R_alloc | apply Kd.R_drewN | apply Kd.R_drew)); exact HO465.out) hb); have n1_ := Aside0.mk (Kd.R_below (by (with_reducible repeat (first | apply Kd.R_alloc | apply Kd.R_drewN | apply Kd.R_drew)); exact HO468.out) hb); have n2_ := Aside0.mk (Kd.R_below (by (with_reducible repeat (first | apply Kd.R_alloc | apply Kd.R_drewN | apply Kd.R_drew)); exact HO481.out) hb); have n3_ := Aside0.mk (Kd.R_below (by (with_reducible repeat (first | apply Kd.R_alloc | apply Kd.R_drewN | apply Kd.R_drew)); exact HO484.out) hb); have n4_ := Aside0.mk (blk_below (g := gb473) (o := .cells #[.string t458, .string t459, .string t460, .string t461, .bool t462, .slice Ao35 t463.length co35, .slice Ao36 t466.length co36, .bool t469, .bool t470, .string t471] 33 (0, 0)) (by exact BK473.out) hb); have n5_ := Aside0.mk (below_step (by (with_reducible exact HB.out)) hb); have n6_ := Aside0.mk (hbox); have n7_ := Aside0.mk ((by rw [hg]; exact (below_size (by (with_reducible exact HB.out))) : w.heap.size ≤ gb489)); have n8_ := Aside0.mk ((by rw [hg]; exact (below_size (by (with_reducible exact HB.out))) : w.heap.size ≤ gb489)); have n9_ := Aside0.mk ((by rw [hg]; exact Nat.ne_of_lt (blk_lt (g := gb473) (o := .cells #[.string t458, .string t459, .string t460, .string t461, .bool t462, .slice Ao35 t463.length co35, .slice Ao36 t466.length co36, .bool t469, .bool t470, .string t471] 33 (0, 0)) (by exact BK473.out)) : gb473 ≠ gb489)); have n10_ := Aside0.mk ((by rw [hg]; exact Nat.ne_of_gt (blk_lt (g := gb473) (o := .cells #[.string t458, .string t459, .string t460, .string t461, .bool t462, .slice Ao35 t463.length co35, .slice Ao36 t466.length co36, .bool t469, .bool t470, .string t471] 33 (0, 0)) (by exact BK473.out)) : gb489 ≠ gb473)); clear HO465; clear HO468; clear HO481; clear HO484; clear BK473; clear HB; have HO465 := n0_; have HO468 := n1_; have HO481 := n2_; have HO484 := n3_; have BK473 := n4_; have HB := n5_; have BK489 := n6_; have GW489 := n7_; have GE489 := n8_; have NB473_489 := n9_; have NB489_473 := n10_; clear n0_ n1_ n2_ n3_ n4_ n5_ n6_ n7_ n8_ n9_ n10_; clear hb hbox hg; have hnb39 := NB489_473.out; have hnc39 := NB473_489.out; have hcz40_0 : w38.cell? ⟨gb489, 0, none⟩ = some (.string ⟨#[]⟩) := (blk_cell BK489.out 0).trans rfl; have hcz40_1 : w38.cell? ⟨gb489, 1, none⟩ = some (.string ⟨#[]⟩) := (blk_cell BK489.out 1).trans rfl; have hcz40_2 : w38.cell? ⟨gb489, 2, none⟩ = some (.string ⟨#[]⟩) := (blk_cell BK489.out 2).trans rfl; have hcz40_3 : w38.cell? ⟨gb489, 3, none⟩ = some (.string ⟨#[]⟩) := (blk_cell BK489.out 3).trans rfl; have hcz40_4 : w38.cell? ⟨gb489, 4, none⟩ = some (.bool false) := (blk_cell BK489.out 4).trans rfl; have hcz40_5 : w38.cell? ⟨gb489, 5, none⟩ = some (.slice none 0 0) := (blk_cell BK489.out 5).trans rfl; have hcz40_6 : w38.cell? ⟨gb489, 6, none⟩ = some (.slice none 0 0) := (blk_cell BK489.out 6).trans rfl; have hcz40_7 : w38.cell? ⟨gb489, 7, none⟩ = some (.bool false) := (blk_cell BK489.out 7).trans rfl; have hcz40_8 : w38.cell? ⟨gb489, 8, none⟩ = some (.bool false) := (blk_cell BK489.out 8).trans rfl; have hcz40_9 : w38.cell? ⟨gb489, 9, none⟩ = some (.string ⟨#[]⟩) := (blk_cell BK489.out 9).trans rfl; have hfz40_0 := blk_frozen BK489.out 0; have hfz40_1 := blk_frozen BK489.out 1; have hfz40_2 := blk_frozen BK489.out 2; have hfz40_3 := blk_frozen BK489.out 3; have hfz40_4 := blk_frozen BK489.out 4; have hfz40_5 := blk_frozen BK489.out 5; have hfz40_6 := blk_frozen BK489.out 6; have hfz40_7 := blk_frozen BK489.out 7; have hfz40_8 := blk_frozen BK489.out 8; have hfz40_9 := blk_frozen BK489.out 9; obtain ⟨Ao41, co41, eo41⟩ := Kd.R_slice HO481.out; subst eo41; obtain ⟨Ao42, co42, eo42⟩ := Kd.R_slice HO484.out; subst eo42))
      go_ret
      exact ⟨by rfl, by repeat (first | (with_reducible first | exact HB.out | apply below_alloc | apply pw_below_drewN | apply below_drew1 | refine below_set ?_ GE473.out | refine below_set ?_ GE489.out) | exact HB.out)⟩
/-- THE ONE PURE STATEMENT of laws_FnAlpineParse: yours. -/
def laws_FnAlpineParse.Pure : Prop := ∀ (a0 : ByteArray), a0.size ≤ 140737488351232 → ∃ k, laws_FnAlpineParse.f k a0 = some true
theorem laws_FnAlpineParse.walk (P : laws_FnAlpineParse.Pure) (a0 : ByteArray) (w : World) (w0 : a0.size ≤ 140737488351232) (hG : GL w) :
  Calls Tryd.prog 4 #[.string a0] w fun e w' => e = .returned (.bool true) ∧ Below w.heap.size w w' := by
 obtain ⟨k, h⟩ := P a0 w0
 refine (laws_FnAlpineParse.calls k a0 true w h hG).mono ?_
 rintro e w' ⟨rfl, hd⟩
 exact ⟨rfl, hd⟩
end Go.Proofs.YtapaijpglfmfgaaDoor.Q
end
section -- BA
namespace Go.Proofs.YtapaijpglfmfgaaDoor.V
open Go.RowKit Go.Proofs.YtapaijpglfmfgaaDoor.Q Go.Proofs.YtapaijpglfmfgaaDoorG Go.Proofs.YtapaijpglfmfgaaDoorP Go.Proofs.YtapaijpglfmfgaaDoorH Go.Proofs.YtapaijpglfmfgaaDoorB Go.Proofs.YtapaijpglfmfgaaDoorM Go.Proofs.YtapaijpglfmfgaaDoorW.PrintWords Go.Proofs.YtapaijpglfmfgaaDoorW.PrintLast
set_option linter.unusedVariables false
set_option linter.unusedSimpArgs false
theorem rd_nat (l : List Int) (i : Nat) : rd l (i : Int) = l.getD i 0 := by simp [rd]
theorem intOf_l2 (m : List Int) (hm : m.length ≤ 1000000) : ∀ (n k : Nat), m.length - k = n → k ≤ m.length →
    Ev (fun q => spec_intOf.l2 q m (content m.length (m.take k)) (k : Int)) (false, strOfNums m.reverse) := by
  intro n
  induction n with
  | zero =>
    intro k hn hk
    obtain rfl : k = m.length := by omega
    refine Ev.succ ?_
    simp only [spec_intOf.l2]
    refine Ev.neg (fun _ => by first | omega | assumption | nofun) ?_
    refine Ev.eq (Ev.now _) ?_
    rw [List.take_length, content_done _ rfl]
  | succ n ih =>
    intro k hn hk
    have hlt : k < m.length := by omega
    have htl : (m.take k).length = k := by rw [List.length_take]; omega
    have hcl : (content m.length (m.take k)).length = m.length := content_len (by omega)
    refine Ev.succ ?_
    simp only [spec_intOf.l2, rd_nat]
    refine Ev.pos (fun _ => by first | omega | trivial | assumption) ?_
    refine Ev.pos (fun _ => by first | omega | trivial | assumption) ?_
    rw [w64 (i := (m.length : Int) - 1) (by omega) (by omega), w64 (i := (m.length : Int) - 1 - (k : Int)) (by omega) (by omega), w64 (i := (k : Int) + 1) (by omega) (by omega)]
    refine Ev.pos (fun _ => by omega) ?_
    refine Ev.pos (fun _ => by rw [hcl]; omega) ?_
    have e1 : ((m.length : Int) - 1 - (k : Int)).toNat = m.length - (m.take k).length - 1 := by rw [htl]; omega
    rw [e1, content_step _ (by rw [htl]; exact hlt)]
    have e2 : m.take k ++ [m.getD k 0] = m.take (k + 1) := by
      rw [List.take_add_one, List.getElem?_eq_getElem hlt, List.getD_eq_getElem?_getD, List.getElem?_eq_getElem hlt]
      rfl
    rw [e2]
    exact ih (k + 1) (by omega) (by omega)
theorem intOf_l1 (s : ByteArray) (i : Int) {r : Bool × ByteArray} : ∀ (rest done : List Int) (c : Nat), Byt rest → c ≤ 300 → done.length + rest.length ≤ 1000000 →
    Ev (fun q => spec_intOf.l1 q s (done ++ (mul10 rest c).1) i ((mul10 rest c).2 : Int) ((done.length + rest.length : Nat) : Int)) r → Ev (fun q => spec_intOf.l1 q s (done ++ rest) i (c : Int) (done.length : Int)) r
  | [], done, c, _, _, _, h => by simpa [mul10] using h
  | x :: rest, done, c, hb, hc, hl, h => by
    have hx := hb.cons.1
    simp only [List.length_cons] at hl
    refine Ev.succ ?_
    simp only [spec_intOf.l1, rd_nat]
    refine Ev.pos (fun _ => by rw [List.length_append, List.length_cons]; omega) ?_
    refine Ev.pos (fun _ => by omega) ?_
    have hg : (done ++ x :: rest).getD done.length 0 = x := by simp [List.getD_eq_getElem?_getD]
    rw [hg, w64 (i := x) (by omega) (by omega), w64 (i := 10 * x) (by omega) (by omega), w64 (i := (c : Int) + 10 * x) (by omega) (by omega), w64 (i := (done.length : Int) + 1) (by omega) (by omega), Int.toNat_natCast]
    have e0 : (c : Int) + 10 * x = ((c + 10 * x.toNat : Nat) : Int) := by omega
    have e1 : Int.tmod ((c : Int) + 10 * x) 256 % 256 = (((c + 10 * x.toNat) % 256 : Nat) : Int) := by
      rw [e0, Int.tmod_eq_emod_of_nonneg (by omega)]
      omega
    have e2 : wrap64 (Int.tdiv ((c : Int) + 10 * x) 256) = (((c + 10 * x.toNat) / 256 : Nat) : Int) := by
      rw [e0, Int.tdiv_eq_ediv_of_nonneg (by omega), w64 (by omega) (by omega)]
      omega
    rw [e1, e2]
    have e3 : (done ++ x :: rest).set done.length (((c + 10 * x.toNat) % 256 : Nat) : Int) = (done ++ [(((c + 10 * x.toNat) % 256 : Nat) : Int)]) ++ rest := by simp
    rw [e3]
    have ih := intOf_l1 s i (r := r) rest (done ++ [(((c + 10 * x.toNat) % 256 : Nat) : Int)]) ((c + 10 * x.toNat) / 256) hb.cons.2 (by omega) (by simp; omega)
    have e4 : ((done ++ [(((c + 10 * x.toNat) % 256 : Nat) : Int)]).length : Int) = (done.length : Int) + 1 := by simp
    rw [e4] at ih
    refine ih ?_
    simp only [mul10] at h
    have e5 : (((done ++ [(((c + 10 * x.toNat) % 256 : Nat) : Int)]).length + rest.length : Nat) : Int) = ((done.length + (x :: rest).length : Nat) : Int) := by simp; omega
    rw [e5, List.append_assoc]
    exact h
theorem pushD_len (m : List Int) (d : Nat) : (pushD m d).length ≤ m.length + 1 := by
  unfold pushD
  split
  · simp [mul10_len]
  · rw [mul10_len]; omega
theorem intOf_l0 (s : ByteArray) (hs : s.size ≤ 200000) (hd : ∀ c ∈ bytesOf s, isD c = true) : ∀ (n i : Nat) (m : List Int), s.size - i = n → i ≤ s.size → m.length ≤ i → Tight m (decL ((bytesOf s).take i)) →
    Ev (fun q => spec_intOf.l0 q s m (i : Int)) (false, magB (decL (bytesOf s))) := by
  intro n
  induction n with
  | zero =>
    intro i m hn hi hm ht
    obtain rfl : i = s.size := by omega
    rw [List.take_of_length_le (by rw [bytesOf_length]; exact Nat.le_refl _)] at ht
    refine Ev.succ ?_
    simp only [spec_intOf.l0]
    refine Ev.neg (fun _ => by first | omega | assumption | nofun) ?_
    refine Ev.pos (fun _ => by omega) ?_
    refine Ev.pos (fun _ => by omega) ?_
    have h := intOf_l2 m (by omega) _ 0 rfl (Nat.zero_le _)
    have e : content m.length (m.take 0) = List.replicate ((m.length : Int)).toNat 0 := by simp [content]
    rw [e] at h
    refine Ev.eq h ?_
    rw [ht.mag]
    rfl
  | succ n ih =>
    intro i m hn hi hm ht
    have hl : i < (bytesOf s).length := by rw [bytesOf_length]; omega
    have hc : isD ((bytesOf s).getD i 0) = true := hd _ (by rw [List.getD_eq_getElem?_getD, List.getElem?_eq_getElem hl]; exact List.getElem_mem hl)
    unfold isD at hc
    have hc2 := of_decide_eq_true hc
    obtain ⟨d, hdd⟩ : ∃ d, d = ((bytesOf s).getD i 0 - 48).toNat := ⟨_, rfl⟩
    refine Ev.succ ?_
    simp only [spec_intOf.l0, bt_nat]
    refine Ev.pos (fun _ => by first | omega | trivial | assumption) ?_
    refine Ev.pos (fun _ => by first | omega | trivial | assumption) ?_
    have e1 : ((bytesOf s).getD i 0 - 48) % 256 = (d : Int) := by omega
    rw [e1]
    have htk : decL ((bytesOf s).take (i + 1)) = 10 * decL ((bytesOf s).take i) + d := by
      rw [List.take_add_one, List.getElem?_eq_getElem hl, hdd, List.getD_eq_getElem?_getD, List.getElem?_eq_getElem hl]
      exact decL_snoc _ _
    have hp : Tight (pushD m d) (decL ((bytesOf s).take (i + 1))) := by rw [htk]; exact push_tight ht (by omega)
    have hcar := mul10_carry m d ht.byt (by omega)
    have hpl := pushD_len m d
    have next := ih (i + 1) (pushD m d) (by omega) (by omega) (by omega) hp
    have h := intOf_l1 s (i : Int) (r := (false, magB (decL (bytesOf s)))) m [] d ht.byt (by omega) (by simp; omega)
    simp only [List.nil_append, List.length_nil, Nat.zero_add] at h
    refine h ?_
    refine Ev.succ ?_
    simp only [spec_intOf.l1]
    refine Ev.neg (fun _ => by rw [mul10_len]; omega) ?_
    rw [w64 (i := (i : Int) + 1) (by omega) (by omega)]
    unfold pushD at next
    by_cases hq : (mul10 m d).2 > 0
    · rw [if_pos hq] at next
      refine Ev.pos (fun _ => by omega) ?_
      refine Ev.pos (fun _ => by rw [mul10_len]; omega) ?_
      have e2 : ((mul10 m d).2 : Int) % 256 = ((mul10 m d).2 : Int) := by omega
      rw [e2]
      exact next
    · rw [if_neg hq] at next
      refine Ev.neg (fun _ => by omega) ?_
      exact next
theorem intOf_ev (s : ByteArray) (hs : s.size ≤ 200000) (hd : ∀ c ∈ bytesOf s, isD c = true) : Ev (fun q => spec_intOf.f q s) (false, magB (decL (bytesOf s))) :=
  intOf_l0 s hs hd _ 0 [] rfl (Nat.zero_le _) (Nat.le_refl _) ⟨fun x hx => by simp at hx, rfl, fun h => absurd rfl h⟩
theorem isDigit_eq (c : Int) : E1.spec_isDigit.f c = some (isD c) := by
  unfold E1.spec_isDigit.f isD
  by_cases h : c ≥ 48
  · rw [if_pos h]; simp; omega
  · rw [if_neg h]; simp; omega
theorem isDigit2_eq (c : Int) : E2.spec_isDigit.f c = some (isD c) := by
  unfold E2.spec_isDigit.f isD
  by_cases h : c ≥ 48
  · rw [if_pos h]; simp; omega
  · rw [if_neg h]; simp; omega
theorem alpHex2_eq (c : Int) : E2.spec_alpHex.f c = some (isX c) := by
  unfold E2.spec_alpHex.f isX
  rw [isDigit2_eq]
  simp only [Option.bind_some]
  cases isD c
  · rw [if_neg Bool.false_ne_true, Bool.false_or]
    by_cases h : c ≥ 97
    · rw [if_pos h]; congr 1; rw [decide_eq_decide]; omega
    · rw [if_neg h]; congr 1; symm; rw [decide_eq_false_iff_not]; omega
  · rfl
theorem run1_from (s : ByteArray) (hs : s.size ≤ 2000000) : ∀ (n i : Nat), s.size - i = n → i ≤ s.size → Ev (fun k => E1.spec_alpRun.l0 k s (i : Int)) ((i + run isD ((bytesOf s).drop i) : Nat) : Int) := by
  intro n
  induction n with
  | zero =>
    intro i hn hi
    refine Ev.succ ?_
    simp only [E1.spec_alpRun.l0]
    refine Ev.neg (fun _ => by first | omega | assumption | nofun) ?_
    refine Ev.eq (Ev.now _) ?_
    rw [List.drop_of_length_le (by rw [bytesOf_length]; omega), run_nil]
    rfl
  | succ n ih =>
    intro i hn hi
    have hl : i < (bytesOf s).length := by rw [bytesOf_length]; omega
    refine Ev.succ ?_
    simp only [E1.spec_alpRun.l0, bt_nat, isDigit_eq, Option.bind_some]
    refine Ev.pos (fun _ => by first | omega | trivial | assumption) ?_
    refine Ev.pos (fun _ => by first | omega | trivial | assumption) ?_
    rw [drop_get _ _ hl]
    cases hd : isD ((bytesOf s).getD i 0)
    · refine Ev.neg (fun _ => Bool.false_ne_true) ?_
      refine Ev.eq (Ev.now _) ?_
      rw [run_neg hd]
      rfl
    · refine Ev.pos (fun _ => rfl) ?_
      rw [w64 (by omega) (by omega), run_pos hd]
      refine Ev.eq (ih (i + 1) (by omega) (by omega)) ?_
      have : i + 1 + run isD ((bytesOf s).drop (i + 1)) = i + (run isD ((bytesOf s).drop (i + 1)) + 1) := by omega
      rw [this]
theorem run1_ev (s : ByteArray) (hs : s.size ≤ 2000000) : Ev (fun k => E1.spec_alpRun.f k s) ((run isD (bytesOf s) : Nat) : Int) := by
  have h := run1_from s hs _ 0 rfl (Nat.zero_le _)
  simpa [E1.spec_alpRun.f] using h
theorem run2_from (s : ByteArray) (hs : s.size ≤ 2000000) : ∀ (n i : Nat), s.size - i = n → i ≤ s.size → Ev (fun k => E2.spec_alpRun.l0 k s (i : Int)) ((i + run isX ((bytesOf s).drop i) : Nat) : Int) := by
  intro n
  induction n with
  | zero =>
    intro i hn hi
    refine Ev.succ ?_
    simp only [E2.spec_alpRun.l0]
    refine Ev.neg (fun _ => by first | omega | assumption | nofun) ?_
    refine Ev.eq (Ev.now _) ?_
    rw [List.drop_of_length_le (by rw [bytesOf_length]; omega), run_nil]
    rfl
  | succ n ih =>
    intro i hn hi
    have hl : i < (bytesOf s).length := by rw [bytesOf_length]; omega
    refine Ev.succ ?_
    simp only [E2.spec_alpRun.l0, bt_nat, alpHex2_eq, Option.bind_some]
    refine Ev.pos (fun _ => by first | omega | trivial | assumption) ?_
    refine Ev.pos (fun _ => by first | omega | trivial | assumption) ?_
    rw [drop_get _ _ hl]
    cases hd : isX ((bytesOf s).getD i 0)
    · refine Ev.neg (fun _ => Bool.false_ne_true) ?_
      refine Ev.eq (Ev.now _) ?_
      rw [run_neg hd]
      rfl
    · refine Ev.pos (fun _ => rfl) ?_
      rw [w64 (by omega) (by omega), run_pos hd]
      refine Ev.eq (ih (i + 1) (by omega) (by omega)) ?_
      have : i + 1 + run isX ((bytesOf s).drop (i + 1)) = i + (run isX ((bytesOf s).drop (i + 1)) + 1) := by omega
      rw [this]
theorem run2_ev (s : ByteArray) (hs : s.size ≤ 2000000) : Ev (fun k => E2.spec_alpRun.f k s) ((run isX (bytesOf s) : Nat) : Int) := by
  have h := run2_from s hs _ 0 rfl (Nat.zero_le _)
  simpa [E2.spec_alpRun.f] using h
theorem alpHex_eq (c : Int) : spec_alpHex.f c = some (isX c) := by
  unfold spec_alpHex.f isX
  have h : spec_isDigit.f c = some (isD c) := by
    unfold spec_isDigit.f isD
    by_cases h : c ≥ 48
    · rw [if_pos h]; simp; omega
    · rw [if_neg h]; simp; omega
  rw [h]
  simp only [Option.bind_some]
  cases isD c
  · rw [if_neg Bool.false_ne_true, Bool.false_or]
    by_cases h : c ≥ 97
    · rw [if_pos h]; congr 1; rw [decide_eq_decide]; omega
    · rw [if_neg h]; congr 1; symm; rw [decide_eq_false_iff_not]; omega
  · rfl
def numsFrom (k : Nat) (c : List (List Int)) : List S54 := (c.zipIdx k).map fun p => ⟨strOfNums p.1, ⟨false, magB (decL p.1)⟩, (p.2 : Int)⟩
theorem numsFrom_cons (k : Nat) (d : List Int) (c : List (List Int)) : numsFrom k (d :: c) = ⟨strOfNums d, ⟨false, magB (decL d)⟩, (k : Int)⟩ :: numsFrom (k + 1) c := rfl
theorem str_take (s : ByteArray) (n : Nat) : s.extract 0 n = strOfNums ((bytesOf s).take n) := by rw [← B_take, str_B]
theorem str_drop (s : ByteArray) (n : Nat) : s.extract n s.size = strOfNums ((bytesOf s).drop n) := by rw [← B_drop, str_B]
theorem readNumbers_from : ∀ (n : Nat) (s : ByteArray) (acc : List S54), s.size ≤ n → n ≤ 100000 → acc.length + n ≤ 200000 →
    Ev (fun k => spec_alpReadNumbers.l0 k s acc) (acc ++ numsFrom acc.length (numsP n (bytesOf s)).1, strOfNums (numsP n (bytesOf s)).2) := by
  intro n
  induction n with
  | zero =>
    intro s acc hs hn ha
    have h0 : bytesOf s = [] := (size_nil s).1 (by omega)
    have hr := run1_ev s (by omega)
    rw [h0] at hr ⊢
    refine Ev.succ ?_
    simp only [spec_alpReadNumbers.l0]
    refine Ev.bind hr ?_
    refine Ev.pos (fun _ => rfl) ?_
    refine Ev.eq (Ev.now _) ?_
    have : s = strOfNums [] := by rw [← h0, str_B]
    rw [this]
    simp [numsP, numsFrom]
  | succ n ih =>
    intro s acc hs hn ha
    have hr := run1_ev s (by omega)
    have hrl := run_le isD (bytesOf s)
    rw [bytesOf_length] at hrl
    refine Ev.succ ?_
    simp only [spec_alpReadNumbers.l0]
    refine Ev.bind hr ?_
    simp only [numsP]
    by_cases h0 : run isD (bytesOf s) = 0
    · rw [if_pos h0]
      refine Ev.pos (fun _ => by omega) ?_
      refine Ev.eq (Ev.now _) ?_
      rw [str_B]
      simp [numsFrom]
    · rw [if_neg h0]
      refine Ev.neg (fun _ => by omega) ?_
      refine Ev.pos (fun _ => by omega) ?_
      refine Ev.pos (fun _ => by omega) ?_
      rw [Int.toNat_natCast]
      have hdig : ∀ c ∈ (bytesOf s).take (run isD (bytesOf s)), isD c = true := fun c hc => run_mem hc
      have hio := intOf_ev (s.extract 0 (run isD (bytesOf s))) (by rw [B_size, B_take, List.length_take, bytesOf_length]; omega) (by rw [B_take]; exact hdig)
      rw [B_take] at hio
      refine Ev.bind hio ?_
      refine Ev.pos (fun _ => by omega) ?_
      refine Ev.bind0 rfl ?_
      refine Ev.bind0 rfl ?_
      have hb : bytesOf (s.extract (run isD (bytesOf s)) s.size) = (bytesOf s).drop (run isD (bytesOf s)) := B_drop _ _
      obtain ⟨Y, hY⟩ : ∃ Y, Y = s.extract (run isD (bytesOf s)) s.size := ⟨_, rfl⟩
      rw [← hY] at hb ⊢
      have hYs : Y.size ≤ n := by rw [B_size, hb, List.length_drop, bytesOf_length]; omega
      have hYe : Y = strOfNums ((bytesOf s).drop (run isD (bytesOf s))) := by rw [← hb, str_B]
      rw [str_take]
      by_cases h1 : Y.toList = []
      · have h1b : (bytesOf s).drop (run isD (bytesOf s)) = [] := hb.symm.trans ((toList_nil Y).1 h1)
        refine Ev.pos (fun _ => h1) ?_
        refine Ev.eq (Ev.now _) ?_
        rw [h1b]
        rw [if_neg (by decide)]
        rw [numsFrom_cons, hYe, h1b]
        rfl
      · have hpos : 0 < Y.size := by
          rw [B_size]
          exact List.length_pos_iff.2 (fun e => h1 ((toList_nil Y).2 e))
        refine Ev.neg (fun _ => h1) ?_
        refine Ev.pos (fun _ => by omega) ?_
        rw [bt_zero, hb]
        by_cases h2 : ((bytesOf s).drop (run isD (bytesOf s))).getD 0 0 = 46
        · rw [if_pos h2]
          refine Ev.pos (fun _ => h2) ?_
          refine Ev.pos (fun _ => by omega) ?_
          have hb1 : bytesOf (Y.extract 1 Y.size) = (bytesOf s).drop (run isD (bytesOf s) + 1) := by rw [B_drop, hb, List.drop_drop]
          have := ih (Y.extract 1 Y.size) (acc ++ [⟨strOfNums ((bytesOf s).take (run isD (bytesOf s))), ⟨false, magB (decL ((bytesOf s).take (run isD (bytesOf s))))⟩, (acc.length : Int)⟩]) (by rw [B_size, hb1, List.length_drop, bytesOf_length]; omega) (by omega) (by simp; omega)
          rw [hb1] at this
          refine Ev.eq this ?_
          rw [List.append_assoc, List.length_append]
          rfl
        · rw [if_neg h2]
          refine Ev.neg (fun _ => h2) ?_
          refine Ev.eq (Ev.now _) ?_
          rw [hYe]
          rfl
theorem readNumbers_ev (s : ByteArray) (hs : s.size ≤ 100000) : Ev (fun k => spec_alpReadNumbers.f k s) (numsA (numsP (bytesOf s).length (bytesOf s)).1, strOfNums (rest1 (bytesOf s))) := by
  have h := readNumbers_from (bytesOf s).length s [] (by rw [bytesOf_length]; exact Nat.le_refl _) (by rw [bytesOf_length]; exact hs) (by rw [bytesOf_length]; simp; omega)
  rw [List.nil_append] at h
  exact h
end Go.Proofs.YtapaijpglfmfgaaDoor.V
end
section -- BB
namespace Go.Proofs.YtapaijpglfmfgaaDoor.V
open Go.RowKit Go.Proofs.YtapaijpglfmfgaaDoor.Q Go.Proofs.YtapaijpglfmfgaaDoorG Go.Proofs.YtapaijpglfmfgaaDoorP Go.Proofs.YtapaijpglfmfgaaDoorH Go.Proofs.YtapaijpglfmfgaaDoorB Go.Proofs.YtapaijpglfmfgaaDoorM Go.Proofs.YtapaijpglfmfgaaDoorW.PrintWords Go.Proofs.YtapaijpglfmfgaaDoorW.PrintLast
set_option linter.unusedVariables false
set_option linter.unusedSimpArgs false
theorem rdOf_at (ws : List ByteArray) (j : Nat) (h : j < ws.length) : rdOf ByteArray.empty ws (j : Int) = ws[j] := by
  simp only [rdOf, Int.toNat_natCast, List.getD_eq_getElem?_getD, List.getElem?_eq_getElem h, Option.getD_some]
theorem word_from (s : ByteArray) (hs : s.size ≤ 2000000) (ws : List ByteArray) (hw : ∀ w ∈ ws, w.size ≤ 100 ∧ 1 ≤ w.size) (hl : ws.length ≤ 100) : ∀ (m j : Nat), ws.length - j = m → j ≤ ws.length →
    Ev (fun k => spec_alpWord.l0 k s ws (j : Int)) (strOfNums ((if (bytesOf s).getD 0 0 = 95 then ((ws.drop j).map bytesOf).find? (fun w => pre w ((bytesOf s).drop 1)) else none).getD [])) := by
  intro m
  induction m with
  | zero =>
    intro j hm hj
    obtain rfl : j = ws.length := by omega
    refine Ev.succ ?_
    simp only [spec_alpWord.l0]
    refine Ev.neg (fun _ => by first | omega | assumption | nofun) ?_
    refine Ev.eq (Ev.now _) ?_
    rw [List.drop_length, List.map_nil, List.find?_nil]
    split <;> rfl
  | succ m ih =>
    intro j hm hj
    have hlt : j < ws.length := by omega
    have hd : ws.drop j = ws[j] :: ws.drop (j + 1) := List.drop_eq_getElem_cons hlt
    have next := ih (j + 1) (by omega) (by omega)
    obtain ⟨h100, h1⟩ := hw _ (List.getElem_mem hlt)
    rw [hd, List.map_cons, List.find?_cons]
    obtain ⟨W, hW⟩ : ∃ W, W = ws[j] := ⟨_, rfl⟩
    have hrd := rdOf_at ws j hlt
    rw [← hW] at h100 h1 hrd ⊢
    refine Ev.succ ?_
    simp only [spec_alpWord.l0]
    refine Ev.pos (fun _ => by first | omega | trivial | assumption) ?_
    refine Ev.pos (fun _ => by first | omega | trivial | assumption) ?_
    rw [hrd, w64 (i := (j : Int) + 1) (by omega) (by omega), w64 (i := (W.size : Int) + 1) (by omega) (by omega), bt_zero]
    have hnone : ¬ (s.size > W.size) → pre (bytesOf W) ((bytesOf s).drop 1) = false := fun h => by
      unfold pre
      rw [decide_eq_false_iff_not]
      intro e
      have := congrArg List.length e
      rw [List.length_take, List.length_drop, bytesOf_length, bytesOf_length] at this
      omega
    by_cases hsz : s.size > W.size
    · refine Ev.pos (fun _ => by omega) ?_
      refine Ev.pos (fun _ => by omega) ?_
      by_cases h95 : (bytesOf s).getD 0 0 = 95
      · rw [if_pos h95] at next ⊢
        refine Ev.pos (fun _ => h95) ?_
        refine Ev.pos (fun _ => by omega) ?_
        refine Ev.pos (fun _ => by omega) ?_
        have e1 : ((W.size : Int) + 1).toNat = 1 + W.size := by omega
        have e2 : (s.extract 1 ((W.size : Int) + 1).toNat).toList = W.toList ↔ pre (bytesOf W) ((bytesOf s).drop 1) = true := by
          rw [e1, toList_eq_iff, B_extract, Nat.add_sub_cancel_left]
          unfold pre
          rw [decide_eq_true_iff, B_size]
        by_cases hp : pre (bytesOf W) ((bytesOf s).drop 1) = true
        · rw [hp]
          refine Ev.pos (fun _ => e2.2 hp) ?_
          refine Ev.eq (Ev.now _) ?_
          exact (str_B W).symm
        · rw [Bool.eq_false_iff.2 hp]
          refine Ev.neg (fun _ e => hp (e2.1 e)) ?_
          exact next
      · rw [if_neg h95] at next ⊢
        refine Ev.neg (fun _ => h95) ?_
        exact next
    · refine Ev.neg (fun _ => by omega) ?_
      rw [hnone hsz]
      exact next
theorem word_ev (s : ByteArray) (hs : s.size ≤ 2000000) : Ev (fun k => spec_alpWord.f k s) (strOfNums ((wordAt (bytesOf s)).getD [])) := by
  simp only [spec_alpWord.f]
  refine Ev.bind0 rfl ?_
  have h := word_from s hs sufBs (fun w hw => ⟨sufBs_size w hw, by
    have h1 : bytesOf w ∈ sufWords := by rw [← sufBs_B]; exact List.mem_map_of_mem hw
    rw [B_size]
    exact (sufWords_len h1).1⟩) (by decide) 9 0 rfl (by decide)
  rw [List.drop_zero, sufBs_B] at h
  exact h
theorem sweight_from (x : ByteArray) (ws : List ByteArray) (hl : ws.length ≤ 100) : ∀ (m j : Nat), ws.length - j = m → j ≤ ws.length →
    Ev (fun k => spec_SuffixWeight.l0 k x ws (j : Int)) ((j + ((ws.drop j).map bytesOf).idxOf (bytesOf x) : Nat) : Int) := by
  intro m
  induction m with
  | zero =>
    intro j hm hj
    obtain rfl : j = ws.length := by omega
    refine Ev.succ ?_
    simp only [spec_SuffixWeight.l0]
    refine Ev.neg (fun _ => by first | omega | assumption | nofun) ?_
    refine Ev.eq (Ev.now _) ?_
    rw [List.drop_length]
    rfl
  | succ m ih =>
    intro j hm hj
    have hlt : j < ws.length := by omega
    have hd : ws.drop j = ws[j] :: ws.drop (j + 1) := List.drop_eq_getElem_cons hlt
    refine Ev.succ ?_
    simp only [spec_SuffixWeight.l0]
    refine Ev.pos (fun _ => by first | omega | trivial | assumption) ?_
    refine Ev.pos (fun _ => by first | omega | trivial | assumption) ?_
    rw [rdOf_at ws j hlt, hd, List.map_cons, List.idxOf_cons]
    by_cases h : bytesOf x = bytesOf ws[j]
    · refine Ev.pos (fun _ => (toList_eq_iff _ _).2 h.symm) ?_
      refine Ev.eq (Ev.now _) ?_
      have : (bytesOf ws[j] == bytesOf x) = true := by rw [beq_iff_eq]; exact h.symm
      rw [this]
      rfl
    · refine Ev.neg (fun _ e => h ((toList_eq_iff _ _).1 e).symm) ?_
      rw [w64 (i := (j : Int) + 1) (by omega) (by omega)]
      refine Ev.eq (ih (j + 1) (by omega) (by omega)) ?_
      have : (bytesOf ws[j] == bytesOf x) = false := by rw [beq_eq_false_iff_ne]; exact fun e => h e.symm
      rw [this]
      simp only [cond_false]
      omega
theorem sweight_ev (x : ByteArray) : Ev (fun k => spec_SuffixWeight.f k x) (wgt (bytesOf x) : Int) := by
  simp only [spec_SuffixWeight.f]
  have h := sweight_from x wgtBs (by decide) 9 0 rfl (by decide)
  rw [List.drop_zero, wgtBs_B] at h
  refine Ev.eq h ?_
  unfold wgt
  rw [Nat.zero_add]
theorem B_word {w : List Int} (h : w ∈ sufWords) : bytesOf (strOfNums w) = w := B_str (fun c hc => by have := sufWords_asc h c hc; omega)
theorem readSuffixes_from : ∀ (n : Nat) (s : ByteArray) (acc : List S58), s.size ≤ n → n ≤ 100000 → acc.length + n ≤ 200000 →
    Ev (fun k => spec_alpReadSuffixes.l0 k s acc) (acc ++ sufsA (sufsP n (bytesOf s)).1, strOfNums (sufsP n (bytesOf s)).2) := by
  intro n
  induction n with
  | zero =>
    intro s acc hs hn ha
    have h0 : bytesOf s = [] := (size_nil s).1 (by omega)
    have hr := word_ev s (by omega)
    refine Ev.succ ?_
    simp only [spec_alpReadSuffixes.l0]
    refine Ev.bind hr ?_
    have e : wordAt (bytesOf s) = none := by rw [h0]; rfl
    rw [e]
    refine Ev.pos (fun _ => (toList_nil _).2 rfl) ?_
    refine Ev.eq (Ev.now _) ?_
    simp only [sufsP]
    rw [str_B]
    simp [sufsA]
  | succ n ih =>
    intro s acc hs hn ha
    have hr := word_ev s (by omega)
    refine Ev.succ ?_
    simp only [spec_alpReadSuffixes.l0]
    refine Ev.bind hr ?_
    cases hq : wordAt (bytesOf s) with
    | none =>
      rw [sufsP_none hq]
      refine Ev.pos (fun _ => (toList_nil _).2 rfl) ?_
      refine Ev.eq (Ev.now _) ?_
      rw [str_B]
      simp [sufsA]
    | some w =>
      obtain ⟨k1, k2⟩ := wordAt_some hq
      have hlen := sufWords_len k1
      have hbw := B_word k1
      rw [sufsP_some hq]
      have htot := congrArg List.length k2
      simp only [List.length_cons, List.length_append, List.length_drop, bytesOf_length] at htot
      have hWs : (strOfNums w).size = w.length := by rw [B_size, hbw]
      show Ev _ _
      simp only [Option.getD_some]
      refine Ev.neg (fun _ e => by have := (toList_nil _).1 e; rw [hbw] at this; rw [this] at hlen; simp at hlen) ?_
      rw [hWs, w64 (i := (w.length : Int) + 1) (by omega) (by omega)]
      refine Ev.pos (fun _ => by omega) ?_
      refine Ev.pos (fun _ => by omega) ?_
      refine Ev.bind0 rfl ?_
      have e1 : ((w.length : Int) + 1).toNat = 1 + w.length := by omega
      rw [e1]
      have hb : bytesOf (s.extract (1 + w.length) s.size) = (bytesOf s).drop (1 + w.length) := B_drop _ _
      obtain ⟨Y, hY⟩ : ∃ Y, Y = s.extract (1 + w.length) s.size := ⟨_, rfl⟩
      rw [← hY] at hb ⊢
      have hYs : Y.size = s.size - (1 + w.length) := by rw [B_size, hb, List.length_drop, bytesOf_length]
      have hru := run1_ev Y (by omega)
      have hrl := run_le isD (bytesOf Y)
      rw [bytesOf_length] at hrl
      refine Ev.bind hru ?_
      have hsw := sweight_ev (strOfNums w)
      rw [hbw] at hsw
      refine Ev.bind hsw ?_
      refine Ev.pos (fun _ => by omega) ?_
      refine Ev.pos (fun _ => by omega) ?_
      rw [Int.toNat_natCast]
      have hdig : ∀ c ∈ (bytesOf Y).take (run isD (bytesOf Y)), isD c = true := fun c hc => run_mem hc
      have hio := intOf_ev (Y.extract 0 (run isD (bytesOf Y))) (by rw [B_size, B_take, List.length_take, bytesOf_length]; omega) (by rw [B_take]; exact hdig)
      rw [B_take] at hio
      refine Ev.bind hio ?_
      refine Ev.pos (fun _ => by omega) ?_
      have hbz : bytesOf (Y.extract (run isD (bytesOf Y)) Y.size) = (bytesOf Y).drop (run isD (bytesOf Y)) := B_drop _ _
      have := ih (Y.extract (run isD (bytesOf Y)) Y.size) (acc ++ [⟨(wgt w : Int), ⟨false, magB (decL ((bytesOf Y).take (run isD (bytesOf Y))))⟩⟩]) (by rw [B_size, hbz, List.length_drop, bytesOf_length]; omega) (by omega) (by simp; omega)
      rw [hbz, hb] at this
      rw [hb]
      refine Ev.eq this ?_
      rw [List.append_assoc]
      rfl
theorem readSuffixes_ev (s : ByteArray) (hs : s.size ≤ 100000) : Ev (fun k => spec_alpReadSuffixes.f k s) (sufsA (sufsP (bytesOf s).length (bytesOf s)).1, strOfNums (sufsP (bytesOf s).length (bytesOf s)).2) := by
  have h := readSuffixes_from (bytesOf s).length s [] (by rw [bytesOf_length]; exact Nat.le_refl _) (by rw [bytesOf_length]; exact hs) (by rw [bytesOf_length]; simp; omega)
  rw [List.nil_append] at h
  exact h
theorem ascii_from (s : ByteArray) (hs : s.size ≤ 2000000000) : ∀ (n i : Nat), s.size - i = n → i ≤ s.size →
    Ev (fun k => spec_Ascii.l0 k s i) (decide (∀ x ∈ (bytesOf s).drop i, x ≤ 127)) := by
  intro n
  induction n with
  | zero =>
    intro i hn hi
    refine Ev.succ ?_
    simp only [spec_Ascii.l0]
    refine Ev.neg (fun _ => by omega) ?_
    refine Ev.eq (Ev.now _) ?_
    rw [List.drop_of_length_le (by rw [bytesOf_length]; omega)]
    simp
  | succ n ih =>
    intro i hn hi
    have hl : i < (bytesOf s).length := by rw [bytesOf_length]; omega
    refine Ev.succ ?_
    simp only [spec_Ascii.l0]
    refine Ev.pos (fun _ => by omega) ?_
    refine Ev.pos (fun _ => by omega) ?_
    rw [bt_nat, drop_get _ _ hl]
    by_cases h : (bytesOf s).getD i 0 > 127
    · refine Ev.pos (fun _ => h) ?_
      refine Ev.eq (Ev.now _) ?_
      symm
      simp only [decide_eq_false_iff_not]
      intro hx
      have := hx _ List.mem_cons_self
      omega
    · refine Ev.neg (fun _ => h) ?_
      rw [w64 (by omega) (by omega)]
      refine Ev.eq (ih (i + 1) (by omega) (by omega)) ?_
      rw [decide_eq_decide]
      simp only [List.mem_cons, forall_eq_or_imp]
      exact ⟨fun hx => ⟨by omega, hx⟩, fun hx => hx.2⟩
theorem ascii_ev (s : ByteArray) (hs : s.size ≤ 2000000000) : Ev (fun k => spec_Ascii.f k s) (decide (∀ x ∈ bytesOf s, x ≤ 127)) := by
  have h := ascii_from s hs _ 0 rfl (Nat.zero_le _)
  simpa [spec_Ascii.f] using h
theorem clear_from (s : ByteArray) (hs : s.size ≤ 2000000) : ∀ (n i : Nat), s.size - i = n → i ≤ s.size → Ev (fun k => spec_AlpineTextKnown.l0 k s (i : Int)) (clearB ((bytesOf s).drop i)) := by
  intro n
  induction n with
  | zero =>
    intro i hn hi
    refine Ev.succ ?_
    simp only [spec_AlpineTextKnown.l0]
    refine Ev.neg (fun _ => by first | omega | assumption | nofun) ?_
    refine Ev.eq (Ev.now _) ?_
    rw [List.drop_of_length_le (by rw [bytesOf_length]; omega)]
    rfl
  | succ n ih =>
    intro i hn hi
    have hl : i < (bytesOf s).length := by rw [bytesOf_length]; omega
    have hb : bytesOf (s.extract i s.size) = (bytesOf s).drop i := B_drop _ _
    have hw := word_ev (s.extract i s.size) (by rw [B_size, hb, List.length_drop, bytesOf_length]; omega)
    rw [hb] at hw
    refine Ev.succ ?_
    simp only [spec_AlpineTextKnown.l0, Int.toNat_natCast]
    refine Ev.pos (fun _ => by first | omega | trivial | assumption) ?_
    refine Ev.pos (fun _ => by first | omega | trivial | assumption) ?_
    refine Ev.pos (fun _ => by first | omega | trivial | assumption) ?_
    refine Ev.bind hw ?_
    rw [w64 (i := (i : Int) + 1) (by omega) (by omega)]
    have e : clearB ((bytesOf s).drop i) = ((wordAt ((bytesOf s).drop i)).isNone && clearB ((bytesOf s).drop (i + 1))) := by
      rw [drop_get _ _ hl]
      rfl
    rw [e]
    cases hq : wordAt ((bytesOf s).drop i) with
    | none =>
      refine Ev.pos (fun _ => (toList_nil _).2 rfl) ?_
      exact ih (i + 1) (by omega) (by omega)
    | some w =>
      have k1 := (wordAt_some hq).1
      have hlen := sufWords_len k1
      refine Ev.neg (fun _ e => by have := (toList_nil _).1 e; rw [show (some w).getD [] = w from rfl, B_word k1] at this; rw [this] at hlen; simp at hlen) ?_
      exact Ev.now _
theorem letter_cases {α : Type} (s : ByteArray) {g : Bool → Nat → Option α} {r : α} (h : Ev (g (isL ((bytesOf s).getD 0 0))) r) : Ev (fun k => if s.toList = ([] : List UInt8) then g false k else if 0 < (s.size : Int) then (if (bt s 0) ≥ 97 then g (decide ((bt s 0) ≤ 122)) k else g false k) else none) r := by
  by_cases h0 : bytesOf s = []
  · refine Ev.pos (fun _ => (toList_nil s).2 h0) ?_
    rw [h0] at h
    exact h
  · have hpos : 0 < s.size := by rw [B_size]; exact List.length_pos_iff.2 h0
    refine Ev.neg (fun _ e => h0 ((toList_nil s).1 e)) ?_
    refine Ev.pos (fun _ => by omega) ?_
    rw [bt_zero]
    unfold isL at h
    by_cases h1 : (bytesOf s).getD 0 0 ≥ 97
    · refine Ev.pos (fun _ => h1) ?_
      have e : decide ((bytesOf s).getD 0 0 ≤ 122) = decide (97 ≤ (bytesOf s).getD 0 0 ∧ (bytesOf s).getD 0 0 ≤ 122) := by rw [decide_eq_decide]; omega
      rw [e]
      exact h
    · refine Ev.neg (fun _ => h1) ?_
      rw [decide_eq_false (by omega)] at h
      exact h
theorem B_rest {l r : List Int} (hl : ∀ x ∈ l, 0 ≤ x ∧ x ≤ 255) (h : ∃ a, l = a ++ r) : bytesOf (strOfNums r) = r := by
  obtain ⟨a, rfl⟩ := h
  exact B_str (fun c hc => hl c (List.mem_append_right _ hc))
theorem rest1_suffix (l : List Int) : ∃ a, l = a ++ rest1 l := by
  obtain ⟨sub, e, _⟩ := numsP_shape l.length l
  exact ⟨sub, e⟩
theorem rest2_suffix (l : List Int) : ∃ a, l = a ++ rest2 l := by
  obtain ⟨a, e⟩ := rest1_suffix l
  unfold rest2 letterP
  split
  · exact ⟨a ++ (rest1 l).take 1, by rw [List.append_assoc, List.take_append_drop]; exact e⟩
  · exact ⟨a, e⟩
theorem sufsP_suffix : ∀ (n : Nat) (l : List Int), ∃ a, l = a ++ (sufsP n l).2
  | 0, l => ⟨[], rfl⟩
  | n + 1, l => by
    cases hq : wordAt l with
    | none => rw [sufsP_none hq]; exact ⟨[], rfl⟩
    | some w =>
      rw [sufsP_some hq]
      obtain ⟨a, e⟩ := sufsP_suffix n ((l.drop (1 + w.length)).drop (run isD (l.drop (1 + w.length))))
      refine ⟨l.take (1 + w.length + run isD (l.drop (1 + w.length))) ++ a, ?_⟩
      simp only
      rw [List.append_assoc, ← e, List.drop_drop, List.take_append_drop]
theorem rest3_suffix (l : List Int) : ∃ a, l = a ++ rest3 l := by
  obtain ⟨a, e⟩ := rest2_suffix l
  obtain ⟨b, e2⟩ := sufsP_suffix (rest2 l).length (rest2 l)
  exact ⟨a ++ b, by rw [List.append_assoc]; unfold rest3; rw [← e2]; exact e⟩
theorem known_ev (s : ByteArray) (hs : s.size ≤ 100000) : Ev (fun k => spec_AlpineTextKnown.f k s) (decide (∀ x ∈ bytesOf s, x ≤ 127) && clearB (rest3 (bytesOf s))) := by
  simp only [spec_AlpineTextKnown.f]
  refine Ev.bind (ascii_ev s (by omega)) ?_
  cases ha : decide (∀ x ∈ bytesOf s, x ≤ 127)
  · refine Ev.neg (fun _ => Bool.false_ne_true) ?_
    exact Ev.now _
  · refine Ev.pos (fun _ => rfl) ?_
    rw [Bool.true_and]
    refine Ev.bind (readNumbers_ev s hs) ?_
    have hb1 := B_rest (B_range s) (rest1_suffix (bytesOf s))
    have hl1 := rest1_len (bytesOf s)
    have hz := hs
    rw [B_size] at hz
    refine letter_cases (strOfNums (rest1 (bytesOf s))) (g := fun b k => spec_AlpineTextKnown.j0 k (strOfNums (rest1 (bytesOf s))) b) ?_
    rw [hb1]
    have hj1 : ∀ (t : ByteArray), bytesOf t = rest2 (bytesOf s) → Ev (fun k => spec_AlpineTextKnown.j1 k t) (clearB (rest3 (bytesOf s))) := by
      intro t ht
      have hl2 := rest2_len (bytesOf s)
      have hl3 := rest3_len (bytesOf s)
      refine Ev.succ ?_
      simp only [spec_AlpineTextKnown.j1]
      have h := readSuffixes_ev t (by rw [B_size, ht]; omega)
      rw [ht] at h
      refine Ev.bind h ?_
      have hb3 := B_rest (B_range s) (rest3_suffix (bytesOf s))
      have h2 := clear_from (strOfNums (rest3 (bytesOf s))) (by rw [B_size, hb3]; omega) _ 0 rfl (Nat.zero_le _)
      rw [hb3, List.drop_zero] at h2
      exact h2
    refine Ev.succ ?_
    simp only [spec_AlpineTextKnown.j0]
    cases hc : isL ((rest1 (bytesOf s)).getD 0 0)
    · refine Ev.neg (fun _ => Bool.false_ne_true) ?_
      refine hj1 _ ?_
      rw [hb1]
      unfold rest2 letterP
      rw [hc]
      rfl
    · have hne : rest1 (bytesOf s) ≠ [] := by intro e; rw [e] at hc; exact absurd hc (by decide)
      have hpos : 0 < (strOfNums (rest1 (bytesOf s))).size := by rw [B_size, hb1]; exact List.length_pos_iff.2 hne
      refine Ev.pos (fun _ => rfl) ?_
      refine Ev.pos (fun _ => by omega) ?_
      refine hj1 _ ?_
      rw [B_drop, hb1]
      unfold rest2 letterP
      rw [hc]
      rfl
end Go.Proofs.YtapaijpglfmfgaaDoor.V
end
section -- BC
namespace Go.Proofs.YtapaijpglfmfgaaDoor.V
open Go.RowKit Go.Proofs.YtapaijpglfmfgaaDoor.Q Go.Proofs.YtapaijpglfmfgaaDoorG Go.Proofs.YtapaijpglfmfgaaDoorP Go.Proofs.YtapaijpglfmfgaaDoorH Go.Proofs.YtapaijpglfmfgaaDoorB Go.Proofs.YtapaijpglfmfgaaDoorM Go.Proofs.YtapaijpglfmfgaaDoorW.PrintWords Go.Proofs.YtapaijpglfmfgaaDoorW.PrintLast
set_option linter.unusedVariables false
set_option linter.unusedSimpArgs false
theorem short_one (s : ByteArray) : Ev (fun k => laws_short.f k [s]) (decide (s.size ≤ 1200)) := by
  refine Ev.succ ?_
  simp only [laws_short.f, laws_short.l0, List.length_cons, List.length_nil]
  refine Ev.pos (fun _ => by omega) ?_
  refine Ev.pos (fun _ => by omega) ?_
  refine Ev.pos (fun _ => by omega) ?_
  have e : rdOf ByteArray.empty [s] 0 = s := rfl
  rw [e]
  by_cases h : s.size ≤ 1200
  · refine Ev.neg (fun _ => by omega) ?_
    refine Ev.succ ?_
    simp only [laws_short.l0]
    refine Ev.neg (fun _ => by unfold wrap64; omega) ?_
    exact Ev.eq (Ev.now _) (by simp [h])
  · refine Ev.pos (fun _ => by omega) ?_
    exact Ev.eq (Ev.now _) (by simp [h])
theorem p4_ev (x : ByteArray) (hx : x.size ≤ 100000) (o l h : ByteArray) (ns : List S54) (ss : List S58) :
    Ev (fun k => spec_AlpineParse.j3 k x o ⟨#[]⟩ l h false ns ss true false ⟨#[]⟩)
      (o, strOfNums (buildP (bytesOf x)).2.2, l, h, (buildP (bytesOf x)).1, ns, ss, true, false, magB (decL (buildP (bytesOf x)).2.1), true) := by
  have e0 : (⟨#[]⟩ : ByteArray) = magB (decL []) := rfl
  have last : bytesOf x ≠ [45, 114] → (bytesOf x).take 2 ≠ [45, 114] → Ev (fun k => spec_AlpineParse.j4 k x false o ⟨#[]⟩ l h false ns ss true false ⟨#[]⟩)
      (o, strOfNums (buildP (bytesOf x)).2.2, l, h, (buildP (bytesOf x)).1, ns, ss, true, false, magB (decL (buildP (bytesOf x)).2.1), true) := by
    intro _ h2
    refine Ev.succ ?_
    simp only [spec_AlpineParse.j4]
    refine Ev.neg (fun _ => Bool.false_ne_true) ?_
    unfold buildP
    by_cases h0 : bytesOf x = []
    · refine Ev.pos (fun _ => (toList_nil x).2 h0) ?_
      rw [if_pos h0]
      exact Ev.now _
    · refine Ev.neg (fun _ e => h0 ((toList_nil x).1 e)) ?_
      rw [if_neg h0, if_neg h2, str_B]
      exact Ev.now _
  refine Ev.succ ?_
  simp only [spec_AlpineParse.j3]
  by_cases h1 : x.size > 1
  · refine Ev.pos (fun _ => by omega) ?_
    refine Ev.pos (fun _ => by first | trivial | decide) ?_
    refine Ev.pos (fun _ => by omega) ?_
    have e2 : (x.extract 0 2).toList = ([45, 114] : List UInt8) ↔ (bytesOf x).take 2 = [45, 114] := by
      rw [toList_lit, B_take]
      rfl
    by_cases h2 : (bytesOf x).take 2 = [45, 114]
    · have : ((x.extract 0 2).toList == ([45, 114] : List UInt8)) = true := beq_iff_eq.2 (e2.2 h2)
      rw [this]
      refine Ev.succ ?_
      simp only [spec_AlpineParse.j4]
      refine Ev.pos (fun _ => by first | rfl | trivial) ?_
      refine Ev.pos (fun _ => by omega) ?_
      have hb : bytesOf (x.extract 2 x.size) = (bytesOf x).drop 2 := B_drop _ _
      have hxz := hx
      rw [B_size] at hxz h1
      have hr := run1_ev (x.extract 2 x.size) (by rw [B_size, hb, List.length_drop]; omega)
      have hrl := run_le isD ((bytesOf x).drop 2)
      rw [List.length_drop] at hrl
      rw [hb] at hr
      refine Ev.bind hr ?_
      have hsz := B_size x
      rw [w64 (i := 2 + ((run isD ((bytesOf x).drop 2) : Nat) : Int)) (by omega) (by omega)]
      refine Ev.pos (fun _ => by omega) ?_
      refine Ev.pos (fun _ => by omega) ?_
      have e3 : (2 + ((run isD ((bytesOf x).drop 2) : Nat) : Int)).toNat = 2 + run isD ((bytesOf x).drop 2) := by omega
      rw [e3]
      have hb2 : bytesOf (x.extract 2 (2 + run isD ((bytesOf x).drop 2))) = ((bytesOf x).drop 2).take (run isD ((bytesOf x).drop 2)) := by rw [B_extract, Nat.add_sub_cancel_left]
      have hio := intOf_ev (x.extract 2 (2 + run isD ((bytesOf x).drop 2))) (by rw [B_size, hb2, List.length_take, List.length_drop]; omega) (by rw [hb2]; exact fun c hc => run_mem hc)
      rw [hb2] at hio
      refine Ev.bind hio ?_
      refine Ev.pos (fun _ => by omega) ?_
      unfold buildP
      have h0 : bytesOf x ≠ [] := by intro e; rw [e] at h1; simp at h1
      rw [if_neg h0, if_pos h2]
      refine Ev.eq (Ev.now _) ?_
      rw [str_drop, List.drop_drop]
    · have : ((x.extract 0 2).toList == ([45, 114] : List UInt8)) = false := by rw [beq_eq_false_iff_ne]; exact fun e => h2 (e2.1 e)
      rw [this]
      exact last (fun e => h2 (by rw [e]; rfl)) h2
  · refine Ev.neg (fun _ => by omega) ?_
    have hl : (bytesOf x).length ≤ 1 := by rw [bytesOf_length]; omega
    refine last (fun e => by rw [e] at hl; simp at hl) (fun e => ?_)
    have := congrArg List.length e
    rw [List.length_take] at this
    simp at this
    omega
theorem run_head {p : Int → Bool} {l : List Int} (h : l ≠ []) : run p l ≠ 0 ↔ p (l.getD 0 0) = true := by
  cases l with
  | nil => exact absurd rfl h
  | cons c r =>
    show _ ↔ p c = true
    cases hc : p c
    · rw [run_neg hc]; simp
    · rw [run_pos hc]; simp
theorem p2_ev (x : ByteArray) (hx : x.size ≤ 100000) (o l : ByteArray) (ns : List S54) :
    Ev (fun k => spec_AlpineParse.j1 k x o ⟨#[]⟩ l ⟨#[]⟩ false ns true false ⟨#[]⟩)
      (o, strOfNums (buildP (hashP (sufsP (bytesOf x).length (bytesOf x)).2).2).2.2, l, strOfNums (hashP (sufsP (bytesOf x).length (bytesOf x)).2).1, (buildP (hashP (sufsP (bytesOf x).length (bytesOf x)).2).2).1, ns,
        sufsA (sufsP (bytesOf x).length (bytesOf x)).1, true, false, magB (decL (buildP (hashP (sufsP (bytesOf x).length (bytesOf x)).2).2).2.1), true) := by
  refine Ev.succ ?_
  simp only [spec_AlpineParse.j1]
  refine Ev.bind (readSuffixes_ev x hx) ?_
  have hbz : bytesOf (strOfNums (sufsP (bytesOf x).length (bytesOf x)).2) = (sufsP (bytesOf x).length (bytesOf x)).2 := B_rest (B_range x) (sufsP_suffix _ _)
  have hlz := sufsP_len (bytesOf x).length (bytesOf x)
  rw [bytesOf_length] at hlz
  obtain ⟨ss, hss⟩ : ∃ ss, ss = sufsA (sufsP (bytesOf x).length (bytesOf x)).1 := ⟨_, rfl⟩
  obtain ⟨q, hq⟩ : ∃ q, q = (sufsP (bytesOf x).length (bytesOf x)).2 := ⟨_, rfl⟩
  rw [← hss]
  simp only [← hq] at hbz hlz ⊢
  rw [bytesOf_length] at hq
  obtain ⟨y, hy⟩ : ∃ y, y = strOfNums q := ⟨_, rfl⟩
  have hlz2 : q.length ≤ x.size := by rw [hq]; exact hlz
  rw [← hy] at hbz ⊢
  have hysz : y.size = q.length := by rw [B_size, hbz]
  have hno : ¬ (q.getD 0 0 = 126 ∧ run isX (q.drop 1) ≠ 0) → Ev (fun k => spec_AlpineParse.j2 k y false o ⟨#[]⟩ l ⟨#[]⟩ false ns ss true false ⟨#[]⟩)
      (o, strOfNums (buildP (hashP q).2).2.2, l, strOfNums (hashP q).1, (buildP (hashP q).2).1, ns, ss, true, false, magB (decL (buildP (hashP q).2).2.1), true) := by
    intro hn
    refine Ev.succ ?_
    simp only [spec_AlpineParse.j2]
    refine Ev.neg (fun _ => Bool.false_ne_true) ?_
    have h := p4_ev y (by omega) o l ⟨#[]⟩ ns ss
    unfold hashP
    rw [if_neg hn, ← hbz]
    exact h
  by_cases h1 : y.size > 1
  · refine Ev.pos (fun _ => by omega) ?_
    refine Ev.pos (fun _ => by omega) ?_
    rw [bt_zero, hbz]
    by_cases h2 : q.getD 0 0 = 126
    · refine Ev.pos (fun _ => h2) ?_
      refine Ev.pos (fun _ => by omega) ?_
      have e1 : bt y 1 = (q.drop 1).getD 0 0 := by
        have := bt_nat y 1
        rw [hbz] at this
        rw [show bt y 1 = bt y ((1 : Nat) : Int) from rfl, this]
        simp [List.getD_eq_getElem?_getD, List.getElem?_drop]
      rw [e1, alpHex_eq]
      simp only [Option.bind_some]
      have hne : q.drop 1 ≠ [] := by
        intro e
        have := congrArg List.length e
        rw [List.length_drop] at this
        simp at this
        omega
      cases hc : isX ((q.drop 1).getD 0 0)
      · exact hno (fun hn => by rw [run_head hne, hc] at hn; exact absurd hn.2 Bool.false_ne_true)
      · have hrun : run isX (q.drop 1) ≠ 0 := (run_head hne).2 hc
        refine Ev.succ ?_
        simp only [spec_AlpineParse.j2]
        refine Ev.pos (fun _ => by first | rfl | trivial) ?_
        refine Ev.pos (fun _ => by omega) ?_
        have hb : bytesOf (y.extract 1 y.size) = q.drop 1 := by rw [B_drop, hbz]
        have hr := run2_ev (y.extract 1 y.size) (by rw [B_size, hb, List.length_drop]; omega)
        rw [hb] at hr
        have hrl := run_le isX (q.drop 1)
        rw [List.length_drop] at hrl
        refine Ev.bind hr ?_
        rw [w64 (i := 1 + ((run isX (q.drop 1) : Nat) : Int)) (by omega) (by omega)]
        refine Ev.pos (fun _ => by omega) ?_
        refine Ev.pos (fun _ => by omega) ?_
        have e3 : (1 + ((run isX (q.drop 1) : Nat) : Int)).toNat = 1 + run isX (q.drop 1) := by omega
        rw [e3]
        unfold hashP
        rw [if_pos ⟨h2, hrun⟩]
        have hb2 : bytesOf (y.extract (1 + run isX (q.drop 1)) y.size) = q.drop (1 + run isX (q.drop 1)) := by rw [B_drop, hbz]
        have h := p4_ev (y.extract (1 + run isX (q.drop 1)) y.size) (by rw [B_size, hb2, List.length_drop]; omega) o l (y.extract 0 (1 + run isX (q.drop 1))) ns ss
        rw [hb2, str_take, hbz] at h
        rw [str_take, hbz]
        exact h
    · refine Ev.neg (fun _ => h2) ?_
      exact hno (fun hn => h2 hn.1)
  · refine Ev.neg (fun _ => by omega) ?_
    refine hno (fun hn => hn.2 ?_)
    have : q.drop 1 = [] := List.drop_of_length_le (by omega)
    rw [this]
    rfl
theorem parse_ev (s : ByteArray) (hs : s.size ≤ 100000) : Ev (fun k => spec_AlpineParse.f k s)
    (s, strOfNums (parseP (bytesOf s)).r, strOfNums (parseP (bytesOf s)).l, strOfNums (parseP (bytesOf s)).h, (parseP (bytesOf s)).i, numsA (parseP (bytesOf s)).c, sufsA (parseP (bytesOf s)).s, true, false, magB (decL (parseP (bytesOf s)).b), true) := by
  simp only [spec_AlpineParse.f]
  refine Ev.bind (readNumbers_ev s hs) ?_
  have hb1 := B_rest (B_range s) (rest1_suffix (bytesOf s))
  have hl1 := rest1_len (bytesOf s)
  rw [bytesOf_length] at hl1
  refine letter_cases (strOfNums (rest1 (bytesOf s))) (g := fun b k => spec_AlpineParse.j0 k (strOfNums (rest1 (bytesOf s))) b s ⟨#[]⟩ ⟨#[]⟩ ⟨#[]⟩ false _ true false ⟨#[]⟩) ?_
  rw [hb1]
  have key : ∀ (t l : ByteArray), bytesOf t = rest2 (bytesOf s) → l = strOfNums (letterP (rest1 (bytesOf s))).1 → Ev (fun k => spec_AlpineParse.j1 k t s ⟨#[]⟩ l ⟨#[]⟩ false (numsA (numsP (bytesOf s).length (bytesOf s)).1) true false ⟨#[]⟩)
      (s, strOfNums (parseP (bytesOf s)).r, strOfNums (parseP (bytesOf s)).l, strOfNums (parseP (bytesOf s)).h, (parseP (bytesOf s)).i, numsA (parseP (bytesOf s)).c, sufsA (parseP (bytesOf s)).s, true, false, magB (decL (parseP (bytesOf s)).b), true) := by
    intro t l ht hl
    have hl2 := rest2_len (bytesOf s)
    rw [bytesOf_length] at hl2
    have h := p2_ev t (by rw [B_size, ht]; omega) s l (numsA (numsP (bytesOf s).length (bytesOf s)).1)
    rw [ht] at h
    rw [hl] at h ⊢
    exact h
  refine Ev.succ ?_
  simp only [spec_AlpineParse.j0]
  cases hc : isL ((rest1 (bytesOf s)).getD 0 0)
  · refine Ev.neg (fun _ => Bool.false_ne_true) ?_
    refine key _ _ ?_ ?_
    · rw [hb1]
      unfold rest2 letterP
      rw [hc]
      rfl
    · unfold letterP
      rw [hc]
      rfl
  · have hne : rest1 (bytesOf s) ≠ [] := by intro e; rw [e] at hc; exact absurd hc (by decide)
    have hpos : 0 < (strOfNums (rest1 (bytesOf s))).size := by rw [B_size, hb1]; exact List.length_pos_iff.2 hne
    refine Ev.pos (fun _ => by first | rfl | trivial) ?_
    refine Ev.pos (fun _ => by first | trivial | decide) ?_
    refine Ev.pos (fun _ => by omega) ?_
    refine key _ _ ?_ ?_
    · rw [B_drop, hb1]
      unfold rest2 letterP
      rw [hc]
      rfl
    · unfold letterP
      rw [hc, str_take, hb1]
      rfl
theorem same_l1 (o r l h : ByteArray) (i : Bool) (ns : List S54) (ss : List S58) (hn1 : ns.length ≤ 200000) (hs1 : ss.length ≤ 200000) (hb ng : Bool) (m : ByteArray) : ∀ (n j : Nat), ss.length - j = n → j ≤ ss.length →
    Ev (fun k => laws_alpine.l1 k (ss.length : Int) (j : Int) o r l h i ns ss hb ng m o r l h i ns ss hb ng m) true := by
  intro n
  induction n with
  | zero =>
    intro j hn hj
    refine Ev.succ ?_
    simp only [laws_alpine.l1]
    refine Ev.neg (fun _ => by omega) ?_
    exact Ev.now _
  | succ n ih =>
    intro j hn hj
    refine Ev.succ ?_
    simp only [laws_alpine.l1]
    refine Ev.pos (fun _ => by omega) ?_
    refine Ev.pos (fun _ => by omega) ?_
    refine Ev.pos (fun _ => by omega) ?_
    refine Ev.pos (fun _ => by omega) ?_
    refine Ev.neg (fun _ => by simp) ?_
    rw [w64 (by omega) (by omega)]
    exact ih (j + 1) (by omega) (by omega)
theorem same_l0 (o r l h : ByteArray) (i : Bool) (ns : List S54) (ss : List S58) (hn1 : ns.length ≤ 200000) (hs1 : ss.length ≤ 200000) (hb ng : Bool) (m : ByteArray) : ∀ (n j : Nat), ns.length - j = n → j ≤ ns.length →
    Ev (fun k => laws_alpine.l0 k (ns.length : Int) (j : Int) o r l h i ns ss hb ng m o r l h i ns ss hb ng m) true := by
  intro n
  induction n with
  | zero =>
    intro j hn hj
    refine Ev.succ ?_
    simp only [laws_alpine.l0]
    refine Ev.neg (fun _ => by omega) ?_
    exact same_l1 o r l h i ns ss hn1 hs1 hb ng m _ 0 rfl (Nat.zero_le _)
  | succ n ih =>
    intro j hn hj
    refine Ev.succ ?_
    simp only [laws_alpine.l0]
    refine Ev.pos (fun _ => by omega) ?_
    refine Ev.pos (fun _ => by omega) ?_
    refine Ev.pos (fun _ => by omega) ?_
    refine Ev.pos (fun _ => by omega) ?_
    refine Ev.neg (fun _ => by simp) ?_
    rw [w64 (by omega) (by omega)]
    exact ih (j + 1) (by omega) (by omega)
theorem same_ev (o r l h : ByteArray) (i : Bool) (ns : List S54) (ss : List S58) (hn1 : ns.length ≤ 200000) (hs1 : ss.length ≤ 200000) (hb ng : Bool) (m : ByteArray) :
    Ev (fun k => laws_alpine.f k o r l h i ns ss hb ng m o r l h i ns ss hb ng m) true := by
  simp only [laws_alpine.f]
  refine Ev.pos (fun _ => by first | rfl | trivial) ?_
  refine Ev.pos (fun _ => by first | rfl | trivial) ?_
  refine Ev.pos (fun _ => by first | rfl | trivial) ?_
  refine Ev.pos (fun _ => by first | rfl | trivial) ?_
  refine Ev.neg (fun _ => by simp) ?_
  refine Ev.neg (fun _ => by simp) ?_
  have e : (!(ng == ng) || !(m.toList == m.toList)) = false := by simp
  rw [e]
  refine Ev.succ ?_
  simp only [laws_alpine.j0]
  refine Ev.neg (fun _ => Bool.false_ne_true) ?_
  refine Ev.pos (fun _ => by first | rfl | trivial) ?_
  have e2 : ((ss.length : Int) != (ss.length : Int)) = false := by simp
  rw [e2]
  refine Ev.succ ?_
  simp only [laws_alpine.j1]
  refine Ev.neg (fun _ => Bool.false_ne_true) ?_
  exact same_l0 o r l h i ns ss hn1 hs1 hb ng m _ 0 rfl (Nat.zero_le _)
theorem numsA_length (c : List (List Int)) : (numsA c).length = c.length := by simp [numsA]
theorem sufsA_length (c : List (List Int × List Int)) : (sufsA c).length = c.length := by simp [sufsA]
theorem FnAlpineParse : laws_FnAlpineParse.Pure := by
  intro s hs
  refine Ev.rounds ?_
  simp only [laws_FnAlpineParse.f]
  by_cases hbig : (s.size : Int) > 2147483647
  · refine Ev.pos (fun _ => hbig) ?_
    exact Ev.now _
  refine Ev.neg (fun _ => hbig) ?_
  refine Ev.bind (short_one s) ?_
  have hout : Ev (fun k => laws_FnAlpineParse.j0 k s true) true := by
    refine Ev.succ ?_
    simp only [laws_FnAlpineParse.j0]
    refine Ev.pos (fun _ => by first | rfl | trivial) ?_
    exact Ev.now _
  by_cases h1 : s.size ≤ 1200
  · refine Ev.pos (fun _ => decide_eq_true h1) ?_
    refine Ev.bind (known_ev s (by omega)) ?_
    cases hk : (decide (∀ x ∈ bytesOf s, x ≤ 127) && clearB (rest3 (bytesOf s)))
    · exact hout
    · have hclr : clearB (rest3 (bytesOf s)) = true := (Bool.and_eq_true_iff.1 hk).2
      have hok : AOk s := ⟨by omega, hclr⟩
      refine Ev.succ ?_
      simp only [laws_FnAlpineParse.j0]
      refine Ev.neg (fun _ => Bool.false_ne_true) ?_
      refine Ev.bind0 (by unfold impl_AlpineParse.f; rw [if_pos hok]) ?_
      refine Ev.bind (parse_ev s (by omega)) ?_
      refine Ev.pos (fun _ => by first | rfl | trivial) ?_
      have hz := bytesOf_length s
      have hcn := numsP_count (bytesOf s).length (bytesOf s)
      have hcs := sufsP_count (rest2 (bytesOf s)).length (rest2 (bytesOf s))
      have hl2 := rest2_len (bytesOf s)
      have h := same_ev s (strOfNums (parseP (bytesOf s)).r) (strOfNums (parseP (bytesOf s)).l) (strOfNums (parseP (bytesOf s)).h) (parseP (bytesOf s)).i (numsA (parseP (bytesOf s)).c) (sufsA (parseP (bytesOf s)).s)
        (by rw [numsA_length]; show (numsP (bytesOf s).length (bytesOf s)).1.length ≤ _; omega) (by rw [sufsA_length]; show (sufsP (rest2 (bytesOf s)).length (rest2 (bytesOf s))).1.length ≤ _; omega) true false (magB (decL (parseP (bytesOf s)).b))
      refine Ev.bind h ?_
      exact Ev.now _
  · refine Ev.neg (fun _ e => h1 (of_decide_eq_true e)) ?_
    exact hout
end Go.Proofs.YtapaijpglfmfgaaDoor.V
end
section -- PureFnAlpineParse
namespace Go.Proofs.YtapaijpglfmfgaaDoor.Pure
theorem FnAlpineParse : Q.laws_FnAlpineParse.Pure := V.FnAlpineParse
end Go.Proofs.YtapaijpglfmfgaaDoor.Pure
end
section -- K19
namespace Go.Proofs.YtapaijpglfmfgaaDoorG
open Go.RowKit Go.ChangeShapes Go.Proofs.YtapaijpglfmfgaaDoorW.PrintWords Go.Proofs.YtapaijpglfmfgaaDoorW.PrintLast
set_option linter.unusedVariables false
theorem err_star : "*" ++ "errors.errorString" = "*errors.errorString" := by decide
theorem err_row (u : TypeId) (h : Tryd.prog.typeName? 3 u = some "*errors.errorString") : u = 177 :=
  typeName_ptr_named (nm := "errors.errorString") (by rw [err_star]; kernel_rfl) (by kernel_rfl) (by decide) u (by rw [err_star]; exact h)
theorem sent {n : String} {text : List UInt8} {g : Nat} {W : World} (hg : Tryd.prog.globalNamed n = some g) (ht : (Tryd.prog.globals[g]?).map (·.type) = some 71)
    (h : laidMet Tryd.prog [(n, .iface "*errors.errorString" (.ptr (.agg [.lit (.string text)])))] W) : (∃ a, W.cell? ⟨g, 0, none⟩ = some (ErrV a)) ∧ g < W.heap.size := by
  obtain ⟨a, s, hv, _⟩ := laid_sentinel h hg ht Tryd.underlying71 err_row Tryd.underlying177 Tryd.underlying194 rfl rfl Tryd.underlying9 (by kernel_rfl) (by kernel_rfl)
  have hc : W.cell? ⟨g, 0, none⟩ = some (ErrV a) := by
    have h0 := World.var?_cell hg hv 0
    simpa [ErrV] using h0
  refine ⟨⟨a, hc⟩, ?_⟩
  rcases Nat.lt_or_ge g W.heap.size with hl | hl
  · exact hl
  · unfold World.cell? at hc
    rw [Array.getElem?_eq_none hl] at hc
    cases hc
theorem GL_of {l : List (String × DataW Unit)} {W : World} (hL : laidMetH Tryd.prog l W) (hp : (l.all fun x => x.2.handleName?.isNone) = true)
    (e1 : l.filter (fun x => x.1 == "io.EOF") = [("io.EOF", Go.Proofs.YtapaijpglfmfgaaDoor.Rows.laid_io_EOF)])
    (e2 : l.filter (fun x => x.1 == "pub-primogeniture/pub/bigall.errNoDigits") = [("pub-primogeniture/pub/bigall.errNoDigits", Go.Proofs.YtapaijpglfmfgaaDoor.Rows.laid_pub_primogeniture_pub_bigall_errNoDigits)])
    (e3 : l.filter (fun x => x.1 == "pub-primogeniture/pub/scalibr/semantic.ErrInvalidVersion") = [("pub-primogeniture/pub/scalibr/semantic.ErrInvalidVersion", Go.Proofs.YtapaijpglfmfgaaDoor.Rows.laid_pub_primogeniture_pub_scalibr_semantic_ErrInvalidVersion)]) : GL W := by
  have one : ∀ (n : String) (d : DataW Unit), l.filter (fun x => x.1 == n) = [(n, d)] → d.handleName?.isNone = true → laidMet Tryd.prog [(n, d)] W := by
    intro n d e hd
    have h := hL.filter (fun x => x.1 == n)
    rw [e, MakeChecks.laidMetH_plain _ _ _ (by simp [hd])] at h
    exact h
  obtain ⟨h1, g1⟩ := sent (g := 2) (by kernel_rfl) (by kernel_rfl) (one _ _ e1 (by kernel_rfl))
  obtain ⟨h2, g2⟩ := sent (g := 4) (by kernel_rfl) (by kernel_rfl) (one _ _ e2 (by kernel_rfl))
  obtain ⟨h3, g3⟩ := sent (g := 0) (by kernel_rfl) (by kernel_rfl) (one _ _ e3 (by kernel_rfl))
  exact ⟨by omega, h3, h1, h2⟩
end Go.Proofs.YtapaijpglfmfgaaDoorG
end
