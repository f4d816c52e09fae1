/- Proved here: each Go function that is named in this text, called as its theorem 'calls' says, returns what its Lean function 'f' tells, and of the memory that was there nothing is changed (a row of a law: the law returns true). Conditions: those that stand in each theorem; where 'f' tells none, nothing is said. Laid by a program of this seat's prover out of the translation; Lean checks it. -/
import Derived.Test.YteffbgjfhbgooaaQx0
import Derived.Test.YteffbgjfhbgooaaQx1
import Derived.Test.YteffbgjfhbgooaaQx3
import Derived.Test.YteffbgjfhbgooaaQx4
namespace Go.Proofs.Yteffbgjfhbgooaa.Q
open Go.RowKit Go.Proofs.YteffbgjfhbgooaaH Go.Proofs.YteffbgjfhbgooaaW.PrintWords Go.Proofs.YteffbgjfhbgooaaW.PrintLast Go.Proofs.YteffbgjfhbgooaaW.PrintMore
attribute [local go_sem] max2_int min2_int max_two min_two max_three min_three max_four min_four   -- for this text's walks alone
set_option linter.unusedVariables false
set_option linter.unusedSimpArgs false

/-! ### laws_FnPyPILegacyEnd: function 3 -/
mutual
def laws_FnPyPILegacyEnd.j0 : Nat → ByteArray → Bool → Option (Bool)
  | 0, _, _ => none
  | k + 1, x0, x17 => if x17 = true then (some true) else ((laws_small.f k x0).bind fun t155 => ((impl_PyPIParts.f k t155).bind fun t156 => (if (t156.length : Int) = 0 then (laws_FnPyPILegacyEnd.j1 k x0 t156 true) else (if 0 ≤ (wrap64 ((t156.length : Int) - 1)) then (if (wrap64 ((t156.length : Int) - 1)) < (t156.length : Int) then (laws_FnPyPILegacyEnd.j1 k x0 t156 ((rdOf ByteArray.empty t156 (wrap64 ((t156.length : Int) - 1))).toList != ([42, 102, 105, 110, 97, 108] : List UInt8))) else (none)) else (none)))))
def laws_FnPyPILegacyEnd.j1 : Nat → ByteArray → List ByteArray → Bool → Option (Bool)
  | 0, _, _, _ => none
  | k + 1, x0, x3, x32 => if x32 = true then (some false) else (laws_FnPyPILegacyEnd.l0 k x0 x3 (x3.length : Int) 0)
def laws_FnPyPILegacyEnd.l0 : Nat → ByteArray → List ByteArray → Int → Int → Option (Bool)
  | 0, _, _, _, _ => none
  | k + 1, x0, x33, x34, x35 => if x35 < x34 then (if 0 ≤ x35 then (if x35 < (x33.length : Int) then (if (rdOf ByteArray.empty x33 x35).toList = ([] : List UInt8) then (some false) else (if 0 < ((rdOf ByteArray.empty x33 x35).size : Int) then (if (bt (rdOf ByteArray.empty x33 x35) 0) = 42 then (if ((rdOf ByteArray.empty x33 x35).size : Int) > 8 then ((laws_digits.f k (rdOf ByteArray.empty x33 x35)).bind fun t161 => (if t161 = true then (if (bt (rdOf ByteArray.empty x33 x35) 0) = 48 then (if (x0.size : Int) < 9 then (some false) else (laws_FnPyPILegacyEnd.l0 k x0 x33 x34 (wrap64 (x35 + 1)))) else (laws_FnPyPILegacyEnd.l0 k x0 x33 x34 (wrap64 (x35 + 1)))) else (laws_FnPyPILegacyEnd.l0 k x0 x33 x34 (wrap64 (x35 + 1))))) else (laws_FnPyPILegacyEnd.l0 k x0 x33 x34 (wrap64 (x35 + 1)))) else ((laws_digits.f k (rdOf ByteArray.empty x33 x35)).bind fun t162 => (if t162 = true then (if ((rdOf ByteArray.empty x33 x35).size : Int) < 8 then (some false) else (if ((rdOf ByteArray.empty x33 x35).size : Int) > 8 then (if (bt (rdOf ByteArray.empty x33 x35) 0) = 48 then (if (x0.size : Int) < 9 then (some false) else (laws_FnPyPILegacyEnd.l0 k x0 x33 x34 (wrap64 (x35 + 1)))) else (laws_FnPyPILegacyEnd.l0 k x0 x33 x34 (wrap64 (x35 + 1)))) else (laws_FnPyPILegacyEnd.l0 k x0 x33 x34 (wrap64 (x35 + 1))))) else (some false)))) else (none))) else (none)) else (none)) else (some true)
end
def laws_FnPyPILegacyEnd.f (k : Nat) (a0 : ByteArray) : Option (Bool) := if (a0.size : Int) > 2147483647 then (some true) else ((laws_short.f k (([a0] : List ByteArray))).bind fun t153 => (if t153 = true then ((spec_PyPITextKnown.f k a0).bind fun t154 => (laws_FnPyPILegacyEnd.j0 k a0 (!t154))) else (laws_FnPyPILegacyEnd.j0 k a0 true)))
theorem laws_FnPyPILegacyEnd.mono_l : ∀ k, (∀ y0 y1, LeO (laws_FnPyPILegacyEnd.j0 k y0 y1) (laws_FnPyPILegacyEnd.j0 (k + 1) y0 y1)) ∧ (∀ y0 y1 y2, LeO (laws_FnPyPILegacyEnd.j1 k y0 y1 y2) (laws_FnPyPILegacyEnd.j1 (k + 1) y0 y1 y2)) ∧ (∀ y0 y1 y2 y3, LeO (laws_FnPyPILegacyEnd.l0 k y0 y1 y2 y3) (laws_FnPyPILegacyEnd.l0 (k + 1) y0 y1 y2 y3))
  | 0 => ⟨fun _ _ r h => by simp [laws_FnPyPILegacyEnd.j0] at h, fun _ _ _ r h => by simp [laws_FnPyPILegacyEnd.j1] at h, fun _ _ _ _ r h => by simp [laws_FnPyPILegacyEnd.l0] at h⟩
  | k + 1 => by
    obtain ⟨ih0, ih1, ih2⟩ := laws_FnPyPILegacyEnd.mono_l k
    refine ⟨?_, ?_, ?_⟩
    · intro y0 y1
      unfold laws_FnPyPILegacyEnd.j0
      repeat' first
      | (with_reducible exact ih0 _ _)
      | (with_reducible exact ih1 _ _ _)
      | (with_reducible exact ih2 _ _ _ _)
      | (with_reducible exact impl_PyPIParts.mono _ _)
      | (with_reducible exact laws_digits.mono _ _)
      | (with_reducible exact laws_short.mono _ _)
      | (with_reducible exact laws_small.mono _ _)
      | (with_reducible exact spec_PyPITextKnown.mono _ _)
      | (with_reducible exact LeO.refl _)
      | (with_reducible exact LeO.none _)
      | (with_reducible refine LeO.ite ?_ ?_)
      | (with_reducible refine LeO.bind ?_ (fun _ => ?_))
      | exact ih0 _ _
      | exact ih1 _ _ _
      | exact ih2 _ _ _ _
      | exact impl_PyPIParts.mono _ _
      | exact laws_digits.mono _ _
      | exact laws_short.mono _ _
      | exact laws_small.mono _ _
      | exact spec_PyPITextKnown.mono _ _
      | exact LeO.none _
      | refine LeO.ite ?_ ?_
      | refine LeO.bind ?_ (fun _ => ?_)
    · intro y0 y1 y2
      unfold laws_FnPyPILegacyEnd.j1
      repeat' first
      | (with_reducible exact ih0 _ _)
      | (with_reducible exact ih1 _ _ _)
      | (with_reducible exact ih2 _ _ _ _)
      | (with_reducible exact impl_PyPIParts.mono _ _)
      | (with_reducible exact laws_digits.mono _ _)
      | (with_reducible exact laws_short.mono _ _)
      | (with_reducible exact laws_small.mono _ _)
      | (with_reducible exact spec_PyPITextKnown.mono _ _)
      | (with_reducible exact LeO.refl _)
      | (with_reducible exact LeO.none _)
      | (with_reducible refine LeO.ite ?_ ?_)
      | (with_reducible refine LeO.bind ?_ (fun _ => ?_))
      | exact ih0 _ _
      | exact ih1 _ _ _
      | exact ih2 _ _ _ _
      | exact impl_PyPIParts.mono _ _
      | exact laws_digits.mono _ _
      | exact laws_short.mono _ _
      | exact laws_small.mono _ _
      | exact spec_PyPITextKnown.mono _ _
      | exact LeO.none _
      | refine LeO.ite ?_ ?_
      | refine LeO.bind ?_ (fun _ => ?_)
    · intro y0 y1 y2 y3
      unfold laws_FnPyPILegacyEnd.l0
      repeat' first
      | (with_reducible exact ih0 _ _)
      | (with_reducible exact ih1 _ _ _)
      | (with_reducible exact ih2 _ _ _ _)
      | (with_reducible exact impl_PyPIParts.mono _ _)
      | (with_reducible exact laws_digits.mono _ _)
      | (with_reducible exact laws_short.mono _ _)
      | (with_reducible exact laws_small.mono _ _)
      | (with_reducible exact spec_PyPITextKnown.mono _ _)
      | (with_reducible exact LeO.refl _)
      | (with_reducible exact LeO.none _)
      | (with_reducible refine LeO.ite ?_ ?_)
      | (with_reducible refine LeO.bind ?_ (fun _ => ?_))
      | exact ih0 _ _
      | exact ih1 _ _ _
      | exact ih2 _ _ _ _
      | exact impl_PyPIParts.mono _ _
      | exact laws_digits.mono _ _
      | exact laws_short.mono _ _
      | exact laws_small.mono _ _
      | exact spec_PyPITextKnown.mono _ _
      | exact LeO.none _
      | refine LeO.ite ?_ ?_
      | refine LeO.bind ?_ (fun _ => ?_)
theorem laws_FnPyPILegacyEnd.mono : ∀ a0 k, LeO (laws_FnPyPILegacyEnd.f k a0) (laws_FnPyPILegacyEnd.f (k + 1) a0) := by
  intro a0 k
  obtain ⟨ih0, ih1, ih2⟩ := laws_FnPyPILegacyEnd.mono_l k
  unfold laws_FnPyPILegacyEnd.f
  repeat' first
      | (with_reducible exact ih0 _ _)
      | (with_reducible exact ih1 _ _ _)
      | (with_reducible exact ih2 _ _ _ _)
      | (with_reducible exact impl_PyPIParts.mono _ _)
      | (with_reducible exact laws_digits.mono _ _)
      | (with_reducible exact laws_short.mono _ _)
      | (with_reducible exact laws_small.mono _ _)
      | (with_reducible exact spec_PyPITextKnown.mono _ _)
      | (with_reducible exact LeO.refl _)
      | (with_reducible exact LeO.none _)
      | (with_reducible refine LeO.ite ?_ ?_)
      | (with_reducible refine LeO.bind ?_ (fun _ => ?_))
      | exact ih0 _ _
      | exact ih1 _ _ _
      | exact ih2 _ _ _ _
      | exact impl_PyPIParts.mono _ _
      | exact laws_digits.mono _ _
      | exact laws_short.mono _ _
      | exact laws_small.mono _ _
      | exact spec_PyPITextKnown.mono _ _
      | exact LeO.none _
      | refine LeO.ite ?_ ?_
      | refine LeO.bind ?_ (fun _ => ?_)
set_option maxHeartbeats 8000000 in
set_option maxRecDepth 100000 in
theorem laws_FnPyPILegacyEnd.calls (k : Nat) (a0 : ByteArray) (r : Bool) (w : World) (h : laws_FnPyPILegacyEnd.f k a0 = some r) :
    Calls Try.prog 3 #[.string a0] w fun e w' => e = .returned (.bool r) ∧ Below w.heap.size w w' := by
  have HB := Aside0.mk (Below.refl w.heap.size w)
  have H : (if (a0.size : Int) > 2147483647 then (some true) else ((laws_short.f k (([a0] : List ByteArray))).bind fun t153 => (if t153 = true then ((spec_PyPITextKnown.f k a0).bind fun t154 => (laws_FnPyPILegacyEnd.j0 k a0 (!t154))) else (laws_FnPyPILegacyEnd.j0 k a0 true)))) = some r := h
  clear h
  by_cases c2 : (a0.size : Int) > 2147483647
  · rw [if_pos c2] at H
    have c2b0 : decide (2147483647 < (a0.size : Int)) = true := decide_eq_true c2
    have c2b1 : decide (2147483647 < a0.size) = true := decide_eq_true (by omega)
    clear c2
    obtain rfl := Option.some.inj H
    go_enter Try.func3, Try.ntmps3
    go_wp2
    go_ret
    exact ⟨by first | rfl | (simp [errW_none, errW_some] <;> rfl) | (simp [*, errW_none, errW_some] <;> rfl) | (simp [bne_nil_hyb]; done), by repeat (first | (with_reducible first | exact HB.out | apply below_alloc | apply pw_below_drewN | apply below_drew1) | exact HB.out)⟩
  · rw [if_neg c2] at H
    have c2b0 : decide (2147483647 < (a0.size : Int)) = false := decide_eq_false c2
    have c2b1 : decide (2147483647 < a0.size) = false := decide_eq_false (by omega)
    clear c2
    have HC3 := Aside0.mk H
    clear H
    go_enter Try.func3, Try.ntmps3
    go_upto_region 3 with (fail)
    go_cut [17] (fun v17 wc => ∃ (kq : Nat) (x17_2 : Bool), v17 = .bool x17_2 ∧ Aside0 (laws_FnPyPILegacyEnd.j0 kq a0 x17_2 = some r) ∧ Aside0 (kq ≤ k) ∧ Aside0 (Below w.heap.size w wc))
    case first =>
      have H := HC3.out
      clear HC3
      obtain ⟨y150, hy150⟩ : ∃ y_ : List ByteArray, y_ = (([a0] : List ByteArray)) := ⟨_, rfl⟩
      replace H : ((laws_short.f k y150).bind fun t153 => (if t153 = true then ((spec_PyPITextKnown.f k a0).bind fun t154 => (laws_FnPyPILegacyEnd.j0 k a0 (!t154))) else (laws_FnPyPILegacyEnd.j0 k a0 true))) = some r := by first | (rw [hy150]; with_reducible exact H) | (have H2_ := (Option.bind_some _ _).symm.trans H; rw [hy150]; with_reducible exact H2_) | (have H2_ := (Option.bind_some _ _).symm.trans H; with_reducible exact H2_) | with_reducible exact H | (rw [hy150]; exact H) | exact H
      have Ny150 := Aside0.mk hy150
      clear hy150
      replace H := Option.bind_eq_some_iff.mp H
      obtain ⟨t153, A40, H⟩ := H
      replace H : (if t153 = true then ((spec_PyPITextKnown.f k a0).bind fun t154 => (laws_FnPyPILegacyEnd.j0 k a0 (!t154))) else (laws_FnPyPILegacyEnd.j0 k a0 true)) = some r := H
      have A4 := Aside0.mk A40
      clear A40
      by_cases c5 : t153 = true
      · subst c5
        have H1 : ((spec_PyPITextKnown.f k a0).bind fun t154 => (laws_FnPyPILegacyEnd.j0 k a0 (!t154))) = some r := by rw [if_pos rfl] at H; exact H
        clear H
        have H := H1
        clear H1
        replace H := Option.bind_eq_some_iff.mp H
        obtain ⟨t154, A60, H⟩ := H
        replace H : (laws_FnPyPILegacyEnd.j0 k a0 (!t154)) = some r := H
        have A6 := Aside0.mk A60
        clear A60
        have H' := Aside0.mk H
        clear H
        go_wp2_with (first | ((with_reducible refine gate_dst (N := 10) rfl ?_); (try (refine gate_guard (by rfl) ?_; dsimp only)); refine Kd.R_lit Kd.string _ 9 ?hg (N := 10) ?hd (xs := ([a0] : List ByteArray)) (inner := [.string a0]) (ok := fun _ => True) (okp := fun _ => True) ?hr ?hp (fun _ hk => hk) trivial (Below.refl _ _) (Nat.le_refl _) (by simp) ?_; (case hd => rfl); (case hg => rfl); (case hr => first | (go_simp; done) | (go_simp; rfl)); (case hp => exact (Reps.one (show Kd.M Kd.string _ _ _ a0 [.string a0] from rfl) (Reps.none _ _))); intro v151 w7 ho8 hb hg_ hnew_; clear hg_ hnew_; (first | rw [← Ny150.out] at ho8 | (simp only [Int.reduceToNat] at ho8; rw [← Ny150.out] at ho8)); have n0_ := Aside0.mk (Kd.R_lower ho8 (below_size (by repeat (first | (with_reducible first | exact HB.out | apply below_alloc | apply pw_below_drewN | apply below_drew1) | exact HB.out)))); have n1_ := Aside0.mk (below_step (by repeat (first | (with_reducible first | exact HB.out | apply below_alloc | apply pw_below_drewN | apply below_drew1) | exact HB.out)) hb); clear HB; have HO152 := n0_; have HB := n1_; clear n0_ n1_; clear hb ho8; obtain ⟨Ao9, co9, eo9⟩ := Kd.R_slice HO152.out; subst eo9) | ((with_reducible refine gate_callee (f := 5) rfl ?_); refine goesL_ (some 11) rfl rfl Try.func5 (by kernel_rfl) rfl #[.slice Ao9 y150.length co9] rfl (by (try simp only [List.map_toArray, List.map_cons, List.map_nil]); first | done | rfl | (simp only [List.length_drop, List.length_take]; rfl)) ?_; (with_reducible refine (laws_short.calls k _ _ y150 true _ ?side1 ?side2 A4.out).mono ?_); (case side1 => repeat (first | exact (Kd.R_reads' HO152.out).2.2 | (with_reducible refine Kd.C_alloc ?_ _) | (with_reducible refine Kd.C_drewN ?_ _) | (with_reducible refine Kd.C_drew ?_))); (case side2 => exact (Kd.R_reads' HO152.out).2.1); rintro e w' ⟨rfl, ⟨nd, rfl⟩⟩; refine ⟨_, rfl, ?_⟩) | (go_at_call 6; (with_reducible refine (spec_PyPITextKnown.calls k a0 t154 _ A6.out).mono ?_); rintro e w' ⟨rfl, ⟨nd, rfl⟩⟩))
        go_meet
        case rel => exact ⟨_, (!t154), (by first | rfl | (simp; done) | (simp [*]; done) | (simp [bne_nil_hyb]; done) | (simp [bne_nil_hyb, *]; done)), H', ⟨by first | omega | exact Nat.le_refl _⟩, ⟨by repeat (first | (with_reducible first | exact HB.out | apply below_alloc | apply pw_below_drewN | apply below_drew1) | exact HB.out)⟩⟩
      · replace c5 := Bool.eq_false_iff.mpr c5
        subst c5
        have H1 : (laws_FnPyPILegacyEnd.j0 k a0 true) = some r := by rw [if_neg (show ¬ (false = true) by decide)] at H; exact H
        clear H
        have H := H1
        clear H1
        have H' := Aside0.mk H
        clear H
        go_wp2_with (first | ((with_reducible refine gate_dst (N := 10) rfl ?_); (try (refine gate_guard (by rfl) ?_; dsimp only)); refine Kd.R_lit Kd.string _ 9 ?hg (N := 10) ?hd (xs := ([a0] : List ByteArray)) (inner := [.string a0]) (ok := fun _ => True) (okp := fun _ => True) ?hr ?hp (fun _ hk => hk) trivial (Below.refl _ _) (Nat.le_refl _) (by simp) ?_; (case hd => rfl); (case hg => rfl); (case hr => first | (go_simp; done) | (go_simp; rfl)); (case hp => exact (Reps.one (show Kd.M Kd.string _ _ _ a0 [.string a0] from rfl) (Reps.none _ _))); intro v151 w10 ho11 hb hg_ hnew_; clear hg_ hnew_; (first | rw [← Ny150.out] at ho11 | (simp only [Int.reduceToNat] at ho11; rw [← Ny150.out] at ho11)); have n0_ := Aside0.mk (Kd.R_lower ho11 (below_size (by repeat (first | (with_reducible first | exact HB.out | apply below_alloc | apply pw_below_drewN | apply below_drew1) | exact HB.out)))); have n1_ := Aside0.mk (below_step (by repeat (first | (with_reducible first | exact HB.out | apply below_alloc | apply pw_below_drewN | apply below_drew1) | exact HB.out)) hb); clear HB; have HO152 := n0_; have HB := n1_; clear n0_ n1_; clear hb ho11; obtain ⟨Ao12, co12, eo12⟩ := Kd.R_slice HO152.out; subst eo12) | ((with_reducible refine gate_callee (f := 5) rfl ?_); refine goesL_ (some 11) rfl rfl Try.func5 (by kernel_rfl) rfl #[.slice Ao12 y150.length co12] rfl (by (try simp only [List.map_toArray, List.map_cons, List.map_nil]); first | done | rfl | (simp only [List.length_drop, List.length_take]; rfl)) ?_; (with_reducible refine (laws_short.calls k _ _ y150 false _ ?side1 ?side2 A4.out).mono ?_); (case side1 => repeat (first | exact (Kd.R_reads' HO152.out).2.2 | (with_reducible refine Kd.C_alloc ?_ _) | (with_reducible refine Kd.C_drewN ?_ _) | (with_reducible refine Kd.C_drew ?_))); (case side2 => exact (Kd.R_reads' HO152.out).2.1); rintro e w' ⟨rfl, ⟨nd, rfl⟩⟩; refine ⟨_, rfl, ?_⟩))
        go_meet
        case rel => exact ⟨_, (true), (by first | rfl | (simp; done) | (simp [*]; done) | (simp [bne_nil_hyb]; done) | (simp [bne_nil_hyb, *]; done)), H', ⟨by first | omega | exact Nat.le_refl _⟩, ⟨by repeat (first | (with_reducible first | exact HB.out | apply below_alloc | apply pw_below_drewN | apply below_drew1) | exact HB.out)⟩⟩
    case rest =>
      clear HC3
      try clear c2
      try clear c2b0
      try clear c2b1
      try clear p2
      try clear c3
      try clear c5
      obtain ⟨kq, x17_2, rfl, HA, HJ2, HB⟩ := hcut
      cases kq with
      | zero => exact absurd HA.out (by simp [laws_FnPyPILegacyEnd.j0])
      | succ kj2 =>
        have H := HA.out
        clear HA
        simp only [laws_FnPyPILegacyEnd.j0] at H
        by_cases c13 : x17_2 = true
        · subst c13
          have H1 : (some true) = some r := by rw [if_pos rfl] at H; exact H
          clear H
          have H := H1
          clear H1
          obtain rfl := Option.some.inj H
          go_wp2
          go_ret
          exact ⟨by first | rfl | (simp [errW_none, errW_some] <;> rfl) | (simp [*, errW_none, errW_some] <;> rfl) | (simp [bne_nil_hyb]; done), by repeat (first | (with_reducible first | exact HB.out | apply below_alloc | apply pw_below_drewN | apply below_drew1) | exact HB.out)⟩
        · replace c13 := Bool.eq_false_iff.mpr c13
          subst c13
          have H1 : ((laws_small.f kj2 a0).bind fun t155 => ((impl_PyPIParts.f kj2 t155).bind fun t156 => (if (t156.length : Int) = 0 then (laws_FnPyPILegacyEnd.j1 kj2 a0 t156 true) else (if 0 ≤ (wrap64 ((t156.length : Int) - 1)) then (if (wrap64 ((t156.length : Int) - 1)) < (t156.length : Int) then (laws_FnPyPILegacyEnd.j1 kj2 a0 t156 ((rdOf ByteArray.empty t156 (wrap64 ((t156.length : Int) - 1))).toList != ([42, 102, 105, 110, 97, 108] : List UInt8))) else (none)) else (none))))) = some r := by rw [if_neg (show ¬ (false = true) by decide)] at H; exact H
          clear H
          have H := H1
          clear H1
          replace H := Option.bind_eq_some_iff.mp H
          obtain ⟨t155, A140, H⟩ := H
          replace H : ((impl_PyPIParts.f kj2 t155).bind fun t156 => (if (t156.length : Int) = 0 then (laws_FnPyPILegacyEnd.j1 kj2 a0 t156 true) else (if 0 ≤ (wrap64 ((t156.length : Int) - 1)) then (if (wrap64 ((t156.length : Int) - 1)) < (t156.length : Int) then (laws_FnPyPILegacyEnd.j1 kj2 a0 t156 ((rdOf ByteArray.empty t156 (wrap64 ((t156.length : Int) - 1))).toList != ([42, 102, 105, 110, 97, 108] : List UInt8))) else (none)) else (none)))) = some r := H
          have A14 := Aside0.mk A140
          clear A140
          replace H := Option.bind_eq_some_iff.mp H
          obtain ⟨t156, A150, H⟩ := H
          replace H : (if (t156.length : Int) = 0 then (laws_FnPyPILegacyEnd.j1 kj2 a0 t156 true) else (if 0 ≤ (wrap64 ((t156.length : Int) - 1)) then (if (wrap64 ((t156.length : Int) - 1)) < (t156.length : Int) then (laws_FnPyPILegacyEnd.j1 kj2 a0 t156 ((rdOf ByteArray.empty t156 (wrap64 ((t156.length : Int) - 1))).toList != ([42, 102, 105, 110, 97, 108] : List UInt8))) else (none)) else (none))) = some r := H
          have A15 := Aside0.mk A150
          clear A150
          have HC16 := Aside0.mk H
          clear H
          go_upto_region 6 with (first | ((with_reducible refine gate_callee (f := 8) rfl ?_); refine goesL_ (some 19) rfl rfl Try.func8 (by kernel_rfl) rfl #[.string a0] rfl (by (try simp only [List.map_toArray, List.map_cons, List.map_nil]); first | done | rfl | (simp only [List.length_drop, List.length_take]; rfl)) ?_; (with_reducible refine (laws_small.calls kj2 a0 t155 _ A14.out).mono ?_); rintro e w' ⟨rfl, ⟨nd, rfl⟩⟩; refine ⟨_, rfl, ?_⟩) | ((with_reducible refine gate_callee (f := 7) rfl ?_); refine goesL_ (some 20) rfl rfl Try.func7 (by kernel_rfl) rfl #[.string t155] rfl (by (try simp only [List.map_toArray, List.map_cons, List.map_nil]); first | done | rfl | (simp only [List.length_drop, List.length_take]; rfl)) ?_; (with_reducible refine (impl_PyPIParts.calls kj2 t155 t156 _ A15.out).mono ?_); rintro e w17 ⟨v157, rfl, ho0, hb⟩; refine ⟨_, rfl, ?_⟩; have n0_ := Aside0.mk (Kd.R_lower ho0 (below_size (by repeat (first | (with_reducible first | exact HB.out | apply below_alloc | apply pw_below_drewN | apply below_drew1) | exact HB.out)))); have n1_ := Aside0.mk (below_step (by repeat (first | (with_reducible first | exact HB.out | apply below_alloc | apply pw_below_drewN | apply below_drew1) | exact HB.out)) hb); clear HB; have HO158 := n0_; have HB := n1_; clear n0_ n1_; (try clear hb); (try clear hb2); (try clear hk); (try clear hi); (try clear ho0)))
          (try simp only [Act.put, List.setIfInBounds_toArray, List.set_cons_zero, List.set_cons_succ])
          go_cut [32] (fun v32 wc => ∃ (kq : Nat) (x32_15 : Bool), v32 = .bool x32_15 ∧ Aside0 (laws_FnPyPILegacyEnd.j1 kq a0 t156 x32_15 = some r) ∧ Aside0 (kq ≤ kj2) ∧ Aside0 (Kd.R Kd.string 9 wc w.heap.size (fun _ => True) v157 t156) ∧ Aside0 (Below w.heap.size w wc))
          case first =>
            have H := HC16.out
            clear HC16
            by_cases c18 : (t156.length : Int) = 0
            · rw [if_pos c18] at H
              have c18b0 : ((t156.length : Int) == 0) = true := beq_iff_eq.mpr c18
              have c18b1 : ((t156.length : Int) != 0) = false := bne_eq_false_iff_eq.mpr c18
              clear c18
              (first | rw [c18b0] | (simp only [i64_w, i32_w]; rw [c18b0]) | skip)
              have H' := Aside0.mk H
              clear H
              obtain ⟨Ao19, co19, eo19⟩ := Kd.R_slice HO158.out
              subst eo19
              go_wp2
              go_meet
              case rel => exact ⟨_, (true), (by first | rfl | (simp; done) | (simp [*]; done) | (simp [bne_nil_hyb]; done) | (simp [bne_nil_hyb, *]; done)), H', ⟨by have := HJ2.out; first | omega | exact Nat.le_refl _⟩, ⟨by (with_reducible repeat (first | apply Kd.R_alloc | apply Kd.R_drewN | apply Kd.R_drew)); exact HO158.out⟩, ⟨by repeat (first | (with_reducible first | exact HB.out | apply below_alloc | apply pw_below_drewN | apply below_drew1) | exact HB.out)⟩⟩
            · rw [if_neg c18] at H
              have c18b0 : ((t156.length : Int) == 0) = false := beq_eq_false_iff_ne.mpr c18
              have c18b1 : ((t156.length : Int) != 0) = true := bne_iff_ne.mpr c18
              have c18b2 : ¬ (t156 = []) := fun h_ => c18 (by rw [h_]; rfl)
              (first | rw [c18b0] | (simp only [i64_w, i32_w]; rw [c18b0]) | skip)
              obtain ⟨ji20, hji20⟩ : ∃ j_ : Int, (wrap64 ((t156.length : Int) - 1)) = j_ := ⟨_, rfl⟩
              replace H : (if 0 ≤ (ji20) then (if (ji20) < (t156.length : Int) then (laws_FnPyPILegacyEnd.j1 kj2 a0 t156 ((rdOf ByteArray.empty t156 (ji20)).toList != ([42, 102, 105, 110, 97, 108] : List UInt8))) else (none)) else (none)) = some r := by first | (rw [hji20] at H; exact H) | (simp only [hji20] at H ⊢; exact H)
              have hji20w : (IntKind.i64.wrap ((t156.length : Int) - 1)) = ji20 := (i64_w _).trans hji20
              by_cases c21 : 0 ≤ (ji20)
              · rw [if_pos c21] at H
                have c21b0 : decide (0 ≤ (ji20)) = true := decide_eq_true c21
                clear c21
                by_cases c22 : (ji20) < (t156.length : Int)
                · rw [if_pos c22] at H
                  have c22b0 : decide ((ji20) < (t156.length : Int)) = true := decide_eq_true c22
                  clear c22
                  have H' := Aside0.mk H
                  clear H
                  obtain ⟨Ao23, co23, eo23⟩ := Kd.R_slice HO158.out
                  subst eo23
                  have p159 : 0 ≤ ((ji20) : Int) := of_decide_eq_true (by first | (with_reducible assumption) | assumption)
                  have q159 : (ji20) < (t156.length : Int) := of_decide_eq_true (by first | (with_reducible assumption) | assumption)
                  obtain ⟨ad159, e159, hx159_0⟩ := Kd.at_string (Kd.R_reads' HO158.out).2.2 (ji20) p159 q159
                  cases e159
                  replace p159 := eq_true p159
                  replace q159 := eq_true q159
                  go_wp2
                  go_meet
                  case rel => exact ⟨_, (((rdOf ByteArray.empty t156 (ji20)).toList != ([42, 102, 105, 110, 97, 108] : List UInt8))), (by first | rfl | (simp; done) | (simp only [← hji20] <;> (first | rfl | simp)) | (simp [*]; done)), H', ⟨by have := HJ2.out; first | omega | exact Nat.le_refl _⟩, ⟨by (with_reducible repeat (first | apply Kd.R_alloc | apply Kd.R_drewN | apply Kd.R_drew)); exact HO158.out⟩, ⟨by repeat (first | (with_reducible first | exact HB.out | apply below_alloc | apply pw_below_drewN | apply below_drew1) | exact HB.out)⟩⟩
                · rw [if_neg c22] at H
                  exact absurd H (by simp)
              · rw [if_neg c21] at H
                exact absurd H (by simp)
          case rest =>
            clear HC16
            try clear c1
            try clear p1
            try clear q1
            try clear hx1
            try clear c2
            try clear c2b0
            try clear c2b1
            try clear p2
            try clear c3
            try clear c5
            try clear p6
            try clear c7
            try clear c8
            try clear c13
            try clear p15
            try clear q15
            try clear hx15
            try clear c18
            try clear c18b0
            try clear c18b1
            try clear c18b2
            try clear c21
            try clear c21b0
            try clear c22
            try clear c22b0
            try clear hx159_0
            try clear p159
            try clear p2
            try clear q159
            obtain ⟨kq, x32_15, rfl, HA, HJ15, HO_3, HB⟩ := hcut
            cases kq with
            | zero => exact absurd HA.out (by simp [laws_FnPyPILegacyEnd.j1])
            | succ kj15 =>
              have H := HA.out
              clear HA
              simp only [laws_FnPyPILegacyEnd.j1] at H
              by_cases c24 : x32_15 = true
              · subst c24
                have H1 : (some false) = some r := by rw [if_pos rfl] at H; exact H
                clear H
                have H := H1
                clear H1
                obtain rfl := Option.some.inj H
                go_wp2
                go_ret
                exact ⟨by first | rfl | (simp [errW_none, errW_some] <;> rfl) | (simp [*, errW_none, errW_some] <;> rfl) | (simp [bne_nil_hyb]; done), by repeat (first | (with_reducible first | exact HB.out | apply below_alloc | apply pw_below_drewN | apply below_drew1) | exact HB.out)⟩
              · replace c24 := Bool.eq_false_iff.mpr c24
                subst c24
                have H1 : (laws_FnPyPILegacyEnd.l0 kj15 a0 t156 (t156.length : Int) 0) = some r := by rw [if_neg (show ¬ (false = true) by decide)] at H; exact H
                clear H
                have H := H1
                clear H1
                have H' := Aside0.mk H
                clear H
                obtain ⟨Ao25, co25, eo25⟩ := Kd.R_slice HO_3.out
                subst eo25
                go_wp2
                (try simp only [Act.put, List.setIfInBounds_toArray, List.set_cons_zero, List.set_cons_succ])
                go_loopg [35] kj15 (fun kq v35 w' => ∃ (x35_3 : Int), v35 = .int .i64 x35_3 ∧ Aside0 (laws_FnPyPILegacyEnd.l0 kq a0 t156 (t156.length : Int) x35_3 = some r) ∧ Aside0 (kq ≤ kj15) ∧ Aside0 (Kd.R Kd.string 9 w' w.heap.size (fun _ => True) (.slice Ao25 t156.length co25) t156) ∧ Aside0 (Below w.heap.size w w'))
                case atStart => exact ⟨(0), (by first | rfl | (simp; done) | (simp [*]; done) | (simp [bne_nil_hyb]; done) | (simp [bne_nil_hyb, *]; done)), H', ⟨Nat.le_refl _⟩, ⟨by (with_reducible repeat (first | apply Kd.R_alloc | apply Kd.R_drewN | apply Kd.R_drew)); exact HO_3.out⟩, ⟨by repeat (first | (with_reducible first | exact HB.out | apply below_alloc | apply pw_below_drewN | apply below_drew1) | exact HB.out)⟩⟩
                case round =>
                  clear H'
                  try clear c1
                  try clear p1
                  try clear q1
                  try clear hx1
                  try clear c2
                  try clear c2b0
                  try clear c2b1
                  try clear p2
                  try clear c3
                  try clear c5
                  try clear p6
                  try clear c7
                  try clear c8
                  try clear c13
                  try clear p15
                  try clear q15
                  try clear hx15
                  try clear c18
                  try clear c18b0
                  try clear c18b1
                  try clear c18b2
                  try clear c21
                  try clear c21b0
                  try clear c22
                  try clear c22b0
                  try clear c24
                  try clear hx159_0
                  try clear p1
                  try clear p15
                  try clear p159
                  try clear p2
                  try clear p6
                  try clear q1
                  try clear q15
                  try clear q159
                  obtain ⟨x35_3, rfl, HA, HK3, HO_33, HB⟩ := hrel
                  cases gk with
                  | zero => exact absurd HA.out (by simp [laws_FnPyPILegacyEnd.l0])
                  | succ k3 =>
                    have H := HA.out
                    clear HA
                    simp only [laws_FnPyPILegacyEnd.l0] at H
                    by_cases c26 : x35_3 < (t156.length : Int)
                    · rw [if_pos c26] at H
                      have c26b0 : decide (x35_3 < (t156.length : Int)) = true := decide_eq_true c26
                      clear c26
                      by_cases c27 : 0 ≤ x35_3
                      · rw [if_pos c27] at H
                        have c27b0 : decide (0 ≤ x35_3) = true := decide_eq_true c27
                        clear c27
                        by_cases c28 : x35_3 < (t156.length : Int)
                        · rw [if_pos c28] at H
                          have c28b0 : decide (x35_3 < (t156.length : Int)) = true := decide_eq_true c28
                          clear c28
                          by_cases c29 : (rdOf ByteArray.empty t156 x35_3).toList = ([] : List UInt8)
                          · rw [if_pos c29] at H
                            have c29b0 : ((rdOf ByteArray.empty t156 x35_3).toList == ([] : List UInt8)) = true := beq_iff_eq.mpr c29
                            have c29b1 : ((rdOf ByteArray.empty t156 x35_3).toList != ([] : List UInt8)) = false := bne_eq_false_iff_eq.mpr c29
                            clear c29
                            obtain rfl := Option.some.inj H
                            have p160 : 0 ≤ (x35_3 : Int) := of_decide_eq_true (by first | (with_reducible assumption) | assumption)
                            have q160 : x35_3 < (t156.length : Int) := of_decide_eq_true (by first | (with_reducible assumption) | assumption)
                            obtain ⟨ad160, e160, hx160_0⟩ := Kd.at_string (Kd.R_reads' HO_33.out).2.2 x35_3 p160 q160
                            cases e160
                            replace p160 := eq_true p160
                            replace q160 := eq_true q160
                            go_wp2
                            go_ret
                            exact ⟨by first | rfl | (simp [errW_none, errW_some] <;> rfl) | (simp [*, errW_none, errW_some] <;> rfl) | (simp [bne_nil_hyb]; done), by repeat (first | (with_reducible first | exact HB.out | apply below_alloc | apply pw_below_drewN | apply below_drew1) | exact HB.out)⟩
                          · rw [if_neg c29] at H
                            have c29b0 : ((rdOf ByteArray.empty t156 x35_3).toList == ([] : List UInt8)) = false := beq_eq_false_iff_ne.mpr c29
                            have c29b1 : ((rdOf ByteArray.empty t156 x35_3).toList != ([] : List UInt8)) = true := bne_iff_ne.mpr c29
                            by_cases c30 : 0 < ((rdOf ByteArray.empty t156 x35_3).size : Int)
                            · rw [if_pos c30] at H
                              have c30b0 : decide (0 < ((rdOf ByteArray.empty t156 x35_3).size : Int)) = true := decide_eq_true c30
                              have c30b1 : decide (0 < (rdOf ByteArray.empty t156 x35_3).size) = true := decide_eq_true (by omega)
                              clear c30
                              by_cases c32 : (bt (rdOf ByteArray.empty t156 x35_3) 0) = 42
                              · rw [if_pos c32] at H
                                have c32b0 : ((bt (rdOf ByteArray.empty t156 x35_3) 0) == 42) = true := beq_iff_eq.mpr c32
                                have c32b1 : ((bt (rdOf ByteArray.empty t156 x35_3) 0) != 42) = false := bne_eq_false_iff_eq.mpr c32
                                clear c32
                                by_cases c33 : ((rdOf ByteArray.empty t156 x35_3).size : Int) > 8
                                · rw [if_pos c33] at H
                                  have c33b0 : decide (8 < ((rdOf ByteArray.empty t156 x35_3).size : Int)) = true := decide_eq_true c33
                                  have c33b1 : decide (8 < (rdOf ByteArray.empty t156 x35_3).size) = true := decide_eq_true (by omega)
                                  clear c33
                                  replace H := Option.bind_eq_some_iff.mp H
                                  obtain ⟨t161, A340, H⟩ := H
                                  replace H : (if t161 = true then (if (bt (rdOf ByteArray.empty t156 x35_3) 0) = 48 then (if (a0.size : Int) < 9 then (some false) else (laws_FnPyPILegacyEnd.l0 k3 a0 t156 (t156.length : Int) (wrap64 (x35_3 + 1)))) else (laws_FnPyPILegacyEnd.l0 k3 a0 t156 (t156.length : Int) (wrap64 (x35_3 + 1)))) else (laws_FnPyPILegacyEnd.l0 k3 a0 t156 (t156.length : Int) (wrap64 (x35_3 + 1)))) = some r := H
                                  have A34 := Aside0.mk A340
                                  clear A340
                                  by_cases c35 : t161 = true
                                  · subst c35
                                    have H1 : (if (bt (rdOf ByteArray.empty t156 x35_3) 0) = 48 then (if (a0.size : Int) < 9 then (some false) else (laws_FnPyPILegacyEnd.l0 k3 a0 t156 (t156.length : Int) (wrap64 (x35_3 + 1)))) else (laws_FnPyPILegacyEnd.l0 k3 a0 t156 (t156.length : Int) (wrap64 (x35_3 + 1)))) = some r := by rw [if_pos rfl] at H; exact H
                                    clear H
                                    have H := H1
                                    clear H1
                                    by_cases c37 : (bt (rdOf ByteArray.empty t156 x35_3) 0) = 48
                                    · rw [if_pos c37] at H
                                      have c37b0 : ((bt (rdOf ByteArray.empty t156 x35_3) 0) == 48) = true := beq_iff_eq.mpr c37
                                      have c37b1 : ((bt (rdOf ByteArray.empty t156 x35_3) 0) != 48) = false := bne_eq_false_iff_eq.mpr c37
                                      clear c37
                                      by_cases c38 : (a0.size : Int) < 9
                                      · rw [if_pos c38] at H
                                        have c38b0 : decide ((a0.size : Int) < 9) = true := decide_eq_true c38
                                        have c38b1 : decide (a0.size < 9) = true := decide_eq_true (by omega)
                                        clear c38
                                        obtain rfl := Option.some.inj H
                                        have p160 : 0 ≤ (x35_3 : Int) := of_decide_eq_true (by first | (with_reducible assumption) | assumption)
                                        have q160 : x35_3 < (t156.length : Int) := of_decide_eq_true (by first | (with_reducible assumption) | assumption)
                                        obtain ⟨ad160, e160, hx160_0⟩ := Kd.at_string (Kd.R_reads' HO_33.out).2.2 x35_3 p160 q160
                                        cases e160
                                        replace p160 := eq_true p160
                                        replace q160 := eq_true q160
                                        have p31 : 0 ≤ (0 : Int) := (by omega)
                                        have q31 : 0 < (rdOf ByteArray.empty t156 x35_3).size := (by have : (0 : Int) < ((rdOf ByteArray.empty t156 x35_3).size : Int) := of_decide_eq_true (by first | (with_reducible assumption) | assumption); omega)
                                        have hx31 : ∀ h : 0 < (rdOf ByteArray.empty t156 x35_3).size, (((rdOf ByteArray.empty t156 x35_3)[0]'h).toNat : Int) = bt (rdOf ByteArray.empty t156 x35_3) 0 := bt_at (rdOf ByteArray.empty t156 x35_3) 0
                                        clear p31
                                        have qi31 : (0 < ((rdOf ByteArray.empty t156 x35_3).size : Int)) = True := eq_true (of_decide_eq_true (by first | (with_reducible assumption) | assumption))
                                        replace q31 := eq_true q31
                                        go_wp2_with (first | (go_at_call 9; (with_reducible refine (laws_digits.calls k3 (rdOf ByteArray.empty t156 x35_3) true _ A34.out).mono ?_); rintro e w' ⟨rfl, ⟨nd, rfl⟩⟩; have p36 : 0 ≤ (0 : Int) := (by omega); have q36 : 0 < (rdOf ByteArray.empty t156 x35_3).size := (by have : (0 : Int) < ((rdOf ByteArray.empty t156 x35_3).size : Int) := of_decide_eq_true (by first | (with_reducible assumption) | assumption); omega); have hx36 : ∀ h : 0 < (rdOf ByteArray.empty t156 x35_3).size, (((rdOf ByteArray.empty t156 x35_3)[0]'h).toNat : Int) = bt (rdOf ByteArray.empty t156 x35_3) 0 := bt_at (rdOf ByteArray.empty t156 x35_3) 0; clear p36; have qi36 : (0 < ((rdOf ByteArray.empty t156 x35_3).size : Int)) = True := eq_true (of_decide_eq_true (by first | (with_reducible assumption) | assumption)); replace q36 := eq_true q36))
                                        go_ret
                                        exact ⟨by first | rfl | (simp [errW_none, errW_some] <;> rfl) | (simp [*, errW_none, errW_some] <;> rfl) | (simp [bne_nil_hyb]; done), by repeat (first | (with_reducible first | exact HB.out | apply below_alloc | apply pw_below_drewN | apply below_drew1) | exact HB.out)⟩
                                      · rw [if_neg c38] at H
                                        have c38b0 : decide ((a0.size : Int) < 9) = false := decide_eq_false c38
                                        have c38b1 : decide (a0.size < 9) = false := decide_eq_false (by omega)
                                        clear c38
                                        have H' := Aside0.mk H
                                        clear H
                                        have p160 : 0 ≤ (x35_3 : Int) := of_decide_eq_true (by first | (with_reducible assumption) | assumption)
                                        have q160 : x35_3 < (t156.length : Int) := of_decide_eq_true (by first | (with_reducible assumption) | assumption)
                                        obtain ⟨ad160, e160, hx160_0⟩ := Kd.at_string (Kd.R_reads' HO_33.out).2.2 x35_3 p160 q160
                                        cases e160
                                        replace p160 := eq_true p160
                                        replace q160 := eq_true q160
                                        have p31 : 0 ≤ (0 : Int) := (by omega)
                                        have q31 : 0 < (rdOf ByteArray.empty t156 x35_3).size := (by have : (0 : Int) < ((rdOf ByteArray.empty t156 x35_3).size : Int) := of_decide_eq_true (by first | (with_reducible assumption) | assumption); omega)
                                        have hx31 : ∀ h : 0 < (rdOf ByteArray.empty t156 x35_3).size, (((rdOf ByteArray.empty t156 x35_3)[0]'h).toNat : Int) = bt (rdOf ByteArray.empty t156 x35_3) 0 := bt_at (rdOf ByteArray.empty t156 x35_3) 0
                                        clear p31
                                        have qi31 : (0 < ((rdOf ByteArray.empty t156 x35_3).size : Int)) = True := eq_true (of_decide_eq_true (by first | (with_reducible assumption) | assumption))
                                        replace q31 := eq_true q31
                                        go_wp2_with (first | (go_at_call 9; (with_reducible refine (laws_digits.calls k3 (rdOf ByteArray.empty t156 x35_3) true _ A34.out).mono ?_); rintro e w' ⟨rfl, ⟨nd, rfl⟩⟩; have p36 : 0 ≤ (0 : Int) := (by omega); have q36 : 0 < (rdOf ByteArray.empty t156 x35_3).size := (by have : (0 : Int) < ((rdOf ByteArray.empty t156 x35_3).size : Int) := of_decide_eq_true (by first | (with_reducible assumption) | assumption); omega); have hx36 : ∀ h : 0 < (rdOf ByteArray.empty t156 x35_3).size, (((rdOf ByteArray.empty t156 x35_3)[0]'h).toNat : Int) = bt (rdOf ByteArray.empty t156 x35_3) 0 := bt_at (rdOf ByteArray.empty t156 x35_3) 0; clear p36; have qi36 : (0 < ((rdOf ByteArray.empty t156 x35_3).size : Int)) = True := eq_true (of_decide_eq_true (by first | (with_reducible assumption) | assumption)); replace q36 := eq_true q36))
                                        go_roundg k3
                                        case measure => have := HJ2.out; have := HJ15.out; have := HK3.out; omega
                                        case rel => exact ⟨(wrap64 (x35_3 + 1)), (by first | rfl | (simp; done) | (simp [*]; done) | (simp [bne_nil_hyb]; done) | (simp [bne_nil_hyb, *]; done)), H', ⟨by have := HJ2.out; have := HJ15.out; have := HK3.out; omega⟩, ⟨by (with_reducible repeat (first | apply Kd.R_alloc | apply Kd.R_drewN | apply Kd.R_drew)); exact HO_33.out⟩, ⟨by repeat (first | (with_reducible first | exact HB.out | apply below_alloc | apply pw_below_drewN | apply below_drew1) | exact HB.out)⟩⟩
                                    · rw [if_neg c37] at H
                                      have c37b0 : ((bt (rdOf ByteArray.empty t156 x35_3) 0) == 48) = false := beq_eq_false_iff_ne.mpr c37
                                      have c37b1 : ((bt (rdOf ByteArray.empty t156 x35_3) 0) != 48) = true := bne_iff_ne.mpr c37
                                      have H' := Aside0.mk H
                                      clear H
                                      have p160 : 0 ≤ (x35_3 : Int) := of_decide_eq_true (by first | (with_reducible assumption) | assumption)
                                      have q160 : x35_3 < (t156.length : Int) := of_decide_eq_true (by first | (with_reducible assumption) | assumption)
                                      obtain ⟨ad160, e160, hx160_0⟩ := Kd.at_string (Kd.R_reads' HO_33.out).2.2 x35_3 p160 q160
                                      cases e160
                                      replace p160 := eq_true p160
                                      replace q160 := eq_true q160
                                      have p31 : 0 ≤ (0 : Int) := (by omega)
                                      have q31 : 0 < (rdOf ByteArray.empty t156 x35_3).size := (by have : (0 : Int) < ((rdOf ByteArray.empty t156 x35_3).size : Int) := of_decide_eq_true (by first | (with_reducible assumption) | assumption); omega)
                                      have hx31 : ∀ h : 0 < (rdOf ByteArray.empty t156 x35_3).size, (((rdOf ByteArray.empty t156 x35_3)[0]'h).toNat : Int) = bt (rdOf ByteArray.empty t156 x35_3) 0 := bt_at (rdOf ByteArray.empty t156 x35_3) 0
                                      clear p31
                                      have qi31 : (0 < ((rdOf ByteArray.empty t156 x35_3).size : Int)) = True := eq_true (of_decide_eq_true (by first | (with_reducible assumption) | assumption))
                                      replace q31 := eq_true q31
                                      go_wp2_with (first | (go_at_call 9; (with_reducible refine (laws_digits.calls k3 (rdOf ByteArray.empty t156 x35_3) true _ A34.out).mono ?_); rintro e w' ⟨rfl, ⟨nd, rfl⟩⟩; have p36 : 0 ≤ (0 : Int) := (by omega); have q36 : 0 < (rdOf ByteArray.empty t156 x35_3).size := (by have : (0 : Int) < ((rdOf ByteArray.empty t156 x35_3).size : Int) := of_decide_eq_true (by first | (with_reducible assumption) | assumption); omega); have hx36 : ∀ h : 0 < (rdOf ByteArray.empty t156 x35_3).size, (((rdOf ByteArray.empty t156 x35_3)[0]'h).toNat : Int) = bt (rdOf ByteArray.empty t156 x35_3) 0 := bt_at (rdOf ByteArray.empty t156 x35_3) 0; clear p36; have qi36 : (0 < ((rdOf ByteArray.empty t156 x35_3).size : Int)) = True := eq_true (of_decide_eq_true (by first | (with_reducible assumption) | assumption)); replace q36 := eq_true q36))
                                      go_roundg k3
                                      case measure => have := HJ2.out; have := HJ15.out; have := HK3.out; omega
                                      case rel => exact ⟨(wrap64 (x35_3 + 1)), (by first | rfl | (simp; done) | (simp [*]; done) | (simp [bne_nil_hyb]; done) | (simp [bne_nil_hyb, *]; done)), H', ⟨by have := HJ2.out; have := HJ15.out; have := HK3.out; omega⟩, ⟨by (with_reducible repeat (first | apply Kd.R_alloc | apply Kd.R_drewN | apply Kd.R_drew)); exact HO_33.out⟩, ⟨by repeat (first | (with_reducible first | exact HB.out | apply below_alloc | apply pw_below_drewN | apply below_drew1) | exact HB.out)⟩⟩
                                  · replace c35 := Bool.eq_false_iff.mpr c35
                                    subst c35
                                    have H1 : (laws_FnPyPILegacyEnd.l0 k3 a0 t156 (t156.length : Int) (wrap64 (x35_3 + 1))) = some r := by rw [if_neg (show ¬ (false = true) by decide)] at H; exact H
                                    clear H
                                    have H := H1
                                    clear H1
                                    have H' := Aside0.mk H
                                    clear H
                                    have p160 : 0 ≤ (x35_3 : Int) := of_decide_eq_true (by first | (with_reducible assumption) | assumption)
                                    have q160 : x35_3 < (t156.length : Int) := of_decide_eq_true (by first | (with_reducible assumption) | assumption)
                                    obtain ⟨ad160, e160, hx160_0⟩ := Kd.at_string (Kd.R_reads' HO_33.out).2.2 x35_3 p160 q160
                                    cases e160
                                    replace p160 := eq_true p160
                                    replace q160 := eq_true q160
                                    have p31 : 0 ≤ (0 : Int) := (by omega)
                                    have q31 : 0 < (rdOf ByteArray.empty t156 x35_3).size := (by have : (0 : Int) < ((rdOf ByteArray.empty t156 x35_3).size : Int) := of_decide_eq_true (by first | (with_reducible assumption) | assumption); omega)
                                    have hx31 : ∀ h : 0 < (rdOf ByteArray.empty t156 x35_3).size, (((rdOf ByteArray.empty t156 x35_3)[0]'h).toNat : Int) = bt (rdOf ByteArray.empty t156 x35_3) 0 := bt_at (rdOf ByteArray.empty t156 x35_3) 0
                                    clear p31
                                    have qi31 : (0 < ((rdOf ByteArray.empty t156 x35_3).size : Int)) = True := eq_true (of_decide_eq_true (by first | (with_reducible assumption) | assumption))
                                    replace q31 := eq_true q31
                                    go_wp2_with (first | (go_at_call 9; (with_reducible refine (laws_digits.calls k3 (rdOf ByteArray.empty t156 x35_3) false _ A34.out).mono ?_); rintro e w' ⟨rfl, ⟨nd, rfl⟩⟩))
                                    go_roundg k3
                                    case measure => have := HJ2.out; have := HJ15.out; have := HK3.out; omega
                                    case rel => exact ⟨(wrap64 (x35_3 + 1)), (by first | rfl | (simp; done) | (simp [*]; done) | (simp [bne_nil_hyb]; done) | (simp [bne_nil_hyb, *]; done)), H', ⟨by have := HJ2.out; have := HJ15.out; have := HK3.out; omega⟩, ⟨by (with_reducible repeat (first | apply Kd.R_alloc | apply Kd.R_drewN | apply Kd.R_drew)); exact HO_33.out⟩, ⟨by repeat (first | (with_reducible first | exact HB.out | apply below_alloc | apply pw_below_drewN | apply below_drew1) | exact HB.out)⟩⟩
                                · rw [if_neg c33] at H
                                  have c33b0 : decide (8 < ((rdOf ByteArray.empty t156 x35_3).size : Int)) = false := decide_eq_false c33
                                  have c33b1 : decide (8 < (rdOf ByteArray.empty t156 x35_3).size) = false := decide_eq_false (by omega)
                                  clear c33
                                  have H' := Aside0.mk H
                                  clear H
                                  have p160 : 0 ≤ (x35_3 : Int) := of_decide_eq_true (by first | (with_reducible assumption) | assumption)
                                  have q160 : x35_3 < (t156.length : Int) := of_decide_eq_true (by first | (with_reducible assumption) | assumption)
                                  obtain ⟨ad160, e160, hx160_0⟩ := Kd.at_string (Kd.R_reads' HO_33.out).2.2 x35_3 p160 q160
                                  cases e160
                                  replace p160 := eq_true p160
                                  replace q160 := eq_true q160
                                  have p31 : 0 ≤ (0 : Int) := (by omega)
                                  have q31 : 0 < (rdOf ByteArray.empty t156 x35_3).size := (by have : (0 : Int) < ((rdOf ByteArray.empty t156 x35_3).size : Int) := of_decide_eq_true (by first | (with_reducible assumption) | assumption); omega)
                                  have hx31 : ∀ h : 0 < (rdOf ByteArray.empty t156 x35_3).size, (((rdOf ByteArray.empty t156 x35_3)[0]'h).toNat : Int) = bt (rdOf ByteArray.empty t156 x35_3) 0 := bt_at (rdOf ByteArray.empty t156 x35_3) 0
                                  clear p31
                                  have qi31 : (0 < ((rdOf ByteArray.empty t156 x35_3).size : Int)) = True := eq_true (of_decide_eq_true (by first | (with_reducible assumption) | assumption))
                                  replace q31 := eq_true q31
                                  go_wp2
                                  go_roundg k3
                                  case measure => have := HJ2.out; have := HJ15.out; have := HK3.out; omega
                                  case rel => exact ⟨(wrap64 (x35_3 + 1)), (by first | rfl | (simp; done) | (simp [*]; done) | (simp [bne_nil_hyb]; done) | (simp [bne_nil_hyb, *]; done)), H', ⟨by have := HJ2.out; have := HJ15.out; have := HK3.out; omega⟩, ⟨by (with_reducible repeat (first | apply Kd.R_alloc | apply Kd.R_drewN | apply Kd.R_drew)); exact HO_33.out⟩, ⟨by repeat (first | (with_reducible first | exact HB.out | apply below_alloc | apply pw_below_drewN | apply below_drew1) | exact HB.out)⟩⟩
                              · rw [if_neg c32] at H
                                have c32b0 : ((bt (rdOf ByteArray.empty t156 x35_3) 0) == 42) = false := beq_eq_false_iff_ne.mpr c32
                                have c32b1 : ((bt (rdOf ByteArray.empty t156 x35_3) 0) != 42) = true := bne_iff_ne.mpr c32
                                replace H := Option.bind_eq_some_iff.mp H
                                obtain ⟨t162, A390, H⟩ := H
                                replace H : (if t162 = true then (if ((rdOf ByteArray.empty t156 x35_3).size : Int) < 8 then (some false) else (if ((rdOf ByteArray.empty t156 x35_3).size : Int) > 8 then (if (bt (rdOf ByteArray.empty t156 x35_3) 0) = 48 then (if (a0.size : Int) < 9 then (some false) else (laws_FnPyPILegacyEnd.l0 k3 a0 t156 (t156.length : Int) (wrap64 (x35_3 + 1)))) else (laws_FnPyPILegacyEnd.l0 k3 a0 t156 (t156.length : Int) (wrap64 (x35_3 + 1)))) else (laws_FnPyPILegacyEnd.l0 k3 a0 t156 (t156.length : Int) (wrap64 (x35_3 + 1))))) else (some false)) = some r := H
                                have A39 := Aside0.mk A390
                                clear A390
                                by_cases c40 : t162 = true
                                · subst c40
                                  have H1 : (if ((rdOf ByteArray.empty t156 x35_3).size : Int) < 8 then (some false) else (if ((rdOf ByteArray.empty t156 x35_3).size : Int) > 8 then (if (bt (rdOf ByteArray.empty t156 x35_3) 0) = 48 then (if (a0.size : Int) < 9 then (some false) else (laws_FnPyPILegacyEnd.l0 k3 a0 t156 (t156.length : Int) (wrap64 (x35_3 + 1)))) else (laws_FnPyPILegacyEnd.l0 k3 a0 t156 (t156.length : Int) (wrap64 (x35_3 + 1)))) else (laws_FnPyPILegacyEnd.l0 k3 a0 t156 (t156.length : Int) (wrap64 (x35_3 + 1))))) = some r := by rw [if_pos rfl] at H; exact H
                                  clear H
                                  have H := H1
                                  clear H1
                                  by_cases c41 : ((rdOf ByteArray.empty t156 x35_3).size : Int) < 8
                                  · rw [if_pos c41] at H
                                    have c41b0 : decide (((rdOf ByteArray.empty t156 x35_3).size : Int) < 8) = true := decide_eq_true c41
                                    have c41b1 : decide ((rdOf ByteArray.empty t156 x35_3).size < 8) = true := decide_eq_true (by omega)
                                    clear c41
                                    obtain rfl := Option.some.inj H
                                    have p160 : 0 ≤ (x35_3 : Int) := of_decide_eq_true (by first | (with_reducible assumption) | assumption)
                                    have q160 : x35_3 < (t156.length : Int) := of_decide_eq_true (by first | (with_reducible assumption) | assumption)
                                    obtain ⟨ad160, e160, hx160_0⟩ := Kd.at_string (Kd.R_reads' HO_33.out).2.2 x35_3 p160 q160
                                    cases e160
                                    replace p160 := eq_true p160
                                    replace q160 := eq_true q160
                                    have p31 : 0 ≤ (0 : Int) := (by omega)
                                    have q31 : 0 < (rdOf ByteArray.empty t156 x35_3).size := (by have : (0 : Int) < ((rdOf ByteArray.empty t156 x35_3).size : Int) := of_decide_eq_true (by first | (with_reducible assumption) | assumption); omega)
                                    have hx31 : ∀ h : 0 < (rdOf ByteArray.empty t156 x35_3).size, (((rdOf ByteArray.empty t156 x35_3)[0]'h).toNat : Int) = bt (rdOf ByteArray.empty t156 x35_3) 0 := bt_at (rdOf ByteArray.empty t156 x35_3) 0
                                    clear p31
                                    have qi31 : (0 < ((rdOf ByteArray.empty t156 x35_3).size : Int)) = True := eq_true (of_decide_eq_true (by first | (with_reducible assumption) | assumption))
                                    replace q31 := eq_true q31
                                    go_wp2_with (first | (go_at_call 9; (with_reducible refine (laws_digits.calls k3 (rdOf ByteArray.empty t156 x35_3) true _ A39.out).mono ?_); rintro e w' ⟨rfl, ⟨nd, rfl⟩⟩))
                                    go_ret
                                    exact ⟨by first | rfl | (simp [errW_none, errW_some] <;> rfl) | (simp [*, errW_none, errW_some] <;> rfl) | (simp [bne_nil_hyb]; done), by repeat (first | (with_reducible first | exact HB.out | apply below_alloc | apply pw_below_drewN | apply below_drew1) | exact HB.out)⟩
                                  · rw [if_neg c41] at H
                                    have c41b0 : decide (((rdOf ByteArray.empty t156 x35_3).size : Int) < 8) = false := decide_eq_false c41
                                    have c41b1 : decide ((rdOf ByteArray.empty t156 x35_3).size < 8) = false := decide_eq_false (by omega)
                                    clear c41
                                    by_cases c42 : ((rdOf ByteArray.empty t156 x35_3).size : Int) > 8
                                    · rw [if_pos c42] at H
                                      have c42b0 : decide (8 < ((rdOf ByteArray.empty t156 x35_3).size : Int)) = true := decide_eq_true c42
                                      have c42b1 : decide (8 < (rdOf ByteArray.empty t156 x35_3).size) = true := decide_eq_true (by omega)
                                      clear c42
                                      by_cases c44 : (bt (rdOf ByteArray.empty t156 x35_3) 0) = 48
                                      · rw [if_pos c44] at H
                                        have c44b0 : ((bt (rdOf ByteArray.empty t156 x35_3) 0) == 48) = true := beq_iff_eq.mpr c44
                                        have c44b1 : ((bt (rdOf ByteArray.empty t156 x35_3) 0) != 48) = false := bne_eq_false_iff_eq.mpr c44
                                        clear c44
                                        by_cases c45 : (a0.size : Int) < 9
                                        · rw [if_pos c45] at H
                                          have c45b0 : decide ((a0.size : Int) < 9) = true := decide_eq_true c45
                                          have c45b1 : decide (a0.size < 9) = true := decide_eq_true (by omega)
                                          clear c45
                                          obtain rfl := Option.some.inj H
                                          have p160 : 0 ≤ (x35_3 : Int) := of_decide_eq_true (by first | (with_reducible assumption) | assumption)
                                          have q160 : x35_3 < (t156.length : Int) := of_decide_eq_true (by first | (with_reducible assumption) | assumption)
                                          obtain ⟨ad160, e160, hx160_0⟩ := Kd.at_string (Kd.R_reads' HO_33.out).2.2 x35_3 p160 q160
                                          cases e160
                                          replace p160 := eq_true p160
                                          replace q160 := eq_true q160
                                          have p31 : 0 ≤ (0 : Int) := (by omega)
                                          have q31 : 0 < (rdOf ByteArray.empty t156 x35_3).size := (by have : (0 : Int) < ((rdOf ByteArray.empty t156 x35_3).size : Int) := of_decide_eq_true (by first | (with_reducible assumption) | assumption); omega)
                                          have hx31 : ∀ h : 0 < (rdOf ByteArray.empty t156 x35_3).size, (((rdOf ByteArray.empty t156 x35_3)[0]'h).toNat : Int) = bt (rdOf ByteArray.empty t156 x35_3) 0 := bt_at (rdOf ByteArray.empty t156 x35_3) 0
                                          clear p31
                                          have qi31 : (0 < ((rdOf ByteArray.empty t156 x35_3).size : Int)) = True := eq_true (of_decide_eq_true (by first | (with_reducible assumption) | assumption))
                                          replace q31 := eq_true q31
                                          go_wp2_with (first | (go_at_call 9; (with_reducible refine (laws_digits.calls k3 (rdOf ByteArray.empty t156 x35_3) true _ A39.out).mono ?_); rintro e w' ⟨rfl, ⟨nd, rfl⟩⟩; have p43 : 0 ≤ (0 : Int) := (by omega); have q43 : 0 < (rdOf ByteArray.empty t156 x35_3).size := (by have : (0 : Int) < ((rdOf ByteArray.empty t156 x35_3).size : Int) := of_decide_eq_true (by first | (with_reducible assumption) | assumption); omega); have hx43 : ∀ h : 0 < (rdOf ByteArray.empty t156 x35_3).size, (((rdOf ByteArray.empty t156 x35_3)[0]'h).toNat : Int) = bt (rdOf ByteArray.empty t156 x35_3) 0 := bt_at (rdOf ByteArray.empty t156 x35_3) 0; clear p43; have qi43 : (0 < ((rdOf ByteArray.empty t156 x35_3).size : Int)) = True := eq_true (of_decide_eq_true (by first | (with_reducible assumption) | assumption)); replace q43 := eq_true q43))
                                          go_ret
                                          exact ⟨by first | rfl | (simp [errW_none, errW_some] <;> rfl) | (simp [*, errW_none, errW_some] <;> rfl) | (simp [bne_nil_hyb]; done), by repeat (first | (with_reducible first | exact HB.out | apply below_alloc | apply pw_below_drewN | apply below_drew1) | exact HB.out)⟩
                                        · rw [if_neg c45] at H
                                          have c45b0 : decide ((a0.size : Int) < 9) = false := decide_eq_false c45
                                          have c45b1 : decide (a0.size < 9) = false := decide_eq_false (by omega)
                                          clear c45
                                          have H' := Aside0.mk H
                                          clear H
                                          have p160 : 0 ≤ (x35_3 : Int) := of_decide_eq_true (by first | (with_reducible assumption) | assumption)
                                          have q160 : x35_3 < (t156.length : Int) := of_decide_eq_true (by first | (with_reducible assumption) | assumption)
                                          obtain ⟨ad160, e160, hx160_0⟩ := Kd.at_string (Kd.R_reads' HO_33.out).2.2 x35_3 p160 q160
                                          cases e160
                                          replace p160 := eq_true p160
                                          replace q160 := eq_true q160
                                          have p31 : 0 ≤ (0 : Int) := (by omega)
                                          have q31 : 0 < (rdOf ByteArray.empty t156 x35_3).size := (by have : (0 : Int) < ((rdOf ByteArray.empty t156 x35_3).size : Int) := of_decide_eq_true (by first | (with_reducible assumption) | assumption); omega)
                                          have hx31 : ∀ h : 0 < (rdOf ByteArray.empty t156 x35_3).size, (((rdOf ByteArray.empty t156 x35_3)[0]'h).toNat : Int) = bt (rdOf ByteArray.empty t156 x35_3) 0 := bt_at (rdOf ByteArray.empty t156 x35_3) 0
                                          clear p31
                                          have qi31 : (0 < ((rdOf ByteArray.empty t156 x35_3).size : Int)) = True := eq_true (of_decide_eq_true (by first | (with_reducible assumption) | assumption))
                                          replace q31 := eq_true q31
                                          go_wp2_with (first | (go_at_call 9; (with_reducible refine (laws_digits.calls k3 (rdOf ByteArray.empty t156 x35_3) true _ A39.out).mono ?_); rintro e w' ⟨rfl, ⟨nd, rfl⟩⟩; have p43 : 0 ≤ (0 : Int) := (by omega); have q43 : 0 < (rdOf ByteArray.empty t156 x35_3).size := (by have : (0 : Int) < ((rdOf ByteArray.empty t156 x35_3).size : Int) := of_decide_eq_true (by first | (with_reducible assumption) | assumption); omega); have hx43 : ∀ h : 0 < (rdOf ByteArray.empty t156 x35_3).size, (((rdOf ByteArray.empty t156 x35_3)[0]'h).toNat : Int) = bt (rdOf ByteArray.empty t156 x35_3) 0 := bt_at (rdOf ByteArray.empty t156 x35_3) 0; clear p43; have qi43 : (0 < ((rdOf ByteArray.empty t156 x35_3).size : Int)) = True := eq_true (of_decide_eq_true (by first | (with_reducible assumption) | assumption)); replace q43 := eq_true q43))
                                          go_roundg k3
                                          case measure => have := HJ2.out; have := HJ15.out; have := HK3.out; omega
                                          case rel => exact ⟨(wrap64 (x35_3 + 1)), (by first | rfl | (simp; done) | (simp [*]; done) | (simp [bne_nil_hyb]; done) | (simp [bne_nil_hyb, *]; done)), H', ⟨by have := HJ2.out; have := HJ15.out; have := HK3.out; omega⟩, ⟨by (with_reducible repeat (first | apply Kd.R_alloc | apply Kd.R_drewN | apply Kd.R_drew)); exact HO_33.out⟩, ⟨by repeat (first | (with_reducible first | exact HB.out | apply below_alloc | apply pw_below_drewN | apply below_drew1) | exact HB.out)⟩⟩
                                      · rw [if_neg c44] at H
                                        have c44b0 : ((bt (rdOf ByteArray.empty t156 x35_3) 0) == 48) = false := beq_eq_false_iff_ne.mpr c44
                                        have c44b1 : ((bt (rdOf ByteArray.empty t156 x35_3) 0) != 48) = true := bne_iff_ne.mpr c44
                                        have H' := Aside0.mk H
                                        clear H
                                        have p160 : 0 ≤ (x35_3 : Int) := of_decide_eq_true (by first | (with_reducible assumption) | assumption)
                                        have q160 : x35_3 < (t156.length : Int) := of_decide_eq_true (by first | (with_reducible assumption) | assumption)
                                        obtain ⟨ad160, e160, hx160_0⟩ := Kd.at_string (Kd.R_reads' HO_33.out).2.2 x35_3 p160 q160
                                        cases e160
                                        replace p160 := eq_true p160
                                        replace q160 := eq_true q160
                                        have p31 : 0 ≤ (0 : Int) := (by omega)
                                        have q31 : 0 < (rdOf ByteArray.empty t156 x35_3).size := (by have : (0 : Int) < ((rdOf ByteArray.empty t156 x35_3).size : Int) := of_decide_eq_true (by first | (with_reducible assumption) | assumption); omega)
                                        have hx31 : ∀ h : 0 < (rdOf ByteArray.empty t156 x35_3).size, (((rdOf ByteArray.empty t156 x35_3)[0]'h).toNat : Int) = bt (rdOf ByteArray.empty t156 x35_3) 0 := bt_at (rdOf ByteArray.empty t156 x35_3) 0
                                        clear p31
                                        have qi31 : (0 < ((rdOf ByteArray.empty t156 x35_3).size : Int)) = True := eq_true (of_decide_eq_true (by first | (with_reducible assumption) | assumption))
                                        replace q31 := eq_true q31
                                        go_wp2_with (first | (go_at_call 9; (with_reducible refine (laws_digits.calls k3 (rdOf ByteArray.empty t156 x35_3) true _ A39.out).mono ?_); rintro e w' ⟨rfl, ⟨nd, rfl⟩⟩; have p43 : 0 ≤ (0 : Int) := (by omega); have q43 : 0 < (rdOf ByteArray.empty t156 x35_3).size := (by have : (0 : Int) < ((rdOf ByteArray.empty t156 x35_3).size : Int) := of_decide_eq_true (by first | (with_reducible assumption) | assumption); omega); have hx43 : ∀ h : 0 < (rdOf ByteArray.empty t156 x35_3).size, (((rdOf ByteArray.empty t156 x35_3)[0]'h).toNat : Int) = bt (rdOf ByteArray.empty t156 x35_3) 0 := bt_at (rdOf ByteArray.empty t156 x35_3) 0; clear p43; have qi43 : (0 < ((rdOf ByteArray.empty t156 x35_3).size : Int)) = True := eq_true (of_decide_eq_true (by first | (with_reducible assumption) | assumption)); replace q43 := eq_true q43))
                                        go_roundg k3
                                        case measure => have := HJ2.out; have := HJ15.out; have := HK3.out; omega
                                        case rel => exact ⟨(wrap64 (x35_3 + 1)), (by first | rfl | (simp; done) | (simp [*]; done) | (simp [bne_nil_hyb]; done) | (simp [bne_nil_hyb, *]; done)), H', ⟨by have := HJ2.out; have := HJ15.out; have := HK3.out; omega⟩, ⟨by (with_reducible repeat (first | apply Kd.R_alloc | apply Kd.R_drewN | apply Kd.R_drew)); exact HO_33.out⟩, ⟨by repeat (first | (with_reducible first | exact HB.out | apply below_alloc | apply pw_below_drewN | apply below_drew1) | exact HB.out)⟩⟩
                                    · rw [if_neg c42] at H
                                      have c42b0 : decide (8 < ((rdOf ByteArray.empty t156 x35_3).size : Int)) = false := decide_eq_false c42
                                      have c42b1 : decide (8 < (rdOf ByteArray.empty t156 x35_3).size) = false := decide_eq_false (by omega)
                                      clear c42
                                      have H' := Aside0.mk H
                                      clear H
                                      have p160 : 0 ≤ (x35_3 : Int) := of_decide_eq_true (by first | (with_reducible assumption) | assumption)
                                      have q160 : x35_3 < (t156.length : Int) := of_decide_eq_true (by first | (with_reducible assumption) | assumption)
                                      obtain ⟨ad160, e160, hx160_0⟩ := Kd.at_string (Kd.R_reads' HO_33.out).2.2 x35_3 p160 q160
                                      cases e160
                                      replace p160 := eq_true p160
                                      replace q160 := eq_true q160
                                      have p31 : 0 ≤ (0 : Int) := (by omega)
                                      have q31 : 0 < (rdOf ByteArray.empty t156 x35_3).size := (by have : (0 : Int) < ((rdOf ByteArray.empty t156 x35_3).size : Int) := of_decide_eq_true (by first | (with_reducible assumption) | assumption); omega)
                                      have hx31 : ∀ h : 0 < (rdOf ByteArray.empty t156 x35_3).size, (((rdOf ByteArray.empty t156 x35_3)[0]'h).toNat : Int) = bt (rdOf ByteArray.empty t156 x35_3) 0 := bt_at (rdOf ByteArray.empty t156 x35_3) 0
                                      clear p31
                                      have qi31 : (0 < ((rdOf ByteArray.empty t156 x35_3).size : Int)) = True := eq_true (of_decide_eq_true (by first | (with_reducible assumption) | assumption))
                                      replace q31 := eq_true q31
                                      go_wp2_with (first | (go_at_call 9; (with_reducible refine (laws_digits.calls k3 (rdOf ByteArray.empty t156 x35_3) true _ A39.out).mono ?_); rintro e w' ⟨rfl, ⟨nd, rfl⟩⟩))
                                      go_roundg k3
                                      case measure => have := HJ2.out; have := HJ15.out; have := HK3.out; omega
                                      case rel => exact ⟨(wrap64 (x35_3 + 1)), (by first | rfl | (simp; done) | (simp [*]; done) | (simp [bne_nil_hyb]; done) | (simp [bne_nil_hyb, *]; done)), H', ⟨by have := HJ2.out; have := HJ15.out; have := HK3.out; omega⟩, ⟨by (with_reducible repeat (first | apply Kd.R_alloc | apply Kd.R_drewN | apply Kd.R_drew)); exact HO_33.out⟩, ⟨by repeat (first | (with_reducible first | exact HB.out | apply below_alloc | apply pw_below_drewN | apply below_drew1) | exact HB.out)⟩⟩
                                · replace c40 := Bool.eq_false_iff.mpr c40
                                  subst c40
                                  have H1 : (some false) = some r := by rw [if_neg (show ¬ (false = true) by decide)] at H; exact H
                                  clear H
                                  have H := H1
                                  clear H1
                                  obtain rfl := Option.some.inj H
                                  have p160 : 0 ≤ (x35_3 : Int) := of_decide_eq_true (by first | (with_reducible assumption) | assumption)
                                  have q160 : x35_3 < (t156.length : Int) := of_decide_eq_true (by first | (with_reducible assumption) | assumption)
                                  obtain ⟨ad160, e160, hx160_0⟩ := Kd.at_string (Kd.R_reads' HO_33.out).2.2 x35_3 p160 q160
                                  cases e160
                                  replace p160 := eq_true p160
                                  replace q160 := eq_true q160
                                  have p31 : 0 ≤ (0 : Int) := (by omega)
                                  have q31 : 0 < (rdOf ByteArray.empty t156 x35_3).size := (by have : (0 : Int) < ((rdOf ByteArray.empty t156 x35_3).size : Int) := of_decide_eq_true (by first | (with_reducible assumption) | assumption); omega)
                                  have hx31 : ∀ h : 0 < (rdOf ByteArray.empty t156 x35_3).size, (((rdOf ByteArray.empty t156 x35_3)[0]'h).toNat : Int) = bt (rdOf ByteArray.empty t156 x35_3) 0 := bt_at (rdOf ByteArray.empty t156 x35_3) 0
                                  clear p31
                                  have qi31 : (0 < ((rdOf ByteArray.empty t156 x35_3).size : Int)) = True := eq_true (of_decide_eq_true (by first | (with_reducible assumption) | assumption))
                                  replace q31 := eq_true q31
                                  go_wp2_with (first | (go_at_call 9; (with_reducible refine (laws_digits.calls k3 (rdOf ByteArray.empty t156 x35_3) false _ A39.out).mono ?_); rintro e w' ⟨rfl, ⟨nd, rfl⟩⟩))
                                  go_ret
                                  exact ⟨by first | rfl | (simp [errW_none, errW_some] <;> rfl) | (simp [*, errW_none, errW_some] <;> rfl) | (simp [bne_nil_hyb]; done), by repeat (first | (with_reducible first | exact HB.out | apply below_alloc | apply pw_below_drewN | apply below_drew1) | exact HB.out)⟩
                            · rw [if_neg c30] at H
                              exact absurd H (by simp)
                        · rw [if_neg c28] at H
                          exact absurd H (by simp)
                      · rw [if_neg c27] at H
                        exact absurd H (by simp)
                    · rw [if_neg c26] at H
                      have c26b0 : decide (x35_3 < (t156.length : Int)) = false := decide_eq_false c26
                      clear c26
                      obtain rfl := Option.some.inj H
                      go_wp2
                      go_ret
                      exact ⟨by first | rfl | (simp [errW_none, errW_some] <;> rfl) | (simp [*, errW_none, errW_some] <;> rfl) | (simp [bne_nil_hyb]; done), by repeat (first | (with_reducible first | exact HB.out | apply below_alloc | apply pw_below_drewN | apply below_drew1) | exact HB.out)⟩

/-- THE ONE PURE STATEMENT of laws_FnPyPILegacyEnd: yours. -/
def laws_FnPyPILegacyEnd.Pure : Prop := ∀ (a0 : ByteArray), a0.size ≤ 140737488351232 → ∃ k, laws_FnPyPILegacyEnd.f k a0 = some true
theorem laws_FnPyPILegacyEnd.walk (P : laws_FnPyPILegacyEnd.Pure) (a0 : ByteArray) (w : World) (w0 : a0.size ≤ 140737488351232) :
    Calls Try.prog 3 #[.string a0] w fun e w' => e = .returned (.bool true) ∧ Below w.heap.size w w' := by
  obtain ⟨k, h⟩ := P a0 w0
  refine (laws_FnPyPILegacyEnd.calls k a0 true w h).mono ?_
  rintro e w' ⟨rfl, hd⟩
  exact ⟨rfl, hd⟩

/-! ### laws_texts: function 10 -/
def laws_texts.l0 : Nat → List ByteArray → List ByteArray → Int → Int → Option (Bool)
  | 0, _, _, _, _ => none
  | k + 1, x0, x1, x12, x13 => if x13 < x12 then (if 0 ≤ x13 then (if x13 < (x0.length : Int) then (if x13 < (x1.length : Int) then (if (rdOf ByteArray.empty x0 x13).toList = (rdOf ByteArray.empty x1 x13).toList then (laws_texts.l0 k x0 x1 x12 (wrap64 (x13 + 1))) else (some false)) else (none)) else (none)) else (none)) else (some true)
def laws_texts.f (k : Nat) (l0 : List ByteArray) (l1 : List ByteArray) : Option (Bool) := if (l0.length : Int) = (l1.length : Int) then (laws_texts.l0 k l0 l1 (l0.length : Int) 0) else (some false)
theorem laws_texts.mono_l : ∀ k, (∀ y0 y1 y2 y3, LeO (laws_texts.l0 k y0 y1 y2 y3) (laws_texts.l0 (k + 1) y0 y1 y2 y3))
  | 0 => fun _ _ _ _ r h => by simp [laws_texts.l0] at h
  | k + 1 => by
    have ih0 := laws_texts.mono_l k
    · intro y0 y1 y2 y3
      unfold laws_texts.l0
      repeat' first
      | (with_reducible exact ih0 _ _ _ _)
      | (with_reducible exact LeO.refl _)
      | (with_reducible exact LeO.none _)
      | (with_reducible refine LeO.ite ?_ ?_)
      | (with_reducible refine LeO.bind ?_ (fun _ => ?_))
      | exact ih0 _ _ _ _
      | exact LeO.none _
      | refine LeO.ite ?_ ?_
      | refine LeO.bind ?_ (fun _ => ?_)
theorem laws_texts.mono : ∀ a0 a1 k, LeO (laws_texts.f k a0 a1) (laws_texts.f (k + 1) a0 a1) := by
  intro a0 a1 k
  have ih0 := laws_texts.mono_l k
  unfold laws_texts.f
  repeat' first
      | (with_reducible exact ih0 _ _ _ _)
      | (with_reducible exact LeO.refl _)
      | (with_reducible exact LeO.none _)
      | (with_reducible refine LeO.ite ?_ ?_)
      | (with_reducible refine LeO.bind ?_ (fun _ => ?_))
      | exact ih0 _ _ _ _
      | exact LeO.none _
      | refine LeO.ite ?_ ?_
      | refine LeO.bind ?_ (fun _ => ?_)
set_option maxHeartbeats 8000000 in
set_option maxRecDepth 100000 in
theorem laws_texts.calls (k : Nat) (A0 : Option Addr) (c0 : Nat) (l0 : List ByteArray) (A1 : Option Addr) (c1 : Nat) (l1 : List ByteArray) (r : Bool) (w : World) (hr0 : Kd.C Kd.string w A0 l0.length l0) (hc0 : l0.length ≤ c0) (hr1 : Kd.C Kd.string w A1 l1.length l1) (hc1 : l1.length ≤ c1) (h : laws_texts.f k l0 l1 = some r) :
    Calls Try.prog 10 #[.slice A0 l0.length c0, .slice A1 l1.length c1] w fun e w' => e = .returned (.bool r) ∧ Drawn0 w w' := by
  have HR0 := Aside0.mk hr0
  have HC0 := Aside0.mk hc0
  clear hr0 hc0
  have HR1 := Aside0.mk hr1
  have HC1 := Aside0.mk hc1
  clear hr1 hc1
  have H : (if (l0.length : Int) = (l1.length : Int) then (laws_texts.l0 k l0 l1 (l0.length : Int) 0) else (some false)) = some r := h
  clear h
  by_cases c3 : (l0.length : Int) = (l1.length : Int)
  · rw [if_pos c3] at H
    have c3b0 : ((l0.length : Int) == (l1.length : Int)) = true := beq_iff_eq.mpr c3
    have c3b1 : ((l0.length : Int) != (l1.length : Int)) = false := bne_eq_false_iff_eq.mpr c3
    have c3b2 : (l0.length == l1.length) = true := by first | simpa using c3 | (simp at c3 ⊢; omega)
    clear c3
    have H' := Aside0.mk H
    clear H
    go_enter Try.func10, Try.ntmps10
    go_wp2
    repeat (go_quiet (fail); try go_wp2)
    (try simp only [Act.put, List.setIfInBounds_toArray, List.set_cons_zero, List.set_cons_succ])
    go_loopg [13] k (fun kq v13 w' => ∃ (x13_1 : Int), v13 = .int .i64 x13_1 ∧ Aside0 (laws_texts.l0 kq l0 l1 (l0.length : Int) x13_1 = some r) ∧ Aside0 (kq ≤ k) ∧ Drawn0 w w')
    case atStart => exact ⟨(0), (by first | rfl | (simp; done) | (simp [*]; done) | (simp [bne_nil_hyb]; done) | (simp [bne_nil_hyb, *]; done)), H', ⟨Nat.le_refl _⟩, by repeat (first | exact Drawn0.refl _ | apply Drawn0.step)⟩
    case round =>
      clear H'
      try clear c1
      try clear p2
      try clear c3
      try clear c3b0
      try clear c3b1
      try clear c3b2
      obtain ⟨x13_1, rfl, HA, HK1, ⟨m1, rfl⟩⟩ := hrel
      cases gk with
      | zero => exact absurd HA.out (by simp [laws_texts.l0])
      | succ k1 =>
        have H := HA.out
        clear HA
        simp only [laws_texts.l0] at H
        by_cases c4 : x13_1 < (l0.length : Int)
        · rw [if_pos c4] at H
          have c4b0 : decide (x13_1 < (l0.length : Int)) = true := decide_eq_true c4
          clear c4
          by_cases c5 : 0 ≤ x13_1
          · rw [if_pos c5] at H
            have c5b0 : decide (0 ≤ x13_1) = true := decide_eq_true c5
            clear c5
            by_cases c6 : x13_1 < (l0.length : Int)
            · rw [if_pos c6] at H
              have c6b0 : decide (x13_1 < (l0.length : Int)) = true := decide_eq_true c6
              clear c6
              by_cases c7 : x13_1 < (l1.length : Int)
              · rw [if_pos c7] at H
                have c7b0 : decide (x13_1 < (l1.length : Int)) = true := decide_eq_true c7
                clear c7
                by_cases c8 : (rdOf ByteArray.empty l0 x13_1).toList = (rdOf ByteArray.empty l1 x13_1).toList
                · rw [if_pos c8] at H
                  have c8b0 : ((rdOf ByteArray.empty l0 x13_1).toList == (rdOf ByteArray.empty l1 x13_1).toList) = true := beq_iff_eq.mpr c8
                  have c8b1 : ((rdOf ByteArray.empty l0 x13_1).toList != (rdOf ByteArray.empty l1 x13_1).toList) = false := bne_eq_false_iff_eq.mpr c8
                  clear c8
                  have H' := Aside0.mk H
                  clear H
                  have p163 : 0 ≤ (x13_1 : Int) := of_decide_eq_true (by first | (with_reducible assumption) | assumption)
                  have q163 : x13_1 < (l0.length : Int) := of_decide_eq_true (by first | (with_reducible assumption) | assumption)
                  obtain ⟨ad163, e163, hx163_0⟩ := Kd.at_string HR0.out x13_1 p163 q163
                  cases e163
                  replace p163 := eq_true p163
                  replace q163 := eq_true q163
                  have p164 : 0 ≤ (x13_1 : Int) := of_decide_eq_true (by first | (with_reducible assumption) | assumption)
                  have q164 : x13_1 < (l1.length : Int) := of_decide_eq_true (by first | (with_reducible assumption) | assumption)
                  obtain ⟨ad164, e164, hx164_0⟩ := Kd.at_string HR1.out x13_1 p164 q164
                  cases e164
                  replace p164 := eq_true p164
                  replace q164 := eq_true q164
                  go_wp2
                  repeat (go_quiet (fail); try go_wp2)
                  go_roundg k1
                  case measure => have := HK1.out; omega
                  case rel => exact ⟨(wrap64 (x13_1 + 1)), (by first | rfl | (simp; done) | (simp [*]; done) | (simp [bne_nil_hyb]; done) | (simp [bne_nil_hyb, *]; done)), H', ⟨by have := HK1.out; omega⟩, by repeat (first | exact Drawn0.refl _ | apply Drawn0.step)⟩
                · rw [if_neg c8] at H
                  have c8b0 : ((rdOf ByteArray.empty l0 x13_1).toList == (rdOf ByteArray.empty l1 x13_1).toList) = false := beq_eq_false_iff_ne.mpr c8
                  have c8b1 : ((rdOf ByteArray.empty l0 x13_1).toList != (rdOf ByteArray.empty l1 x13_1).toList) = true := bne_iff_ne.mpr c8
                  obtain rfl := Option.some.inj H
                  have p163 : 0 ≤ (x13_1 : Int) := of_decide_eq_true (by first | (with_reducible assumption) | assumption)
                  have q163 : x13_1 < (l0.length : Int) := of_decide_eq_true (by first | (with_reducible assumption) | assumption)
                  obtain ⟨ad163, e163, hx163_0⟩ := Kd.at_string HR0.out x13_1 p163 q163
                  cases e163
                  replace p163 := eq_true p163
                  replace q163 := eq_true q163
                  have p164 : 0 ≤ (x13_1 : Int) := of_decide_eq_true (by first | (with_reducible assumption) | assumption)
                  have q164 : x13_1 < (l1.length : Int) := of_decide_eq_true (by first | (with_reducible assumption) | assumption)
                  obtain ⟨ad164, e164, hx164_0⟩ := Kd.at_string HR1.out x13_1 p164 q164
                  cases e164
                  replace p164 := eq_true p164
                  replace q164 := eq_true q164
                  go_wp2
                  repeat (go_quiet (fail); try go_wp2)
                  go_ret
                  exact ⟨by first | rfl | (simp; done) | (simp [*]; done) | (simp [bne_nil_hyb]; done) | (simp [bne_nil_hyb, *]; done), by repeat (first | exact Drawn0.refl _ | apply Drawn0.step)⟩
              · rw [if_neg c7] at H
                exact absurd H (by simp)
            · rw [if_neg c6] at H
              exact absurd H (by simp)
          · rw [if_neg c5] at H
            exact absurd H (by simp)
        · rw [if_neg c4] at H
          have c4b0 : decide (x13_1 < (l0.length : Int)) = false := decide_eq_false c4
          clear c4
          obtain rfl := Option.some.inj H
          go_wp2
          repeat (go_quiet (fail); try go_wp2)
          go_ret
          exact ⟨by first | rfl | (simp; done) | (simp [*]; done) | (simp [bne_nil_hyb]; done) | (simp [bne_nil_hyb, *]; done), by repeat (first | exact Drawn0.refl _ | apply Drawn0.step)⟩
  · rw [if_neg c3] at H
    have c3b0 : ((l0.length : Int) == (l1.length : Int)) = false := beq_eq_false_iff_ne.mpr c3
    have c3b1 : ((l0.length : Int) != (l1.length : Int)) = true := bne_iff_ne.mpr c3
    have c3b2 : (l0.length == l1.length) = false := by first | simpa using c3 | (simp at c3 ⊢; omega)
    obtain rfl := Option.some.inj H
    go_enter Try.func10, Try.ntmps10
    go_wp2
    repeat (go_quiet (fail); try go_wp2)
    go_ret
    exact ⟨by first | rfl | (simp; done) | (simp [*]; done) | (simp [bne_nil_hyb]; done) | (simp [bne_nil_hyb, *]; done), by repeat (first | exact Drawn0.refl _ | apply Drawn0.step)⟩

end Go.Proofs.Yteffbgjfhbgooaa.Q
