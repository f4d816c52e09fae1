/- Proved here: each Go function that is named in this text, called as its theorem 'calls' says, returns what its Lean function 'f' tells, and of the memory that was there nothing is changed (a row of a law: the law returns true). Conditions: those that stand in each theorem; where 'f' tells none, nothing is said. Laid by a program of this seat's prover out of the translation; Lean checks it. -/
import Derived.Test.YteffbgjfhbgooaaDoorQx0
import Derived.Test.YteffbgjfhbgooaaDoorQx1
import Derived.Test.YteffbgjfhbgooaaDoorQx2
import Derived.Test.YteffbgjfhbgooaaDoorQx3
namespace Go.Proofs.YteffbgjfhbgooaaDoor.Q
open Go.RowKit Go.Proofs.YteffbgjfhbgooaaDoorH Go.Proofs.YteffbgjfhbgooaaDoorW.PrintWords Go.Proofs.YteffbgjfhbgooaaDoorW.PrintLast Go.Proofs.YteffbgjfhbgooaaDoorW.PrintMore
attribute [local go_sem] max2_int min2_int max_two min_two max_three min_three max_four min_four   -- for this text's walks alone
set_option linter.unusedVariables false
set_option linter.unusedSimpArgs false

/-! ### laws_FnPackagistCanonical: function 3 -/
def laws_FnPackagistCanonical.j0 : Nat → ByteArray → Bool → Option (Bool)
  | 0, _, _ => none
  | k + 1, x0, x14 => if x14 = true then (some true) else ((impl_PackagistCanonical.f k x0).bind fun t171 => ((spec_PackagistCanonical.f k x0).bind fun t172 => (if t171.toList = t172.toList then ((impl_PackagistCanonical.f k (⟨#[118, 49, 45, 97, 50]⟩ : ByteArray)).bind fun t173 => (some (t173.toList == ([49, 46, 97, 46, 50] : List UInt8)))) else (some false))))
def laws_FnPackagistCanonical.f (k : Nat) (a0 : ByteArray) : Option (Bool) := if (a0.size : Int) > 2147483647 then (some true) else ((laws_short.f k (([a0] : List ByteArray))).bind fun t169 => (if t169 = true then ((spec_PackagistTextKnown.f k a0).bind fun t170 => (laws_FnPackagistCanonical.j0 k a0 (!t170))) else (laws_FnPackagistCanonical.j0 k a0 true)))
theorem laws_FnPackagistCanonical.mono_l : ∀ k, (∀ y0 y1, LeO (laws_FnPackagistCanonical.j0 k y0 y1) (laws_FnPackagistCanonical.j0 (k + 1) y0 y1))
  | 0 => fun _ _ r h => by simp [laws_FnPackagistCanonical.j0] at h
  | k + 1 => by
    have ih0 := laws_FnPackagistCanonical.mono_l k
    · intro y0 y1
      unfold laws_FnPackagistCanonical.j0
      repeat' first
      | (with_reducible exact ih0 _ _)
      | (with_reducible exact impl_PackagistCanonical.mono _ _)
      | (with_reducible exact laws_short.mono _ _)
      | (with_reducible exact spec_PackagistCanonical.mono _ _)
      | (with_reducible exact spec_PackagistTextKnown.mono _ _)
      | (with_reducible exact LeO.refl _)
      | (with_reducible exact LeO.none _)
      | (with_reducible refine LeO.ite ?_ ?_)
      | (with_reducible refine LeO.bind ?_ (fun _ => ?_))
      | exact ih0 _ _
      | exact impl_PackagistCanonical.mono _ _
      | exact laws_short.mono _ _
      | exact spec_PackagistCanonical.mono _ _
      | exact spec_PackagistTextKnown.mono _ _
      | exact LeO.none _
      | refine LeO.ite ?_ ?_
      | refine LeO.bind ?_ (fun _ => ?_)
theorem laws_FnPackagistCanonical.mono : ∀ a0 k, LeO (laws_FnPackagistCanonical.f k a0) (laws_FnPackagistCanonical.f (k + 1) a0) := by
  intro a0 k
  have ih0 := laws_FnPackagistCanonical.mono_l k
  unfold laws_FnPackagistCanonical.f
  repeat' first
      | (with_reducible exact ih0 _ _)
      | (with_reducible exact impl_PackagistCanonical.mono _ _)
      | (with_reducible exact laws_short.mono _ _)
      | (with_reducible exact spec_PackagistCanonical.mono _ _)
      | (with_reducible exact spec_PackagistTextKnown.mono _ _)
      | (with_reducible exact LeO.refl _)
      | (with_reducible exact LeO.none _)
      | (with_reducible refine LeO.ite ?_ ?_)
      | (with_reducible refine LeO.bind ?_ (fun _ => ?_))
      | exact ih0 _ _
      | exact impl_PackagistCanonical.mono _ _
      | exact laws_short.mono _ _
      | exact spec_PackagistCanonical.mono _ _
      | exact spec_PackagistTextKnown.mono _ _
      | exact LeO.none _
      | refine LeO.ite ?_ ?_
      | refine LeO.bind ?_ (fun _ => ?_)
set_option maxHeartbeats 8000000 in
set_option maxRecDepth 100000 in
theorem laws_FnPackagistCanonical.calls (k : Nat) (a0 : ByteArray) (r : Bool) (w : World) (h : laws_FnPackagistCanonical.f k a0 = some r) :
    Calls Tryd.prog 3 #[.string a0] w fun e w' => e = .returned (.bool r) ∧ Below w.heap.size w w' := by
  have HB := Aside0.mk (Below.refl w.heap.size w)
  have H : (if (a0.size : Int) > 2147483647 then (some true) else ((laws_short.f k (([a0] : List ByteArray))).bind fun t169 => (if t169 = true then ((spec_PackagistTextKnown.f k a0).bind fun t170 => (laws_FnPackagistCanonical.j0 k a0 (!t170))) else (laws_FnPackagistCanonical.j0 k a0 true)))) = some r := h
  clear h
  by_cases c2 : (a0.size : Int) > 2147483647
  · rw [if_pos c2] at H
    have c2b0 : decide (2147483647 < (a0.size : Int)) = true := decide_eq_true c2
    have c2b1 : decide (2147483647 < a0.size) = true := decide_eq_true (by omega)
    clear c2
    obtain rfl := Option.some.inj H
    go_enter Tryd.func3, Tryd.ntmps3
    go_wp2
    go_ret
    exact ⟨by first | rfl | (simp [errW_none, errW_some] <;> rfl) | (simp [*, errW_none, errW_some] <;> rfl) | (simp [bne_nil_hyb]; done), by repeat (first | (with_reducible first | exact HB.out | apply below_alloc | apply pw_below_drewN | apply below_drew1) | exact HB.out)⟩
  · rw [if_neg c2] at H
    have c2b0 : decide (2147483647 < (a0.size : Int)) = false := decide_eq_false c2
    have c2b1 : decide (2147483647 < a0.size) = false := decide_eq_false (by omega)
    clear c2
    have HC3 := Aside0.mk H
    clear H
    go_enter Tryd.func3, Tryd.ntmps3
    go_upto_region 3 with (fail)
    go_cut [14] (fun v14 wc => ∃ (kq : Nat) (x14_2 : Bool), v14 = .bool x14_2 ∧ Aside0 (laws_FnPackagistCanonical.j0 kq a0 x14_2 = some r) ∧ Aside0 (kq ≤ k) ∧ Aside0 (Below w.heap.size w wc))
    case first =>
      have H := HC3.out
      clear HC3
      obtain ⟨y166, hy166⟩ : ∃ y_ : List ByteArray, y_ = (([a0] : List ByteArray)) := ⟨_, rfl⟩
      replace H : ((laws_short.f k y166).bind fun t169 => (if t169 = true then ((spec_PackagistTextKnown.f k a0).bind fun t170 => (laws_FnPackagistCanonical.j0 k a0 (!t170))) else (laws_FnPackagistCanonical.j0 k a0 true))) = some r := by first | (rw [hy166]; with_reducible exact H) | (have H2_ := (Option.bind_some _ _).symm.trans H; rw [hy166]; with_reducible exact H2_) | (have H2_ := (Option.bind_some _ _).symm.trans H; with_reducible exact H2_) | with_reducible exact H | (rw [hy166]; exact H) | exact H
      have Ny166 := Aside0.mk hy166
      clear hy166
      replace H := Option.bind_eq_some_iff.mp H
      obtain ⟨t169, A40, H⟩ := H
      replace H : (if t169 = true then ((spec_PackagistTextKnown.f k a0).bind fun t170 => (laws_FnPackagistCanonical.j0 k a0 (!t170))) else (laws_FnPackagistCanonical.j0 k a0 true)) = some r := H
      have A4 := Aside0.mk A40
      clear A40
      by_cases c5 : t169 = true
      · subst c5
        have H1 : ((spec_PackagistTextKnown.f k a0).bind fun t170 => (laws_FnPackagistCanonical.j0 k a0 (!t170))) = some r := by rw [if_pos rfl] at H; exact H
        clear H
        have H := H1
        clear H1
        replace H := Option.bind_eq_some_iff.mp H
        obtain ⟨t170, A60, H⟩ := H
        replace H : (laws_FnPackagistCanonical.j0 k a0 (!t170)) = some r := H
        have A6 := Aside0.mk A60
        clear A60
        have H' := Aside0.mk H
        clear H
        go_wp2_with (first | ((with_reducible refine gate_dst (N := 7) rfl ?_); refine Kd.R_lit Kd.string _ 9 ?hg (N := 7) ?hd (xs := ([a0] : List ByteArray)) (inner := [.string a0]) (ok := fun _ => True) (okp := fun _ => True) ?hr ?hp (fun _ hk => hk) trivial (Below.refl _ _) (Nat.le_refl _) (by simp) ?_; (case hd => rfl); (case hg => rfl); (case hr => first | (go_simp; done) | (go_simp; rfl)); (case hp => exact (Reps.one (show Kd.M Kd.string _ _ _ a0 [.string a0] from rfl) (Reps.none _ _))); intro v167 w7 ho8 hb hg_ hnew_; clear hg_ hnew_; (first | rw [← Ny166.out] at ho8 | (simp only [Int.reduceToNat] at ho8; rw [← Ny166.out] at ho8)); have n0_ := Aside0.mk (Kd.R_lower ho8 (below_size (by repeat (first | (with_reducible first | exact HB.out | apply below_alloc | apply pw_below_drewN | apply below_drew1) | exact HB.out)))); have n1_ := Aside0.mk (below_step (by repeat (first | (with_reducible first | exact HB.out | apply below_alloc | apply pw_below_drewN | apply below_drew1) | exact HB.out)) hb); clear HB; have HO168 := n0_; have HB := n1_; clear n0_ n1_; clear hb ho8; obtain ⟨Ao9, co9, eo9⟩ := Kd.R_slice HO168.out; subst eo9) | ((with_reducible refine gate_callee (f := 10) rfl ?_); refine goesL_ (some 8) rfl rfl Tryd.func10 (by kernel_rfl) rfl #[.slice Ao9 y166.length co9] rfl (by (try simp only [List.map_toArray, List.map_cons, List.map_nil]); first | done | rfl | (simp only [List.length_drop, List.length_take]; rfl)) ?_; (with_reducible refine (laws_short.calls k _ _ y166 true _ ?side1 ?side2 A4.out).mono ?_); (case side1 => repeat (first | exact (Kd.R_reads' HO168.out).2.2 | (with_reducible refine Kd.C_alloc ?_ _) | (with_reducible refine Kd.C_drewN ?_ _) | (with_reducible refine Kd.C_drew ?_))); (case side2 => exact (Kd.R_reads' HO168.out).2.1); rintro e w' ⟨rfl, ⟨nd, rfl⟩⟩; refine ⟨_, rfl, ?_⟩) | (go_at_call 11; (with_reducible refine (spec_PackagistTextKnown.calls k a0 t170 _ A6.out).mono ?_); rintro e w' ⟨rfl, ⟨nd, rfl⟩⟩))
        go_meet
        case rel => exact ⟨_, (!t170), (by first | rfl | (simp; done) | (simp [*]; done) | (simp [bne_nil_hyb]; done) | (simp [bne_nil_hyb, *]; done)), H', ⟨by first | omega | exact Nat.le_refl _⟩, ⟨by repeat (first | (with_reducible first | exact HB.out | apply below_alloc | apply pw_below_drewN | apply below_drew1) | exact HB.out)⟩⟩
      · replace c5 := Bool.eq_false_iff.mpr c5
        subst c5
        have H1 : (laws_FnPackagistCanonical.j0 k a0 true) = some r := by rw [if_neg (show ¬ (false = true) by decide)] at H; exact H
        clear H
        have H := H1
        clear H1
        have H' := Aside0.mk H
        clear H
        go_wp2_with (first | ((with_reducible refine gate_dst (N := 7) rfl ?_); refine Kd.R_lit Kd.string _ 9 ?hg (N := 7) ?hd (xs := ([a0] : List ByteArray)) (inner := [.string a0]) (ok := fun _ => True) (okp := fun _ => True) ?hr ?hp (fun _ hk => hk) trivial (Below.refl _ _) (Nat.le_refl _) (by simp) ?_; (case hd => rfl); (case hg => rfl); (case hr => first | (go_simp; done) | (go_simp; rfl)); (case hp => exact (Reps.one (show Kd.M Kd.string _ _ _ a0 [.string a0] from rfl) (Reps.none _ _))); intro v167 w10 ho11 hb hg_ hnew_; clear hg_ hnew_; (first | rw [← Ny166.out] at ho11 | (simp only [Int.reduceToNat] at ho11; rw [← Ny166.out] at ho11)); have n0_ := Aside0.mk (Kd.R_lower ho11 (below_size (by repeat (first | (with_reducible first | exact HB.out | apply below_alloc | apply pw_below_drewN | apply below_drew1) | exact HB.out)))); have n1_ := Aside0.mk (below_step (by repeat (first | (with_reducible first | exact HB.out | apply below_alloc | apply pw_below_drewN | apply below_drew1) | exact HB.out)) hb); clear HB; have HO168 := n0_; have HB := n1_; clear n0_ n1_; clear hb ho11; obtain ⟨Ao12, co12, eo12⟩ := Kd.R_slice HO168.out; subst eo12) | ((with_reducible refine gate_callee (f := 10) rfl ?_); refine goesL_ (some 8) rfl rfl Tryd.func10 (by kernel_rfl) rfl #[.slice Ao12 y166.length co12] rfl (by (try simp only [List.map_toArray, List.map_cons, List.map_nil]); first | done | rfl | (simp only [List.length_drop, List.length_take]; rfl)) ?_; (with_reducible refine (laws_short.calls k _ _ y166 false _ ?side1 ?side2 A4.out).mono ?_); (case side1 => repeat (first | exact (Kd.R_reads' HO168.out).2.2 | (with_reducible refine Kd.C_alloc ?_ _) | (with_reducible refine Kd.C_drewN ?_ _) | (with_reducible refine Kd.C_drew ?_))); (case side2 => exact (Kd.R_reads' HO168.out).2.1); rintro e w' ⟨rfl, ⟨nd, rfl⟩⟩; refine ⟨_, rfl, ?_⟩))
        go_meet
        case rel => exact ⟨_, (true), (by first | rfl | (simp; done) | (simp [*]; done) | (simp [bne_nil_hyb]; done) | (simp [bne_nil_hyb, *]; done)), H', ⟨by first | omega | exact Nat.le_refl _⟩, ⟨by repeat (first | (with_reducible first | exact HB.out | apply below_alloc | apply pw_below_drewN | apply below_drew1) | exact HB.out)⟩⟩
    case rest =>
      clear HC3
      try clear c1
      try clear c2
      try clear c2b0
      try clear c2b1
      try clear p2
      try clear c3
      try clear c5
      try clear c10
      obtain ⟨kq, x14_2, rfl, HA, HJ2, HB⟩ := hcut
      cases kq with
      | zero => exact absurd HA.out (by simp [laws_FnPackagistCanonical.j0])
      | succ kj2 =>
        have H := HA.out
        clear HA
        simp only [laws_FnPackagistCanonical.j0] at H
        by_cases c13 : x14_2 = true
        · subst c13
          have H1 : (some true) = some r := by rw [if_pos rfl] at H; exact H
          clear H
          have H := H1
          clear H1
          obtain rfl := Option.some.inj H
          go_wp2
          go_ret
          exact ⟨by first | rfl | (simp [errW_none, errW_some] <;> rfl) | (simp [*, errW_none, errW_some] <;> rfl) | (simp [bne_nil_hyb]; done), by repeat (first | (with_reducible first | exact HB.out | apply below_alloc | apply pw_below_drewN | apply below_drew1) | exact HB.out)⟩
        · replace c13 := Bool.eq_false_iff.mpr c13
          subst c13
          have H1 : ((impl_PackagistCanonical.f kj2 a0).bind fun t171 => ((spec_PackagistCanonical.f kj2 a0).bind fun t172 => (if t171.toList = t172.toList then ((impl_PackagistCanonical.f kj2 (⟨#[118, 49, 45, 97, 50]⟩ : ByteArray)).bind fun t173 => (some (t173.toList == ([49, 46, 97, 46, 50] : List UInt8)))) else (some false)))) = some r := by rw [if_neg (show ¬ (false = true) by decide)] at H; exact H
          clear H
          have H := H1
          clear H1
          replace H := Option.bind_eq_some_iff.mp H
          obtain ⟨t171, A140, H⟩ := H
          replace H : ((spec_PackagistCanonical.f kj2 a0).bind fun t172 => (if t171.toList = t172.toList then ((impl_PackagistCanonical.f kj2 (⟨#[118, 49, 45, 97, 50]⟩ : ByteArray)).bind fun t173 => (some (t173.toList == ([49, 46, 97, 46, 50] : List UInt8)))) else (some false))) = some r := H
          have A14 := Aside0.mk A140
          clear A140
          replace H := Option.bind_eq_some_iff.mp H
          obtain ⟨t172, A150, H⟩ := H
          replace H : (if t171.toList = t172.toList then ((impl_PackagistCanonical.f kj2 (⟨#[118, 49, 45, 97, 50]⟩ : ByteArray)).bind fun t173 => (some (t173.toList == ([49, 46, 97, 46, 50] : List UInt8)))) else (some false)) = some r := H
          have A15 := Aside0.mk A150
          clear A150
          by_cases c16 : t171.toList = t172.toList
          · rw [if_pos c16] at H
            have c16b0 : (t171.toList == t172.toList) = true := beq_iff_eq.mpr c16
            have c16b1 : (t171.toList != t172.toList) = false := bne_eq_false_iff_eq.mpr c16
            clear c16
            replace H := Option.bind_eq_some_iff.mp H
            obtain ⟨t173, A170, H⟩ := H
            replace H : (some (t173.toList == ([49, 46, 97, 46, 50] : List UInt8))) = some r := H
            have A17 := Aside0.mk A170
            clear A170
            obtain rfl := Option.some.inj H
            go_wp2_with (first | ((with_reducible refine gate_callee (f := 12) rfl ?_); refine goesL_ (some 16) rfl rfl Tryd.func12 (by kernel_rfl) rfl #[.string a0] rfl (by (try simp only [List.map_toArray, List.map_cons, List.map_nil]); first | done | rfl | (simp only [List.length_drop, List.length_take]; rfl)) ?_; (with_reducible refine (impl_PackagistCanonical.calls kj2 a0 t171 _ A14.out).mono ?_); rintro e w18 ⟨rfl, hb⟩; refine ⟨_, rfl, ?_⟩; have n0_ := Aside0.mk (below_step (by repeat (first | (with_reducible first | exact HB.out | apply below_alloc | apply pw_below_drewN | apply below_drew1) | exact HB.out)) hb); clear HB; have HB := n0_; clear n0_; (try clear hb); (try clear hb2); (try clear hk); (try clear hi)) | ((with_reducible refine gate_callee (f := 13) rfl ?_); refine goesL_ (some 18) rfl rfl Tryd.func13 (by kernel_rfl) rfl #[.string a0] rfl (by (try simp only [List.map_toArray, List.map_cons, List.map_nil]); first | done | rfl | (simp only [List.length_drop, List.length_take]; rfl)) ?_; (with_reducible refine (spec_PackagistCanonical.calls kj2 a0 t172 _ A15.out).mono ?_); rintro e w19 ⟨rfl, hb⟩; refine ⟨_, rfl, ?_⟩; have n0_ := Aside0.mk (below_step (by repeat (first | (with_reducible first | exact HB.out | apply below_alloc | apply pw_below_drewN | apply below_drew1) | exact HB.out)) hb); clear HB; have HB := n0_; clear n0_; (try clear hb); (try clear hb2); (try clear hk); (try clear hi)) | (go_at_call 12; (with_reducible refine (impl_PackagistCanonical.calls kj2 (⟨#[118, 49, 45, 97, 50]⟩ : ByteArray) t173 _ A17.out).mono ?_); rintro e w20 ⟨rfl, hb⟩; have n0_ := Aside0.mk (below_step (by repeat (first | (with_reducible first | exact HB.out | apply below_alloc | apply pw_below_drewN | apply below_drew1) | exact HB.out)) hb); clear HB; have HB := n0_; clear n0_; (try clear hb); (try clear hb2); (try clear hk); (try clear hi)))
            go_ret
            exact ⟨by first | rfl | (simp [errW_none, errW_some] <;> rfl) | (simp [*, errW_none, errW_some] <;> rfl) | (simp [bne_nil_hyb]; done), by repeat (first | (with_reducible first | exact HB.out | apply below_alloc | apply pw_below_drewN | apply below_drew1) | exact HB.out)⟩
          · rw [if_neg c16] at H
            have c16b0 : (t171.toList == t172.toList) = false := beq_eq_false_iff_ne.mpr c16
            have c16b1 : (t171.toList != t172.toList) = true := bne_iff_ne.mpr c16
            obtain rfl := Option.some.inj H
            go_wp2_with (first | ((with_reducible refine gate_callee (f := 12) rfl ?_); refine goesL_ (some 16) rfl rfl Tryd.func12 (by kernel_rfl) rfl #[.string a0] rfl (by (try simp only [List.map_toArray, List.map_cons, List.map_nil]); first | done | rfl | (simp only [List.length_drop, List.length_take]; rfl)) ?_; (with_reducible refine (impl_PackagistCanonical.calls kj2 a0 t171 _ A14.out).mono ?_); rintro e w21 ⟨rfl, hb⟩; refine ⟨_, rfl, ?_⟩; have n0_ := Aside0.mk (below_step (by repeat (first | (with_reducible first | exact HB.out | apply below_alloc | apply pw_below_drewN | apply below_drew1) | exact HB.out)) hb); clear HB; have HB := n0_; clear n0_; (try clear hb); (try clear hb2); (try clear hk); (try clear hi)) | ((with_reducible refine gate_callee (f := 13) rfl ?_); refine goesL_ (some 18) rfl rfl Tryd.func13 (by kernel_rfl) rfl #[.string a0] rfl (by (try simp only [List.map_toArray, List.map_cons, List.map_nil]); first | done | rfl | (simp only [List.length_drop, List.length_take]; rfl)) ?_; (with_reducible refine (spec_PackagistCanonical.calls kj2 a0 t172 _ A15.out).mono ?_); rintro e w22 ⟨rfl, hb⟩; refine ⟨_, rfl, ?_⟩; have n0_ := Aside0.mk (below_step (by repeat (first | (with_reducible first | exact HB.out | apply below_alloc | apply pw_below_drewN | apply below_drew1) | exact HB.out)) hb); clear HB; have HB := n0_; clear n0_; (try clear hb); (try clear hb2); (try clear hk); (try clear hi)))
            go_ret
            exact ⟨by first | rfl | (simp [errW_none, errW_some] <;> rfl) | (simp [*, errW_none, errW_some] <;> rfl) | (simp [bne_nil_hyb]; done), by repeat (first | (with_reducible first | exact HB.out | apply below_alloc | apply pw_below_drewN | apply below_drew1) | exact HB.out)⟩

/-- THE ONE PURE STATEMENT of laws_FnPackagistCanonical: yours. -/
def laws_FnPackagistCanonical.Pure : Prop := ∀ (a0 : ByteArray), a0.size ≤ 140737488351232 → ∃ k, laws_FnPackagistCanonical.f k a0 = some true
theorem laws_FnPackagistCanonical.walk (P : laws_FnPackagistCanonical.Pure) (a0 : ByteArray) (w : World) (w0 : a0.size ≤ 140737488351232) :
    Calls Tryd.prog 3 #[.string a0] w fun e w' => e = .returned (.bool true) ∧ Below w.heap.size w w' := by
  obtain ⟨k, h⟩ := P a0 w0
  refine (laws_FnPackagistCanonical.calls k a0 true w h).mono ?_
  rintro e w' ⟨rfl, hd⟩
  exact ⟨rfl, hd⟩

/-! ### laws_FnPackagistTwice: function 4 -/
def laws_FnPackagistTwice.j0 : Nat → ByteArray → Bool → Option (Bool)
  | 0, _, _ => none
  | k + 1, x0, x30 => if x30 = true then (some true) else ((impl_PackagistCanonical.f k x0).bind fun t179 => (if 1 + t179.size ≤ 9223372036854775807 then ((impl_PackagistCanonical.f k ((⟨#[118]⟩ : ByteArray) ++ t179)).bind fun t180 => ((impl_PackagistCanonical.f k t179).bind fun t181 => (if t181.toList = t179.toList then (if t180.toList = t179.toList then (some (t179.toList != ([] : List UInt8))) else (some false)) else (some false)))) else (none)))
def laws_FnPackagistTwice.f (k : Nat) (a0 : ByteArray) : Option (Bool) := if (a0.size : Int) > 2147483647 then (some true) else ((laws_short.f k (([a0] : List ByteArray))).bind fun t177 => (if t177 = true then ((spec_PackagistTextKnown.f k a0).bind fun t178 => (if t178 = true then (if a0.toList = ([] : List UInt8) then (laws_FnPackagistTwice.j0 k a0 true) else (if 0 < (a0.size : Int) then (if (bt a0 0) = 118 then (laws_FnPackagistTwice.j0 k a0 true) else (laws_FnPackagistTwice.j0 k a0 ((bt a0 0) == 86))) else (none))) else (laws_FnPackagistTwice.j0 k a0 true))) else (laws_FnPackagistTwice.j0 k a0 true)))
theorem laws_FnPackagistTwice.mono_l : ∀ k, (∀ y0 y1, LeO (laws_FnPackagistTwice.j0 k y0 y1) (laws_FnPackagistTwice.j0 (k + 1) y0 y1))
  | 0 => fun _ _ r h => by simp [laws_FnPackagistTwice.j0] at h
  | k + 1 => by
    have ih0 := laws_FnPackagistTwice.mono_l k
    · intro y0 y1
      unfold laws_FnPackagistTwice.j0
      repeat' first
      | (with_reducible exact ih0 _ _)
      | (with_reducible exact impl_PackagistCanonical.mono _ _)
      | (with_reducible exact laws_short.mono _ _)
      | (with_reducible exact spec_PackagistTextKnown.mono _ _)
      | (with_reducible exact LeO.refl _)
      | (with_reducible exact LeO.none _)
      | (with_reducible refine LeO.ite ?_ ?_)
      | (with_reducible refine LeO.bind ?_ (fun _ => ?_))
      | exact ih0 _ _
      | exact impl_PackagistCanonical.mono _ _
      | exact laws_short.mono _ _
      | exact spec_PackagistTextKnown.mono _ _
      | exact LeO.none _
      | refine LeO.ite ?_ ?_
      | refine LeO.bind ?_ (fun _ => ?_)
theorem laws_FnPackagistTwice.mono : ∀ a0 k, LeO (laws_FnPackagistTwice.f k a0) (laws_FnPackagistTwice.f (k + 1) a0) := by
  intro a0 k
  have ih0 := laws_FnPackagistTwice.mono_l k
  unfold laws_FnPackagistTwice.f
  repeat' first
      | (with_reducible exact ih0 _ _)
      | (with_reducible exact impl_PackagistCanonical.mono _ _)
      | (with_reducible exact laws_short.mono _ _)
      | (with_reducible exact spec_PackagistTextKnown.mono _ _)
      | (with_reducible exact LeO.refl _)
      | (with_reducible exact LeO.none _)
      | (with_reducible refine LeO.ite ?_ ?_)
      | (with_reducible refine LeO.bind ?_ (fun _ => ?_))
      | exact ih0 _ _
      | exact impl_PackagistCanonical.mono _ _
      | exact laws_short.mono _ _
      | exact spec_PackagistTextKnown.mono _ _
      | exact LeO.none _
      | refine LeO.ite ?_ ?_
      | refine LeO.bind ?_ (fun _ => ?_)
set_option maxHeartbeats 8000000 in
set_option maxRecDepth 100000 in
theorem laws_FnPackagistTwice.calls (k : Nat) (a0 : ByteArray) (r : Bool) (w : World) (h : laws_FnPackagistTwice.f k a0 = some r) :
    Calls Tryd.prog 4 #[.string a0] w fun e w' => e = .returned (.bool r) ∧ Below w.heap.size w w' := by
  have HB := Aside0.mk (Below.refl w.heap.size w)
  have H : (if (a0.size : Int) > 2147483647 then (some true) else ((laws_short.f k (([a0] : List ByteArray))).bind fun t177 => (if t177 = true then ((spec_PackagistTextKnown.f k a0).bind fun t178 => (if t178 = true then (if a0.toList = ([] : List UInt8) then (laws_FnPackagistTwice.j0 k a0 true) else (if 0 < (a0.size : Int) then (if (bt a0 0) = 118 then (laws_FnPackagistTwice.j0 k a0 true) else (laws_FnPackagistTwice.j0 k a0 ((bt a0 0) == 86))) else (none))) else (laws_FnPackagistTwice.j0 k a0 true))) else (laws_FnPackagistTwice.j0 k a0 true)))) = some r := h
  clear h
  by_cases c2 : (a0.size : Int) > 2147483647
  · rw [if_pos c2] at H
    have c2b0 : decide (2147483647 < (a0.size : Int)) = true := decide_eq_true c2
    have c2b1 : decide (2147483647 < a0.size) = true := decide_eq_true (by omega)
    clear c2
    obtain rfl := Option.some.inj H
    go_enter Tryd.func4, Tryd.ntmps4
    go_wp2
    go_ret
    exact ⟨by first | rfl | (simp [errW_none, errW_some] <;> rfl) | (simp [*, errW_none, errW_some] <;> rfl) | (simp [bne_nil_hyb]; done), by repeat (first | (with_reducible first | exact HB.out | apply below_alloc | apply pw_below_drewN | apply below_drew1) | exact HB.out)⟩
  · rw [if_neg c2] at H
    have c2b0 : decide (2147483647 < (a0.size : Int)) = false := decide_eq_false c2
    have c2b1 : decide (2147483647 < a0.size) = false := decide_eq_false (by omega)
    clear c2
    have HC3 := Aside0.mk H
    clear H
    go_enter Tryd.func4, Tryd.ntmps4
    go_upto_region 3 with (fail)
    go_cut [30] (fun v30 wc => ∃ (kq : Nat) (x30_2 : Bool), v30 = .bool x30_2 ∧ Aside0 (laws_FnPackagistTwice.j0 kq a0 x30_2 = some r) ∧ Aside0 (kq ≤ k) ∧ Aside0 (Below w.heap.size w wc))
    case first =>
      have H := HC3.out
      clear HC3
      obtain ⟨y174, hy174⟩ : ∃ y_ : List ByteArray, y_ = (([a0] : List ByteArray)) := ⟨_, rfl⟩
      replace H : ((laws_short.f k y174).bind fun t177 => (if t177 = true then ((spec_PackagistTextKnown.f k a0).bind fun t178 => (if t178 = true then (if a0.toList = ([] : List UInt8) then (laws_FnPackagistTwice.j0 k a0 true) else (if 0 < (a0.size : Int) then (if (bt a0 0) = 118 then (laws_FnPackagistTwice.j0 k a0 true) else (laws_FnPackagistTwice.j0 k a0 ((bt a0 0) == 86))) else (none))) else (laws_FnPackagistTwice.j0 k a0 true))) else (laws_FnPackagistTwice.j0 k a0 true))) = some r := by first | (rw [hy174]; with_reducible exact H) | (have H2_ := (Option.bind_some _ _).symm.trans H; rw [hy174]; with_reducible exact H2_) | (have H2_ := (Option.bind_some _ _).symm.trans H; with_reducible exact H2_) | with_reducible exact H | (rw [hy174]; exact H) | exact H
      have Ny174 := Aside0.mk hy174
      clear hy174
      replace H := Option.bind_eq_some_iff.mp H
      obtain ⟨t177, A40, H⟩ := H
      replace H : (if t177 = true then ((spec_PackagistTextKnown.f k a0).bind fun t178 => (if t178 = true then (if a0.toList = ([] : List UInt8) then (laws_FnPackagistTwice.j0 k a0 true) else (if 0 < (a0.size : Int) then (if (bt a0 0) = 118 then (laws_FnPackagistTwice.j0 k a0 true) else (laws_FnPackagistTwice.j0 k a0 ((bt a0 0) == 86))) else (none))) else (laws_FnPackagistTwice.j0 k a0 true))) else (laws_FnPackagistTwice.j0 k a0 true)) = some r := H
      have A4 := Aside0.mk A40
      clear A40
      by_cases c5 : t177 = true
      · subst c5
        have H1 : ((spec_PackagistTextKnown.f k a0).bind fun t178 => (if t178 = true then (if a0.toList = ([] : List UInt8) then (laws_FnPackagistTwice.j0 k a0 true) else (if 0 < (a0.size : Int) then (if (bt a0 0) = 118 then (laws_FnPackagistTwice.j0 k a0 true) else (laws_FnPackagistTwice.j0 k a0 ((bt a0 0) == 86))) else (none))) else (laws_FnPackagistTwice.j0 k a0 true))) = some r := by rw [if_pos rfl] at H; exact H
        clear H
        have H := H1
        clear H1
        replace H := Option.bind_eq_some_iff.mp H
        obtain ⟨t178, A60, H⟩ := H
        replace H : (if t178 = true then (if a0.toList = ([] : List UInt8) then (laws_FnPackagistTwice.j0 k a0 true) else (if 0 < (a0.size : Int) then (if (bt a0 0) = 118 then (laws_FnPackagistTwice.j0 k a0 true) else (laws_FnPackagistTwice.j0 k a0 ((bt a0 0) == 86))) else (none))) else (laws_FnPackagistTwice.j0 k a0 true)) = some r := H
        have A6 := Aside0.mk A60
        clear A60
        by_cases c7 : t178 = true
        · subst c7
          have H1 : (if a0.toList = ([] : List UInt8) then (laws_FnPackagistTwice.j0 k a0 true) else (if 0 < (a0.size : Int) then (if (bt a0 0) = 118 then (laws_FnPackagistTwice.j0 k a0 true) else (laws_FnPackagistTwice.j0 k a0 ((bt a0 0) == 86))) else (none))) = some r := by rw [if_pos rfl] at H; exact H
          clear H
          have H := H1
          clear H1
          by_cases c8 : a0.toList = ([] : List UInt8)
          · rw [if_pos c8] at H
            have c8b0 : (a0.toList == ([] : List UInt8)) = true := beq_iff_eq.mpr c8
            have c8b1 : (a0.toList != ([] : List UInt8)) = false := bne_eq_false_iff_eq.mpr c8
            clear c8
            (first | rw [c8b0] | (simp only [i64_w, i32_w]; rw [c8b0]) | skip)
            have H' := Aside0.mk H
            clear H
            go_wp2_with (first | ((with_reducible refine gate_dst (N := 9) rfl ?_); refine Kd.R_lit Kd.string _ 9 ?hg (N := 9) ?hd (xs := ([a0] : List ByteArray)) (inner := [.string a0]) (ok := fun _ => True) (okp := fun _ => True) ?hr ?hp (fun _ hk => hk) trivial (Below.refl _ _) (Nat.le_refl _) (by simp) ?_; (case hd => rfl); (case hg => rfl); (case hr => first | (go_simp; done) | (go_simp; rfl)); (case hp => exact (Reps.one (show Kd.M Kd.string _ _ _ a0 [.string a0] from rfl) (Reps.none _ _))); intro v175 w9 ho10 hb hg_ hnew_; clear hg_ hnew_; (first | rw [← Ny174.out] at ho10 | (simp only [Int.reduceToNat] at ho10; rw [← Ny174.out] at ho10)); have n0_ := Aside0.mk (Kd.R_lower ho10 (below_size (by repeat (first | (with_reducible first | exact HB.out | apply below_alloc | apply pw_below_drewN | apply below_drew1) | exact HB.out)))); have n1_ := Aside0.mk (below_step (by repeat (first | (with_reducible first | exact HB.out | apply below_alloc | apply pw_below_drewN | apply below_drew1) | exact HB.out)) hb); clear HB; have HO176 := n0_; have HB := n1_; clear n0_ n1_; clear hb ho10; obtain ⟨Ao11, co11, eo11⟩ := Kd.R_slice HO176.out; subst eo11) | ((with_reducible refine gate_callee (f := 10) rfl ?_); refine goesL_ (some 10) rfl rfl Tryd.func10 (by kernel_rfl) rfl #[.slice Ao11 y174.length co11] rfl (by (try simp only [List.map_toArray, List.map_cons, List.map_nil]); first | done | rfl | (simp only [List.length_drop, List.length_take]; rfl)) ?_; (with_reducible refine (laws_short.calls k _ _ y174 true _ ?side1 ?side2 A4.out).mono ?_); (case side1 => repeat (first | exact (Kd.R_reads' HO176.out).2.2 | (with_reducible refine Kd.C_alloc ?_ _) | (with_reducible refine Kd.C_drewN ?_ _) | (with_reducible refine Kd.C_drew ?_))); (case side2 => exact (Kd.R_reads' HO176.out).2.1); rintro e w' ⟨rfl, ⟨nd, rfl⟩⟩; refine ⟨_, rfl, ?_⟩) | (go_at_call 11; (with_reducible refine (spec_PackagistTextKnown.calls k a0 true _ A6.out).mono ?_); rintro e w' ⟨rfl, ⟨nd, rfl⟩⟩))
            go_meet
            case rel => exact ⟨_, (true), (by first | rfl | (simp; done) | (simp [*]; done) | (simp [bne_nil_hyb]; done) | (simp [bne_nil_hyb, *]; done)), H', ⟨by first | omega | exact Nat.le_refl _⟩, ⟨by repeat (first | (with_reducible first | exact HB.out | apply below_alloc | apply pw_below_drewN | apply below_drew1) | exact HB.out)⟩⟩
          · rw [if_neg c8] at H
            have c8b0 : (a0.toList == ([] : List UInt8)) = false := beq_eq_false_iff_ne.mpr c8
            have c8b1 : (a0.toList != ([] : List UInt8)) = true := bne_iff_ne.mpr c8
            (first | rw [c8b0] | (simp only [i64_w, i32_w]; rw [c8b0]) | skip)
            by_cases c12 : 0 < (a0.size : Int)
            · rw [if_pos c12] at H
              have c12b0 : decide (0 < (a0.size : Int)) = true := decide_eq_true c12
              have c12b1 : decide (0 < a0.size) = true := decide_eq_true (by omega)
              clear c12
              by_cases c14 : (bt a0 0) = 118
              · rw [if_pos c14] at H
                have c14b0 : ((bt a0 0) == 118) = true := beq_iff_eq.mpr c14
                have c14b1 : ((bt a0 0) != 118) = false := bne_eq_false_iff_eq.mpr c14
                clear c14
                have H' := Aside0.mk H
                clear H
                go_wp2_with (first | ((with_reducible refine gate_dst (N := 9) rfl ?_); refine Kd.R_lit Kd.string _ 9 ?hg (N := 9) ?hd (xs := ([a0] : List ByteArray)) (inner := [.string a0]) (ok := fun _ => True) (okp := fun _ => True) ?hr ?hp (fun _ hk => hk) trivial (Below.refl _ _) (Nat.le_refl _) (by simp) ?_; (case hd => rfl); (case hg => rfl); (case hr => first | (go_simp; done) | (go_simp; rfl)); (case hp => exact (Reps.one (show Kd.M Kd.string _ _ _ a0 [.string a0] from rfl) (Reps.none _ _))); intro v175 w15 ho16 hb hg_ hnew_; clear hg_ hnew_; (first | rw [← Ny174.out] at ho16 | (simp only [Int.reduceToNat] at ho16; rw [← Ny174.out] at ho16)); have n0_ := Aside0.mk (Kd.R_lower ho16 (below_size (by repeat (first | (with_reducible first | exact HB.out | apply below_alloc | apply pw_below_drewN | apply below_drew1) | exact HB.out)))); have n1_ := Aside0.mk (below_step (by repeat (first | (with_reducible first | exact HB.out | apply below_alloc | apply pw_below_drewN | apply below_drew1) | exact HB.out)) hb); clear HB; have HO176 := n0_; have HB := n1_; clear n0_ n1_; clear hb ho16; obtain ⟨Ao17, co17, eo17⟩ := Kd.R_slice HO176.out; subst eo17) | ((with_reducible refine gate_callee (f := 10) rfl ?_); refine goesL_ (some 10) rfl rfl Tryd.func10 (by kernel_rfl) rfl #[.slice Ao17 y174.length co17] rfl (by (try simp only [List.map_toArray, List.map_cons, List.map_nil]); first | done | rfl | (simp only [List.length_drop, List.length_take]; rfl)) ?_; (with_reducible refine (laws_short.calls k _ _ y174 true _ ?side1 ?side2 A4.out).mono ?_); (case side1 => repeat (first | exact (Kd.R_reads' HO176.out).2.2 | (with_reducible refine Kd.C_alloc ?_ _) | (with_reducible refine Kd.C_drewN ?_ _) | (with_reducible refine Kd.C_drew ?_))); (case side2 => exact (Kd.R_reads' HO176.out).2.1); rintro e w' ⟨rfl, ⟨nd, rfl⟩⟩; refine ⟨_, rfl, ?_⟩) | (go_at_call 11; (with_reducible refine (spec_PackagistTextKnown.calls k a0 true _ A6.out).mono ?_); rintro e w' ⟨rfl, ⟨nd, rfl⟩⟩; have p13 : 0 ≤ (0 : Int) := (by omega); have q13 : 0 < a0.size := (by have : (0 : Int) < (a0.size : Int) := of_decide_eq_true (by first | (with_reducible assumption) | assumption); omega); have hx13 : ∀ h : 0 < a0.size, ((a0[0]'h).toNat : Int) = bt a0 0 := bt_at a0 0; clear p13; have qi13 : (0 < (a0.size : Int)) = True := eq_true (of_decide_eq_true (by first | (with_reducible assumption) | assumption)); replace q13 := eq_true q13))
                go_meet
                case rel => exact ⟨_, (true), (by first | rfl | (simp; done) | (simp [*]; done) | (simp [bne_nil_hyb]; done) | (simp [bne_nil_hyb, *]; done)), H', ⟨by first | omega | exact Nat.le_refl _⟩, ⟨by repeat (first | (with_reducible first | exact HB.out | apply below_alloc | apply pw_below_drewN | apply below_drew1) | exact HB.out)⟩⟩
              · rw [if_neg c14] at H
                have c14b0 : ((bt a0 0) == 118) = false := beq_eq_false_iff_ne.mpr c14
                have c14b1 : ((bt a0 0) != 118) = true := bne_iff_ne.mpr c14
                have H' := Aside0.mk H
                clear H
                go_wp2_with (first | ((with_reducible refine gate_dst (N := 9) rfl ?_); refine Kd.R_lit Kd.string _ 9 ?hg (N := 9) ?hd (xs := ([a0] : List ByteArray)) (inner := [.string a0]) (ok := fun _ => True) (okp := fun _ => True) ?hr ?hp (fun _ hk => hk) trivial (Below.refl _ _) (Nat.le_refl _) (by simp) ?_; (case hd => rfl); (case hg => rfl); (case hr => first | (go_simp; done) | (go_simp; rfl)); (case hp => exact (Reps.one (show Kd.M Kd.string _ _ _ a0 [.string a0] from rfl) (Reps.none _ _))); intro v175 w19 ho20 hb hg_ hnew_; clear hg_ hnew_; (first | rw [← Ny174.out] at ho20 | (simp only [Int.reduceToNat] at ho20; rw [← Ny174.out] at ho20)); have n0_ := Aside0.mk (Kd.R_lower ho20 (below_size (by repeat (first | (with_reducible first | exact HB.out | apply below_alloc | apply pw_below_drewN | apply below_drew1) | exact HB.out)))); have n1_ := Aside0.mk (below_step (by repeat (first | (with_reducible first | exact HB.out | apply below_alloc | apply pw_below_drewN | apply below_drew1) | exact HB.out)) hb); clear HB; have HO176 := n0_; have HB := n1_; clear n0_ n1_; clear hb ho20; obtain ⟨Ao21, co21, eo21⟩ := Kd.R_slice HO176.out; subst eo21) | ((with_reducible refine gate_callee (f := 10) rfl ?_); refine goesL_ (some 10) rfl rfl Tryd.func10 (by kernel_rfl) rfl #[.slice Ao21 y174.length co21] rfl (by (try simp only [List.map_toArray, List.map_cons, List.map_nil]); first | done | rfl | (simp only [List.length_drop, List.length_take]; rfl)) ?_; (with_reducible refine (laws_short.calls k _ _ y174 true _ ?side1 ?side2 A4.out).mono ?_); (case side1 => repeat (first | exact (Kd.R_reads' HO176.out).2.2 | (with_reducible refine Kd.C_alloc ?_ _) | (with_reducible refine Kd.C_drewN ?_ _) | (with_reducible refine Kd.C_drew ?_))); (case side2 => exact (Kd.R_reads' HO176.out).2.1); rintro e w' ⟨rfl, ⟨nd, rfl⟩⟩; refine ⟨_, rfl, ?_⟩) | (go_at_call 11; (with_reducible refine (spec_PackagistTextKnown.calls k a0 true _ A6.out).mono ?_); rintro e w' ⟨rfl, ⟨nd, rfl⟩⟩; have p13 : 0 ≤ (0 : Int) := (by omega); have q13 : 0 < a0.size := (by have : (0 : Int) < (a0.size : Int) := of_decide_eq_true (by first | (with_reducible assumption) | assumption); omega); have hx13 : ∀ h : 0 < a0.size, ((a0[0]'h).toNat : Int) = bt a0 0 := bt_at a0 0; clear p13; have qi13 : (0 < (a0.size : Int)) = True := eq_true (of_decide_eq_true (by first | (with_reducible assumption) | assumption)); replace q13 := eq_true q13; have p18 : 0 ≤ (0 : Int) := (by omega); have q18 : 0 < a0.size := (by have : (0 : Int) < (a0.size : Int) := of_decide_eq_true (by first | (with_reducible assumption) | assumption); omega); have hx18 : ∀ h : 0 < a0.size, ((a0[0]'h).toNat : Int) = bt a0 0 := bt_at a0 0; clear p18; have qi18 : (0 < (a0.size : Int)) = True := eq_true (of_decide_eq_true (by first | (with_reducible assumption) | assumption)); replace q18 := eq_true q18))
                go_meet
                case rel => exact ⟨_, (((bt a0 0) == 86)), (by first | rfl | (simp; done) | (simp [*]; done) | (simp [bne_nil_hyb]; done) | (simp [bne_nil_hyb, *]; done)), H', ⟨by first | omega | exact Nat.le_refl _⟩, ⟨by repeat (first | (with_reducible first | exact HB.out | apply below_alloc | apply pw_below_drewN | apply below_drew1) | exact HB.out)⟩⟩
            · rw [if_neg c12] at H
              exact absurd H (by simp)
        · replace c7 := Bool.eq_false_iff.mpr c7
          subst c7
          have H1 : (laws_FnPackagistTwice.j0 k a0 true) = some r := by rw [if_neg (show ¬ (false = true) by decide)] at H; exact H
          clear H
          have H := H1
          clear H1
          have H' := Aside0.mk H
          clear H
          go_wp2_with (first | ((with_reducible refine gate_dst (N := 9) rfl ?_); refine Kd.R_lit Kd.string _ 9 ?hg (N := 9) ?hd (xs := ([a0] : List ByteArray)) (inner := [.string a0]) (ok := fun _ => True) (okp := fun _ => True) ?hr ?hp (fun _ hk => hk) trivial (Below.refl _ _) (Nat.le_refl _) (by simp) ?_; (case hd => rfl); (case hg => rfl); (case hr => first | (go_simp; done) | (go_simp; rfl)); (case hp => exact (Reps.one (show Kd.M Kd.string _ _ _ a0 [.string a0] from rfl) (Reps.none _ _))); intro v175 w22 ho23 hb hg_ hnew_; clear hg_ hnew_; (first | rw [← Ny174.out] at ho23 | (simp only [Int.reduceToNat] at ho23; rw [← Ny174.out] at ho23)); have n0_ := Aside0.mk (Kd.R_lower ho23 (below_size (by repeat (first | (with_reducible first | exact HB.out | apply below_alloc | apply pw_below_drewN | apply below_drew1) | exact HB.out)))); have n1_ := Aside0.mk (below_step (by repeat (first | (with_reducible first | exact HB.out | apply below_alloc | apply pw_below_drewN | apply below_drew1) | exact HB.out)) hb); clear HB; have HO176 := n0_; have HB := n1_; clear n0_ n1_; clear hb ho23; obtain ⟨Ao24, co24, eo24⟩ := Kd.R_slice HO176.out; subst eo24) | ((with_reducible refine gate_callee (f := 10) rfl ?_); refine goesL_ (some 10) rfl rfl Tryd.func10 (by kernel_rfl) rfl #[.slice Ao24 y174.length co24] rfl (by (try simp only [List.map_toArray, List.map_cons, List.map_nil]); first | done | rfl | (simp only [List.length_drop, List.length_take]; rfl)) ?_; (with_reducible refine (laws_short.calls k _ _ y174 true _ ?side1 ?side2 A4.out).mono ?_); (case side1 => repeat (first | exact (Kd.R_reads' HO176.out).2.2 | (with_reducible refine Kd.C_alloc ?_ _) | (with_reducible refine Kd.C_drewN ?_ _) | (with_reducible refine Kd.C_drew ?_))); (case side2 => exact (Kd.R_reads' HO176.out).2.1); rintro e w' ⟨rfl, ⟨nd, rfl⟩⟩; refine ⟨_, rfl, ?_⟩) | (go_at_call 11; (with_reducible refine (spec_PackagistTextKnown.calls k a0 false _ A6.out).mono ?_); rintro e w' ⟨rfl, ⟨nd, rfl⟩⟩))
          go_meet
          case rel => exact ⟨_, (true), (by first | rfl | (simp; done) | (simp [*]; done) | (simp [bne_nil_hyb]; done) | (simp [bne_nil_hyb, *]; done)), H', ⟨by first | omega | exact Nat.le_refl _⟩, ⟨by repeat (first | (with_reducible first | exact HB.out | apply below_alloc | apply pw_below_drewN | apply below_drew1) | exact HB.out)⟩⟩
      · replace c5 := Bool.eq_false_iff.mpr c5
        subst c5
        have H1 : (laws_FnPackagistTwice.j0 k a0 true) = some r := by rw [if_neg (show ¬ (false = true) by decide)] at H; exact H
        clear H
        have H := H1
        clear H1
        have H' := Aside0.mk H
        clear H
        go_wp2_with (first | ((with_reducible refine gate_dst (N := 9) rfl ?_); refine Kd.R_lit Kd.string _ 9 ?hg (N := 9) ?hd (xs := ([a0] : List ByteArray)) (inner := [.string a0]) (ok := fun _ => True) (okp := fun _ => True) ?hr ?hp (fun _ hk => hk) trivial (Below.refl _ _) (Nat.le_refl _) (by simp) ?_; (case hd => rfl); (case hg => rfl); (case hr => first | (go_simp; done) | (go_simp; rfl)); (case hp => exact (Reps.one (show Kd.M Kd.string _ _ _ a0 [.string a0] from rfl) (Reps.none _ _))); intro v175 w25 ho26 hb hg_ hnew_; clear hg_ hnew_; (first | rw [← Ny174.out] at ho26 | (simp only [Int.reduceToNat] at ho26; rw [← Ny174.out] at ho26)); have n0_ := Aside0.mk (Kd.R_lower ho26 (below_size (by repeat (first | (with_reducible first | exact HB.out | apply below_alloc | apply pw_below_drewN | apply below_drew1) | exact HB.out)))); have n1_ := Aside0.mk (below_step (by repeat (first | (with_reducible first | exact HB.out | apply below_alloc | apply pw_below_drewN | apply below_drew1) | exact HB.out)) hb); clear HB; have HO176 := n0_; have HB := n1_; clear n0_ n1_; clear hb ho26; obtain ⟨Ao27, co27, eo27⟩ := Kd.R_slice HO176.out; subst eo27) | ((with_reducible refine gate_callee (f := 10) rfl ?_); refine goesL_ (some 10) rfl rfl Tryd.func10 (by kernel_rfl) rfl #[.slice Ao27 y174.length co27] rfl (by (try simp only [List.map_toArray, List.map_cons, List.map_nil]); first | done | rfl | (simp only [List.length_drop, List.length_take]; rfl)) ?_; (with_reducible refine (laws_short.calls k _ _ y174 false _ ?side1 ?side2 A4.out).mono ?_); (case side1 => repeat (first | exact (Kd.R_reads' HO176.out).2.2 | (with_reducible refine Kd.C_alloc ?_ _) | (with_reducible refine Kd.C_drewN ?_ _) | (with_reducible refine Kd.C_drew ?_))); (case side2 => exact (Kd.R_reads' HO176.out).2.1); rintro e w' ⟨rfl, ⟨nd, rfl⟩⟩; refine ⟨_, rfl, ?_⟩))
        go_meet
        case rel => exact ⟨_, (true), (by first | rfl | (simp; done) | (simp [*]; done) | (simp [bne_nil_hyb]; done) | (simp [bne_nil_hyb, *]; done)), H', ⟨by first | omega | exact Nat.le_refl _⟩, ⟨by repeat (first | (with_reducible first | exact HB.out | apply below_alloc | apply pw_below_drewN | apply below_drew1) | exact HB.out)⟩⟩
    case rest =>
      clear HC3
      try clear c1
      try clear p1
      try clear q1
      try clear hx1
      try clear qi1
      try clear c2
      try clear c2b0
      try clear c2b1
      try clear p2
      try clear c4
      try clear c5
      try clear c7
      try clear c8
      try clear c8b0
      try clear c8b1
      try clear c10
      try clear c12
      try clear c12b0
      try clear c12b1
      try clear p13
      try clear q13
      try clear hx13
      try clear qi13
      try clear c14
      try clear c14b0
      try clear c14b1
      try clear p18
      try clear q18
      try clear hx18
      try clear qi18
      try clear p13
      try clear p18
      try clear q13
      try clear q18
      obtain ⟨kq, x30_2, rfl, HA, HJ2, HB⟩ := hcut
      cases kq with
      | zero => exact absurd HA.out (by simp [laws_FnPackagistTwice.j0])
      | succ kj2 =>
        have H := HA.out
        clear HA
        simp only [laws_FnPackagistTwice.j0] at H
        by_cases c28 : x30_2 = true
        · subst c28
          have H1 : (some true) = some r := by rw [if_pos rfl] at H; exact H
          clear H
          have H := H1
          clear H1
          obtain rfl := Option.some.inj H
          go_wp2
          go_ret
          exact ⟨by first | rfl | (simp [errW_none, errW_some] <;> rfl) | (simp [*, errW_none, errW_some] <;> rfl) | (simp [bne_nil_hyb]; done), by repeat (first | (with_reducible first | exact HB.out | apply below_alloc | apply pw_below_drewN | apply below_drew1) | exact HB.out)⟩
        · replace c28 := Bool.eq_false_iff.mpr c28
          subst c28
          have H1 : ((impl_PackagistCanonical.f kj2 a0).bind fun t179 => (if 1 + t179.size ≤ 9223372036854775807 then ((impl_PackagistCanonical.f kj2 ((⟨#[118]⟩ : ByteArray) ++ t179)).bind fun t180 => ((impl_PackagistCanonical.f kj2 t179).bind fun t181 => (if t181.toList = t179.toList then (if t180.toList = t179.toList then (some (t179.toList != ([] : List UInt8))) else (some false)) else (some false)))) else (none))) = some r := by rw [if_neg (show ¬ (false = true) by decide)] at H; exact H
          clear H
          have H := H1
          clear H1
          replace H := Option.bind_eq_some_iff.mp H
          obtain ⟨t179, A290, H⟩ := H
          replace H : (if 1 + t179.size ≤ 9223372036854775807 then ((impl_PackagistCanonical.f kj2 ((⟨#[118]⟩ : ByteArray) ++ t179)).bind fun t180 => ((impl_PackagistCanonical.f kj2 t179).bind fun t181 => (if t181.toList = t179.toList then (if t180.toList = t179.toList then (some (t179.toList != ([] : List UInt8))) else (some false)) else (some false)))) else (none)) = some r := H
          have A29 := Aside0.mk A290
          clear A290
          by_cases c30 : 1 + t179.size ≤ 9223372036854775807
          · rw [if_pos c30] at H
            have c30b0 := eq_true c30
            have c30b1 : decide (1 + t179.size ≤ 9223372036854775807) = true := decide_eq_true c30
            try have c30b2 : (9223372036854775807 < 1 + t179.size) = False := eq_false (Nat.not_lt.2 c30)
            replace H := Option.bind_eq_some_iff.mp H
            obtain ⟨t180, A310, H⟩ := H
            replace H : ((impl_PackagistCanonical.f kj2 t179).bind fun t181 => (if t181.toList = t179.toList then (if t180.toList = t179.toList then (some (t179.toList != ([] : List UInt8))) else (some false)) else (some false))) = some r := H
            have A31 := Aside0.mk A310
            clear A310
            replace H := Option.bind_eq_some_iff.mp H
            obtain ⟨t181, A320, H⟩ := H
            replace H : (if t181.toList = t179.toList then (if t180.toList = t179.toList then (some (t179.toList != ([] : List UInt8))) else (some false)) else (some false)) = some r := H
            have A32 := Aside0.mk A320
            clear A320
            by_cases c33 : t181.toList = t179.toList
            · rw [if_pos c33] at H
              have c33b0 : (t181.toList == t179.toList) = true := beq_iff_eq.mpr c33
              have c33b1 : (t181.toList != t179.toList) = false := bne_eq_false_iff_eq.mpr c33
              clear c33
              by_cases c34 : t180.toList = t179.toList
              · rw [if_pos c34] at H
                have c34b0 : (t180.toList == t179.toList) = true := beq_iff_eq.mpr c34
                have c34b1 : (t180.toList != t179.toList) = false := bne_eq_false_iff_eq.mpr c34
                clear c34
                obtain rfl := Option.some.inj H
                go_wp2_with (first | ((with_reducible refine gate_callee (f := 12) rfl ?_); refine goesL_ (some 32) rfl rfl Tryd.func12 (by kernel_rfl) rfl #[.string a0] rfl (by (try simp only [List.map_toArray, List.map_cons, List.map_nil]); first | done | rfl | (simp only [List.length_drop, List.length_take]; rfl)) ?_; (with_reducible refine (impl_PackagistCanonical.calls kj2 a0 t179 _ A29.out).mono ?_); rintro e w35 ⟨rfl, hb⟩; refine ⟨_, rfl, ?_⟩; have n0_ := Aside0.mk (below_step (by repeat (first | (with_reducible first | exact HB.out | apply below_alloc | apply pw_below_drewN | apply below_drew1) | exact HB.out)) hb); clear HB; have HB := n0_; clear n0_; (try clear hb); (try clear hb2); (try clear hk); (try clear hi)) | ((with_reducible refine gate_callee (f := 12) rfl ?_); refine goesL_ (some 35) rfl rfl Tryd.func12 (by kernel_rfl) rfl #[.string ((⟨#[118]⟩ : ByteArray) ++ t179)] rfl (by (try simp only [List.map_toArray, List.map_cons, List.map_nil]); first | done | rfl | (simp only [List.length_drop, List.length_take]; rfl)) ?_; (with_reducible refine (impl_PackagistCanonical.calls kj2 ((⟨#[118]⟩ : ByteArray) ++ t179) t180 _ A31.out).mono ?_); rintro e w36 ⟨rfl, hb⟩; refine ⟨_, rfl, ?_⟩; have n0_ := Aside0.mk (below_step (by repeat (first | (with_reducible first | exact HB.out | apply below_alloc | apply pw_below_drewN | apply below_drew1) | exact HB.out)) hb); clear HB; have HB := n0_; clear n0_; (try clear hb); (try clear hb2); (try clear hk); (try clear hi)) | ((with_reducible refine gate_callee (f := 12) rfl ?_); refine goesL_ (some 37) rfl rfl Tryd.func12 (by kernel_rfl) rfl #[.string t179] rfl (by (try simp only [List.map_toArray, List.map_cons, List.map_nil]); first | done | rfl | (simp only [List.length_drop, List.length_take]; rfl)) ?_; (with_reducible refine (impl_PackagistCanonical.calls kj2 t179 t181 _ A32.out).mono ?_); rintro e w37 ⟨rfl, hb⟩; refine ⟨_, rfl, ?_⟩; have n0_ := Aside0.mk (below_step (by repeat (first | (with_reducible first | exact HB.out | apply below_alloc | apply pw_below_drewN | apply below_drew1) | exact HB.out)) hb); clear HB; have HB := n0_; clear n0_; (try clear hb); (try clear hb2); (try clear hk); (try clear hi)))
                go_ret
                exact ⟨by first | rfl | (simp [errW_none, errW_some] <;> rfl) | (simp [*, errW_none, errW_some] <;> rfl) | (simp [bne_nil_hyb]; done), by repeat (first | (with_reducible first | exact HB.out | apply below_alloc | apply pw_below_drewN | apply below_drew1) | exact HB.out)⟩
              · rw [if_neg c34] at H
                have c34b0 : (t180.toList == t179.toList) = false := beq_eq_false_iff_ne.mpr c34
                have c34b1 : (t180.toList != t179.toList) = true := bne_iff_ne.mpr c34
                obtain rfl := Option.some.inj H
                go_wp2_with (first | ((with_reducible refine gate_callee (f := 12) rfl ?_); refine goesL_ (some 32) rfl rfl Tryd.func12 (by kernel_rfl) rfl #[.string a0] rfl (by (try simp only [List.map_toArray, List.map_cons, List.map_nil]); first | done | rfl | (simp only [List.length_drop, List.length_take]; rfl)) ?_; (with_reducible refine (impl_PackagistCanonical.calls kj2 a0 t179 _ A29.out).mono ?_); rintro e w38 ⟨rfl, hb⟩; refine ⟨_, rfl, ?_⟩; have n0_ := Aside0.mk (below_step (by repeat (first | (with_reducible first | exact HB.out | apply below_alloc | apply pw_below_drewN | apply below_drew1) | exact HB.out)) hb); clear HB; have HB := n0_; clear n0_; (try clear hb); (try clear hb2); (try clear hk); (try clear hi)) | ((with_reducible refine gate_callee (f := 12) rfl ?_); refine goesL_ (some 35) rfl rfl Tryd.func12 (by kernel_rfl) rfl #[.string ((⟨#[118]⟩ : ByteArray) ++ t179)] rfl (by (try simp only [List.map_toArray, List.map_cons, List.map_nil]); first | done | rfl | (simp only [List.length_drop, List.length_take]; rfl)) ?_; (with_reducible refine (impl_PackagistCanonical.calls kj2 ((⟨#[118]⟩ : ByteArray) ++ t179) t180 _ A31.out).mono ?_); rintro e w39 ⟨rfl, hb⟩; refine ⟨_, rfl, ?_⟩; have n0_ := Aside0.mk (below_step (by repeat (first | (with_reducible first | exact HB.out | apply below_alloc | apply pw_below_drewN | apply below_drew1) | exact HB.out)) hb); clear HB; have HB := n0_; clear n0_; (try clear hb); (try clear hb2); (try clear hk); (try clear hi)) | ((with_reducible refine gate_callee (f := 12) rfl ?_); refine goesL_ (some 37) rfl rfl Tryd.func12 (by kernel_rfl) rfl #[.string t179] rfl (by (try simp only [List.map_toArray, List.map_cons, List.map_nil]); first | done | rfl | (simp only [List.length_drop, List.length_take]; rfl)) ?_; (with_reducible refine (impl_PackagistCanonical.calls kj2 t179 t181 _ A32.out).mono ?_); rintro e w40 ⟨rfl, hb⟩; refine ⟨_, rfl, ?_⟩; have n0_ := Aside0.mk (below_step (by repeat (first | (with_reducible first | exact HB.out | apply below_alloc | apply pw_below_drewN | apply below_drew1) | exact HB.out)) hb); clear HB; have HB := n0_; clear n0_; (try clear hb); (try clear hb2); (try clear hk); (try clear hi)))
                go_ret
                exact ⟨by first | rfl | (simp [errW_none, errW_some] <;> rfl) | (simp [*, errW_none, errW_some] <;> rfl) | (simp [bne_nil_hyb]; done), by repeat (first | (with_reducible first | exact HB.out | apply below_alloc | apply pw_below_drewN | apply below_drew1) | exact HB.out)⟩
            · rw [if_neg c33] at H
              have c33b0 : (t181.toList == t179.toList) = false := beq_eq_false_iff_ne.mpr c33
              have c33b1 : (t181.toList != t179.toList) = true := bne_iff_ne.mpr c33
              obtain rfl := Option.some.inj H
              go_wp2_with (first | ((with_reducible refine gate_callee (f := 12) rfl ?_); refine goesL_ (some 32) rfl rfl Tryd.func12 (by kernel_rfl) rfl #[.string a0] rfl (by (try simp only [List.map_toArray, List.map_cons, List.map_nil]); first | done | rfl | (simp only [List.length_drop, List.length_take]; rfl)) ?_; (with_reducible refine (impl_PackagistCanonical.calls kj2 a0 t179 _ A29.out).mono ?_); rintro e w41 ⟨rfl, hb⟩; refine ⟨_, rfl, ?_⟩; have n0_ := Aside0.mk (below_step (by repeat (first | (with_reducible first | exact HB.out | apply below_alloc | apply pw_below_drewN | apply below_drew1) | exact HB.out)) hb); clear HB; have HB := n0_; clear n0_; (try clear hb); (try clear hb2); (try clear hk); (try clear hi)) | ((with_reducible refine gate_callee (f := 12) rfl ?_); refine goesL_ (some 35) rfl rfl Tryd.func12 (by kernel_rfl) rfl #[.string ((⟨#[118]⟩ : ByteArray) ++ t179)] rfl (by (try simp only [List.map_toArray, List.map_cons, List.map_nil]); first | done | rfl | (simp only [List.length_drop, List.length_take]; rfl)) ?_; (with_reducible refine (impl_PackagistCanonical.calls kj2 ((⟨#[118]⟩ : ByteArray) ++ t179) t180 _ A31.out).mono ?_); rintro e w42 ⟨rfl, hb⟩; refine ⟨_, rfl, ?_⟩; have n0_ := Aside0.mk (below_step (by repeat (first | (with_reducible first | exact HB.out | apply below_alloc | apply pw_below_drewN | apply below_drew1) | exact HB.out)) hb); clear HB; have HB := n0_; clear n0_; (try clear hb); (try clear hb2); (try clear hk); (try clear hi)) | ((with_reducible refine gate_callee (f := 12) rfl ?_); refine goesL_ (some 37) rfl rfl Tryd.func12 (by kernel_rfl) rfl #[.string t179] rfl (by (try simp only [List.map_toArray, List.map_cons, List.map_nil]); first | done | rfl | (simp only [List.length_drop, List.length_take]; rfl)) ?_; (with_reducible refine (impl_PackagistCanonical.calls kj2 t179 t181 _ A32.out).mono ?_); rintro e w43 ⟨rfl, hb⟩; refine ⟨_, rfl, ?_⟩; have n0_ := Aside0.mk (below_step (by repeat (first | (with_reducible first | exact HB.out | apply below_alloc | apply pw_below_drewN | apply below_drew1) | exact HB.out)) hb); clear HB; have HB := n0_; clear n0_; (try clear hb); (try clear hb2); (try clear hk); (try clear hi)))
              go_ret
              exact ⟨by first | rfl | (simp [errW_none, errW_some] <;> rfl) | (simp [*, errW_none, errW_some] <;> rfl) | (simp [bne_nil_hyb]; done), by repeat (first | (with_reducible first | exact HB.out | apply below_alloc | apply pw_below_drewN | apply below_drew1) | exact HB.out)⟩
          · rw [if_neg c30] at H
            exact absurd H (by simp)

/-- THE ONE PURE STATEMENT of laws_FnPackagistTwice: yours. -/
def laws_FnPackagistTwice.Pure : Prop := ∀ (a0 : ByteArray), a0.size ≤ 140737488351232 → ∃ k, laws_FnPackagistTwice.f k a0 = some true
theorem laws_FnPackagistTwice.walk (P : laws_FnPackagistTwice.Pure) (a0 : ByteArray) (w : World) (w0 : a0.size ≤ 140737488351232) :
    Calls Tryd.prog 4 #[.string a0] w fun e w' => e = .returned (.bool true) ∧ Below w.heap.size w w' := by
  obtain ⟨k, h⟩ := P a0 w0
  refine (laws_FnPackagistTwice.calls k a0 true w h).mono ?_
  rintro e w' ⟨rfl, hd⟩
  exact ⟨rfl, hd⟩

/-! ### semantic_ZZPackagistTold: function 29 -/
def semantic_ZZPackagistTold.f (a0_0 : ByteArray) (l0_1 : List ByteArray) : Option (List ByteArray) := some l0_1
set_option maxHeartbeats 8000000 in
set_option maxRecDepth 100000 in
theorem semantic_ZZPackagistTold.calls (a0_0 : ByteArray) (P0_1_ : Nat → Prop) (u9000_ : Value) (l0_1 : List ByteArray) (r : List ByteArray) (w0 w : World) (hB : Below w0.heap.size w0 w) (ho0_1 : Kd.R Kd.string 9 w w0.heap.size P0_1_ u9000_ l0_1) (h : semantic_ZZPackagistTold.f a0_0 l0_1 = some r) :
    Calls Tryd.prog 29 #[.agg #[.string a0_0, u9000_]] w fun e w' => ∃ v0_ : Value, e = .returned (v0_) ∧ Kd.R Kd.string 9 w' w0.heap.size (fun k_ => (P0_1_ k_ ∨ w.heap.size ≤ k_)) v0_ r ∧ Below w0.heap.size w0 w' ∧ Kept w w' (fun k_ => P0_1_ k_) := by
  have hu36 := Tryd.underlying36
  have HO0_1 := Aside0.mk (show Kd.R Kd.string 9 w w0.heap.size (fun k_ => (P0_1_ k_ ∨ w.heap.size ≤ k_)) u9000_ l0_1 from Kd.R_mono ho0_1 (fun k_ hk => (.inl hk)))
  have HK := Aside0.mk (Kept.refl w (fun k_ => P0_1_ k_))
  have HW0 := Aside0.mk hB.size
  have HB := Aside0.mk hB
  clear hB
  have H : (some l0_1) = some r := h
  clear h
  obtain rfl := Option.some.inj H
  obtain ⟨Ao2, co2, eo2⟩ := Kd.R_slice HO0_1.out
  subst eo2
  go_enter Tryd.func29, Tryd.ntmps29
  go_wp2_with (first | ((with_reducible refine gate_dst (N := 1) rfl ?_); refine box_event ?hg (N := 1) ?hd (cs := #[.string a0_0, .slice Ao2 l0_1.length co2]) (t := 36) ?hr ?_; (case hd => rfl); (case hg => rfl); (case hr => first | (go_simp; done) | (go_simp; rfl)); intro gb182 hg w3 hbox hb; have n0_ := Aside0.mk (Kd.R_below (by (with_reducible repeat (first | apply Kd.R_alloc | apply Kd.R_drewN | apply Kd.R_drew)); exact HO0_1.out) hb); have n1_ := Aside0.mk (Kept.below (S := (fun k_ => P0_1_ k_)) (by repeat (first | (with_reducible first | exact HK.out | apply Kept.alloc | apply Kept.drewN | apply Kept.drew) | exact HK.out)) hb); have n2_ := Aside0.mk (below_step (by repeat (first | (with_reducible first | exact HB.out | apply below_alloc | apply pw_below_drewN | apply below_drew1) | exact HB.out)) hb); have n3_ := Aside0.mk (hbox); have n4_ := Aside0.mk ((by rw [hg]; exact (by first | exact HK.out.1 | exact (show Kept w _ (fun k_ => P0_1_ k_) from by repeat (first | (with_reducible first | exact HK.out | apply Kept.alloc | apply Kept.drewN | apply Kept.drew) | exact HK.out)).1) : w.heap.size ≤ gb182)); have n5_ := Aside0.mk ((by rw [hg]; exact (below_size (by repeat (first | (with_reducible first | exact HB.out | apply below_alloc | apply pw_below_drewN | apply below_drew1) | exact HB.out))) : w0.heap.size ≤ gb182)); clear HO0_1; clear HK; clear HB; have HO0_1 := n0_; have HK := n1_; have HB := n2_; have BK182 := n3_; have GW182 := n4_; have GE182 := n5_; clear n0_ n1_ n2_ n3_ n4_ n5_; clear hb hbox hg; have hcz4_0 : w3.cell? ⟨gb182, 0, none⟩ = some (.string a0_0) := (blk_cell BK182.out 0).trans rfl; have hcz4_1 : w3.cell? ⟨gb182, 1, none⟩ = some (.slice Ao2 l0_1.length co2) := (blk_cell BK182.out 1).trans rfl; have hfz4_0 := blk_frozen BK182.out 0; have hfz4_1 := blk_frozen BK182.out 1))
  go_ret
  exact ⟨_, by first | rfl | (simp [errW_none, errW_some] <;> rfl) | (simp [*, errW_none, errW_some] <;> rfl) | (simp [bne_nil_hyb]; done), by (with_reducible repeat (first | apply Kd.R_alloc | apply Kd.R_drewN | apply Kd.R_drew)); exact HO0_1.out, by repeat (first | (with_reducible first | exact HB.out | apply below_alloc | apply pw_below_drewN | apply below_drew1 | refine below_set ?_ GE182.out) | exact HB.out), by repeat (first | (with_reducible first | exact HK.out | apply Kept.alloc | apply Kept.drewN | apply Kept.drew | refine Kept.setCell ?_ (.inr GW182.out) _) | exact HK.out)⟩

/-! ### semantic_zzIndex: function 44 -/
def semantic_zzIndex.l0 : Nat → ByteArray → ByteArray → Int → Option (Int)
  | 0, _, _, _ => none
  | k + 1, x0, x1, x5 => if (wrap64 (x5 + (x1.size : Int))) ≤ (x0.size : Int) then (if 0 ≤ x5 then (if x5 ≤ (wrap64 (x5 + (x1.size : Int))) then (if (x0.extract (x5 : Int).toNat ((wrap64 (x5 + (x1.size : Int))) : Int).toNat).toList = x1.toList then (some x5) else (semantic_zzIndex.l0 k x0 x1 (wrap64 (x5 + 1)))) else (none)) else (none)) else (some (-1))
def semantic_zzIndex.f (k : Nat) (a0 : ByteArray) (a1 : ByteArray) : Option (Int) := semantic_zzIndex.l0 k a0 a1 0
theorem semantic_zzIndex.mono_l : ∀ k, (∀ y0 y1 y2, LeO (semantic_zzIndex.l0 k y0 y1 y2) (semantic_zzIndex.l0 (k + 1) y0 y1 y2))
  | 0 => fun _ _ _ r h => by simp [semantic_zzIndex.l0] at h
  | k + 1 => by
    have ih0 := semantic_zzIndex.mono_l k
    · intro y0 y1 y2
      unfold semantic_zzIndex.l0
      repeat' first
      | (with_reducible exact ih0 _ _ _)
      | (with_reducible exact LeO.refl _)
      | (with_reducible exact LeO.none _)
      | (with_reducible refine LeO.ite ?_ ?_)
      | (with_reducible refine LeO.bind ?_ (fun _ => ?_))
      | exact ih0 _ _ _
      | exact LeO.none _
      | refine LeO.ite ?_ ?_
      | refine LeO.bind ?_ (fun _ => ?_)
theorem semantic_zzIndex.mono : ∀ a0 a1 k, LeO (semantic_zzIndex.f k a0 a1) (semantic_zzIndex.f (k + 1) a0 a1) := by
  intro a0 a1 k
  have ih0 := semantic_zzIndex.mono_l k
  unfold semantic_zzIndex.f
  repeat' first
      | (with_reducible exact ih0 _ _ _)
      | (with_reducible exact LeO.refl _)
      | (with_reducible exact LeO.none _)
      | (with_reducible refine LeO.ite ?_ ?_)
      | (with_reducible refine LeO.bind ?_ (fun _ => ?_))
      | exact ih0 _ _ _
      | exact LeO.none _
      | refine LeO.ite ?_ ?_
      | refine LeO.bind ?_ (fun _ => ?_)
set_option maxHeartbeats 8000000 in
set_option maxRecDepth 100000 in
theorem semantic_zzIndex.calls (k : Nat) (a0 : ByteArray) (a1 : ByteArray) (r : Int) (w : World) (h : semantic_zzIndex.f k a0 a1 = some r) :
    Calls Tryd.prog 44 #[.string a0, .string a1] w fun e w' => e = .returned (.int .i64 r) ∧ Drawn0 w w' := by
  have H : (semantic_zzIndex.l0 k a0 a1 0) = some r := h
  clear h
  have H' := Aside0.mk H
  clear H
  go_enter Tryd.func44, Tryd.ntmps44
  go_wp2
  (try simp only [Act.put, List.setIfInBounds_toArray, List.set_cons_zero, List.set_cons_succ])
  go_loopg [5] k (fun kq v5 w' => ∃ (x5_1 : Int), v5 = .int .i64 x5_1 ∧ Aside0 (semantic_zzIndex.l0 kq a0 a1 x5_1 = some r) ∧ Aside0 (kq ≤ k) ∧ Drawn0 w w')
  case atStart => exact ⟨(0), (by first | rfl | (simp; done) | (simp [*]; done) | (simp [bne_nil_hyb]; done) | (simp [bne_nil_hyb, *]; done)), H', ⟨Nat.le_refl _⟩, by repeat (first | exact Drawn0.refl _ | apply Drawn0.step)⟩
  case round =>
    clear H'
    try clear p2
    obtain ⟨x5_1, rfl, HA, HK1, ⟨m1, rfl⟩⟩ := hrel
    cases gk with
    | zero => exact absurd HA.out (by simp [semantic_zzIndex.l0])
    | succ k1 =>
      have H := HA.out
      clear HA
      simp only [semantic_zzIndex.l0] at H
      by_cases c3 : (wrap64 (x5_1 + (a1.size : Int))) ≤ (a0.size : Int)
      · rw [if_pos c3] at H
        have c3b0 : decide ((wrap64 (x5_1 + (a1.size : Int))) ≤ (a0.size : Int)) = true := decide_eq_true c3
        clear c3
        by_cases c4 : 0 ≤ x5_1
        · rw [if_pos c4] at H
          have c4b0 := eq_true c4
          have c4b1 : decide (0 ≤ x5_1) = true := decide_eq_true c4
          clear c4
          by_cases c5 : x5_1 ≤ (wrap64 (x5_1 + (a1.size : Int)))
          · rw [if_pos c5] at H
            have c5b0 := eq_true c5
            have c5b1 : decide (x5_1 ≤ (wrap64 (x5_1 + (a1.size : Int)))) = true := decide_eq_true c5
            have c6b0 := eq_true (of_decide_eq_true (by first | (with_reducible assumption) | assumption) : (wrap64 (x5_1 + (a1.size : Int))) ≤ (a0.size : Int))
            by_cases c7 : (a0.extract (x5_1 : Int).toNat ((wrap64 (x5_1 + (a1.size : Int))) : Int).toNat).toList = a1.toList
            · rw [if_pos c7] at H
              have c7b0 : ((a0.extract (x5_1 : Int).toNat ((wrap64 (x5_1 + (a1.size : Int))) : Int).toNat).toList == a1.toList) = true := beq_iff_eq.mpr c7
              have c7b1 : ((a0.extract (x5_1 : Int).toNat ((wrap64 (x5_1 + (a1.size : Int))) : Int).toNat).toList != a1.toList) = false := bne_eq_false_iff_eq.mpr c7
              clear c7
              obtain rfl := Option.some.inj H
              go_wp2
              go_ret
              exact ⟨by first | rfl | (simp; done) | (simp [*]; done) | (simp [bne_nil_hyb]; done) | (simp [bne_nil_hyb, *]; done), by repeat (first | exact Drawn0.refl _ | apply Drawn0.step)⟩
            · rw [if_neg c7] at H
              have c7b0 : ((a0.extract (x5_1 : Int).toNat ((wrap64 (x5_1 + (a1.size : Int))) : Int).toNat).toList == a1.toList) = false := beq_eq_false_iff_ne.mpr c7
              have c7b1 : ((a0.extract (x5_1 : Int).toNat ((wrap64 (x5_1 + (a1.size : Int))) : Int).toNat).toList != a1.toList) = true := bne_iff_ne.mpr c7
              have H' := Aside0.mk H
              clear H
              go_wp2
              go_roundg k1
              case measure => have := HK1.out; omega
              case rel => exact ⟨(wrap64 (x5_1 + 1)), (by first | rfl | (simp; done) | (simp [*]; done) | (simp [bne_nil_hyb]; done) | (simp [bne_nil_hyb, *]; done)), H', ⟨by have := HK1.out; omega⟩, by repeat (first | exact Drawn0.refl _ | apply Drawn0.step)⟩
          · rw [if_neg c5] at H
            exact absurd H (by simp)
        · rw [if_neg c4] at H
          exact absurd H (by simp)
      · rw [if_neg c3] at H
        have c3b0 : decide ((wrap64 (x5_1 + (a1.size : Int))) ≤ (a0.size : Int)) = false := decide_eq_false c3
        clear c3
        obtain rfl := Option.some.inj H
        go_wp2
        go_ret
        exact ⟨by first | rfl | (simp; done) | (simp [*]; done) | (simp [bne_nil_hyb]; done) | (simp [bne_nil_hyb, *]; done), by repeat (first | exact Drawn0.refl _ | apply Drawn0.step)⟩

/-! ### semantic_zzSplit: function 38 -/
def semantic_zzSplit.l1 : Nat → ByteArray → ByteArray → List ByteArray → Option (List ByteArray)
  | 0, _, _, _ => none
  | k + 1, x0, x1, x5 => (semantic_zzIndex.f k x0 x1).bind fun t183 => (if t183 < 0 then (if x5.length < 8796093022208 then (some (x5 ++ [x0])) else (none)) else (if 0 ≤ t183 then (if t183 ≤ (x0.size : Int) then (if x5.length < 8796093022208 then (if 0 ≤ (wrap64 (t183 + (x1.size : Int))) then (if (wrap64 (t183 + (x1.size : Int))) ≤ (x0.size : Int) then (semantic_zzSplit.l1 k (x0.extract ((wrap64 (t183 + (x1.size : Int))) : Int).toNat x0.size) x1 (x5 ++ [x0.extract 0 (t183 : Int).toNat])) else (none)) else (none)) else (none)) else (none)) else (none)))
def semantic_zzSplit.f (k : Nat) (a0 : ByteArray) (a1 : ByteArray) : Option (List ByteArray) := if (a1.size : Int) = 0 then (none) else (semantic_zzSplit.l1 k a0 a1 ([] : List ByteArray))
theorem semantic_zzSplit.mono_l : ∀ k, (∀ y0 y1 y2, LeO (semantic_zzSplit.l1 k y0 y1 y2) (semantic_zzSplit.l1 (k + 1) y0 y1 y2))
  | 0 => fun _ _ _ r h => by simp [semantic_zzSplit.l1] at h
  | k + 1 => by
    have ih0 := semantic_zzSplit.mono_l k
    · intro y0 y1 y2
      unfold semantic_zzSplit.l1
      repeat' first
      | (with_reducible exact ih0 _ _ _)
      | (with_reducible exact semantic_zzIndex.mono _ _ _)
      | (with_reducible exact LeO.refl _)
      | (with_reducible exact LeO.none _)
      | (with_reducible refine LeO.ite ?_ ?_)
      | (with_reducible refine LeO.bind ?_ (fun _ => ?_))
      | exact ih0 _ _ _
      | exact semantic_zzIndex.mono _ _ _
      | exact LeO.none _
      | refine LeO.ite ?_ ?_
      | refine LeO.bind ?_ (fun _ => ?_)
theorem semantic_zzSplit.mono : ∀ a0 a1 k, LeO (semantic_zzSplit.f k a0 a1) (semantic_zzSplit.f (k + 1) a0 a1) := by
  intro a0 a1 k
  have ih0 := semantic_zzSplit.mono_l k
  unfold semantic_zzSplit.f
  repeat' first
      | (with_reducible exact ih0 _ _ _)
      | (with_reducible exact semantic_zzIndex.mono _ _ _)
      | (with_reducible exact LeO.refl _)
      | (with_reducible exact LeO.none _)
      | (with_reducible refine LeO.ite ?_ ?_)
      | (with_reducible refine LeO.bind ?_ (fun _ => ?_))
      | exact ih0 _ _ _
      | exact semantic_zzIndex.mono _ _ _
      | exact LeO.none _
      | refine LeO.ite ?_ ?_
      | refine LeO.bind ?_ (fun _ => ?_)
set_option maxHeartbeats 8000000 in
set_option maxRecDepth 100000 in
theorem semantic_zzSplit.calls (k : Nat) (a0 : ByteArray) (a1 : ByteArray) (r : List ByteArray) (w : World) (h : semantic_zzSplit.f k a0 a1 = some r) :
    Calls Tryd.prog 38 #[.string a0, .string a1] w fun e w' => ∃ v0_ : Value, e = .returned (v0_) ∧ Kd.R Kd.string 9 w' w.heap.size (fun _ => True) v0_ r ∧ Below w.heap.size w w' := by
  have HB := Aside0.mk (Below.refl w.heap.size w)
  have H : (if (a1.size : Int) = 0 then (none) else (semantic_zzSplit.l1 k a0 a1 ([] : List ByteArray))) = some r := h
  clear h
  by_cases c3 : (a1.size : Int) = 0
  · rw [if_pos c3] at H
    exact absurd H (by simp)
  · rw [if_neg c3] at H
    have c3b0 : ((a1.size : Int) == 0) = false := beq_eq_false_iff_ne.mpr c3
    have c3b1 : ((a1.size : Int) != 0) = true := bne_iff_ne.mpr c3
    have H' := Aside0.mk H
    clear H
    go_enter Tryd.func38, Tryd.ntmps38
    go_wp2
    (try simp only [Act.put, List.setIfInBounds_toArray, List.set_cons_zero, List.set_cons_succ])
    go_loopg [0, 5] k (fun kq v0 v5 w' => ∃ (x0_1 : ByteArray) (x5_1 : List ByteArray), v0 = .string x0_1 ∧ Aside0 (semantic_zzSplit.l1 kq x0_1 a1 x5_1 = some r) ∧ Aside0 (kq ≤ k) ∧ Aside0 (Kd.R Kd.string 9 w' w.heap.size (fun _ => True) v5 x5_1) ∧ Aside0 (Below w.heap.size w w'))
    case atStart => exact ⟨(a0), (([] : List ByteArray)), (by first | rfl | (simp; done) | (simp [*]; done) | (simp [bne_nil_hyb]; done) | (simp [bne_nil_hyb, *]; done)), H', ⟨Nat.le_refl _⟩, ⟨by first | exact Kd.R_nil _ _ _ _ _ | exact Kd.N_nil _ _ _ _ _ | exact Kd.V_nil _ _ _ _ _ | exact Kd.Q_nil _ _ _ _ _ | exact Kd.S_nil _ _ _ _ _⟩, ⟨by repeat (first | (with_reducible first | exact HB.out | apply below_alloc | apply pw_below_drewN | apply below_drew1) | exact HB.out)⟩⟩
    case round =>
      clear H'
      try clear p2
      try clear c3
      try clear c3b0
      try clear c3b1
      obtain ⟨x0_1, x5_1, rfl, HA, HK1, HO_5, HB⟩ := hrel
      cases gk with
      | zero => exact absurd HA.out (by simp [semantic_zzSplit.l1])
      | succ k1 =>
        have H := HA.out
        clear HA
        simp only [semantic_zzSplit.l1] at H
        replace H := Option.bind_eq_some_iff.mp H
        obtain ⟨t183, A40, H⟩ := H
        replace H : (if t183 < 0 then (if x5_1.length < 8796093022208 then (some (x5_1 ++ [x0_1])) else (none)) else (if 0 ≤ t183 then (if t183 ≤ (x0_1.size : Int) then (if x5_1.length < 8796093022208 then (if 0 ≤ (wrap64 (t183 + (a1.size : Int))) then (if (wrap64 (t183 + (a1.size : Int))) ≤ (x0_1.size : Int) then (semantic_zzSplit.l1 k1 (x0_1.extract ((wrap64 (t183 + (a1.size : Int))) : Int).toNat x0_1.size) a1 (x5_1 ++ [x0_1.extract 0 (t183 : Int).toNat])) else (none)) else (none)) else (none)) else (none)) else (none))) = some r := H
        have A4 := Aside0.mk A40
        clear A40
        by_cases c5 : t183 < 0
        · rw [if_pos c5] at H
          have c5b0 : decide (t183 < 0) = true := decide_eq_true c5
          clear c5
          by_cases c6 : x5_1.length < 8796093022208
          · rw [if_pos c6] at H
            have LMc6 := Aside0.mk c6
            clear c6
            obtain ⟨y184, hy184⟩ : ∃ y_ : List ByteArray, y_ = (x5_1 ++ [x0_1]) := ⟨_, rfl⟩
            replace H : (some y184) = some r := by first | (rw [hy184]; with_reducible exact H) | (have H2_ := (Option.bind_some _ _).symm.trans H; rw [hy184]; with_reducible exact H2_) | (have H2_ := (Option.bind_some _ _).symm.trans H; with_reducible exact H2_) | with_reducible exact H | (rw [hy184]; exact H) | exact H
            have Ny184 := Aside0.mk hy184
            clear hy184
            obtain rfl := Option.some.inj H
            go_wp2_with (first | ((with_reducible refine gate_callee (f := 44) rfl ?_); refine goesL_ (some 39) rfl rfl Tryd.func44 (by kernel_rfl) rfl #[.string x0_1, .string a1] rfl (by (try simp only [List.map_toArray, List.map_cons, List.map_nil]); first | done | rfl | (simp only [List.length_drop, List.length_take]; rfl)) ?_; (with_reducible refine (semantic_zzIndex.calls k1 x0_1 a1 t183 _ A4.out).mono ?_); rintro e w' ⟨rfl, ⟨nd, rfl⟩⟩; refine ⟨_, rfl, ?_⟩) | ((with_reducible refine gate_builtin (b := .append) (xs := #[.tmp 42, .tmp 44]) rfl ?_); at_builtin; refine Kd.R_append Kd.string (w0 := w) w.heap.size rfl (.tmp 42) (.tmp 44) 25 9 (.string ⟨#[]⟩) 16 rfl Tryd.underlying25 info9 rfl (by decide) (by omega) u5 x5_1 x0_1 [.string x0_1] (fun _ => True) (fun _ => False) rfl rfl ?aP (fun _ hk => hk.elim) ?aF ?aO ?aB ?aS ?aL ?_; (case aP => exact rfl); (case aB => exact (by repeat (first | (with_reducible first | exact HB.out | apply below_alloc | apply pw_below_drewN | apply below_drew1) | exact HB.out))); (case aF => exact (fun _ _ => trivial)); (case aO => exact (by (with_reducible repeat (first | apply Kd.R_alloc | apply Kd.R_drewN | apply Kd.R_drew)); exact HO_5.out)); (case aS => exact (below_size (by repeat (first | (with_reducible first | exact HB.out | apply below_alloc | apply pw_below_drewN | apply below_drew1) | exact HB.out)))); (case aL => have := LMc6.out; omega); intro v185 w7 ho hb hg hat; rw [← Ny184.out] at ho; have n0_ := Aside0.mk (hb); have n1_ := Aside0.mk (ho); clear HB; clear HO_5; have HB := n0_; have HO186 := n1_; clear n0_ n1_; clear ho hb hg hat))
            go_ret
            exact ⟨_, by first | rfl | (simp [errW_none, errW_some] <;> rfl) | (simp [*, errW_none, errW_some] <;> rfl) | (simp [bne_nil_hyb]; done), by (with_reducible repeat (first | apply Kd.R_alloc | apply Kd.R_drewN | apply Kd.R_drew)); exact HO186.out, by repeat (first | (with_reducible first | exact HB.out | apply below_alloc | apply pw_below_drewN | apply below_drew1) | exact HB.out)⟩
          · rw [if_neg c6] at H
            exact absurd H (by simp)
        · rw [if_neg c5] at H
          have c5b0 : decide (t183 < 0) = false := decide_eq_false c5
          clear c5
          by_cases c8 : 0 ≤ t183
          · rw [if_pos c8] at H
            have c8b0 := eq_true c8
            have c8b1 : decide (0 ≤ t183) = true := decide_eq_true c8
            clear c8
            by_cases c9 : t183 ≤ (x0_1.size : Int)
            · rw [if_pos c9] at H
              have c9b0 := eq_true c9
              have c9b1 : decide (t183 ≤ (x0_1.size : Int)) = true := decide_eq_true c9
              clear c9
              by_cases c10 : x5_1.length < 8796093022208
              · rw [if_pos c10] at H
                have LMc10 := Aside0.mk c10
                clear c10
                obtain ⟨y187, hy187⟩ : ∃ y_ : List ByteArray, y_ = (x5_1 ++ [x0_1.extract 0 (t183 : Int).toNat]) := ⟨_, rfl⟩
                replace H : (if 0 ≤ (wrap64 (t183 + (a1.size : Int))) then (if (wrap64 (t183 + (a1.size : Int))) ≤ (x0_1.size : Int) then (semantic_zzSplit.l1 k1 (x0_1.extract ((wrap64 (t183 + (a1.size : Int))) : Int).toNat x0_1.size) a1 y187) else (none)) else (none)) = some r := by first | (rw [hy187]; with_reducible exact H) | (have H2_ := (Option.bind_some _ _).symm.trans H; rw [hy187]; with_reducible exact H2_) | (have H2_ := (Option.bind_some _ _).symm.trans H; with_reducible exact H2_) | with_reducible exact H | (rw [hy187]; exact H) | exact H
                have Ny187 := Aside0.mk hy187
                clear hy187
                obtain ⟨ji11, hji11⟩ : ∃ j_ : Int, (wrap64 (t183 + (a1.size : Int))) = j_ := ⟨_, rfl⟩
                replace H : (if 0 ≤ (ji11) then (if (ji11) ≤ (x0_1.size : Int) then (semantic_zzSplit.l1 k1 (x0_1.extract ((ji11) : Int).toNat x0_1.size) a1 y187) else (none)) else (none)) = some r := by first | (rw [hji11] at H; exact H) | (simp only [hji11] at H ⊢; exact H)
                (try rw [hji11] at A4)
                have hji11w : (IntKind.i64.wrap (t183 + (a1.size : Int))) = ji11 := (i64_w _).trans hji11
                by_cases c12 : 0 ≤ (ji11)
                · rw [if_pos c12] at H
                  have c12b0 := eq_true c12
                  have c12b1 : decide (0 ≤ (ji11)) = true := decide_eq_true c12
                  clear c12
                  by_cases c13 : (ji11) ≤ (x0_1.size : Int)
                  · rw [if_pos c13] at H
                    have c13b0 := eq_true c13
                    have c13b1 : decide ((ji11) ≤ (x0_1.size : Int)) = true := decide_eq_true c13
                    clear c13
                    have H' := Aside0.mk H
                    clear H
                    go_wp2_with (first | ((with_reducible refine gate_callee (f := 44) rfl ?_); refine goesL_ (some 39) rfl rfl Tryd.func44 (by kernel_rfl) rfl #[.string x0_1, .string a1] rfl (by (try simp only [List.map_toArray, List.map_cons, List.map_nil]); first | done | rfl | (simp only [List.length_drop, List.length_take]; rfl)) ?_; (with_reducible refine (semantic_zzIndex.calls k1 x0_1 a1 t183 _ A4.out).mono ?_); rintro e w' ⟨rfl, ⟨nd, rfl⟩⟩; refine ⟨_, rfl, ?_⟩) | ((with_reducible refine gate_builtin (b := .append) (xs := #[.tmp 46, .tmp 50]) rfl ?_); at_builtin; refine Kd.R_append Kd.string (w0 := w) w.heap.size rfl (.tmp 46) (.tmp 50) 25 9 (.string ⟨#[]⟩) 16 rfl Tryd.underlying25 info9 rfl (by decide) (by omega) u5 x5_1 (x0_1.extract 0 (t183 : Int).toNat) [.string (x0_1.extract 0 (t183 : Int).toNat)] (fun _ => True) (fun _ => False) rfl rfl ?aP (fun _ hk => hk.elim) ?aF ?aO ?aB ?aS ?aL ?_; (case aP => exact rfl); (case aB => exact (by repeat (first | (with_reducible first | exact HB.out | apply below_alloc | apply pw_below_drewN | apply below_drew1) | exact HB.out))); (case aF => exact (fun _ _ => trivial)); (case aO => exact (by (with_reducible repeat (first | apply Kd.R_alloc | apply Kd.R_drewN | apply Kd.R_drew)); exact HO_5.out)); (case aS => exact (below_size (by repeat (first | (with_reducible first | exact HB.out | apply below_alloc | apply pw_below_drewN | apply below_drew1) | exact HB.out)))); (case aL => have := LMc10.out; omega); intro v188 w14 ho hb hg hat; rw [← Ny187.out] at ho; have n0_ := Aside0.mk (hb); have n1_ := Aside0.mk (ho); clear HB; clear HO_5; have HB := n0_; have HO189 := n1_; clear n0_ n1_; clear ho hb hg hat))
                    go_roundg k1
                    case measure => have := HK1.out; omega
                    case rel => exact ⟨(x0_1.extract ((ji11) : Int).toNat x0_1.size), (y187), (by first | rfl | (simp; done) | (simp only [← hji11] <;> (first | rfl | simp)) | (simp [*]; done)), H', ⟨by have := HK1.out; omega⟩, ⟨by (with_reducible repeat (first | apply Kd.R_alloc | apply Kd.R_drewN | apply Kd.R_drew)); exact HO189.out⟩, ⟨by repeat (first | (with_reducible first | exact HB.out | apply below_alloc | apply pw_below_drewN | apply below_drew1) | exact HB.out)⟩⟩
                  · rw [if_neg c13] at H
                    exact absurd H (by simp)
                · rw [if_neg c12] at H
                  exact absurd H (by simp)
              · rw [if_neg c10] at H
                exact absurd H (by simp)
            · rw [if_neg c9] at H
              exact absurd H (by simp)
          · rw [if_neg c8] at H
            exact absurd H (by simp)

/-! ### semantic_ParsePackagistVersion: function 30 -/
def semantic_ParsePackagistVersion.f (k : Nat) (a0 : ByteArray) : Option (ByteArray × List ByteArray) := (semantic_canonicalizePackagistVersion.f k a0).bind fun t191 => ((semantic_zzSplit.f k t191 (⟨#[46]⟩ : ByteArray)).bind fun t192 => (some (a0, t192)))
theorem semantic_ParsePackagistVersion.mono : ∀ a0 k, LeO (semantic_ParsePackagistVersion.f k a0) (semantic_ParsePackagistVersion.f (k + 1) a0) := by
  intro a0 k
  unfold semantic_ParsePackagistVersion.f
  repeat' first
      | (with_reducible exact semantic_canonicalizePackagistVersion.mono _ _)
      | (with_reducible exact semantic_zzSplit.mono _ _ _)
      | (with_reducible exact LeO.refl _)
      | (with_reducible exact LeO.none _)
      | (with_reducible refine LeO.ite ?_ ?_)
      | (with_reducible refine LeO.bind ?_ (fun _ => ?_))
      | exact semantic_canonicalizePackagistVersion.mono _ _
      | exact semantic_zzSplit.mono _ _ _
      | exact LeO.none _
      | refine LeO.ite ?_ ?_
      | refine LeO.bind ?_ (fun _ => ?_)
set_option maxHeartbeats 8000000 in
set_option maxRecDepth 100000 in
theorem semantic_ParsePackagistVersion.calls (k : Nat) (a0 : ByteArray) (r1 : ByteArray) (r2 : List ByteArray) (w : World) (h : semantic_ParsePackagistVersion.f k a0 = some (r1, r2)) :
    Calls Tryd.prog 30 #[.string a0] w fun e w' => ∃ v1_ : Value, e = .returned (.agg #[.string r1, v1_]) ∧ Kd.R Kd.string 9 w' w.heap.size (fun _ => True) v1_ r2 ∧ Below w.heap.size w w' := by
  have hu36 := Tryd.underlying36
  have HB := Aside0.mk (Below.refl w.heap.size w)
  have H : ((semantic_canonicalizePackagistVersion.f k a0).bind fun t191 => ((semantic_zzSplit.f k t191 (⟨#[46]⟩ : ByteArray)).bind fun t192 => (some (a0, t192)))) = some (r1, r2) := h
  clear h
  replace H := Option.bind_eq_some_iff.mp H
  obtain ⟨t191, A20, H⟩ := H
  replace H : ((semantic_zzSplit.f k t191 (⟨#[46]⟩ : ByteArray)).bind fun t192 => (some (a0, t192))) = some (r1, r2) := H
  have A2 := Aside0.mk A20
  clear A20
  replace H := Option.bind_eq_some_iff.mp H
  obtain ⟨t192, A30, H⟩ := H
  replace H : (some (a0, t192)) = some (r1, r2) := H
  have A3 := Aside0.mk A30
  clear A30
  simp only [Option.some.injEq, Prod.mk.injEq] at H
  obtain ⟨rfl, rfl⟩ := H
  go_enter Tryd.func30, Tryd.ntmps30
  go_wp2_with (first | ((with_reducible refine gate_dst (N := 2) rfl ?_); refine box_event ?hg (N := 2) ?hd (cs := #[.string (⟨#[]⟩ : ByteArray), .slice none 0 0]) (t := 36) ?hr ?_; (case hd => rfl); (case hg => rfl); (case hr => first | (go_simp; done) | (go_simp; rfl)); intro gb190 hg w4 hbox hb; have n0_ := Aside0.mk (below_step (by repeat (first | (with_reducible first | exact HB.out | apply below_alloc | apply pw_below_drewN | apply below_drew1) | exact HB.out)) hb); have n1_ := Aside0.mk (hbox); have n2_ := Aside0.mk ((by rw [hg]; exact (below_size (by repeat (first | (with_reducible first | exact HB.out | apply below_alloc | apply pw_below_drewN | apply below_drew1) | exact HB.out))) : w.heap.size ≤ gb190)); have n3_ := Aside0.mk ((by rw [hg]; exact (below_size (by repeat (first | (with_reducible first | exact HB.out | apply below_alloc | apply pw_below_drewN | apply below_drew1) | exact HB.out))) : w.heap.size ≤ gb190)); clear HB; have HB := n0_; have BK190 := n1_; have GW190 := n2_; have GE190 := n3_; clear n0_ n1_ n2_ n3_; clear hb hbox hg) | ((with_reducible refine gate_callee (f := 37) rfl ?_); refine goesL_ (some 5) rfl rfl Tryd.func37 (by kernel_rfl) rfl #[.string a0] rfl (by (try simp only [List.map_toArray, List.map_cons, List.map_nil]); first | done | rfl | (simp only [List.length_drop, List.length_take]; rfl)) ?_; (with_reducible refine (semantic_canonicalizePackagistVersion.calls k a0 t191 _ A2.out).mono ?_); rintro e w5 ⟨rfl, hb⟩; refine ⟨_, rfl, ?_⟩; have n0_ := Aside0.mk (blk_below (g := gb190) (o := .cells #[.string (⟨#[]⟩ : ByteArray), .slice none 0 0] 36 (0, 0)) (by (with_reducible repeat (first | refine blk_drewN ?_ _ | refine blk_drew ?_ | refine blk_alloc ?_ _)); exact BK190.out) hb); have n1_ := Aside0.mk (below_step (by repeat (first | (with_reducible first | exact HB.out | apply below_alloc | apply pw_below_drewN | apply below_drew1 | refine below_set ?_ GE190.out) | exact HB.out)) hb); clear BK190; clear HB; have BK190 := n0_; have HB := n1_; clear n0_ n1_; (try clear hb); (try clear hb2); (try clear hk); (try clear hi)) | ((with_reducible refine gate_callee (f := 38) rfl ?_); refine goesL_ (some 6) rfl rfl Tryd.func38 (by kernel_rfl) rfl #[.string t191, .string (⟨#[46]⟩ : ByteArray)] rfl (by (try simp only [List.map_toArray, List.map_cons, List.map_nil]); first | done | rfl | (simp only [List.length_drop, List.length_take]; rfl)) ?_; (with_reducible refine (semantic_zzSplit.calls k t191 (⟨#[46]⟩ : ByteArray) t192 _ A3.out).mono ?_); rintro e w6 ⟨v193, rfl, ho0, hb⟩; refine ⟨_, rfl, ?_⟩; have n0_ := Aside0.mk (Kd.R_lower ho0 (below_size (by repeat (first | (with_reducible first | exact HB.out | apply below_alloc | apply pw_below_drewN | apply below_drew1 | refine below_set ?_ GE190.out) | exact HB.out)))); have n1_ := Aside0.mk (blk_below (g := gb190) (o := .cells #[.string (⟨#[]⟩ : ByteArray), .slice none 0 0] 36 (0, 0)) (by (with_reducible repeat (first | refine blk_drewN ?_ _ | refine blk_drew ?_ | refine blk_alloc ?_ _)); exact BK190.out) hb); have n2_ := Aside0.mk (below_step (by repeat (first | (with_reducible first | exact HB.out | apply below_alloc | apply pw_below_drewN | apply below_drew1 | refine below_set ?_ GE190.out) | exact HB.out)) hb); clear BK190; clear HB; have HO194 := n0_; have BK190 := n1_; have HB := n2_; clear n0_ n1_ n2_; (try clear hb); (try clear hb2); (try clear hk); (try clear hi); (try clear ho0); obtain ⟨Ao7, co7, eo7⟩ := Kd.R_slice HO194.out; subst eo7; have hcz8_0 : w6.cell? ⟨gb190, 0, none⟩ = some (.string (⟨#[]⟩ : ByteArray)) := (blk_cell BK190.out 0).trans rfl; have hcz8_1 : w6.cell? ⟨gb190, 1, none⟩ = some (.slice none 0 0) := (blk_cell BK190.out 1).trans rfl; have hfz8_0 := blk_frozen BK190.out 0; have hfz8_1 := blk_frozen BK190.out 1))
  refine bodyPost_ret (results_cell_row rfl _ _ gb190 36 #[.string a0, .slice Ao7 t192.length co7] (0, 0) _ rfl (by (with_reducible repeat (first | refine blk_drewN ?_ _ | refine blk_drew ?_ | refine blk_alloc ?_ _)); refine blk_put (cs := #[.string a0, .slice none 0 0]) ?_ 1 _ rfl; (with_reducible repeat (first | refine blk_drewN ?_ _ | refine blk_drew ?_ | refine blk_alloc ?_ _)); refine blk_put (cs := #[.string (⟨#[]⟩ : ByteArray), .slice none 0 0]) ?_ 0 _ rfl; (with_reducible repeat (first | refine blk_drewN ?_ _ | refine blk_drew ?_ | refine blk_alloc ?_ _)); exact BK190.out) Tryd.underlying36 rfl (by kernel_rfl)) rfl ?_
  exact ⟨_, by first | rfl | (simp [errW_none, errW_some] <;> rfl) | (simp [*, errW_none, errW_some] <;> rfl) | (simp [bne_nil_hyb]; done), by (with_reducible repeat (first | apply Kd.R_alloc | apply Kd.R_drewN | apply Kd.R_drew)); exact Kd.R_mono (Kd.R_far (p := ⟨gb190, 1, none⟩) (Kd.R_far (p := ⟨gb190, 0, none⟩) (Kd.R_types HO194.out BK190.out (by decide)) (fun _ hk => hk.2) (.string a0)) (fun _ hk => hk.2) (.slice Ao7 t192.length co7)) (fun _ hk => trivial), by repeat (first | (with_reducible first | exact HB.out | apply below_alloc | apply pw_below_drewN | apply below_drew1 | refine below_set ?_ GE190.out) | exact HB.out)⟩

/-! ### impl_PackagistParse: function 14 -/
def impl_PackagistParse.f (k : Nat) (a0 : ByteArray) : Option (List ByteArray) := (semantic_ParsePackagistVersion.f k a0).bind fun bt195 => ((semantic_ZZPackagistTold.f bt195.1 bt195.2).bind fun t199 => (if ([] : List ByteArray).length + t199.length < 8796093022208 then (some (([] : List ByteArray) ++ t199)) else (none)))
theorem impl_PackagistParse.mono : ∀ a0 k, LeO (impl_PackagistParse.f k a0) (impl_PackagistParse.f (k + 1) a0) := by
  intro a0 k
  unfold impl_PackagistParse.f
  repeat' first
      | (with_reducible exact semantic_ParsePackagistVersion.mono _ _)
      | (with_reducible exact LeO.refl _)
      | (with_reducible exact LeO.none _)
      | (with_reducible refine LeO.ite ?_ ?_)
      | (with_reducible refine LeO.bind ?_ (fun _ => ?_))
      | exact semantic_ParsePackagistVersion.mono _ _
      | exact LeO.none _
      | refine LeO.ite ?_ ?_
      | refine LeO.bind ?_ (fun _ => ?_)
set_option maxHeartbeats 8000000 in
set_option maxRecDepth 100000 in
theorem impl_PackagistParse.calls (k : Nat) (a0 : ByteArray) (r : List ByteArray) (w : World) (h : impl_PackagistParse.f k a0 = some r) :
    Calls Tryd.prog 14 #[.string a0] w fun e w' => ∃ v0_ : Value, e = .returned (v0_) ∧ Kd.R Kd.string 9 w' w.heap.size (fun _ => True) v0_ r ∧ Below w.heap.size w w' := by
  have HB := Aside0.mk (Below.refl w.heap.size w)
  have H : ((semantic_ParsePackagistVersion.f k a0).bind fun bt195 => ((semantic_ZZPackagistTold.f bt195.1 bt195.2).bind fun t199 => (if ([] : List ByteArray).length + t199.length < 8796093022208 then (some (([] : List ByteArray) ++ t199)) else (none)))) = some r := h
  clear h
  replace H := Option.bind_eq_some_iff.mp H
  obtain ⟨⟨t195, t196⟩, A20, H⟩ := H
  replace H : ((semantic_ZZPackagistTold.f t195 t196).bind fun t199 => (if ([] : List ByteArray).length + t199.length < 8796093022208 then (some (([] : List ByteArray) ++ t199)) else (none))) = some r := H
  have A2 := Aside0.mk A20
  clear A20
  replace H := Option.bind_eq_some_iff.mp H
  obtain ⟨t199, A30, H⟩ := H
  replace H : (if ([] : List ByteArray).length + t199.length < 8796093022208 then (some (([] : List ByteArray) ++ t199)) else (none)) = some r := H
  have A3 := Aside0.mk A30
  clear A30
  by_cases c4 : ([] : List ByteArray).length + t199.length < 8796093022208
  · rw [if_pos c4] at H
    have LMc4 := Aside0.mk c4
    clear c4
    obtain ⟨y202, hy202⟩ : ∃ y_ : List ByteArray, y_ = (([] : List ByteArray) ++ t199) := ⟨_, rfl⟩
    replace H : (some y202) = some r := by first | (rw [hy202]; with_reducible exact H) | (have H2_ := (Option.bind_some _ _).symm.trans H; rw [hy202]; with_reducible exact H2_) | (have H2_ := (Option.bind_some _ _).symm.trans H; with_reducible exact H2_) | with_reducible exact H | (rw [hy202]; exact H) | exact H
    have Ny202 := Aside0.mk hy202
    clear hy202
    obtain rfl := Option.some.inj H
    go_enter Tryd.func14, Tryd.ntmps14
    go_wp2_with (first | ((with_reducible refine gate_callee (f := 30) rfl ?_); refine goesL_ (some 4) rfl rfl Tryd.func30 (by kernel_rfl) rfl #[.string a0] rfl (by (try simp only [List.map_toArray, List.map_cons, List.map_nil]); first | done | rfl | (simp only [List.length_drop, List.length_take]; rfl)) ?_; (with_reducible refine (semantic_ParsePackagistVersion.calls k a0 t195 t196 _ A2.out).mono ?_); rintro e w5 ⟨v197, rfl, ho0, hb⟩; refine ⟨_, rfl, ?_⟩; have n0_ := Aside0.mk (Kd.R_lower ho0 (below_size (by repeat (first | (with_reducible first | exact HB.out | apply below_alloc | apply pw_below_drewN | apply below_drew1) | exact HB.out)))); have n1_ := Aside0.mk (below_step (by repeat (first | (with_reducible first | exact HB.out | apply below_alloc | apply pw_below_drewN | apply below_drew1) | exact HB.out)) hb); clear HB; have HO198 := n0_; have HB := n1_; clear n0_ n1_; (try clear hb); (try clear hb2); (try clear hk); (try clear hi); (try clear ho0); obtain ⟨Ao6, co6, eo6⟩ := Kd.R_slice HO198.out; subst eo6) | ((with_reducible refine gate_callee (f := 29) rfl ?_); refine goesL_ (some 5) rfl rfl Tryd.func29 (by kernel_rfl) rfl #[.agg #[.string t195, .slice Ao6 t196.length co6]] rfl (by (try simp only [List.map_toArray, List.map_cons, List.map_nil]); first | done | rfl | (simp only [List.length_drop, List.length_take]; rfl)) ?_; (with_reducible refine (semantic_ZZPackagistTold.calls t195 (fun k_ => some k_ = (.slice Ao6 t196.length co6 : Value).ownBlock) (.slice Ao6 t196.length co6) t196 t199 w _ ?side1 ?side2 A3.out).mono ?_); (case side1 => repeat (first | (with_reducible first | exact HB.out | apply below_alloc | apply pw_below_drewN | apply below_drew1) | exact HB.out)); (case side2 => exact Kd.R_tight rfl HO198.out); rintro e w7 ⟨v200, rfl, ho0, hb, hkp⟩; refine ⟨_, rfl, ?_⟩; have n0_ := Aside0.mk (Kd.R_mono (ok' := fun k_ => True) ho0 (fun k_ hk_ => trivial)); have n1_ := Aside0.mk (hb); clear HB; clear HO198; have HO201 := n0_; have HB := n1_; clear n0_ n1_; (try clear hb); (try clear hkp); (try clear ho0); obtain ⟨Ao9, co9, eo9⟩ := Kd.R_slice HO201.out; subst eo9) | ((with_reducible refine gate_builtin (b := .append) (xs := #[.const (.slice none 0 0), .tmp 5]) rfl ?_); at_builtin; refine Kd.R_append_rows Kd.string (w0 := w) w.heap.size rfl (.const (.slice none 0 0)) (.tmp 5) 25 9 (.string ⟨#[]⟩) 16 rfl Tryd.underlying25 info9 rfl (by decide) (by omega) (.slice none 0 0) ([] : List ByteArray) t199 _ _ _ (fun k_ => some k_ ≠ (.slice Ao9 t199.length co9 : Value).ownBlock) (fun _ => False) rfl rfl ?aO ?aR (fun _ _ h => h) (fun _ h => h.elim) ?aF ?aB ?aS ?aL ?_; (case aR => repeat (first | exact (Kd.R_reads' HO201.out).2.2 | (with_reducible refine Kd.C_alloc ?_ _) | (with_reducible refine Kd.C_drewN ?_ _) | (with_reducible refine Kd.C_drew ?_))); (case aB => exact (by repeat (first | (with_reducible first | exact HB.out | apply below_alloc | apply pw_below_drewN | apply below_drew1) | exact HB.out))); (case aF => exact (fun k_ hk => Kd.fresh' (Kd.R_lt (by (with_reducible repeat (first | apply Kd.R_alloc | apply Kd.R_drewN | apply Kd.R_drew)); exact HO201.out)) k_ hk)); (case aO => exact ((Kd.R_nil _ _ _ _ (fun k_ => some k_ ≠ (.slice Ao9 t199.length co9 : Value).ownBlock)))); (case aS => exact (below_size (by repeat (first | (with_reducible first | exact HB.out | apply below_alloc | apply pw_below_drewN | apply below_drew1) | exact HB.out)))); (case aL => have := LMc4.out; omega); intro v203 w8 ho hb hg hat; rw [← Ny202.out] at ho; have n0_ := Aside0.mk (Kd.R_after (Kd.R_apart_nil (by (with_reducible repeat (first | apply Kd.R_alloc | apply Kd.R_drewN | apply Kd.R_drew)); exact HO201.out)) hg hat); have n1_ := Aside0.mk (hb); have n2_ := Aside0.mk (ho); clear HO201; clear HB; have HO201 := n0_; have HB := n1_; have HO204 := n2_; clear n0_ n1_ n2_; clear ho hb hg hat))
    go_ret
    exact ⟨_, by first | rfl | (simp [errW_none, errW_some] <;> rfl) | (simp [*, errW_none, errW_some] <;> rfl) | (simp [bne_nil_hyb]; done), by (with_reducible repeat (first | apply Kd.R_alloc | apply Kd.R_drewN | apply Kd.R_drew)); exact Kd.R_mono HO204.out (fun _ hk => trivial), by repeat (first | (with_reducible first | exact HB.out | apply below_alloc | apply pw_below_drewN | apply below_drew1) | exact HB.out)⟩
  · rw [if_neg c4] at H
    exact absurd H (by simp)

end Go.Proofs.YteffbgjfhbgooaaDoor.Q
