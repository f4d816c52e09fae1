/- Proved here: each Go function that is named in this text, called as its theorem 'calls' says, returns what its Lean function 'f' tells, and of the memory that was there nothing is changed (a row of a law: the law returns true). Conditions: those that stand in each theorem; where 'f' tells none, nothing is said. Laid by a program of this seat's prover out of the translation; Lean checks it. -/
import Derived.Test.YteffbgjfhbgooaaDoorMx0
import Derived.Test.YteffbgjfhbgooaaDoorMx1
namespace Go.Proofs.YteffbgjfhbgooaaDoor.M
open Go.RowKit Go.Proofs.YteffbgjfhbgooaaDoorH Go.Proofs.YteffbgjfhbgooaaDoorW.PrintWords Go.Proofs.YteffbgjfhbgooaaDoorW.PrintLast Go.Proofs.YteffbgjfhbgooaaDoorW.PrintMore
attribute [local go_sem] max2_int min2_int max_two min_two max_three min_three max_four min_four   -- for this text's walks alone
set_option linter.unusedVariables false
set_option linter.unusedSimpArgs false

/-! ### laws_FnMavenTransitions: function 9 -/
mutual
def laws_FnMavenTransitions.j0 : Nat → ByteArray → Bool → Option (Bool)
  | 0, _, _ => none
  | k + 1, x0, x21 => if x21 = true then (some true) else (laws_FnMavenTransitions.l0 k x0 ([] : List Int) 1)
def laws_FnMavenTransitions.l0 : Nat → ByteArray → List Int → Int → Option (Bool)
  | 0, _, _, _ => none
  | k + 1, x0, x3, x4 => if x4 < (x0.size : Int) then (if 0 ≤ (wrap64 (x4 - 1)) then (if (wrap64 (x4 - 1)) ≤ x4 then (if x4 ≤ (x0.size : Int) then ((laws_digits.f k (x0.extract ((wrap64 (x4 - 1)) : Int).toNat (x4 : Int).toNat)).bind fun t122 => (if 0 ≤ x4 then (if x4 ≤ (wrap64 (x4 + 1)) then (if (wrap64 (x4 + 1)) ≤ (x0.size : Int) then ((laws_digits.f k (x0.extract (x4 : Int).toNat ((wrap64 (x4 + 1)) : Int).toNat)).bind fun t123 => (if (t122 != t123) = true then (if x3.length < 17592186044416 then (laws_FnMavenTransitions.l0 k x0 (x3 ++ [x4]) (wrap64 (x4 + 1))) else (none)) else (laws_FnMavenTransitions.l0 k x0 x3 (wrap64 (x4 + 1))))) else (none)) else (none)) else (none))) else (none)) else (none)) else (none)) else ((impl_MavenTransitions.f k x0).bind fun t127 => (if 1 + x0.size ≤ 9223372036854775807 then (if ((⟨#[97]⟩ : ByteArray) ++ x0).size + 2 ≤ 9223372036854775807 then ((impl_MavenTransitions.f k (((⟨#[97]⟩ : ByteArray) ++ x0) ++ (⟨#[49, 98]⟩ : ByteArray))).bind fun t130 => ((spec_MavenTransitions.f k x0).bind fun t133 => (if (t127.length : Int) = (x3.length : Int) then (if (t133.length : Int) = (x3.length : Int) then (laws_FnMavenTransitions.j2 k x3 t127 t133 ((t130.length : Int) == 0)) else (laws_FnMavenTransitions.j2 k x3 t127 t133 true)) else (laws_FnMavenTransitions.j2 k x3 t127 t133 true)))) else (none)) else (none)))
def laws_FnMavenTransitions.j2 : Nat → List Int → List Int → List Int → Bool → Option (Bool)
  | 0, _, _, _, _ => none
  | k + 1, x3, x5, x7, x69 => if x69 = true then (some false) else (laws_FnMavenTransitions.l1 k x5 x7 (x3.length : Int) 0)
def laws_FnMavenTransitions.l1 : Nat → List Int → List Int → Int → Int → Option (Bool)
  | 0, _, _, _, _ => none
  | k + 1, x5, x7, x71, x72 => if x72 < x71 then (if 0 ≤ x72 then (if x72 < (x5.length : Int) then (if x72 < (x7.length : Int) then (if (rd x5 x72) = (rd x7 x72) then (if x72 > 0 then (if 0 ≤ (wrap64 (x72 - 1)) then (if (wrap64 (x72 - 1)) < (x5.length : Int) then (if (rd x5 x72) ≤ (rd x5 (wrap64 (x72 - 1))) then (some false) else (laws_FnMavenTransitions.l1 k x5 x7 x71 (wrap64 (x72 + 1)))) else (none)) else (none)) else (laws_FnMavenTransitions.l1 k x5 x7 x71 (wrap64 (x72 + 1)))) else (some false)) else (none)) else (none)) else (none)) else (some true)
end
def laws_FnMavenTransitions.f (k : Nat) (a0 : ByteArray) : Option (Bool) := if (a0.size : Int) > 2147483647 then (some true) else ((laws_short.f k (([a0] : List ByteArray))).bind fun t117 => (if t117 = true then ((laws_ascii.f k (([a0] : List ByteArray))).bind fun t121 => (laws_FnMavenTransitions.j0 k a0 (!t121))) else (laws_FnMavenTransitions.j0 k a0 true)))
theorem laws_FnMavenTransitions.mono_l : ∀ k, (∀ y0 y1, LeO (laws_FnMavenTransitions.j0 k y0 y1) (laws_FnMavenTransitions.j0 (k + 1) y0 y1)) ∧ (∀ y0 y1 y2, LeO (laws_FnMavenTransitions.l0 k y0 y1 y2) (laws_FnMavenTransitions.l0 (k + 1) y0 y1 y2)) ∧ (∀ y0 y1 y2 y3, LeO (laws_FnMavenTransitions.j2 k y0 y1 y2 y3) (laws_FnMavenTransitions.j2 (k + 1) y0 y1 y2 y3)) ∧ (∀ y0 y1 y2 y3, LeO (laws_FnMavenTransitions.l1 k y0 y1 y2 y3) (laws_FnMavenTransitions.l1 (k + 1) y0 y1 y2 y3))
  | 0 => ⟨fun _ _ r h => by simp [laws_FnMavenTransitions.j0] at h, fun _ _ _ r h => by simp [laws_FnMavenTransitions.l0] at h, fun _ _ _ _ r h => by simp [laws_FnMavenTransitions.j2] at h, fun _ _ _ _ r h => by simp [laws_FnMavenTransitions.l1] at h⟩
  | k + 1 => by
    obtain ⟨ih0, ih1, ih2, ih3⟩ := laws_FnMavenTransitions.mono_l k
    refine ⟨?_, ?_, ?_, ?_⟩
    · intro y0 y1
      unfold laws_FnMavenTransitions.j0
      repeat' first
      | (with_reducible exact ih0 _ _)
      | (with_reducible exact ih1 _ _ _)
      | (with_reducible exact ih2 _ _ _ _)
      | (with_reducible exact ih3 _ _ _ _)
      | (with_reducible exact impl_MavenTransitions.mono _ _)
      | (with_reducible exact laws_ascii.mono _ _)
      | (with_reducible exact laws_digits.mono _ _)
      | (with_reducible exact laws_short.mono _ _)
      | (with_reducible exact spec_MavenTransitions.mono _ _)
      | (with_reducible exact LeO.refl _)
      | (with_reducible exact LeO.none _)
      | (with_reducible refine LeO.ite ?_ ?_)
      | (with_reducible refine LeO.bind ?_ (fun _ => ?_))
      | exact ih0 _ _
      | exact ih1 _ _ _
      | exact ih2 _ _ _ _
      | exact ih3 _ _ _ _
      | exact impl_MavenTransitions.mono _ _
      | exact laws_ascii.mono _ _
      | exact laws_digits.mono _ _
      | exact laws_short.mono _ _
      | exact spec_MavenTransitions.mono _ _
      | exact LeO.none _
      | refine LeO.ite ?_ ?_
      | refine LeO.bind ?_ (fun _ => ?_)
    · intro y0 y1 y2
      unfold laws_FnMavenTransitions.l0
      repeat' first
      | (with_reducible exact ih0 _ _)
      | (with_reducible exact ih1 _ _ _)
      | (with_reducible exact ih2 _ _ _ _)
      | (with_reducible exact ih3 _ _ _ _)
      | (with_reducible exact impl_MavenTransitions.mono _ _)
      | (with_reducible exact laws_ascii.mono _ _)
      | (with_reducible exact laws_digits.mono _ _)
      | (with_reducible exact laws_short.mono _ _)
      | (with_reducible exact spec_MavenTransitions.mono _ _)
      | (with_reducible exact LeO.refl _)
      | (with_reducible exact LeO.none _)
      | (with_reducible refine LeO.ite ?_ ?_)
      | (with_reducible refine LeO.bind ?_ (fun _ => ?_))
      | exact ih0 _ _
      | exact ih1 _ _ _
      | exact ih2 _ _ _ _
      | exact ih3 _ _ _ _
      | exact impl_MavenTransitions.mono _ _
      | exact laws_ascii.mono _ _
      | exact laws_digits.mono _ _
      | exact laws_short.mono _ _
      | exact spec_MavenTransitions.mono _ _
      | exact LeO.none _
      | refine LeO.ite ?_ ?_
      | refine LeO.bind ?_ (fun _ => ?_)
    · intro y0 y1 y2 y3
      unfold laws_FnMavenTransitions.j2
      repeat' first
      | (with_reducible exact ih0 _ _)
      | (with_reducible exact ih1 _ _ _)
      | (with_reducible exact ih2 _ _ _ _)
      | (with_reducible exact ih3 _ _ _ _)
      | (with_reducible exact impl_MavenTransitions.mono _ _)
      | (with_reducible exact laws_ascii.mono _ _)
      | (with_reducible exact laws_digits.mono _ _)
      | (with_reducible exact laws_short.mono _ _)
      | (with_reducible exact spec_MavenTransitions.mono _ _)
      | (with_reducible exact LeO.refl _)
      | (with_reducible exact LeO.none _)
      | (with_reducible refine LeO.ite ?_ ?_)
      | (with_reducible refine LeO.bind ?_ (fun _ => ?_))
      | exact ih0 _ _
      | exact ih1 _ _ _
      | exact ih2 _ _ _ _
      | exact ih3 _ _ _ _
      | exact impl_MavenTransitions.mono _ _
      | exact laws_ascii.mono _ _
      | exact laws_digits.mono _ _
      | exact laws_short.mono _ _
      | exact spec_MavenTransitions.mono _ _
      | exact LeO.none _
      | refine LeO.ite ?_ ?_
      | refine LeO.bind ?_ (fun _ => ?_)
    · intro y0 y1 y2 y3
      unfold laws_FnMavenTransitions.l1
      repeat' first
      | (with_reducible exact ih0 _ _)
      | (with_reducible exact ih1 _ _ _)
      | (with_reducible exact ih2 _ _ _ _)
      | (with_reducible exact ih3 _ _ _ _)
      | (with_reducible exact impl_MavenTransitions.mono _ _)
      | (with_reducible exact laws_ascii.mono _ _)
      | (with_reducible exact laws_digits.mono _ _)
      | (with_reducible exact laws_short.mono _ _)
      | (with_reducible exact spec_MavenTransitions.mono _ _)
      | (with_reducible exact LeO.refl _)
      | (with_reducible exact LeO.none _)
      | (with_reducible refine LeO.ite ?_ ?_)
      | (with_reducible refine LeO.bind ?_ (fun _ => ?_))
      | exact ih0 _ _
      | exact ih1 _ _ _
      | exact ih2 _ _ _ _
      | exact ih3 _ _ _ _
      | exact impl_MavenTransitions.mono _ _
      | exact laws_ascii.mono _ _
      | exact laws_digits.mono _ _
      | exact laws_short.mono _ _
      | exact spec_MavenTransitions.mono _ _
      | exact LeO.none _
      | refine LeO.ite ?_ ?_
      | refine LeO.bind ?_ (fun _ => ?_)
theorem laws_FnMavenTransitions.mono : ∀ a0 k, LeO (laws_FnMavenTransitions.f k a0) (laws_FnMavenTransitions.f (k + 1) a0) := by
  intro a0 k
  obtain ⟨ih0, ih1, ih2, ih3⟩ := laws_FnMavenTransitions.mono_l k
  unfold laws_FnMavenTransitions.f
  repeat' first
      | (with_reducible exact ih0 _ _)
      | (with_reducible exact ih1 _ _ _)
      | (with_reducible exact ih2 _ _ _ _)
      | (with_reducible exact ih3 _ _ _ _)
      | (with_reducible exact impl_MavenTransitions.mono _ _)
      | (with_reducible exact laws_ascii.mono _ _)
      | (with_reducible exact laws_digits.mono _ _)
      | (with_reducible exact laws_short.mono _ _)
      | (with_reducible exact spec_MavenTransitions.mono _ _)
      | (with_reducible exact LeO.refl _)
      | (with_reducible exact LeO.none _)
      | (with_reducible refine LeO.ite ?_ ?_)
      | (with_reducible refine LeO.bind ?_ (fun _ => ?_))
      | exact ih0 _ _
      | exact ih1 _ _ _
      | exact ih2 _ _ _ _
      | exact ih3 _ _ _ _
      | exact impl_MavenTransitions.mono _ _
      | exact laws_ascii.mono _ _
      | exact laws_digits.mono _ _
      | exact laws_short.mono _ _
      | exact spec_MavenTransitions.mono _ _
      | exact LeO.none _
      | refine LeO.ite ?_ ?_
      | refine LeO.bind ?_ (fun _ => ?_)
set_option maxHeartbeats 8000000 in
set_option maxRecDepth 100000 in
theorem laws_FnMavenTransitions.calls (k : Nat) (a0 : ByteArray) (r : Bool) (w : World) (h : laws_FnMavenTransitions.f k a0 = some r) :
    Calls Tryd.prog 9 #[.string a0] w fun e w' => e = .returned (.bool r) ∧ Below w.heap.size w w' := by
  have HB := Aside0.mk (Below.refl w.heap.size w)
  have H : (if (a0.size : Int) > 2147483647 then (some true) else ((laws_short.f k (([a0] : List ByteArray))).bind fun t117 => (if t117 = true then ((laws_ascii.f k (([a0] : List ByteArray))).bind fun t121 => (laws_FnMavenTransitions.j0 k a0 (!t121))) else (laws_FnMavenTransitions.j0 k a0 true)))) = some r := h
  clear h
  by_cases c2 : (a0.size : Int) > 2147483647
  · rw [if_pos c2] at H
    have c2b0 : decide (2147483647 < (a0.size : Int)) = true := decide_eq_true c2
    have c2b1 : decide (2147483647 < a0.size) = true := decide_eq_true (by omega)
    clear c2
    obtain rfl := Option.some.inj H
    go_enter Tryd.func9, Tryd.ntmps9
    go_wp2
    repeat (go_quiet (fail); try go_wp2)
    go_ret
    exact ⟨by first | rfl | (simp [errW_none, errW_some] <;> rfl) | (simp [*, errW_none, errW_some] <;> rfl) | (simp [bne_nil_hyb]; done), by repeat (first | (with_reducible first | exact HB.out | apply below_alloc | apply pw_below_drewN | apply below_drew1) | exact HB.out)⟩
  · rw [if_neg c2] at H
    have c2b0 : decide (2147483647 < (a0.size : Int)) = false := decide_eq_false c2
    have c2b1 : decide (2147483647 < a0.size) = false := decide_eq_false (by omega)
    clear c2
    have HC3 := Aside0.mk H
    clear H
    go_enter Tryd.func9, Tryd.ntmps9
    go_upto_region 3 with (fail)
    repeat (go_quiet (fail); go_upto_region 3 with (fail))
    go_cut [21] (fun v21 wc => ∃ (kq : Nat) (x21_2 : Bool), v21 = .bool x21_2 ∧ Aside0 (laws_FnMavenTransitions.j0 kq a0 x21_2 = some r) ∧ Aside0 (kq ≤ k) ∧ Aside0 (Below w.heap.size w wc))
    case first =>
      have H := HC3.out
      clear HC3
      obtain ⟨y114, hy114⟩ : ∃ y_ : List ByteArray, y_ = (([a0] : List ByteArray)) := ⟨_, rfl⟩
      replace H : ((laws_short.f k y114).bind fun t117 => (if t117 = true then ((laws_ascii.f k (([a0] : List ByteArray))).bind fun t121 => (laws_FnMavenTransitions.j0 k a0 (!t121))) else (laws_FnMavenTransitions.j0 k a0 true))) = some r := by first | (rw [hy114]; with_reducible exact H) | (have H2_ := (Option.bind_some _ _).symm.trans H; rw [hy114]; with_reducible exact H2_) | (have H2_ := (Option.bind_some _ _).symm.trans H; with_reducible exact H2_) | with_reducible exact H | (rw [hy114]; exact H) | exact H
      have Ny114 := Aside0.mk hy114
      clear hy114
      replace H := Option.bind_eq_some_iff.mp H
      obtain ⟨t117, A40, H⟩ := H
      replace H : (if t117 = true then ((laws_ascii.f k (([a0] : List ByteArray))).bind fun t121 => (laws_FnMavenTransitions.j0 k a0 (!t121))) else (laws_FnMavenTransitions.j0 k a0 true)) = some r := H
      have A4 := Aside0.mk A40
      clear A40
      by_cases c5 : t117 = true
      · subst c5
        have H1 : ((laws_ascii.f k (([a0] : List ByteArray))).bind fun t121 => (laws_FnMavenTransitions.j0 k a0 (!t121))) = some r := by rw [if_pos rfl] at H; exact H
        clear H
        have H := H1
        clear H1
        obtain ⟨y118, hy118⟩ : ∃ y_ : List ByteArray, y_ = (([a0] : List ByteArray)) := ⟨_, rfl⟩
        replace H : ((laws_ascii.f k y118).bind fun t121 => (laws_FnMavenTransitions.j0 k a0 (!t121))) = some r := by first | (rw [hy118]; with_reducible exact H) | (have H2_ := (Option.bind_some _ _).symm.trans H; rw [hy118]; with_reducible exact H2_) | (have H2_ := (Option.bind_some _ _).symm.trans H; with_reducible exact H2_) | with_reducible exact H | (rw [hy118]; exact H) | exact H
        have Ny118 := Aside0.mk hy118
        clear hy118
        replace H := Option.bind_eq_some_iff.mp H
        obtain ⟨t121, A60, H⟩ := H
        replace H : (laws_FnMavenTransitions.j0 k a0 (!t121)) = some r := H
        have A6 := Aside0.mk A60
        clear A60
        have H' := Aside0.mk H
        clear H
        go_wp2_with (first | ((with_reducible refine gate_dst (N := 13) rfl ?_); (try (refine gate_guard (by rfl) ?_; dsimp only)); refine Kd.R_lit Kd.string _ 9 ?hg (N := 13) ?hd (xs := ([a0] : List ByteArray)) (inner := [.string a0]) (ok := fun _ => True) (okp := fun _ => True) ?hr ?hp (fun _ hk => hk) trivial (Below.refl _ _) (Nat.le_refl _) (by simp) ?_; (case hd => rfl); (case hg => rfl); (case hr => first | (go_simp; done) | (go_simp; rfl)); (case hp => exact (Reps.one (show Kd.M Kd.string _ _ _ a0 [.string a0] from rfl) (Reps.none _ _))); intro v115 w7 ho8 hb hg_ hnew_; clear hg_ hnew_; (first | rw [← Ny114.out] at ho8 | (simp only [Int.reduceToNat] at ho8; rw [← Ny114.out] at ho8)); have n0_ := Aside0.mk (Kd.R_lower ho8 (below_size (by repeat (first | (with_reducible first | exact HB.out | apply below_alloc | apply pw_below_drewN | apply below_drew1) | exact HB.out)))); have n1_ := Aside0.mk (below_step (by repeat (first | (with_reducible first | exact HB.out | apply below_alloc | apply pw_below_drewN | apply below_drew1) | exact HB.out)) hb); clear HB; have HO116 := n0_; have HB := n1_; clear n0_ n1_; clear hb ho8; obtain ⟨Ao9, co9, eo9⟩ := Kd.R_slice HO116.out; subst eo9) | (go_at_call 10; (with_reducible refine (laws_short.calls k _ _ y114 true _ ?side1 ?side2 A4.out).mono ?_); (case side1 => repeat (first | exact (Kd.R_reads' HO116.out).2.2 | (with_reducible refine Kd.C_alloc ?_ _) | (with_reducible refine Kd.C_drewN ?_ _) | (with_reducible refine Kd.C_drew ?_))); (case side2 => exact (Kd.R_reads' HO116.out).2.1); rintro e w' ⟨rfl, ⟨nd, rfl⟩⟩; (try first | exact ⟨rfl, _, World.drewN_drewN _ _ _⟩ | exact ⟨rfl, _, Eq.trans (World.drewN_drewN _ _ _) (congrArg (World.drewN _) (Nat.add_assoc _ _ _))⟩)) | ((with_reducible refine gate_dst (N := 18) rfl ?_); (try (refine gate_guard (by rfl) ?_; dsimp only)); refine Kd.R_lit Kd.string _ 9 ?hg (N := 18) ?hd (xs := ([a0] : List ByteArray)) (inner := [.string a0]) (ok := fun _ => True) (okp := fun _ => True) ?hr ?hp (fun _ hk => hk) trivial (Below.refl _ _) (Nat.le_refl _) (by simp) ?_; (case hd => rfl); (case hg => rfl); (case hr => first | (go_simp; done) | (go_simp; rfl)); (case hp => exact (Reps.one (show Kd.M Kd.string _ _ _ a0 [.string a0] from rfl) (Reps.none _ _))); intro v119 w10 ho11 hb hg_ hnew_; clear hg_ hnew_; (first | rw [← Ny118.out] at ho11 | (simp only [Int.reduceToNat] at ho11; rw [← Ny118.out] at ho11)); have n0_ := Aside0.mk (Kd.R_elder' (by (with_reducible repeat (first | apply Kd.R_alloc | apply Kd.R_drewN | apply Kd.R_drew)); exact HO116.out) (Kd.R_base ho11) hb); have n1_ := Aside0.mk (Kd.R_lower (Kd.R_new' ho11 (Kd.R_lt (by (with_reducible repeat (first | apply Kd.R_alloc | apply Kd.R_drewN | apply Kd.R_drew)); exact HO116.out))) (below_size (by repeat (first | (with_reducible first | exact HB.out | apply below_alloc | apply pw_below_drewN | apply below_drew1) | exact HB.out)))); have n2_ := Aside0.mk (below_step (by repeat (first | (with_reducible first | exact HB.out | apply below_alloc | apply pw_below_drewN | apply below_drew1) | exact HB.out)) hb); clear HO116; clear HB; have HO116 := n0_; have HO120 := n1_; have HB := n2_; clear n0_ n1_ n2_; clear hb ho11; obtain ⟨Ao12, co12, eo12⟩ := Kd.R_slice HO120.out; subst eo12) | (go_at_call 22; (with_reducible refine (laws_ascii.calls k _ _ y118 t121 _ ?side1 ?side2 A6.out).mono ?_); (case side1 => repeat (first | exact (Kd.R_reads' HO120.out).2.2 | (with_reducible refine Kd.C_alloc ?_ _) | (with_reducible refine Kd.C_drewN ?_ _) | (with_reducible refine Kd.C_drew ?_))); (case side2 => exact (Kd.R_reads' HO120.out).2.1); rintro e w' ⟨rfl, ⟨nd, rfl⟩⟩; (try first | exact ⟨rfl, _, World.drewN_drewN _ _ _⟩ | exact ⟨rfl, _, Eq.trans (World.drewN_drewN _ _ _) (congrArg (World.drewN _) (Nat.add_assoc _ _ _))⟩)))
        repeat (go_quiet (first | ((with_reducible refine gate_dst (N := 13) rfl ?_); (try (refine gate_guard (by rfl) ?_; dsimp only)); refine Kd.R_lit Kd.string _ 9 ?hg (N := 13) ?hd (xs := ([a0] : List ByteArray)) (inner := [.string a0]) (ok := fun _ => True) (okp := fun _ => True) ?hr ?hp (fun _ hk => hk) trivial (Below.refl _ _) (Nat.le_refl _) (by simp) ?_; (case hd => rfl); (case hg => rfl); (case hr => first | (go_simp; done) | (go_simp; rfl)); (case hp => exact (Reps.one (show Kd.M Kd.string _ _ _ a0 [.string a0] from rfl) (Reps.none _ _))); intro v115 w7 ho8 hb hg_ hnew_; clear hg_ hnew_; (first | rw [← Ny114.out] at ho8 | (simp only [Int.reduceToNat] at ho8; rw [← Ny114.out] at ho8)); have n0_ := Aside0.mk (Kd.R_lower ho8 (below_size (by repeat (first | (with_reducible first | exact HB.out | apply below_alloc | apply pw_below_drewN | apply below_drew1) | exact HB.out)))); have n1_ := Aside0.mk (below_step (by repeat (first | (with_reducible first | exact HB.out | apply below_alloc | apply pw_below_drewN | apply below_drew1) | exact HB.out)) hb); clear HB; have HO116 := n0_; have HB := n1_; clear n0_ n1_; clear hb ho8; obtain ⟨Ao9, co9, eo9⟩ := Kd.R_slice HO116.out; subst eo9) | (go_at_call 10; (with_reducible refine (laws_short.calls k _ _ y114 true _ ?side1 ?side2 A4.out).mono ?_); (case side1 => repeat (first | exact (Kd.R_reads' HO116.out).2.2 | (with_reducible refine Kd.C_alloc ?_ _) | (with_reducible refine Kd.C_drewN ?_ _) | (with_reducible refine Kd.C_drew ?_))); (case side2 => exact (Kd.R_reads' HO116.out).2.1); rintro e w' ⟨rfl, ⟨nd, rfl⟩⟩; (try first | exact ⟨rfl, _, World.drewN_drewN _ _ _⟩ | exact ⟨rfl, _, Eq.trans (World.drewN_drewN _ _ _) (congrArg (World.drewN _) (Nat.add_assoc _ _ _))⟩)) | ((with_reducible refine gate_dst (N := 18) rfl ?_); (try (refine gate_guard (by rfl) ?_; dsimp only)); refine Kd.R_lit Kd.string _ 9 ?hg (N := 18) ?hd (xs := ([a0] : List ByteArray)) (inner := [.string a0]) (ok := fun _ => True) (okp := fun _ => True) ?hr ?hp (fun _ hk => hk) trivial (Below.refl _ _) (Nat.le_refl _) (by simp) ?_; (case hd => rfl); (case hg => rfl); (case hr => first | (go_simp; done) | (go_simp; rfl)); (case hp => exact (Reps.one (show Kd.M Kd.string _ _ _ a0 [.string a0] from rfl) (Reps.none _ _))); intro v119 w10 ho11 hb hg_ hnew_; clear hg_ hnew_; (first | rw [← Ny118.out] at ho11 | (simp only [Int.reduceToNat] at ho11; rw [← Ny118.out] at ho11)); have n0_ := Aside0.mk (Kd.R_elder' (by (with_reducible repeat (first | apply Kd.R_alloc | apply Kd.R_drewN | apply Kd.R_drew)); exact HO116.out) (Kd.R_base ho11) hb); have n1_ := Aside0.mk (Kd.R_lower (Kd.R_new' ho11 (Kd.R_lt (by (with_reducible repeat (first | apply Kd.R_alloc | apply Kd.R_drewN | apply Kd.R_drew)); exact HO116.out))) (below_size (by repeat (first | (with_reducible first | exact HB.out | apply below_alloc | apply pw_below_drewN | apply below_drew1) | exact HB.out)))); have n2_ := Aside0.mk (below_step (by repeat (first | (with_reducible first | exact HB.out | apply below_alloc | apply pw_below_drewN | apply below_drew1) | exact HB.out)) hb); clear HO116; clear HB; have HO116 := n0_; have HO120 := n1_; have HB := n2_; clear n0_ n1_ n2_; clear hb ho11; obtain ⟨Ao12, co12, eo12⟩ := Kd.R_slice HO120.out; subst eo12) | (go_at_call 22; (with_reducible refine (laws_ascii.calls k _ _ y118 t121 _ ?side1 ?side2 A6.out).mono ?_); (case side1 => repeat (first | exact (Kd.R_reads' HO120.out).2.2 | (with_reducible refine Kd.C_alloc ?_ _) | (with_reducible refine Kd.C_drewN ?_ _) | (with_reducible refine Kd.C_drew ?_))); (case side2 => exact (Kd.R_reads' HO120.out).2.1); rintro e w' ⟨rfl, ⟨nd, rfl⟩⟩; (try first | exact ⟨rfl, _, World.drewN_drewN _ _ _⟩ | exact ⟨rfl, _, Eq.trans (World.drewN_drewN _ _ _) (congrArg (World.drewN _) (Nat.add_assoc _ _ _))⟩))); try go_wp2_with (first | ((with_reducible refine gate_dst (N := 13) rfl ?_); (try (refine gate_guard (by rfl) ?_; dsimp only)); refine Kd.R_lit Kd.string _ 9 ?hg (N := 13) ?hd (xs := ([a0] : List ByteArray)) (inner := [.string a0]) (ok := fun _ => True) (okp := fun _ => True) ?hr ?hp (fun _ hk => hk) trivial (Below.refl _ _) (Nat.le_refl _) (by simp) ?_; (case hd => rfl); (case hg => rfl); (case hr => first | (go_simp; done) | (go_simp; rfl)); (case hp => exact (Reps.one (show Kd.M Kd.string _ _ _ a0 [.string a0] from rfl) (Reps.none _ _))); intro v115 w7 ho8 hb hg_ hnew_; clear hg_ hnew_; (first | rw [← Ny114.out] at ho8 | (simp only [Int.reduceToNat] at ho8; rw [← Ny114.out] at ho8)); have n0_ := Aside0.mk (Kd.R_lower ho8 (below_size (by repeat (first | (with_reducible first | exact HB.out | apply below_alloc | apply pw_below_drewN | apply below_drew1) | exact HB.out)))); have n1_ := Aside0.mk (below_step (by repeat (first | (with_reducible first | exact HB.out | apply below_alloc | apply pw_below_drewN | apply below_drew1) | exact HB.out)) hb); clear HB; have HO116 := n0_; have HB := n1_; clear n0_ n1_; clear hb ho8; obtain ⟨Ao9, co9, eo9⟩ := Kd.R_slice HO116.out; subst eo9) | (go_at_call 10; (with_reducible refine (laws_short.calls k _ _ y114 true _ ?side1 ?side2 A4.out).mono ?_); (case side1 => repeat (first | exact (Kd.R_reads' HO116.out).2.2 | (with_reducible refine Kd.C_alloc ?_ _) | (with_reducible refine Kd.C_drewN ?_ _) | (with_reducible refine Kd.C_drew ?_))); (case side2 => exact (Kd.R_reads' HO116.out).2.1); rintro e w' ⟨rfl, ⟨nd, rfl⟩⟩; (try first | exact ⟨rfl, _, World.drewN_drewN _ _ _⟩ | exact ⟨rfl, _, Eq.trans (World.drewN_drewN _ _ _) (congrArg (World.drewN _) (Nat.add_assoc _ _ _))⟩)) | ((with_reducible refine gate_dst (N := 18) rfl ?_); (try (refine gate_guard (by rfl) ?_; dsimp only)); refine Kd.R_lit Kd.string _ 9 ?hg (N := 18) ?hd (xs := ([a0] : List ByteArray)) (inner := [.string a0]) (ok := fun _ => True) (okp := fun _ => True) ?hr ?hp (fun _ hk => hk) trivial (Below.refl _ _) (Nat.le_refl _) (by simp) ?_; (case hd => rfl); (case hg => rfl); (case hr => first | (go_simp; done) | (go_simp; rfl)); (case hp => exact (Reps.one (show Kd.M Kd.string _ _ _ a0 [.string a0] from rfl) (Reps.none _ _))); intro v119 w10 ho11 hb hg_ hnew_; clear hg_ hnew_; (first | rw [← Ny118.out] at ho11 | (simp only [Int.reduceToNat] at ho11; rw [← Ny118.out] at ho11)); have n0_ := Aside0.mk (Kd.R_elder' (by (with_reducible repeat (first | apply Kd.R_alloc | apply Kd.R_drewN | apply Kd.R_drew)); exact HO116.out) (Kd.R_base ho11) hb); have n1_ := Aside0.mk (Kd.R_lower (Kd.R_new' ho11 (Kd.R_lt (by (with_reducible repeat (first | apply Kd.R_alloc | apply Kd.R_drewN | apply Kd.R_drew)); exact HO116.out))) (below_size (by repeat (first | (with_reducible first | exact HB.out | apply below_alloc | apply pw_below_drewN | apply below_drew1) | exact HB.out)))); have n2_ := Aside0.mk (below_step (by repeat (first | (with_reducible first | exact HB.out | apply below_alloc | apply pw_below_drewN | apply below_drew1) | exact HB.out)) hb); clear HO116; clear HB; have HO116 := n0_; have HO120 := n1_; have HB := n2_; clear n0_ n1_ n2_; clear hb ho11; obtain ⟨Ao12, co12, eo12⟩ := Kd.R_slice HO120.out; subst eo12) | (go_at_call 22; (with_reducible refine (laws_ascii.calls k _ _ y118 t121 _ ?side1 ?side2 A6.out).mono ?_); (case side1 => repeat (first | exact (Kd.R_reads' HO120.out).2.2 | (with_reducible refine Kd.C_alloc ?_ _) | (with_reducible refine Kd.C_drewN ?_ _) | (with_reducible refine Kd.C_drew ?_))); (case side2 => exact (Kd.R_reads' HO120.out).2.1); rintro e w' ⟨rfl, ⟨nd, rfl⟩⟩; (try first | exact ⟨rfl, _, World.drewN_drewN _ _ _⟩ | exact ⟨rfl, _, Eq.trans (World.drewN_drewN _ _ _) (congrArg (World.drewN _) (Nat.add_assoc _ _ _))⟩))))
        go_meet
        case rel => exact ⟨_, (!t121), (by first | rfl | (simp; done) | (simp [*]; done) | (simp [bne_nil_hyb]; done) | (simp [bne_nil_hyb, *]; done)), H', ⟨by first | omega | exact Nat.le_refl _⟩, ⟨by repeat (first | (with_reducible first | exact HB.out | apply below_alloc | apply pw_below_drewN | apply below_drew1) | exact HB.out)⟩⟩
      · replace c5 := Bool.eq_false_iff.mpr c5
        subst c5
        have H1 : (laws_FnMavenTransitions.j0 k a0 true) = some r := by rw [if_neg (show ¬ (false = true) by decide)] at H; exact H
        clear H
        have H := H1
        clear H1
        have H' := Aside0.mk H
        clear H
        go_wp2_with (first | ((with_reducible refine gate_dst (N := 13) rfl ?_); (try (refine gate_guard (by rfl) ?_; dsimp only)); refine Kd.R_lit Kd.string _ 9 ?hg (N := 13) ?hd (xs := ([a0] : List ByteArray)) (inner := [.string a0]) (ok := fun _ => True) (okp := fun _ => True) ?hr ?hp (fun _ hk => hk) trivial (Below.refl _ _) (Nat.le_refl _) (by simp) ?_; (case hd => rfl); (case hg => rfl); (case hr => first | (go_simp; done) | (go_simp; rfl)); (case hp => exact (Reps.one (show Kd.M Kd.string _ _ _ a0 [.string a0] from rfl) (Reps.none _ _))); intro v115 w13 ho14 hb hg_ hnew_; clear hg_ hnew_; (first | rw [← Ny114.out] at ho14 | (simp only [Int.reduceToNat] at ho14; rw [← Ny114.out] at ho14)); have n0_ := Aside0.mk (Kd.R_lower ho14 (below_size (by repeat (first | (with_reducible first | exact HB.out | apply below_alloc | apply pw_below_drewN | apply below_drew1) | exact HB.out)))); have n1_ := Aside0.mk (below_step (by repeat (first | (with_reducible first | exact HB.out | apply below_alloc | apply pw_below_drewN | apply below_drew1) | exact HB.out)) hb); clear HB; have HO116 := n0_; have HB := n1_; clear n0_ n1_; clear hb ho14; obtain ⟨Ao15, co15, eo15⟩ := Kd.R_slice HO116.out; subst eo15) | (go_at_call 10; (with_reducible refine (laws_short.calls k _ _ y114 false _ ?side1 ?side2 A4.out).mono ?_); (case side1 => repeat (first | exact (Kd.R_reads' HO116.out).2.2 | (with_reducible refine Kd.C_alloc ?_ _) | (with_reducible refine Kd.C_drewN ?_ _) | (with_reducible refine Kd.C_drew ?_))); (case side2 => exact (Kd.R_reads' HO116.out).2.1); rintro e w' ⟨rfl, ⟨nd, rfl⟩⟩; (try first | exact ⟨rfl, _, World.drewN_drewN _ _ _⟩ | exact ⟨rfl, _, Eq.trans (World.drewN_drewN _ _ _) (congrArg (World.drewN _) (Nat.add_assoc _ _ _))⟩)))
        repeat (go_quiet (first | ((with_reducible refine gate_dst (N := 13) rfl ?_); (try (refine gate_guard (by rfl) ?_; dsimp only)); refine Kd.R_lit Kd.string _ 9 ?hg (N := 13) ?hd (xs := ([a0] : List ByteArray)) (inner := [.string a0]) (ok := fun _ => True) (okp := fun _ => True) ?hr ?hp (fun _ hk => hk) trivial (Below.refl _ _) (Nat.le_refl _) (by simp) ?_; (case hd => rfl); (case hg => rfl); (case hr => first | (go_simp; done) | (go_simp; rfl)); (case hp => exact (Reps.one (show Kd.M Kd.string _ _ _ a0 [.string a0] from rfl) (Reps.none _ _))); intro v115 w13 ho14 hb hg_ hnew_; clear hg_ hnew_; (first | rw [← Ny114.out] at ho14 | (simp only [Int.reduceToNat] at ho14; rw [← Ny114.out] at ho14)); have n0_ := Aside0.mk (Kd.R_lower ho14 (below_size (by repeat (first | (with_reducible first | exact HB.out | apply below_alloc | apply pw_below_drewN | apply below_drew1) | exact HB.out)))); have n1_ := Aside0.mk (below_step (by repeat (first | (with_reducible first | exact HB.out | apply below_alloc | apply pw_below_drewN | apply below_drew1) | exact HB.out)) hb); clear HB; have HO116 := n0_; have HB := n1_; clear n0_ n1_; clear hb ho14; obtain ⟨Ao15, co15, eo15⟩ := Kd.R_slice HO116.out; subst eo15) | (go_at_call 10; (with_reducible refine (laws_short.calls k _ _ y114 false _ ?side1 ?side2 A4.out).mono ?_); (case side1 => repeat (first | exact (Kd.R_reads' HO116.out).2.2 | (with_reducible refine Kd.C_alloc ?_ _) | (with_reducible refine Kd.C_drewN ?_ _) | (with_reducible refine Kd.C_drew ?_))); (case side2 => exact (Kd.R_reads' HO116.out).2.1); rintro e w' ⟨rfl, ⟨nd, rfl⟩⟩; (try first | exact ⟨rfl, _, World.drewN_drewN _ _ _⟩ | exact ⟨rfl, _, Eq.trans (World.drewN_drewN _ _ _) (congrArg (World.drewN _) (Nat.add_assoc _ _ _))⟩))); try go_wp2_with (first | ((with_reducible refine gate_dst (N := 13) rfl ?_); (try (refine gate_guard (by rfl) ?_; dsimp only)); refine Kd.R_lit Kd.string _ 9 ?hg (N := 13) ?hd (xs := ([a0] : List ByteArray)) (inner := [.string a0]) (ok := fun _ => True) (okp := fun _ => True) ?hr ?hp (fun _ hk => hk) trivial (Below.refl _ _) (Nat.le_refl _) (by simp) ?_; (case hd => rfl); (case hg => rfl); (case hr => first | (go_simp; done) | (go_simp; rfl)); (case hp => exact (Reps.one (show Kd.M Kd.string _ _ _ a0 [.string a0] from rfl) (Reps.none _ _))); intro v115 w13 ho14 hb hg_ hnew_; clear hg_ hnew_; (first | rw [← Ny114.out] at ho14 | (simp only [Int.reduceToNat] at ho14; rw [← Ny114.out] at ho14)); have n0_ := Aside0.mk (Kd.R_lower ho14 (below_size (by repeat (first | (with_reducible first | exact HB.out | apply below_alloc | apply pw_below_drewN | apply below_drew1) | exact HB.out)))); have n1_ := Aside0.mk (below_step (by repeat (first | (with_reducible first | exact HB.out | apply below_alloc | apply pw_below_drewN | apply below_drew1) | exact HB.out)) hb); clear HB; have HO116 := n0_; have HB := n1_; clear n0_ n1_; clear hb ho14; obtain ⟨Ao15, co15, eo15⟩ := Kd.R_slice HO116.out; subst eo15) | (go_at_call 10; (with_reducible refine (laws_short.calls k _ _ y114 false _ ?side1 ?side2 A4.out).mono ?_); (case side1 => repeat (first | exact (Kd.R_reads' HO116.out).2.2 | (with_reducible refine Kd.C_alloc ?_ _) | (with_reducible refine Kd.C_drewN ?_ _) | (with_reducible refine Kd.C_drew ?_))); (case side2 => exact (Kd.R_reads' HO116.out).2.1); rintro e w' ⟨rfl, ⟨nd, rfl⟩⟩; (try first | exact ⟨rfl, _, World.drewN_drewN _ _ _⟩ | exact ⟨rfl, _, Eq.trans (World.drewN_drewN _ _ _) (congrArg (World.drewN _) (Nat.add_assoc _ _ _))⟩))))
        go_meet
        case rel => exact ⟨_, (true), (by first | rfl | (simp; done) | (simp [*]; done) | (simp [bne_nil_hyb]; done) | (simp [bne_nil_hyb, *]; done)), H', ⟨by first | omega | exact Nat.le_refl _⟩, ⟨by repeat (first | (with_reducible first | exact HB.out | apply below_alloc | apply pw_below_drewN | apply below_drew1) | exact HB.out)⟩⟩
    case rest =>
      clear HC3
      try clear c2
      try clear c2b0
      try clear c2b1
      try clear p2
      try clear c5
      try clear c9
      obtain ⟨kq, x21_2, rfl, HA, HJ2, HB⟩ := hcut
      cases kq with
      | zero => exact absurd HA.out (by simp [laws_FnMavenTransitions.j0])
      | succ kj2 =>
        have H := HA.out
        clear HA
        simp only [laws_FnMavenTransitions.j0] at H
        by_cases c16 : x21_2 = true
        · subst c16
          have H1 : (some true) = some r := by rw [if_pos rfl] at H; exact H
          clear H
          have H := H1
          clear H1
          obtain rfl := Option.some.inj H
          go_wp2
          repeat (go_quiet (fail); try go_wp2)
          go_ret
          exact ⟨by first | rfl | (simp [errW_none, errW_some] <;> rfl) | (simp [*, errW_none, errW_some] <;> rfl) | (simp [bne_nil_hyb]; done), by repeat (first | (with_reducible first | exact HB.out | apply below_alloc | apply pw_below_drewN | apply below_drew1) | exact HB.out)⟩
        · replace c16 := Bool.eq_false_iff.mpr c16
          subst c16
          have H1 : (laws_FnMavenTransitions.l0 kj2 a0 ([] : List Int) 1) = some r := by rw [if_neg (show ¬ (false = true) by decide)] at H; exact H
          clear H
          have H := H1
          clear H1
          have H' := Aside0.mk H
          clear H
          go_wp2
          repeat (go_quiet (fail); try go_wp2)
          (try simp only [Act.put, List.setIfInBounds_toArray, List.set_cons_zero, List.set_cons_succ])
          go_loopg [3, 4] kj2 (fun kq v3 v4 w' => ∃ (x3_2 : List Int) (x4_2 : Int), v4 = .int .i64 x4_2 ∧ Aside0 (laws_FnMavenTransitions.l0 kq a0 x3_2 x4_2 = some r) ∧ Aside0 (kq ≤ kj2) ∧ Aside0 (Kd.R (Kd.int .i64) 3 w' w.heap.size (fun _ => True) v3 x3_2) ∧ Aside0 (Below w.heap.size w w'))
          case atStart => exact ⟨(([] : List Int)), (1), (by first | rfl | (simp; done) | (simp [*]; done) | (simp [bne_nil_hyb]; done) | (simp [bne_nil_hyb, *]; done)), H', ⟨Nat.le_refl _⟩, ⟨by first | exact Kd.R_nil _ _ _ _ _ | exact Kd.N_nil _ _ _ _ _ | exact Kd.V_nil _ _ _ _ _ | exact Kd.Q_nil _ _ _ _ _ | exact Kd.S_nil _ _ _ _ _⟩, ⟨by repeat (first | (with_reducible first | exact HB.out | apply below_alloc | apply pw_below_drewN | apply below_drew1) | exact HB.out)⟩⟩
          case round =>
            clear H'
            try clear c1
            try clear c2
            try clear c2b0
            try clear c2b1
            try clear p2
            try clear c5
            try clear c9
            try clear c16
            try clear p2
            obtain ⟨x3_2, x4_2, rfl, HA, HK2, HO_3, HB⟩ := hrel
            cases gk with
            | zero => exact absurd HA.out (by simp [laws_FnMavenTransitions.l0])
            | succ k2 =>
              have H := HA.out
              clear HA
              simp only [laws_FnMavenTransitions.l0] at H
              by_cases c17 : x4_2 < (a0.size : Int)
              · rw [if_pos c17] at H
                have c17b0 : decide (x4_2 < (a0.size : Int)) = true := decide_eq_true c17
                clear c17
                obtain ⟨ji18, hji18⟩ : ∃ j_ : Int, (wrap64 (x4_2 - 1)) = j_ := ⟨_, rfl⟩
                replace H : (if 0 ≤ (ji18) then (if (ji18) ≤ x4_2 then (if x4_2 ≤ (a0.size : Int) then ((laws_digits.f k2 (a0.extract ((ji18) : Int).toNat (x4_2 : Int).toNat)).bind fun t122 => (if 0 ≤ x4_2 then (if x4_2 ≤ (wrap64 (x4_2 + 1)) then (if (wrap64 (x4_2 + 1)) ≤ (a0.size : Int) then ((laws_digits.f k2 (a0.extract (x4_2 : Int).toNat ((wrap64 (x4_2 + 1)) : Int).toNat)).bind fun t123 => (if (t122 != t123) = true then (if x3_2.length < 17592186044416 then (laws_FnMavenTransitions.l0 k2 a0 (x3_2 ++ [x4_2]) (wrap64 (x4_2 + 1))) else (none)) else (laws_FnMavenTransitions.l0 k2 a0 x3_2 (wrap64 (x4_2 + 1))))) else (none)) else (none)) else (none))) else (none)) else (none)) else (none)) = some r := by first | (rw [hji18] at H; exact H) | (simp only [hji18] at H ⊢; exact H)
                have hji18w : (IntKind.i64.wrap (x4_2 - 1)) = ji18 := (i64_w _).trans hji18
                by_cases c19 : 0 ≤ (ji18)
                · rw [if_pos c19] at H
                  have c19b0 := eq_true c19
                  have c19b1 : decide (0 ≤ (ji18)) = true := decide_eq_true c19
                  clear c19
                  by_cases c20 : (ji18) ≤ x4_2
                  · rw [if_pos c20] at H
                    have c20b0 := eq_true c20
                    have c20b1 : decide ((ji18) ≤ x4_2) = true := decide_eq_true c20
                    clear c20
                    by_cases c21 : x4_2 ≤ (a0.size : Int)
                    · rw [if_pos c21] at H
                      have c21b0 := eq_true c21
                      have c21b1 : decide (x4_2 ≤ (a0.size : Int)) = true := decide_eq_true c21
                      clear c21
                      replace H := Option.bind_eq_some_iff.mp H
                      obtain ⟨t122, A220, H⟩ := H
                      replace H : (if 0 ≤ x4_2 then (if x4_2 ≤ (wrap64 (x4_2 + 1)) then (if (wrap64 (x4_2 + 1)) ≤ (a0.size : Int) then ((laws_digits.f k2 (a0.extract (x4_2 : Int).toNat ((wrap64 (x4_2 + 1)) : Int).toNat)).bind fun t123 => (if (t122 != t123) = true then (if x3_2.length < 17592186044416 then (laws_FnMavenTransitions.l0 k2 a0 (x3_2 ++ [x4_2]) (wrap64 (x4_2 + 1))) else (none)) else (laws_FnMavenTransitions.l0 k2 a0 x3_2 (wrap64 (x4_2 + 1))))) else (none)) else (none)) else (none)) = some r := H
                      have A22 := Aside0.mk A220
                      clear A220
                      by_cases c23 : 0 ≤ x4_2
                      · rw [if_pos c23] at H
                        have c23b0 := eq_true c23
                        have c23b1 : decide (0 ≤ x4_2) = true := decide_eq_true c23
                        clear c23
                        by_cases c24 : x4_2 ≤ (wrap64 (x4_2 + 1))
                        · rw [if_pos c24] at H
                          have c24b0 := eq_true c24
                          have c24b1 : decide (x4_2 ≤ (wrap64 (x4_2 + 1))) = true := decide_eq_true c24
                          by_cases c25 : (wrap64 (x4_2 + 1)) ≤ (a0.size : Int)
                          · rw [if_pos c25] at H
                            have c25b0 := eq_true c25
                            have c25b1 : decide ((wrap64 (x4_2 + 1)) ≤ (a0.size : Int)) = true := decide_eq_true c25
                            replace H := Option.bind_eq_some_iff.mp H
                            obtain ⟨t123, A260, H⟩ := H
                            replace H : (if (t122 != t123) = true then (if x3_2.length < 17592186044416 then (laws_FnMavenTransitions.l0 k2 a0 (x3_2 ++ [x4_2]) (wrap64 (x4_2 + 1))) else (none)) else (laws_FnMavenTransitions.l0 k2 a0 x3_2 (wrap64 (x4_2 + 1)))) = some r := H
                            have A26 := Aside0.mk A260
                            clear A260
                            by_cases c27 : (t122 != t123) = true
                            · rw [if_pos c27] at H
                              have c27b0 : (t122 != t123) = true := c27
                              (try (have c27b1 : decide (t122 = t123) = false := by simpa using c27))
                              (try (have c27b2 : (t122 == t123) = false := by simpa using c27))
                              (try (have c27b3 : ¬ (t122 = t123) := by simpa using c27))
                              clear c27
                              by_cases c28 : x3_2.length < 17592186044416
                              · rw [if_pos c28] at H
                                have LMc28 := Aside0.mk c28
                                clear c28
                                obtain ⟨y124, hy124⟩ : ∃ y_ : List Int, y_ = (x3_2 ++ [x4_2]) := ⟨_, rfl⟩
                                replace H : (laws_FnMavenTransitions.l0 k2 a0 y124 (wrap64 (x4_2 + 1))) = some r := by first | (rw [hy124]; with_reducible exact H) | (have H2_ := (Option.bind_some _ _).symm.trans H; rw [hy124]; with_reducible exact H2_) | (have H2_ := (Option.bind_some _ _).symm.trans H; with_reducible exact H2_) | with_reducible exact H | (rw [hy124]; exact H) | exact H
                                have Ny124 := Aside0.mk hy124
                                clear hy124
                                have H' := Aside0.mk H
                                clear H
                                go_wp2_with (first | (go_at_call 20; (with_reducible refine (laws_digits.calls k2 (a0.extract ((ji18) : Int).toNat (x4_2 : Int).toNat) t122 _ A22.out).mono ?_); rintro e w' ⟨rfl, ⟨nd, rfl⟩⟩; (try first | exact ⟨rfl, _, World.drewN_drewN _ _ _⟩ | exact ⟨rfl, _, Eq.trans (World.drewN_drewN _ _ _) (congrArg (World.drewN _) (Nat.add_assoc _ _ _))⟩)) | (go_at_call 20; (with_reducible refine (laws_digits.calls k2 (a0.extract (x4_2 : Int).toNat ((wrap64 (x4_2 + 1)) : Int).toNat) t123 _ A26.out).mono ?_); rintro e w' ⟨rfl, ⟨nd, rfl⟩⟩; (try first | exact ⟨rfl, _, World.drewN_drewN _ _ _⟩ | exact ⟨rfl, _, Eq.trans (World.drewN_drewN _ _ _) (congrArg (World.drewN _) (Nat.add_assoc _ _ _))⟩)) | ((with_reducible refine gate_builtin (b := .append) (xs := #[.tmp 41, .tmp 43]) rfl ?_); (try (refine gate_guard (by rfl) ?_; dsimp only)); at_builtin; refine Kd.R_append (Kd.int .i64) (w0 := w) w.heap.size rfl (.tmp 41) (.tmp 43) 31 3 (.int .i64 0) 8 rfl Tryd.underlying31 info3 rfl (by decide) (by omega) u3 x3_2 x4_2 [.int .i64 x4_2] (fun _ => True) (fun _ => False) rfl rfl ?aP (fun _ hk => hk.elim) ?aF ?aO ?aB ?aS ?aL ?_; (case aP => exact rfl); (case aB => exact (by repeat (first | (with_reducible first | exact HB.out | apply below_alloc | apply pw_below_drewN | apply below_drew1) | exact HB.out))); (case aF => exact (fun _ _ => trivial)); (case aO => exact (by (with_reducible repeat (first | apply Kd.R_alloc | apply Kd.R_drewN | apply Kd.R_drew)); exact HO_3.out)); (case aS => exact (below_size (by repeat (first | (with_reducible first | exact HB.out | apply below_alloc | apply pw_below_drewN | apply below_drew1) | exact HB.out)))); (case aL => have := LMc28.out; omega); intro v125 w29 ho hb hg hat; rw [← Ny124.out] at ho; have n0_ := Aside0.mk (hb); have n1_ := Aside0.mk (ho); clear HB; clear HO_3; have HB := n0_; have HO126 := n1_; clear n0_ n1_; clear ho hb hg hat))
                                repeat (go_quiet (first | (go_at_call 20; (with_reducible refine (laws_digits.calls k2 (a0.extract ((ji18) : Int).toNat (x4_2 : Int).toNat) t122 _ A22.out).mono ?_); rintro e w' ⟨rfl, ⟨nd, rfl⟩⟩; (try first | exact ⟨rfl, _, World.drewN_drewN _ _ _⟩ | exact ⟨rfl, _, Eq.trans (World.drewN_drewN _ _ _) (congrArg (World.drewN _) (Nat.add_assoc _ _ _))⟩)) | (go_at_call 20; (with_reducible refine (laws_digits.calls k2 (a0.extract (x4_2 : Int).toNat ((wrap64 (x4_2 + 1)) : Int).toNat) t123 _ A26.out).mono ?_); rintro e w' ⟨rfl, ⟨nd, rfl⟩⟩; (try first | exact ⟨rfl, _, World.drewN_drewN _ _ _⟩ | exact ⟨rfl, _, Eq.trans (World.drewN_drewN _ _ _) (congrArg (World.drewN _) (Nat.add_assoc _ _ _))⟩)) | ((with_reducible refine gate_builtin (b := .append) (xs := #[.tmp 41, .tmp 43]) rfl ?_); (try (refine gate_guard (by rfl) ?_; dsimp only)); at_builtin; refine Kd.R_append (Kd.int .i64) (w0 := w) w.heap.size rfl (.tmp 41) (.tmp 43) 31 3 (.int .i64 0) 8 rfl Tryd.underlying31 info3 rfl (by decide) (by omega) u3 x3_2 x4_2 [.int .i64 x4_2] (fun _ => True) (fun _ => False) rfl rfl ?aP (fun _ hk => hk.elim) ?aF ?aO ?aB ?aS ?aL ?_; (case aP => exact rfl); (case aB => exact (by repeat (first | (with_reducible first | exact HB.out | apply below_alloc | apply pw_below_drewN | apply below_drew1) | exact HB.out))); (case aF => exact (fun _ _ => trivial)); (case aO => exact (by (with_reducible repeat (first | apply Kd.R_alloc | apply Kd.R_drewN | apply Kd.R_drew)); exact HO_3.out)); (case aS => exact (below_size (by repeat (first | (with_reducible first | exact HB.out | apply below_alloc | apply pw_below_drewN | apply below_drew1) | exact HB.out)))); (case aL => have := LMc28.out; omega); intro v125 w29 ho hb hg hat; rw [← Ny124.out] at ho; have n0_ := Aside0.mk (hb); have n1_ := Aside0.mk (ho); clear HB; clear HO_3; have HB := n0_; have HO126 := n1_; clear n0_ n1_; clear ho hb hg hat)); try go_wp2_with (first | (go_at_call 20; (with_reducible refine (laws_digits.calls k2 (a0.extract ((ji18) : Int).toNat (x4_2 : Int).toNat) t122 _ A22.out).mono ?_); rintro e w' ⟨rfl, ⟨nd, rfl⟩⟩; (try first | exact ⟨rfl, _, World.drewN_drewN _ _ _⟩ | exact ⟨rfl, _, Eq.trans (World.drewN_drewN _ _ _) (congrArg (World.drewN _) (Nat.add_assoc _ _ _))⟩)) | (go_at_call 20; (with_reducible refine (laws_digits.calls k2 (a0.extract (x4_2 : Int).toNat ((wrap64 (x4_2 + 1)) : Int).toNat) t123 _ A26.out).mono ?_); rintro e w' ⟨rfl, ⟨nd, rfl⟩⟩; (try first | exact ⟨rfl, _, World.drewN_drewN _ _ _⟩ | exact ⟨rfl, _, Eq.trans (World.drewN_drewN _ _ _) (congrArg (World.drewN _) (Nat.add_assoc _ _ _))⟩)) | ((with_reducible refine gate_builtin (b := .append) (xs := #[.tmp 41, .tmp 43]) rfl ?_); (try (refine gate_guard (by rfl) ?_; dsimp only)); at_builtin; refine Kd.R_append (Kd.int .i64) (w0 := w) w.heap.size rfl (.tmp 41) (.tmp 43) 31 3 (.int .i64 0) 8 rfl Tryd.underlying31 info3 rfl (by decide) (by omega) u3 x3_2 x4_2 [.int .i64 x4_2] (fun _ => True) (fun _ => False) rfl rfl ?aP (fun _ hk => hk.elim) ?aF ?aO ?aB ?aS ?aL ?_; (case aP => exact rfl); (case aB => exact (by repeat (first | (with_reducible first | exact HB.out | apply below_alloc | apply pw_below_drewN | apply below_drew1) | exact HB.out))); (case aF => exact (fun _ _ => trivial)); (case aO => exact (by (with_reducible repeat (first | apply Kd.R_alloc | apply Kd.R_drewN | apply Kd.R_drew)); exact HO_3.out)); (case aS => exact (below_size (by repeat (first | (with_reducible first | exact HB.out | apply below_alloc | apply pw_below_drewN | apply below_drew1) | exact HB.out)))); (case aL => have := LMc28.out; omega); intro v125 w29 ho hb hg hat; rw [← Ny124.out] at ho; have n0_ := Aside0.mk (hb); have n1_ := Aside0.mk (ho); clear HB; clear HO_3; have HB := n0_; have HO126 := n1_; clear n0_ n1_; clear ho hb hg hat)))
                                go_roundg k2
                                case measure => have := HJ2.out; have := HK2.out; omega
                                case rel => exact ⟨(y124), (wrap64 (x4_2 + 1)), (by first | rfl | (simp; done) | (simp [*]; done) | (simp [bne_nil_hyb]; done) | (simp [bne_nil_hyb, *]; done)), H', ⟨by have := HJ2.out; have := HK2.out; omega⟩, ⟨by (with_reducible repeat (first | apply Kd.R_alloc | apply Kd.R_drewN | apply Kd.R_drew)); exact HO126.out⟩, ⟨by repeat (first | (with_reducible first | exact HB.out | apply below_alloc | apply pw_below_drewN | apply below_drew1) | exact HB.out)⟩⟩
                              · rw [if_neg c28] at H
                                exact absurd H (by simp)
                            · rw [if_neg c27] at H
                              have c27b0 : (t122 != t123) = false := by simpa using c27
                              (try (have c27b1 : decide (t122 = t123) = true := by simpa using c27))
                              (try (have c27b2 : (t122 == t123) = true := by simpa using c27))
                              clear c27
                              have H' := Aside0.mk H
                              clear H
                              go_wp2_with (first | (go_at_call 20; (with_reducible refine (laws_digits.calls k2 (a0.extract ((ji18) : Int).toNat (x4_2 : Int).toNat) t122 _ A22.out).mono ?_); rintro e w' ⟨rfl, ⟨nd, rfl⟩⟩; (try first | exact ⟨rfl, _, World.drewN_drewN _ _ _⟩ | exact ⟨rfl, _, Eq.trans (World.drewN_drewN _ _ _) (congrArg (World.drewN _) (Nat.add_assoc _ _ _))⟩)) | (go_at_call 20; (with_reducible refine (laws_digits.calls k2 (a0.extract (x4_2 : Int).toNat ((wrap64 (x4_2 + 1)) : Int).toNat) t123 _ A26.out).mono ?_); rintro e w' ⟨rfl, ⟨nd, rfl⟩⟩; (try first | exact ⟨rfl, _, World.drewN_drewN _ _ _⟩ | exact ⟨rfl, _, Eq.trans (World.drewN_drewN _ _ _) (congrArg (World.drewN _) (Nat.add_assoc _ _ _))⟩)))
                              repeat (go_quiet (first | (go_at_call 20; (with_reducible refine (laws_digits.calls k2 (a0.extract ((ji18) : Int).toNat (x4_2 : Int).toNat) t122 _ A22.out).mono ?_); rintro e w' ⟨rfl, ⟨nd, rfl⟩⟩; (try first | exact ⟨rfl, _, World.drewN_drewN _ _ _⟩ | exact ⟨rfl, _, Eq.trans (World.drewN_drewN _ _ _) (congrArg (World.drewN _) (Nat.add_assoc _ _ _))⟩)) | (go_at_call 20; (with_reducible refine (laws_digits.calls k2 (a0.extract (x4_2 : Int).toNat ((wrap64 (x4_2 + 1)) : Int).toNat) t123 _ A26.out).mono ?_); rintro e w' ⟨rfl, ⟨nd, rfl⟩⟩; (try first | exact ⟨rfl, _, World.drewN_drewN _ _ _⟩ | exact ⟨rfl, _, Eq.trans (World.drewN_drewN _ _ _) (congrArg (World.drewN _) (Nat.add_assoc _ _ _))⟩))); try go_wp2_with (first | (go_at_call 20; (with_reducible refine (laws_digits.calls k2 (a0.extract ((ji18) : Int).toNat (x4_2 : Int).toNat) t122 _ A22.out).mono ?_); rintro e w' ⟨rfl, ⟨nd, rfl⟩⟩; (try first | exact ⟨rfl, _, World.drewN_drewN _ _ _⟩ | exact ⟨rfl, _, Eq.trans (World.drewN_drewN _ _ _) (congrArg (World.drewN _) (Nat.add_assoc _ _ _))⟩)) | (go_at_call 20; (with_reducible refine (laws_digits.calls k2 (a0.extract (x4_2 : Int).toNat ((wrap64 (x4_2 + 1)) : Int).toNat) t123 _ A26.out).mono ?_); rintro e w' ⟨rfl, ⟨nd, rfl⟩⟩; (try first | exact ⟨rfl, _, World.drewN_drewN _ _ _⟩ | exact ⟨rfl, _, Eq.trans (World.drewN_drewN _ _ _) (congrArg (World.drewN _) (Nat.add_assoc _ _ _))⟩))))
                              go_roundg k2
                              case measure => have := HJ2.out; have := HK2.out; omega
                              case rel => exact ⟨(x3_2), (wrap64 (x4_2 + 1)), (by first | rfl | (simp; done) | (simp [*]; done) | (simp [bne_nil_hyb]; done) | (simp [bne_nil_hyb, *]; done)), H', ⟨by have := HJ2.out; have := HK2.out; omega⟩, ⟨by (with_reducible repeat (first | apply Kd.R_alloc | apply Kd.R_drewN | apply Kd.R_drew)); exact HO_3.out⟩, ⟨by repeat (first | (with_reducible first | exact HB.out | apply below_alloc | apply pw_below_drewN | apply below_drew1) | exact HB.out)⟩⟩
                          · rw [if_neg c25] at H
                            exact absurd H (by simp)
                        · rw [if_neg c24] at H
                          exact absurd H (by simp)
                      · rw [if_neg c23] at H
                        exact absurd H (by simp)
                    · rw [if_neg c21] at H
                      exact absurd H (by simp)
                  · rw [if_neg c20] at H
                    exact absurd H (by simp)
                · rw [if_neg c19] at H
                  exact absurd H (by simp)
              · rw [if_neg c17] at H
                have c17b0 : decide (x4_2 < (a0.size : Int)) = false := decide_eq_false c17
                clear c17
                replace H := Option.bind_eq_some_iff.mp H
                obtain ⟨t127, A300, H⟩ := H
                replace H : (if 1 + a0.size ≤ 9223372036854775807 then (if ((⟨#[97]⟩ : ByteArray) ++ a0).size + 2 ≤ 9223372036854775807 then ((impl_MavenTransitions.f k2 (((⟨#[97]⟩ : ByteArray) ++ a0) ++ (⟨#[49, 98]⟩ : ByteArray))).bind fun t130 => ((spec_MavenTransitions.f k2 a0).bind fun t133 => (if (t127.length : Int) = (x3_2.length : Int) then (if (t133.length : Int) = (x3_2.length : Int) then (laws_FnMavenTransitions.j2 k2 x3_2 t127 t133 ((t130.length : Int) == 0)) else (laws_FnMavenTransitions.j2 k2 x3_2 t127 t133 true)) else (laws_FnMavenTransitions.j2 k2 x3_2 t127 t133 true)))) else (none)) else (none)) = some r := H
                have A30 := Aside0.mk A300
                clear A300
                by_cases c31 : 1 + a0.size ≤ 9223372036854775807
                · rw [if_pos c31] at H
                  have c31b0 := eq_true c31
                  have c31b1 : decide (1 + a0.size ≤ 9223372036854775807) = true := decide_eq_true c31
                  try have c31b2 : (9223372036854775807 < 1 + a0.size) = False := eq_false (Nat.not_lt.2 c31)
                  by_cases c32 : ((⟨#[97]⟩ : ByteArray) ++ a0).size + 2 ≤ 9223372036854775807
                  · rw [if_pos c32] at H
                    have c32b0 := eq_true c32
                    have c32b1 : decide (((⟨#[97]⟩ : ByteArray) ++ a0).size + 2 ≤ 9223372036854775807) = true := decide_eq_true c32
                    try have c32b2 : (9223372036854775807 < ((⟨#[97]⟩ : ByteArray) ++ a0).size + 2) = False := eq_false (Nat.not_lt.2 c32)
                    try have c32b3 : (9223372036854775807 < 1 + a0.size + 2) = False := eq_false (by have h_ := c32; simp only [ByteArray.size_append] at h_; have e0_ : (⟨#[97]⟩ : ByteArray).size = 1 := rfl; omega)
                    try have c32b4 : (1 + a0.size + 2 ≤ 9223372036854775807) = True := eq_true (by have h_ := c32; simp only [ByteArray.size_append] at h_; have e0_ : (⟨#[97]⟩ : ByteArray).size = 1 := rfl; omega)
                    replace H := Option.bind_eq_some_iff.mp H
                    obtain ⟨t130, A330, H⟩ := H
                    replace H : ((spec_MavenTransitions.f k2 a0).bind fun t133 => (if (t127.length : Int) = (x3_2.length : Int) then (if (t133.length : Int) = (x3_2.length : Int) then (laws_FnMavenTransitions.j2 k2 x3_2 t127 t133 ((t130.length : Int) == 0)) else (laws_FnMavenTransitions.j2 k2 x3_2 t127 t133 true)) else (laws_FnMavenTransitions.j2 k2 x3_2 t127 t133 true))) = some r := H
                    have A33 := Aside0.mk A330
                    clear A330
                    replace H := Option.bind_eq_some_iff.mp H
                    obtain ⟨t133, A340, H⟩ := H
                    replace H : (if (t127.length : Int) = (x3_2.length : Int) then (if (t133.length : Int) = (x3_2.length : Int) then (laws_FnMavenTransitions.j2 k2 x3_2 t127 t133 ((t130.length : Int) == 0)) else (laws_FnMavenTransitions.j2 k2 x3_2 t127 t133 true)) else (laws_FnMavenTransitions.j2 k2 x3_2 t127 t133 true)) = some r := H
                    have A34 := Aside0.mk A340
                    clear A340
                    have HC35 := Aside0.mk H
                    clear H
                    go_upto_region 14 with (first | (go_at_call 24; (with_reducible refine (impl_MavenTransitions.calls k2 a0 t127 _ A30.out).mono ?_); rintro e w36 ⟨v128, rfl, ho0, hb⟩; have n0_ := Aside0.mk (Kd.R_elder' (by (with_reducible repeat (first | apply Kd.R_alloc | apply Kd.R_drewN | apply Kd.R_drew)); exact HO_3.out) (Kd.R_base ho0) hb); have n1_ := Aside0.mk (Kd.R_lower (Kd.R_new' ho0 (Kd.R_lt (by (with_reducible repeat (first | apply Kd.R_alloc | apply Kd.R_drewN | apply Kd.R_drew)); exact HO_3.out))) (below_size (by repeat (first | (with_reducible first | exact HB.out | apply below_alloc | apply pw_below_drewN | apply below_drew1) | exact HB.out)))); have n2_ := Aside0.mk (below_step (by repeat (first | (with_reducible first | exact HB.out | apply below_alloc | apply pw_below_drewN | apply below_drew1) | exact HB.out)) hb); clear HO_3; clear HB; have HO_3 := n0_; have HO129 := n1_; have HB := n2_; clear n0_ n1_ n2_; (try clear hb); (try clear hb2); (try clear hk); (try clear hi); (try clear ho0)) | (go_at_call 24; (with_reducible refine (impl_MavenTransitions.calls k2 (((⟨#[97]⟩ : ByteArray) ++ a0) ++ (⟨#[49, 98]⟩ : ByteArray)) t130 _ A33.out).mono ?_); rintro e w37 ⟨v131, rfl, ho0, hb⟩; have n0_ := Aside0.mk (Kd.R_elder' (by (with_reducible repeat (first | apply Kd.R_alloc | apply Kd.R_drewN | apply Kd.R_drew)); exact HO_3.out) (Kd.R_base ho0) hb); have n1_ := Aside0.mk (Kd.R_elder' (by (with_reducible repeat (first | apply Kd.R_alloc | apply Kd.R_drewN | apply Kd.R_drew)); exact HO129.out) (Kd.R_base ho0) hb); have n2_ := Aside0.mk (Kd.R_lower (Kd.R_new' (Kd.R_new' ho0 (Kd.R_lt (by (with_reducible repeat (first | apply Kd.R_alloc | apply Kd.R_drewN | apply Kd.R_drew)); exact HO_3.out))) (Kd.R_lt (by (with_reducible repeat (first | apply Kd.R_alloc | apply Kd.R_drewN | apply Kd.R_drew)); exact HO129.out))) (below_size (by repeat (first | (with_reducible first | exact HB.out | apply below_alloc | apply pw_below_drewN | apply below_drew1) | exact HB.out)))); have n3_ := Aside0.mk (below_step (by repeat (first | (with_reducible first | exact HB.out | apply below_alloc | apply pw_below_drewN | apply below_drew1) | exact HB.out)) hb); clear HO_3; clear HO129; clear HB; have HO_3 := n0_; have HO129 := n1_; have HO132 := n2_; have HB := n3_; clear n0_ n1_ n2_ n3_; (try clear hb); (try clear hb2); (try clear hk); (try clear hi); (try clear ho0)) | (go_at_call 25; (with_reducible refine (spec_MavenTransitions.calls k2 a0 t133 _ A34.out).mono ?_); rintro e w38 ⟨v134, rfl, ho0, hb⟩; have n0_ := Aside0.mk (Kd.R_elder' (by (with_reducible repeat (first | apply Kd.R_alloc | apply Kd.R_drewN | apply Kd.R_drew)); exact HO_3.out) (Kd.R_base ho0) hb); have n1_ := Aside0.mk (Kd.R_elder' (by (with_reducible repeat (first | apply Kd.R_alloc | apply Kd.R_drewN | apply Kd.R_drew)); exact HO129.out) (Kd.R_base ho0) hb); have n2_ := Aside0.mk (Kd.R_elder' (by (with_reducible repeat (first | apply Kd.R_alloc | apply Kd.R_drewN | apply Kd.R_drew)); exact HO132.out) (Kd.R_base ho0) hb); have n3_ := Aside0.mk (Kd.R_lower (Kd.R_new' (Kd.R_new' (Kd.R_new' ho0 (Kd.R_lt (by (with_reducible repeat (first | apply Kd.R_alloc | apply Kd.R_drewN | apply Kd.R_drew)); exact HO_3.out))) (Kd.R_lt (by (with_reducible repeat (first | apply Kd.R_alloc | apply Kd.R_drewN | apply Kd.R_drew)); exact HO129.out))) (Kd.R_lt (by (with_reducible repeat (first | apply Kd.R_alloc | apply Kd.R_drewN | apply Kd.R_drew)); exact HO132.out))) (below_size (by repeat (first | (with_reducible first | exact HB.out | apply below_alloc | apply pw_below_drewN | apply below_drew1) | exact HB.out)))); have n4_ := Aside0.mk (below_step (by repeat (first | (with_reducible first | exact HB.out | apply below_alloc | apply pw_below_drewN | apply below_drew1) | exact HB.out)) hb); clear HO_3; clear HO129; clear HO132; clear HB; have HO_3 := n0_; have HO129 := n1_; have HO132 := n2_; have HO135 := n3_; have HB := n4_; clear n0_ n1_ n2_ n3_ n4_; (try clear hb); (try clear hb2); (try clear hk); (try clear hi); (try clear ho0)))
                    repeat (go_quiet (first | (go_at_call 24; (with_reducible refine (impl_MavenTransitions.calls k2 a0 t127 _ A30.out).mono ?_); rintro e w36 ⟨v128, rfl, ho0, hb⟩; have n0_ := Aside0.mk (Kd.R_elder' (by (with_reducible repeat (first | apply Kd.R_alloc | apply Kd.R_drewN | apply Kd.R_drew)); exact HO_3.out) (Kd.R_base ho0) hb); have n1_ := Aside0.mk (Kd.R_lower (Kd.R_new' ho0 (Kd.R_lt (by (with_reducible repeat (first | apply Kd.R_alloc | apply Kd.R_drewN | apply Kd.R_drew)); exact HO_3.out))) (below_size (by repeat (first | (with_reducible first | exact HB.out | apply below_alloc | apply pw_below_drewN | apply below_drew1) | exact HB.out)))); have n2_ := Aside0.mk (below_step (by repeat (first | (with_reducible first | exact HB.out | apply below_alloc | apply pw_below_drewN | apply below_drew1) | exact HB.out)) hb); clear HO_3; clear HB; have HO_3 := n0_; have HO129 := n1_; have HB := n2_; clear n0_ n1_ n2_; (try clear hb); (try clear hb2); (try clear hk); (try clear hi); (try clear ho0)) | (go_at_call 24; (with_reducible refine (impl_MavenTransitions.calls k2 (((⟨#[97]⟩ : ByteArray) ++ a0) ++ (⟨#[49, 98]⟩ : ByteArray)) t130 _ A33.out).mono ?_); rintro e w37 ⟨v131, rfl, ho0, hb⟩; have n0_ := Aside0.mk (Kd.R_elder' (by (with_reducible repeat (first | apply Kd.R_alloc | apply Kd.R_drewN | apply Kd.R_drew)); exact HO_3.out) (Kd.R_base ho0) hb); have n1_ := Aside0.mk (Kd.R_elder' (by (with_reducible repeat (first | apply Kd.R_alloc | apply Kd.R_drewN | apply Kd.R_drew)); exact HO129.out) (Kd.R_base ho0) hb); have n2_ := Aside0.mk (Kd.R_lower (Kd.R_new' (Kd.R_new' ho0 (Kd.R_lt (by (with_reducible repeat (first | apply Kd.R_alloc | apply Kd.R_drewN | apply Kd.R_drew)); exact HO_3.out))) (Kd.R_lt (by (with_reducible repeat (first | apply Kd.R_alloc | apply Kd.R_drewN | apply Kd.R_drew)); exact HO129.out))) (below_size (by repeat (first | (with_reducible first | exact HB.out | apply below_alloc | apply pw_below_drewN | apply below_drew1) | exact HB.out)))); have n3_ := Aside0.mk (below_step (by repeat (first | (with_reducible first | exact HB.out | apply below_alloc | apply pw_below_drewN | apply below_drew1) | exact HB.out)) hb); clear HO_3; clear HO129; clear HB; have HO_3 := n0_; have HO129 := n1_; have HO132 := n2_; have HB := n3_; clear n0_ n1_ n2_ n3_; (try clear hb); (try clear hb2); (try clear hk); (try clear hi); (try clear ho0)) | (go_at_call 25; (with_reducible refine (spec_MavenTransitions.calls k2 a0 t133 _ A34.out).mono ?_); rintro e w38 ⟨v134, rfl, ho0, hb⟩; have n0_ := Aside0.mk (Kd.R_elder' (by (with_reducible repeat (first | apply Kd.R_alloc | apply Kd.R_drewN | apply Kd.R_drew)); exact HO_3.out) (Kd.R_base ho0) hb); have n1_ := Aside0.mk (Kd.R_elder' (by (with_reducible repeat (first | apply Kd.R_alloc | apply Kd.R_drewN | apply Kd.R_drew)); exact HO129.out) (Kd.R_base ho0) hb); have n2_ := Aside0.mk (Kd.R_elder' (by (with_reducible repeat (first | apply Kd.R_alloc | apply Kd.R_drewN | apply Kd.R_drew)); exact HO132.out) (Kd.R_base ho0) hb); have n3_ := Aside0.mk (Kd.R_lower (Kd.R_new' (Kd.R_new' (Kd.R_new' ho0 (Kd.R_lt (by (with_reducible repeat (first | apply Kd.R_alloc | apply Kd.R_drewN | apply Kd.R_drew)); exact HO_3.out))) (Kd.R_lt (by (with_reducible repeat (first | apply Kd.R_alloc | apply Kd.R_drewN | apply Kd.R_drew)); exact HO129.out))) (Kd.R_lt (by (with_reducible repeat (first | apply Kd.R_alloc | apply Kd.R_drewN | apply Kd.R_drew)); exact HO132.out))) (below_size (by repeat (first | (with_reducible first | exact HB.out | apply below_alloc | apply pw_below_drewN | apply below_drew1) | exact HB.out)))); have n4_ := Aside0.mk (below_step (by repeat (first | (with_reducible first | exact HB.out | apply below_alloc | apply pw_below_drewN | apply below_drew1) | exact HB.out)) hb); clear HO_3; clear HO129; clear HO132; clear HB; have HO_3 := n0_; have HO129 := n1_; have HO132 := n2_; have HO135 := n3_; have HB := n4_; clear n0_ n1_ n2_ n3_ n4_; (try clear hb); (try clear hb2); (try clear hk); (try clear hi); (try clear ho0))); go_upto_region 14 with (first | (go_at_call 24; (with_reducible refine (impl_MavenTransitions.calls k2 a0 t127 _ A30.out).mono ?_); rintro e w36 ⟨v128, rfl, ho0, hb⟩; have n0_ := Aside0.mk (Kd.R_elder' (by (with_reducible repeat (first | apply Kd.R_alloc | apply Kd.R_drewN | apply Kd.R_drew)); exact HO_3.out) (Kd.R_base ho0) hb); have n1_ := Aside0.mk (Kd.R_lower (Kd.R_new' ho0 (Kd.R_lt (by (with_reducible repeat (first | apply Kd.R_alloc | apply Kd.R_drewN | apply Kd.R_drew)); exact HO_3.out))) (below_size (by repeat (first | (with_reducible first | exact HB.out | apply below_alloc | apply pw_below_drewN | apply below_drew1) | exact HB.out)))); have n2_ := Aside0.mk (below_step (by repeat (first | (with_reducible first | exact HB.out | apply below_alloc | apply pw_below_drewN | apply below_drew1) | exact HB.out)) hb); clear HO_3; clear HB; have HO_3 := n0_; have HO129 := n1_; have HB := n2_; clear n0_ n1_ n2_; (try clear hb); (try clear hb2); (try clear hk); (try clear hi); (try clear ho0)) | (go_at_call 24; (with_reducible refine (impl_MavenTransitions.calls k2 (((⟨#[97]⟩ : ByteArray) ++ a0) ++ (⟨#[49, 98]⟩ : ByteArray)) t130 _ A33.out).mono ?_); rintro e w37 ⟨v131, rfl, ho0, hb⟩; have n0_ := Aside0.mk (Kd.R_elder' (by (with_reducible repeat (first | apply Kd.R_alloc | apply Kd.R_drewN | apply Kd.R_drew)); exact HO_3.out) (Kd.R_base ho0) hb); have n1_ := Aside0.mk (Kd.R_elder' (by (with_reducible repeat (first | apply Kd.R_alloc | apply Kd.R_drewN | apply Kd.R_drew)); exact HO129.out) (Kd.R_base ho0) hb); have n2_ := Aside0.mk (Kd.R_lower (Kd.R_new' (Kd.R_new' ho0 (Kd.R_lt (by (with_reducible repeat (first | apply Kd.R_alloc | apply Kd.R_drewN | apply Kd.R_drew)); exact HO_3.out))) (Kd.R_lt (by (with_reducible repeat (first | apply Kd.R_alloc | apply Kd.R_drewN | apply Kd.R_drew)); exact HO129.out))) (below_size (by repeat (first | (with_reducible first | exact HB.out | apply below_alloc | apply pw_below_drewN | apply below_drew1) | exact HB.out)))); have n3_ := Aside0.mk (below_step (by repeat (first | (with_reducible first | exact HB.out | apply below_alloc | apply pw_below_drewN | apply below_drew1) | exact HB.out)) hb); clear HO_3; clear HO129; clear HB; have HO_3 := n0_; have HO129 := n1_; have HO132 := n2_; have HB := n3_; clear n0_ n1_ n2_ n3_; (try clear hb); (try clear hb2); (try clear hk); (try clear hi); (try clear ho0)) | (go_at_call 25; (with_reducible refine (spec_MavenTransitions.calls k2 a0 t133 _ A34.out).mono ?_); rintro e w38 ⟨v134, rfl, ho0, hb⟩; have n0_ := Aside0.mk (Kd.R_elder' (by (with_reducible repeat (first | apply Kd.R_alloc | apply Kd.R_drewN | apply Kd.R_drew)); exact HO_3.out) (Kd.R_base ho0) hb); have n1_ := Aside0.mk (Kd.R_elder' (by (with_reducible repeat (first | apply Kd.R_alloc | apply Kd.R_drewN | apply Kd.R_drew)); exact HO129.out) (Kd.R_base ho0) hb); have n2_ := Aside0.mk (Kd.R_elder' (by (with_reducible repeat (first | apply Kd.R_alloc | apply Kd.R_drewN | apply Kd.R_drew)); exact HO132.out) (Kd.R_base ho0) hb); have n3_ := Aside0.mk (Kd.R_lower (Kd.R_new' (Kd.R_new' (Kd.R_new' ho0 (Kd.R_lt (by (with_reducible repeat (first | apply Kd.R_alloc | apply Kd.R_drewN | apply Kd.R_drew)); exact HO_3.out))) (Kd.R_lt (by (with_reducible repeat (first | apply Kd.R_alloc | apply Kd.R_drewN | apply Kd.R_drew)); exact HO129.out))) (Kd.R_lt (by (with_reducible repeat (first | apply Kd.R_alloc | apply Kd.R_drewN | apply Kd.R_drew)); exact HO132.out))) (below_size (by repeat (first | (with_reducible first | exact HB.out | apply below_alloc | apply pw_below_drewN | apply below_drew1) | exact HB.out)))); have n4_ := Aside0.mk (below_step (by repeat (first | (with_reducible first | exact HB.out | apply below_alloc | apply pw_below_drewN | apply below_drew1) | exact HB.out)) hb); clear HO_3; clear HO129; clear HO132; clear HB; have HO_3 := n0_; have HO129 := n1_; have HO132 := n2_; have HO135 := n3_; have HB := n4_; clear n0_ n1_ n2_ n3_ n4_; (try clear hb); (try clear hb2); (try clear hk); (try clear hi); (try clear ho0))))
                    (try simp only [Act.put, List.setIfInBounds_toArray, List.set_cons_zero, List.set_cons_succ])
                    go_cut [69] (fun v69 wc => ∃ (kq : Nat) (x69_34 : Bool), v69 = .bool x69_34 ∧ Aside0 (laws_FnMavenTransitions.j2 kq x3_2 t127 t133 x69_34 = some r) ∧ Aside0 (kq ≤ k2) ∧ Aside0 (Kd.R (Kd.int .i64) 3 wc w.heap.size (fun k_ => some k_ ≠ (v128 : Value).ownBlock ∧ some k_ ≠ (v134 : Value).ownBlock) u3 x3_2) ∧ Aside0 (Kd.R (Kd.int .i64) 3 wc w.heap.size (fun k_ => some k_ ≠ (u3 : Value).ownBlock ∧ some k_ ≠ (v134 : Value).ownBlock) v128 t127) ∧ Aside0 (Kd.R (Kd.int .i64) 3 wc w.heap.size (fun k_ => some k_ ≠ (u3 : Value).ownBlock ∧ some k_ ≠ (v128 : Value).ownBlock) v134 t133) ∧ Aside0 (Below w.heap.size w wc))
                    case first =>
                      have H := HC35.out
                      clear HC35
                      by_cases c39 : (t127.length : Int) = (x3_2.length : Int)
                      · rw [if_pos c39] at H
                        have c39b0 : ((t127.length : Int) == (x3_2.length : Int)) = true := beq_iff_eq.mpr c39
                        have c39b1 : ((t127.length : Int) != (x3_2.length : Int)) = false := bne_eq_false_iff_eq.mpr c39
                        have c39b2 : (t127.length == x3_2.length) = true := by first | simpa using c39 | (simp at c39 ⊢; omega)
                        clear c39
                        (first | rw [c39b0] | (simp only [i64_w, i32_w]; rw [c39b0]) | skip)
                        by_cases c40 : (t133.length : Int) = (x3_2.length : Int)
                        · rw [if_pos c40] at H
                          have c40b0 : ((t133.length : Int) == (x3_2.length : Int)) = true := beq_iff_eq.mpr c40
                          have c40b1 : ((t133.length : Int) != (x3_2.length : Int)) = false := bne_eq_false_iff_eq.mpr c40
                          have c40b2 : (t133.length == x3_2.length) = true := by first | simpa using c40 | (simp at c40 ⊢; omega)
                          clear c40
                          have H' := Aside0.mk H
                          clear H
                          obtain ⟨Ao41, co41, eo41⟩ := Kd.R_slice HO129.out
                          subst eo41
                          obtain ⟨Ao42, co42, eo42⟩ := Kd.R_slice HO_3.out
                          subst eo42
                          obtain ⟨Ao43, co43, eo43⟩ := Kd.R_slice HO135.out
                          subst eo43
                          obtain ⟨Ao44, co44, eo44⟩ := Kd.R_slice HO132.out
                          subst eo44
                          go_wp2
                          repeat (go_quiet (fail); try go_wp2)
                          go_meet
                          case rel => exact ⟨_, (((t130.length : Int) == 0)), (by first | rfl | (simp; done) | (simp [*]; done) | (simp [bne_nil_hyb]; done) | (simp [bne_nil_hyb, *]; done)), H', ⟨by have := HJ2.out; have := HK2.out; first | omega | exact Nat.le_refl _⟩, ⟨by (with_reducible repeat (first | apply Kd.R_alloc | apply Kd.R_drewN | apply Kd.R_drew)); exact Kd.R_mono HO_3.out (fun _ hk => ⟨hk.1.1.2, hk.2⟩)⟩, ⟨by (with_reducible repeat (first | apply Kd.R_alloc | apply Kd.R_drewN | apply Kd.R_drew)); exact Kd.R_mono HO129.out (fun _ hk => ⟨hk.1.1.2, hk.2⟩)⟩, ⟨by (with_reducible repeat (first | apply Kd.R_alloc | apply Kd.R_drewN | apply Kd.R_drew)); exact Kd.R_mono HO135.out (fun _ hk => ⟨hk.1.1.2, hk.1.2⟩)⟩, ⟨by repeat (first | (with_reducible first | exact HB.out | apply below_alloc | apply pw_below_drewN | apply below_drew1) | exact HB.out)⟩⟩
                        · rw [if_neg c40] at H
                          have c40b0 : ((t133.length : Int) == (x3_2.length : Int)) = false := beq_eq_false_iff_ne.mpr c40
                          have c40b1 : ((t133.length : Int) != (x3_2.length : Int)) = true := bne_iff_ne.mpr c40
                          have c40b2 : (t133.length == x3_2.length) = false := by first | simpa using c40 | (simp at c40 ⊢; omega)
                          have H' := Aside0.mk H
                          clear H
                          obtain ⟨Ao45, co45, eo45⟩ := Kd.R_slice HO129.out
                          subst eo45
                          obtain ⟨Ao46, co46, eo46⟩ := Kd.R_slice HO_3.out
                          subst eo46
                          obtain ⟨Ao47, co47, eo47⟩ := Kd.R_slice HO135.out
                          subst eo47
                          go_wp2
                          repeat (go_quiet (fail); try go_wp2)
                          go_meet
                          case rel => exact ⟨_, (true), (by first | rfl | (simp; done) | (simp [*]; done) | (simp [bne_nil_hyb]; done) | (simp [bne_nil_hyb, *]; done)), H', ⟨by have := HJ2.out; have := HK2.out; first | omega | exact Nat.le_refl _⟩, ⟨by (with_reducible repeat (first | apply Kd.R_alloc | apply Kd.R_drewN | apply Kd.R_drew)); exact Kd.R_mono HO_3.out (fun _ hk => ⟨hk.1.1.2, hk.2⟩)⟩, ⟨by (with_reducible repeat (first | apply Kd.R_alloc | apply Kd.R_drewN | apply Kd.R_drew)); exact Kd.R_mono HO129.out (fun _ hk => ⟨hk.1.1.2, hk.2⟩)⟩, ⟨by (with_reducible repeat (first | apply Kd.R_alloc | apply Kd.R_drewN | apply Kd.R_drew)); exact Kd.R_mono HO135.out (fun _ hk => ⟨hk.1.1.2, hk.1.2⟩)⟩, ⟨by repeat (first | (with_reducible first | exact HB.out | apply below_alloc | apply pw_below_drewN | apply below_drew1) | exact HB.out)⟩⟩
                      · rw [if_neg c39] at H
                        have c39b0 : ((t127.length : Int) == (x3_2.length : Int)) = false := beq_eq_false_iff_ne.mpr c39
                        have c39b1 : ((t127.length : Int) != (x3_2.length : Int)) = true := bne_iff_ne.mpr c39
                        have c39b2 : (t127.length == x3_2.length) = false := by first | simpa using c39 | (simp at c39 ⊢; omega)
                        (first | rw [c39b0] | (simp only [i64_w, i32_w]; rw [c39b0]) | skip)
                        have H' := Aside0.mk H
                        clear H
                        obtain ⟨Ao48, co48, eo48⟩ := Kd.R_slice HO129.out
                        subst eo48
                        obtain ⟨Ao49, co49, eo49⟩ := Kd.R_slice HO_3.out
                        subst eo49
                        go_wp2
                        repeat (go_quiet (fail); try go_wp2)
                        go_meet
                        case rel => exact ⟨_, (true), (by first | rfl | (simp; done) | (simp [*]; done) | (simp [bne_nil_hyb]; done) | (simp [bne_nil_hyb, *]; done)), H', ⟨by have := HJ2.out; have := HK2.out; first | omega | exact Nat.le_refl _⟩, ⟨by (with_reducible repeat (first | apply Kd.R_alloc | apply Kd.R_drewN | apply Kd.R_drew)); exact Kd.R_mono HO_3.out (fun _ hk => ⟨hk.1.1.2, hk.2⟩)⟩, ⟨by (with_reducible repeat (first | apply Kd.R_alloc | apply Kd.R_drewN | apply Kd.R_drew)); exact Kd.R_mono HO129.out (fun _ hk => ⟨hk.1.1.2, hk.2⟩)⟩, ⟨by (with_reducible repeat (first | apply Kd.R_alloc | apply Kd.R_drewN | apply Kd.R_drew)); exact Kd.R_mono HO135.out (fun _ hk => ⟨hk.1.1.2, hk.1.2⟩)⟩, ⟨by repeat (first | (with_reducible first | exact HB.out | apply below_alloc | apply pw_below_drewN | apply below_drew1) | exact HB.out)⟩⟩
                    case rest =>
                      clear HC35
                      try clear c1
                      try clear c2
                      try clear c2b0
                      try clear c2b1
                      try clear p2
                      try clear c3
                      try clear c4
                      try clear c5
                      try clear p6
                      try clear c9
                      try clear c16
                      try clear c17
                      try clear c17b0
                      try clear c19
                      try clear c19b0
                      try clear c19b1
                      try clear c20
                      try clear c20b0
                      try clear c20b1
                      try clear c21
                      try clear c21b0
                      try clear c21b1
                      try clear c23
                      try clear c23b0
                      try clear c23b1
                      try clear c24
                      try clear c24b0
                      try clear c24b1
                      try clear c25
                      try clear c25b0
                      try clear c25b1
                      try clear c27
                      try clear c27b0
                      try clear c27b1
                      try clear c27b2
                      try clear c28
                      try clear c31
                      try clear c31b0
                      try clear c31b1
                      try clear c31b2
                      try clear c32
                      try clear c32b0
                      try clear c32b1
                      try clear c32b2
                      try clear c39
                      try clear c39b0
                      try clear c39b1
                      try clear c39b2
                      try clear c40
                      try clear c40b0
                      try clear c40b1
                      try clear c40b2
                      try clear p2
                      obtain ⟨kq, x69_34, rfl, HA, HJ34, HO_3, HO_5, HO_7, HB⟩ := hcut
                      cases kq with
                      | zero => exact absurd HA.out (by simp [laws_FnMavenTransitions.j2])
                      | succ kj34 =>
                        have H := HA.out
                        clear HA
                        simp only [laws_FnMavenTransitions.j2] at H
                        by_cases c50 : x69_34 = true
                        · subst c50
                          have H1 : (some false) = some r := by rw [if_pos rfl] at H; exact H
                          clear H
                          have H := H1
                          clear H1
                          obtain rfl := Option.some.inj H
                          go_wp2
                          repeat (go_quiet (fail); try go_wp2)
                          go_ret
                          exact ⟨by first | rfl | (simp [errW_none, errW_some] <;> rfl) | (simp [*, errW_none, errW_some] <;> rfl) | (simp [bne_nil_hyb]; done), by repeat (first | (with_reducible first | exact HB.out | apply below_alloc | apply pw_below_drewN | apply below_drew1) | exact HB.out)⟩
                        · replace c50 := Bool.eq_false_iff.mpr c50
                          subst c50
                          have H1 : (laws_FnMavenTransitions.l1 kj34 t127 t133 (x3_2.length : Int) 0) = some r := by rw [if_neg (show ¬ (false = true) by decide)] at H; exact H
                          clear H
                          have H := H1
                          clear H1
                          have H' := Aside0.mk H
                          clear H
                          obtain ⟨Ao51, co51, eo51⟩ := Kd.R_slice HO_3.out
                          subst eo51
                          go_wp2
                          repeat (go_quiet (fail); try go_wp2)
                          (try simp only [Act.put, List.setIfInBounds_toArray, List.set_cons_zero, List.set_cons_succ])
                          go_loopg [72] kj34 (fun kq v72 w' => ∃ (x72_4 : Int), v72 = .int .i64 x72_4 ∧ Aside0 (laws_FnMavenTransitions.l1 kq t127 t133 (x3_2.length : Int) x72_4 = some r) ∧ Aside0 (kq ≤ kj34) ∧ Aside0 (Kd.R (Kd.int .i64) 3 w' w.heap.size (fun k_ => some k_ ≠ (v134 : Value).ownBlock) v128 t127) ∧ Aside0 (Kd.R (Kd.int .i64) 3 w' w.heap.size (fun k_ => some k_ ≠ (v128 : Value).ownBlock) v134 t133) ∧ Aside0 (Below w.heap.size w w'))
                          case atStart => exact ⟨(0), (by first | rfl | (simp; done) | (simp [*]; done) | (simp [bne_nil_hyb]; done) | (simp [bne_nil_hyb, *]; done)), H', ⟨Nat.le_refl _⟩, ⟨by (with_reducible repeat (first | apply Kd.R_alloc | apply Kd.R_drewN | apply Kd.R_drew)); exact Kd.R_mono HO_5.out (fun _ hk => hk.2)⟩, ⟨by (with_reducible repeat (first | apply Kd.R_alloc | apply Kd.R_drewN | apply Kd.R_drew)); exact Kd.R_mono HO_7.out (fun _ hk => hk.2)⟩, ⟨by repeat (first | (with_reducible first | exact HB.out | apply below_alloc | apply pw_below_drewN | apply below_drew1) | exact HB.out)⟩⟩
                          case round =>
                            clear H'
                            try clear c1
                            try clear c2
                            try clear c2b0
                            try clear c2b1
                            try clear p2
                            try clear c3
                            try clear c4
                            try clear c5
                            try clear p6
                            try clear c9
                            try clear c16
                            try clear c17
                            try clear c17b0
                            try clear c19
                            try clear c19b0
                            try clear c19b1
                            try clear c20
                            try clear c20b0
                            try clear c20b1
                            try clear c21
                            try clear c21b0
                            try clear c21b1
                            try clear c23
                            try clear c23b0
                            try clear c23b1
                            try clear c24
                            try clear c24b0
                            try clear c24b1
                            try clear c25
                            try clear c25b0
                            try clear c25b1
                            try clear c27
                            try clear c27b0
                            try clear c27b1
                            try clear c27b2
                            try clear c28
                            try clear c31
                            try clear c31b0
                            try clear c31b1
                            try clear c31b2
                            try clear c32
                            try clear c32b0
                            try clear c32b1
                            try clear c32b2
                            try clear c39
                            try clear c39b0
                            try clear c39b1
                            try clear c39b2
                            try clear c40
                            try clear c40b0
                            try clear c40b1
                            try clear c40b2
                            try clear c50
                            try clear p2
                            try clear p6
                            obtain ⟨x72_4, rfl, HA, HK4, HO_5, HO_7, HB⟩ := hrel
                            cases gk with
                            | zero => exact absurd HA.out (by simp [laws_FnMavenTransitions.l1])
                            | succ k4 =>
                              have H := HA.out
                              clear HA
                              simp only [laws_FnMavenTransitions.l1] at H
                              by_cases c52 : x72_4 < (x3_2.length : Int)
                              · rw [if_pos c52] at H
                                have c52b0 : decide (x72_4 < (x3_2.length : Int)) = true := decide_eq_true c52
                                clear c52
                                by_cases c53 : 0 ≤ x72_4
                                · rw [if_pos c53] at H
                                  have c53b0 : decide (0 ≤ x72_4) = true := decide_eq_true c53
                                  clear c53
                                  by_cases c54 : x72_4 < (t127.length : Int)
                                  · rw [if_pos c54] at H
                                    have c54b0 : decide (x72_4 < (t127.length : Int)) = true := decide_eq_true c54
                                    clear c54
                                    by_cases c55 : x72_4 < (t133.length : Int)
                                    · rw [if_pos c55] at H
                                      have c55b0 : decide (x72_4 < (t133.length : Int)) = true := decide_eq_true c55
                                      clear c55
                                      by_cases c56 : (rd t127 x72_4) = (rd t133 x72_4)
                                      · rw [if_pos c56] at H
                                        have c56b0 : ((rd t127 x72_4) == (rd t133 x72_4)) = true := beq_iff_eq.mpr c56
                                        have c56b1 : ((rd t127 x72_4) != (rd t133 x72_4)) = false := bne_eq_false_iff_eq.mpr c56
                                        clear c56
                                        by_cases c57 : x72_4 > 0
                                        · rw [if_pos c57] at H
                                          have c57b0 : decide (0 < x72_4) = true := decide_eq_true c57
                                          clear c57
                                          obtain ⟨ji58, hji58⟩ : ∃ j_ : Int, (wrap64 (x72_4 - 1)) = j_ := ⟨_, rfl⟩
                                          replace H : (if 0 ≤ (ji58) then (if (ji58) < (t127.length : Int) then (if (rd t127 x72_4) ≤ (rd t127 (ji58)) then (some false) else (laws_FnMavenTransitions.l1 k4 t127 t133 (x3_2.length : Int) (wrap64 (x72_4 + 1)))) else (none)) else (none)) = some r := by first | (rw [hji58] at H; exact H) | (simp only [hji58] at H ⊢; exact H)
                                          have hji58w : (IntKind.i64.wrap (x72_4 - 1)) = ji58 := (i64_w _).trans hji58
                                          by_cases c59 : 0 ≤ (ji58)
                                          · rw [if_pos c59] at H
                                            have c59b0 : decide (0 ≤ (ji58)) = true := decide_eq_true c59
                                            clear c59
                                            by_cases c60 : (ji58) < (t127.length : Int)
                                            · rw [if_pos c60] at H
                                              have c60b0 : decide ((ji58) < (t127.length : Int)) = true := decide_eq_true c60
                                              clear c60
                                              by_cases c61 : (rd t127 x72_4) ≤ (rd t127 (ji58))
                                              · rw [if_pos c61] at H
                                                have c61b0 : decide ((rd t127 x72_4) ≤ (rd t127 (ji58))) = true := decide_eq_true c61
                                                clear c61
                                                obtain rfl := Option.some.inj H
                                                obtain ⟨Ao62, co62, eo62⟩ := Kd.R_slice HO_5.out
                                                subst eo62
                                                have p136 : 0 ≤ (x72_4 : Int) := of_decide_eq_true (by first | (with_reducible assumption) | assumption)
                                                have q136 : x72_4 < (t127.length : Int) := of_decide_eq_true (by first | (with_reducible assumption) | assumption)
                                                obtain ⟨ad136, e136, hx136_0⟩ := Kd.at_int (Kd.R_reads' HO_5.out).2.2 x72_4 p136 q136
                                                cases e136
                                                replace p136 := eq_true p136
                                                replace q136 := eq_true q136
                                                obtain ⟨Ao63, co63, eo63⟩ := Kd.R_slice HO_7.out
                                                subst eo63
                                                have p137 : 0 ≤ (x72_4 : Int) := of_decide_eq_true (by first | (with_reducible assumption) | assumption)
                                                have q137 : x72_4 < (t133.length : Int) := of_decide_eq_true (by first | (with_reducible assumption) | assumption)
                                                obtain ⟨ad137, e137, hx137_0⟩ := Kd.at_int (Kd.R_reads' HO_7.out).2.2 x72_4 p137 q137
                                                cases e137
                                                replace p137 := eq_true p137
                                                replace q137 := eq_true q137
                                                have p138 : 0 ≤ (x72_4 : Int) := of_decide_eq_true (by first | (with_reducible assumption) | assumption)
                                                have q138 : x72_4 < (t127.length : Int) := of_decide_eq_true (by first | (with_reducible assumption) | assumption)
                                                obtain ⟨ad138, e138, hx138_0⟩ := Kd.at_int (Kd.R_reads' HO_5.out).2.2 x72_4 p138 q138
                                                obtain rfl : ad136 = ad138 := (by injection e138)
                                                replace p138 := eq_true p138
                                                replace q138 := eq_true q138
                                                have p139 : 0 ≤ ((ji58) : Int) := of_decide_eq_true (by first | (with_reducible assumption) | assumption)
                                                have q139 : (ji58) < (t127.length : Int) := of_decide_eq_true (by first | (with_reducible assumption) | assumption)
                                                obtain ⟨ad139, e139, hx139_0⟩ := Kd.at_int (Kd.R_reads' HO_5.out).2.2 (ji58) p139 q139
                                                obtain rfl : ad136 = ad139 := (by injection e139)
                                                replace p139 := eq_true p139
                                                replace q139 := eq_true q139
                                                go_wp2
                                                repeat (go_quiet (fail); try go_wp2)
                                                go_ret
                                                exact ⟨by first | rfl | (simp [errW_none, errW_some] <;> rfl) | (simp only [← hji58]; first | rfl | (simp [errW_none, errW_some] <;> rfl)) | (simp [*, errW_none, errW_some] <;> rfl) | (simp [bne_nil_hyb]; done), by repeat (first | (with_reducible first | exact HB.out | apply below_alloc | apply pw_below_drewN | apply below_drew1) | exact HB.out)⟩
                                              · rw [if_neg c61] at H
                                                have c61b0 : decide ((rd t127 x72_4) ≤ (rd t127 (ji58))) = false := decide_eq_false c61
                                                clear c61
                                                have H' := Aside0.mk H
                                                clear H
                                                obtain ⟨Ao64, co64, eo64⟩ := Kd.R_slice HO_5.out
                                                subst eo64
                                                have p136 : 0 ≤ (x72_4 : Int) := of_decide_eq_true (by first | (with_reducible assumption) | assumption)
                                                have q136 : x72_4 < (t127.length : Int) := of_decide_eq_true (by first | (with_reducible assumption) | assumption)
                                                obtain ⟨ad136, e136, hx136_0⟩ := Kd.at_int (Kd.R_reads' HO_5.out).2.2 x72_4 p136 q136
                                                cases e136
                                                replace p136 := eq_true p136
                                                replace q136 := eq_true q136
                                                obtain ⟨Ao65, co65, eo65⟩ := Kd.R_slice HO_7.out
                                                subst eo65
                                                have p137 : 0 ≤ (x72_4 : Int) := of_decide_eq_true (by first | (with_reducible assumption) | assumption)
                                                have q137 : x72_4 < (t133.length : Int) := of_decide_eq_true (by first | (with_reducible assumption) | assumption)
                                                obtain ⟨ad137, e137, hx137_0⟩ := Kd.at_int (Kd.R_reads' HO_7.out).2.2 x72_4 p137 q137
                                                cases e137
                                                replace p137 := eq_true p137
                                                replace q137 := eq_true q137
                                                have p138 : 0 ≤ (x72_4 : Int) := of_decide_eq_true (by first | (with_reducible assumption) | assumption)
                                                have q138 : x72_4 < (t127.length : Int) := of_decide_eq_true (by first | (with_reducible assumption) | assumption)
                                                obtain ⟨ad138, e138, hx138_0⟩ := Kd.at_int (Kd.R_reads' HO_5.out).2.2 x72_4 p138 q138
                                                obtain rfl : ad136 = ad138 := (by injection e138)
                                                replace p138 := eq_true p138
                                                replace q138 := eq_true q138
                                                have p139 : 0 ≤ ((ji58) : Int) := of_decide_eq_true (by first | (with_reducible assumption) | assumption)
                                                have q139 : (ji58) < (t127.length : Int) := of_decide_eq_true (by first | (with_reducible assumption) | assumption)
                                                obtain ⟨ad139, e139, hx139_0⟩ := Kd.at_int (Kd.R_reads' HO_5.out).2.2 (ji58) p139 q139
                                                obtain rfl : ad136 = ad139 := (by injection e139)
                                                replace p139 := eq_true p139
                                                replace q139 := eq_true q139
                                                go_wp2
                                                repeat (go_quiet (fail); try go_wp2)
                                                go_roundg k4
                                                case measure => have := HJ2.out; have := HK2.out; have := HJ34.out; have := HK4.out; omega
                                                case rel => exact ⟨(wrap64 (x72_4 + 1)), (by first | rfl | (simp; done) | (simp [*]; done) | (simp [bne_nil_hyb]; done) | (simp [bne_nil_hyb, *]; done)), H', ⟨by have := HJ2.out; have := HK2.out; have := HJ34.out; have := HK4.out; omega⟩, ⟨by (with_reducible repeat (first | apply Kd.R_alloc | apply Kd.R_drewN | apply Kd.R_drew)); exact HO_5.out⟩, ⟨by (with_reducible repeat (first | apply Kd.R_alloc | apply Kd.R_drewN | apply Kd.R_drew)); exact HO_7.out⟩, ⟨by repeat (first | (with_reducible first | exact HB.out | apply below_alloc | apply pw_below_drewN | apply below_drew1) | exact HB.out)⟩⟩
                                            · rw [if_neg c60] at H
                                              exact absurd H (by simp)
                                          · rw [if_neg c59] at H
                                            exact absurd H (by simp)
                                        · rw [if_neg c57] at H
                                          have c57b0 : decide (0 < x72_4) = false := decide_eq_false c57
                                          clear c57
                                          have H' := Aside0.mk H
                                          clear H
                                          obtain ⟨Ao66, co66, eo66⟩ := Kd.R_slice HO_5.out
                                          subst eo66
                                          have p136 : 0 ≤ (x72_4 : Int) := of_decide_eq_true (by first | (with_reducible assumption) | assumption)
                                          have q136 : x72_4 < (t127.length : Int) := of_decide_eq_true (by first | (with_reducible assumption) | assumption)
                                          obtain ⟨ad136, e136, hx136_0⟩ := Kd.at_int (Kd.R_reads' HO_5.out).2.2 x72_4 p136 q136
                                          cases e136
                                          replace p136 := eq_true p136
                                          replace q136 := eq_true q136
                                          obtain ⟨Ao67, co67, eo67⟩ := Kd.R_slice HO_7.out
                                          subst eo67
                                          have p137 : 0 ≤ (x72_4 : Int) := of_decide_eq_true (by first | (with_reducible assumption) | assumption)
                                          have q137 : x72_4 < (t133.length : Int) := of_decide_eq_true (by first | (with_reducible assumption) | assumption)
                                          obtain ⟨ad137, e137, hx137_0⟩ := Kd.at_int (Kd.R_reads' HO_7.out).2.2 x72_4 p137 q137
                                          cases e137
                                          replace p137 := eq_true p137
                                          replace q137 := eq_true q137
                                          go_wp2
                                          repeat (go_quiet (fail); try go_wp2)
                                          go_roundg k4
                                          case measure => have := HJ2.out; have := HK2.out; have := HJ34.out; have := HK4.out; omega
                                          case rel => exact ⟨(wrap64 (x72_4 + 1)), (by first | rfl | (simp; done) | (simp [*]; done) | (simp [bne_nil_hyb]; done) | (simp [bne_nil_hyb, *]; done)), H', ⟨by have := HJ2.out; have := HK2.out; have := HJ34.out; have := HK4.out; omega⟩, ⟨by (with_reducible repeat (first | apply Kd.R_alloc | apply Kd.R_drewN | apply Kd.R_drew)); exact HO_5.out⟩, ⟨by (with_reducible repeat (first | apply Kd.R_alloc | apply Kd.R_drewN | apply Kd.R_drew)); exact HO_7.out⟩, ⟨by repeat (first | (with_reducible first | exact HB.out | apply below_alloc | apply pw_below_drewN | apply below_drew1) | exact HB.out)⟩⟩
                                      · rw [if_neg c56] at H
                                        have c56b0 : ((rd t127 x72_4) == (rd t133 x72_4)) = false := beq_eq_false_iff_ne.mpr c56
                                        have c56b1 : ((rd t127 x72_4) != (rd t133 x72_4)) = true := bne_iff_ne.mpr c56
                                        obtain rfl := Option.some.inj H
                                        obtain ⟨Ao68, co68, eo68⟩ := Kd.R_slice HO_5.out
                                        subst eo68
                                        have p136 : 0 ≤ (x72_4 : Int) := of_decide_eq_true (by first | (with_reducible assumption) | assumption)
                                        have q136 : x72_4 < (t127.length : Int) := of_decide_eq_true (by first | (with_reducible assumption) | assumption)
                                        obtain ⟨ad136, e136, hx136_0⟩ := Kd.at_int (Kd.R_reads' HO_5.out).2.2 x72_4 p136 q136
                                        cases e136
                                        replace p136 := eq_true p136
                                        replace q136 := eq_true q136
                                        obtain ⟨Ao69, co69, eo69⟩ := Kd.R_slice HO_7.out
                                        subst eo69
                                        have p137 : 0 ≤ (x72_4 : Int) := of_decide_eq_true (by first | (with_reducible assumption) | assumption)
                                        have q137 : x72_4 < (t133.length : Int) := of_decide_eq_true (by first | (with_reducible assumption) | assumption)
                                        obtain ⟨ad137, e137, hx137_0⟩ := Kd.at_int (Kd.R_reads' HO_7.out).2.2 x72_4 p137 q137
                                        cases e137
                                        replace p137 := eq_true p137
                                        replace q137 := eq_true q137
                                        go_wp2
                                        repeat (go_quiet (fail); try go_wp2)
                                        go_ret
                                        exact ⟨by first | rfl | (simp [errW_none, errW_some] <;> rfl) | (simp [*, errW_none, errW_some] <;> rfl) | (simp [bne_nil_hyb]; done), by repeat (first | (with_reducible first | exact HB.out | apply below_alloc | apply pw_below_drewN | apply below_drew1) | exact HB.out)⟩
                                    · rw [if_neg c55] at H
                                      exact absurd H (by simp)
                                  · rw [if_neg c54] at H
                                    exact absurd H (by simp)
                                · rw [if_neg c53] at H
                                  exact absurd H (by simp)
                              · rw [if_neg c52] at H
                                have c52b0 : decide (x72_4 < (x3_2.length : Int)) = false := decide_eq_false c52
                                clear c52
                                obtain rfl := Option.some.inj H
                                go_wp2
                                repeat (go_quiet (fail); try go_wp2)
                                go_ret
                                exact ⟨by first | rfl | (simp [errW_none, errW_some] <;> rfl) | (simp [*, errW_none, errW_some] <;> rfl) | (simp [bne_nil_hyb]; done), by repeat (first | (with_reducible first | exact HB.out | apply below_alloc | apply pw_below_drewN | apply below_drew1) | exact HB.out)⟩
                  · rw [if_neg c32] at H
                    exact absurd H (by simp)
                · rw [if_neg c31] at H
                  exact absurd H (by simp)

/-- THE ONE PURE STATEMENT of laws_FnMavenTransitions: yours. -/
def laws_FnMavenTransitions.Pure : Prop := ∀ (a0 : ByteArray), a0.size ≤ 140737488351232 → ∃ k, laws_FnMavenTransitions.f k a0 = some true
theorem laws_FnMavenTransitions.walk (P : laws_FnMavenTransitions.Pure) (a0 : ByteArray) (w : World) (w0 : a0.size ≤ 140737488351232) :
    Calls Tryd.prog 9 #[.string a0] w fun e w' => e = .returned (.bool true) ∧ Below w.heap.size w w' := by
  obtain ⟨k, h⟩ := P a0 w0
  refine (laws_FnMavenTransitions.calls k a0 true w h).mono ?_
  rintro e w' ⟨rfl, hd⟩
  exact ⟨rfl, hd⟩

end Go.Proofs.YteffbgjfhbgooaaDoor.M
