/- Proved here: each Go function that is named in this text, called as its theorem 'calls' says, returns what its Lean function 'f' tells, and of the memory that was there nothing is changed (a row of a law: the law returns true). Conditions: those that stand in each theorem; where 'f' tells none, nothing is said. Laid by a program of this seat's prover out of the translation; Lean checks it. -/
import Derived.Test.YteffbgjfhbgooaaQx0
import Derived.Test.YteffbgjfhbgooaaQx1
import Derived.Test.YteffbgjfhbgooaaQx3
import Derived.Test.YteffbgjfhbgooaaQx5
import Derived.Test.YteffbgjfhbgooaaQx6
import Derived.Test.YteffbgjfhbgooaaQx7
namespace Go.Proofs.Yteffbgjfhbgooaa.Q
open Go.RowKit Go.Proofs.YteffbgjfhbgooaaH Go.Proofs.YteffbgjfhbgooaaW.PrintWords Go.Proofs.YteffbgjfhbgooaaW.PrintLast Go.Proofs.YteffbgjfhbgooaaW.PrintMore
attribute [local go_sem] max2_int min2_int max_two min_two max_three min_three max_four min_four   -- for this text's walks alone
set_option linter.unusedVariables false
set_option linter.unusedSimpArgs false

/-! ### spec_PyPIParts: function 11 -/
mutual
def spec_PyPIParts.l0 : Nat → List ByteArray → List ByteArray → Int → Option (List ByteArray)
  | 0, _, _, _ => none
  | k + 1, x3, x4, x5 => if x5 < (x4.length : Int) then (if 0 ≤ x5 then ((spec_pypiPart.f k (rdOf ByteArray.empty x4 x5)).bind fun t203 => (spec_PyPIParts.l1 k x3 x4 x5 t203)) else (none)) else (some x3)
def spec_PyPIParts.j2 : Nat → List ByteArray → List ByteArray → Int → ByteArray → Option (List ByteArray)
  | 0, _, _, _, _ => none
  | k + 1, x3, x4, x5, x6 => spec_PyPIParts.l2 k x3 x4 x5 x6
def spec_PyPIParts.l2 : Nat → List ByteArray → List ByteArray → Int → ByteArray → Option (List ByteArray)
  | 0, _, _, _, _ => none
  | k + 1, x3, x4, x5, x6 => if 0 < (x6.size : Int) then (if (bt x6 0) = 42 then (if (x3.length : Int) > 0 then (if 0 ≤ (wrap64 ((x3.length : Int) - 1)) then (if (wrap64 ((x3.length : Int) - 1)) < (x3.length : Int) then (if (rdOf ByteArray.empty x3 (wrap64 ((x3.length : Int) - 1))).toList = ([48, 48, 48, 48, 48, 48, 48, 48] : List UInt8) then (if (wrap64 ((x3.length : Int) - 1)) ≤ (x3.length : Int) then (spec_PyPIParts.l2 k (x3.take ((wrap64 ((x3.length : Int) - 1)) : Int).toNat) x4 x5 x6) else (none)) else (if x3.length < 8796093022208 then (spec_PyPIParts.l0 k (x3 ++ [x6]) x4 (wrap64 (x5 + 1))) else (none))) else (none)) else (none)) else (if x3.length < 8796093022208 then (spec_PyPIParts.l0 k (x3 ++ [x6]) x4 (wrap64 (x5 + 1))) else (none))) else (if x3.length < 8796093022208 then (spec_PyPIParts.l0 k (x3 ++ [x6]) x4 (wrap64 (x5 + 1))) else (none))) else (none)
def spec_PyPIParts.l1 : Nat → List ByteArray → List ByteArray → Int → ByteArray → Option (List ByteArray)
  | 0, _, _, _, _ => none
  | k + 1, x3, x4, x5, x6 => if 0 < (x6.size : Int) then (if (bt x6 0) = 42 then (if (Op.bytesLess x6.toList ([42, 102, 105, 110, 97, 108] : List UInt8)) = true then (if (x3.length : Int) > 0 then (if 0 ≤ (wrap64 ((x3.length : Int) - 1)) then (if (wrap64 ((x3.length : Int) - 1)) < (x3.length : Int) then (if (rdOf ByteArray.empty x3 (wrap64 ((x3.length : Int) - 1))).toList = ([42, 102, 105, 110, 97, 108, 45] : List UInt8) then (if (wrap64 ((x3.length : Int) - 1)) ≤ (x3.length : Int) then (spec_PyPIParts.l1 k (x3.take ((wrap64 ((x3.length : Int) - 1)) : Int).toNat) x4 x5 x6) else (none)) else (spec_PyPIParts.j2 k x3 x4 x5 x6)) else (none)) else (none)) else (spec_PyPIParts.j2 k x3 x4 x5 x6)) else (spec_PyPIParts.j2 k x3 x4 x5 x6)) else (spec_PyPIParts.j2 k x3 x4 x5 x6)) else (none)
end
def spec_PyPIParts.f (k : Nat) (a0 : ByteArray) : Option (List ByteArray) := (spec_pypiRuns.f k a0).bind fun t196 => (if t196.length < 8796093022208 then (spec_PyPIParts.l0 k ([] : List ByteArray) (t196 ++ [(⟨#[102, 105, 110, 97, 108]⟩ : ByteArray)]) 0) else (none))
theorem spec_PyPIParts.mono_l : ∀ k, (∀ y0 y1 y2, LeO (spec_PyPIParts.l0 k y0 y1 y2) (spec_PyPIParts.l0 (k + 1) y0 y1 y2)) ∧ (∀ y0 y1 y2 y3, LeO (spec_PyPIParts.j2 k y0 y1 y2 y3) (spec_PyPIParts.j2 (k + 1) y0 y1 y2 y3)) ∧ (∀ y0 y1 y2 y3, LeO (spec_PyPIParts.l2 k y0 y1 y2 y3) (spec_PyPIParts.l2 (k + 1) y0 y1 y2 y3)) ∧ (∀ y0 y1 y2 y3, LeO (spec_PyPIParts.l1 k y0 y1 y2 y3) (spec_PyPIParts.l1 (k + 1) y0 y1 y2 y3))
  | 0 => ⟨fun _ _ _ r h => by simp [spec_PyPIParts.l0] at h, fun _ _ _ _ r h => by simp [spec_PyPIParts.j2] at h, fun _ _ _ _ r h => by simp [spec_PyPIParts.l2] at h, fun _ _ _ _ r h => by simp [spec_PyPIParts.l1] at h⟩
  | k + 1 => by
    obtain ⟨ih0, ih1, ih2, ih3⟩ := spec_PyPIParts.mono_l k
    refine ⟨?_, ?_, ?_, ?_⟩
    · intro y0 y1 y2
      unfold spec_PyPIParts.l0
      repeat' first
      | (with_reducible exact ih0 _ _ _)
      | (with_reducible exact ih1 _ _ _ _)
      | (with_reducible exact ih2 _ _ _ _)
      | (with_reducible exact ih3 _ _ _ _)
      | (with_reducible exact spec_pypiPart.mono _ _)
      | (with_reducible exact spec_pypiRuns.mono _ _)
      | (with_reducible exact LeO.refl _)
      | (with_reducible exact LeO.none _)
      | (with_reducible refine LeO.ite ?_ ?_)
      | (with_reducible refine LeO.bind ?_ (fun _ => ?_))
      | exact ih0 _ _ _
      | exact ih1 _ _ _ _
      | exact ih2 _ _ _ _
      | exact ih3 _ _ _ _
      | exact spec_pypiPart.mono _ _
      | exact spec_pypiRuns.mono _ _
      | exact LeO.none _
      | refine LeO.ite ?_ ?_
      | refine LeO.bind ?_ (fun _ => ?_)
    · intro y0 y1 y2 y3
      unfold spec_PyPIParts.j2
      repeat' first
      | (with_reducible exact ih0 _ _ _)
      | (with_reducible exact ih1 _ _ _ _)
      | (with_reducible exact ih2 _ _ _ _)
      | (with_reducible exact ih3 _ _ _ _)
      | (with_reducible exact spec_pypiPart.mono _ _)
      | (with_reducible exact spec_pypiRuns.mono _ _)
      | (with_reducible exact LeO.refl _)
      | (with_reducible exact LeO.none _)
      | (with_reducible refine LeO.ite ?_ ?_)
      | (with_reducible refine LeO.bind ?_ (fun _ => ?_))
      | exact ih0 _ _ _
      | exact ih1 _ _ _ _
      | exact ih2 _ _ _ _
      | exact ih3 _ _ _ _
      | exact spec_pypiPart.mono _ _
      | exact spec_pypiRuns.mono _ _
      | exact LeO.none _
      | refine LeO.ite ?_ ?_
      | refine LeO.bind ?_ (fun _ => ?_)
    · intro y0 y1 y2 y3
      unfold spec_PyPIParts.l2
      repeat' first
      | (with_reducible exact ih0 _ _ _)
      | (with_reducible exact ih1 _ _ _ _)
      | (with_reducible exact ih2 _ _ _ _)
      | (with_reducible exact ih3 _ _ _ _)
      | (with_reducible exact spec_pypiPart.mono _ _)
      | (with_reducible exact spec_pypiRuns.mono _ _)
      | (with_reducible exact LeO.refl _)
      | (with_reducible exact LeO.none _)
      | (with_reducible refine LeO.ite ?_ ?_)
      | (with_reducible refine LeO.bind ?_ (fun _ => ?_))
      | exact ih0 _ _ _
      | exact ih1 _ _ _ _
      | exact ih2 _ _ _ _
      | exact ih3 _ _ _ _
      | exact spec_pypiPart.mono _ _
      | exact spec_pypiRuns.mono _ _
      | exact LeO.none _
      | refine LeO.ite ?_ ?_
      | refine LeO.bind ?_ (fun _ => ?_)
    · intro y0 y1 y2 y3
      unfold spec_PyPIParts.l1
      repeat' first
      | (with_reducible exact ih0 _ _ _)
      | (with_reducible exact ih1 _ _ _ _)
      | (with_reducible exact ih2 _ _ _ _)
      | (with_reducible exact ih3 _ _ _ _)
      | (with_reducible exact spec_pypiPart.mono _ _)
      | (with_reducible exact spec_pypiRuns.mono _ _)
      | (with_reducible exact LeO.refl _)
      | (with_reducible exact LeO.none _)
      | (with_reducible refine LeO.ite ?_ ?_)
      | (with_reducible refine LeO.bind ?_ (fun _ => ?_))
      | exact ih0 _ _ _
      | exact ih1 _ _ _ _
      | exact ih2 _ _ _ _
      | exact ih3 _ _ _ _
      | exact spec_pypiPart.mono _ _
      | exact spec_pypiRuns.mono _ _
      | exact LeO.none _
      | refine LeO.ite ?_ ?_
      | refine LeO.bind ?_ (fun _ => ?_)
theorem spec_PyPIParts.mono : ∀ a0 k, LeO (spec_PyPIParts.f k a0) (spec_PyPIParts.f (k + 1) a0) := by
  intro a0 k
  obtain ⟨ih0, ih1, ih2, ih3⟩ := spec_PyPIParts.mono_l k
  unfold spec_PyPIParts.f
  repeat' first
      | (with_reducible exact ih0 _ _ _)
      | (with_reducible exact ih1 _ _ _ _)
      | (with_reducible exact ih2 _ _ _ _)
      | (with_reducible exact ih3 _ _ _ _)
      | (with_reducible exact spec_pypiPart.mono _ _)
      | (with_reducible exact spec_pypiRuns.mono _ _)
      | (with_reducible exact LeO.refl _)
      | (with_reducible exact LeO.none _)
      | (with_reducible refine LeO.ite ?_ ?_)
      | (with_reducible refine LeO.bind ?_ (fun _ => ?_))
      | exact ih0 _ _ _
      | exact ih1 _ _ _ _
      | exact ih2 _ _ _ _
      | exact ih3 _ _ _ _
      | exact spec_pypiPart.mono _ _
      | exact spec_pypiRuns.mono _ _
      | exact LeO.none _
      | refine LeO.ite ?_ ?_
      | refine LeO.bind ?_ (fun _ => ?_)
set_option maxHeartbeats 8000000 in
set_option maxRecDepth 100000 in
theorem spec_PyPIParts.calls (k : Nat) (a0 : ByteArray) (r : List ByteArray) (w : World) (h : spec_PyPIParts.f k a0 = some r) :
    Calls Try.prog 11 #[.string a0] w fun e w' => ∃ v0_ : Value, e = .returned (v0_) ∧ Kd.R Kd.string 9 w' w.heap.size (fun _ => True) v0_ r ∧ Below w.heap.size w w' := by
  have HB := Aside0.mk (Below.refl w.heap.size w)
  have H : ((spec_pypiRuns.f k a0).bind fun t196 => (if t196.length < 8796093022208 then (spec_PyPIParts.l0 k ([] : List ByteArray) (t196 ++ [(⟨#[102, 105, 110, 97, 108]⟩ : ByteArray)]) 0) else (none))) = some r := h
  clear h
  replace H := Option.bind_eq_some_iff.mp H
  obtain ⟨t196, A20, H⟩ := H
  replace H : (if t196.length < 8796093022208 then (spec_PyPIParts.l0 k ([] : List ByteArray) (t196 ++ [(⟨#[102, 105, 110, 97, 108]⟩ : ByteArray)]) 0) else (none)) = some r := H
  have A2 := Aside0.mk A20
  clear A20
  by_cases c3 : t196.length < 8796093022208
  · rw [if_pos c3] at H
    have LMc3 := Aside0.mk c3
    clear c3
    obtain ⟨y199, hy199⟩ : ∃ y_ : List ByteArray, y_ = (t196 ++ [(⟨#[102, 105, 110, 97, 108]⟩ : ByteArray)]) := ⟨_, rfl⟩
    replace H : (spec_PyPIParts.l0 k ([] : List ByteArray) y199 0) = some r := by first | (rw [hy199]; with_reducible exact H) | (have H2_ := (Option.bind_some _ _).symm.trans H; rw [hy199]; with_reducible exact H2_) | (have H2_ := (Option.bind_some _ _).symm.trans H; with_reducible exact H2_) | with_reducible exact H | (rw [hy199]; exact H) | exact H
    have Ny199 := Aside0.mk hy199
    clear hy199
    have H' := Aside0.mk H
    clear H
    go_enter Try.func11, Try.ntmps11
    go_wp2_with (first | ((with_reducible refine gate_callee (f := 14) rfl ?_); refine goesL_ (some 8) rfl rfl Try.func14 (by kernel_rfl) rfl #[.string a0] rfl (by (try simp only [List.map_toArray, List.map_cons, List.map_nil]); first | done | rfl | (simp only [List.length_drop, List.length_take]; rfl)) ?_; (with_reducible refine (spec_pypiRuns.calls k a0 t196 _ A2.out).mono ?_); rintro e w4 ⟨v197, rfl, ho0, hb⟩; refine ⟨_, rfl, ?_⟩; have n0_ := Aside0.mk (Kd.R_lower ho0 (below_size (by repeat (first | (with_reducible first | exact HB.out | apply below_alloc | apply pw_below_drewN | apply below_drew1) | exact HB.out)))); have n1_ := Aside0.mk (below_step (by repeat (first | (with_reducible first | exact HB.out | apply below_alloc | apply pw_below_drewN | apply below_drew1) | exact HB.out)) hb); clear HB; have HO198 := n0_; have HB := n1_; clear n0_ n1_; (try clear hb); (try clear hb2); (try clear hk); (try clear hi); (try clear ho0)) | ((with_reducible refine gate_builtin (b := .append) (xs := #[.tmp 8, .tmp 9]) rfl ?_); (try (refine gate_guard (by rfl) ?_; dsimp only)); at_builtin; refine Kd.R_append Kd.string (w0 := w) w.heap.size rfl (.tmp 8) (.tmp 9) 24 9 (.string ⟨#[]⟩) 16 rfl Try.underlying24 info9 rfl (by decide) (by omega) v197 t196 (⟨#[102, 105, 110, 97, 108]⟩ : ByteArray) [.string (⟨#[102, 105, 110, 97, 108]⟩ : ByteArray)] (fun _ => True) (fun _ => False) rfl rfl ?aP (fun _ hk => hk.elim) ?aF ?aO ?aB ?aS ?aL ?_; (case aP => exact rfl); (case aB => exact (by repeat (first | (with_reducible first | exact HB.out | apply below_alloc | apply pw_below_drewN | apply below_drew1) | exact HB.out))); (case aF => exact (fun _ _ => trivial)); (case aO => exact (by (with_reducible repeat (first | apply Kd.R_alloc | apply Kd.R_drewN | apply Kd.R_drew)); exact HO198.out)); (case aS => exact (below_size (by repeat (first | (with_reducible first | exact HB.out | apply below_alloc | apply pw_below_drewN | apply below_drew1) | exact HB.out)))); (case aL => have := LMc3.out; omega); intro v200 w5 ho hb hg hat; rw [← Ny199.out] at ho; have n0_ := Aside0.mk (hb); have n1_ := Aside0.mk (ho); clear HB; clear HO198; have HB := n0_; have HO201 := n1_; clear n0_ n1_; clear ho hb hg hat))
    (try simp only [Act.put, List.setIfInBounds_toArray, List.set_cons_zero, List.set_cons_succ])
    go_loopg [3, 5] k (fun kq v3 v5 w' => ∃ (x3_1 : List ByteArray) (x5_1 : Int), v5 = .int .i64 x5_1 ∧ Aside0 (spec_PyPIParts.l0 kq x3_1 y199 x5_1 = some r) ∧ Aside0 (kq ≤ k) ∧ Aside0 (Kd.R Kd.string 9 w' w.heap.size (fun k_ => some k_ ≠ (v200 : Value).ownBlock) v3 x3_1) ∧ Aside0 (Kd.R Kd.string 9 w' w.heap.size (fun k_ => some k_ ≠ (v3 : Value).ownBlock) v200 y199) ∧ Aside0 (Below w.heap.size w w'))
    case atStart => exact ⟨(([] : List ByteArray)), (0), (by first | rfl | (simp; done) | (simp [*]; done) | (simp [bne_nil_hyb]; done) | (simp [bne_nil_hyb, *]; done)), H', ⟨Nat.le_refl _⟩, ⟨by first | exact Kd.R_nil _ _ _ _ _ | exact Kd.N_nil _ _ _ _ _ | exact Kd.V_nil _ _ _ _ _ | exact Kd.Q_nil _ _ _ _ _ | exact Kd.S_nil _ _ _ _ _⟩, ⟨by (with_reducible repeat (first | apply Kd.R_alloc | apply Kd.R_drewN | apply Kd.R_drew)); exact Kd.R_mono HO201.out (fun _ hk => (by simp [Value.ownBlock]))⟩, ⟨by repeat (first | (with_reducible first | exact HB.out | apply below_alloc | apply pw_below_drewN | apply below_drew1) | exact HB.out)⟩⟩
    case round =>
      clear H'
      try clear c1
      try clear p2
      try clear c3
      obtain ⟨x3_1, x5_1, rfl, HA, HK1, HO_3, HO_4, HB⟩ := hrel
      cases gk with
      | zero => exact absurd HA.out (by simp [spec_PyPIParts.l0])
      | succ k1 =>
        have H := HA.out
        clear HA
        simp only [spec_PyPIParts.l0] at H
        by_cases c6 : x5_1 < (y199.length : Int)
        · rw [if_pos c6] at H
          have c6b0 : decide (x5_1 < (y199.length : Int)) = true := decide_eq_true c6
          clear c6
          by_cases c7 : 0 ≤ x5_1
          · rw [if_pos c7] at H
            have c7b0 : decide (0 ≤ x5_1) = true := decide_eq_true c7
            clear c7
            replace H := Option.bind_eq_some_iff.mp H
            obtain ⟨t203, A80, H⟩ := H
            replace H : (spec_PyPIParts.l1 k1 x3_1 y199 x5_1 t203) = some r := H
            have A8 := Aside0.mk A80
            clear A80
            have HC9 := Aside0.mk H
            clear H
            obtain ⟨Ao10, co10, eo10⟩ := Kd.R_slice HO_4.out
            subst eo10
            have p202 : 0 ≤ (x5_1 : Int) := of_decide_eq_true (by first | (with_reducible assumption) | assumption)
            have q202 : x5_1 < (y199.length : Int) := of_decide_eq_true (by first | (with_reducible assumption) | assumption)
            obtain ⟨ad202, e202, hx202_0⟩ := Kd.at_string (Kd.R_reads' HO_4.out).2.2 x5_1 p202 q202
            cases e202
            replace p202 := eq_true p202
            replace q202 := eq_true q202
            go_upto_block 2 with (first | ((with_reducible refine gate_callee (f := 15) rfl ?_); refine goesL_ (some 21) rfl rfl Try.func15 (by kernel_rfl) rfl #[.string (rdOf ByteArray.empty y199 x5_1)] rfl (by (try simp only [List.map_toArray, List.map_cons, List.map_nil]); first | done | rfl | (simp only [List.length_drop, List.length_take]; rfl)) ?_; (with_reducible refine (spec_pypiPart.calls k1 (rdOf ByteArray.empty y199 x5_1) t203 _ A8.out).mono ?_); rintro e w' ⟨rfl, ⟨nd, rfl⟩⟩; refine ⟨_, rfl, ?_⟩))
            (try simp only [Act.put, List.setIfInBounds_toArray, List.set_cons_zero, List.set_cons_succ])
            go_cut [3] (fun v3 wc => ∃ (kq : Nat) (x3_8 : List ByteArray), Aside0 (spec_PyPIParts.j2 kq x3_8 y199 x5_1 t203 = some r) ∧ Aside0 (kq ≤ k1) ∧ Aside0 (Kd.R Kd.string 9 wc w.heap.size (fun k_ => some k_ ≠ ((.slice (some ad202) y199.length co10) : Value).ownBlock) v3 x3_8) ∧ Aside0 (Kd.R Kd.string 9 wc w.heap.size (fun k_ => some k_ ≠ (v3 : Value).ownBlock) (.slice (some ad202) y199.length co10) y199) ∧ Aside0 (Below w.heap.size w wc))
            case first =>
              have H := HC9.out
              clear HC9
              have H' := Aside0.mk H
              clear H
              go_wp2
              (try simp only [Act.put, List.setIfInBounds_toArray, List.set_cons_zero, List.set_cons_succ])
              go_loopg [3] k1 (fun kq v3 w' => ∃ (x3_2 : List ByteArray), Aside0 (spec_PyPIParts.l1 kq x3_2 y199 x5_1 t203 = some r) ∧ Aside0 (kq ≤ k1) ∧ Aside0 (Kd.R Kd.string 9 w' w.heap.size (fun k_ => some k_ ≠ ((.slice (some ad202) y199.length co10) : Value).ownBlock) v3 x3_2) ∧ Aside0 (Kd.R Kd.string 9 w' w.heap.size (fun k_ => some k_ ≠ (v3 : Value).ownBlock) (.slice (some ad202) y199.length co10) y199) ∧ Aside0 (Below w.heap.size w w'))
              case atStart => exact ⟨(x3_1), H', ⟨Nat.le_refl _⟩, ⟨by (with_reducible repeat (first | apply Kd.R_alloc | apply Kd.R_drewN | apply Kd.R_drew)); exact HO_3.out⟩, ⟨by (with_reducible repeat (first | apply Kd.R_alloc | apply Kd.R_drewN | apply Kd.R_drew)); exact HO_4.out⟩, ⟨by repeat (first | (with_reducible first | exact HB.out | apply below_alloc | apply pw_below_drewN | apply below_drew1) | exact HB.out)⟩⟩
              case round =>
                clear H'
                try clear c1
                try clear p2
                try clear q2
                try clear hx2
                try clear c3
                try clear c6
                try clear c6b0
                try clear c7
                try clear c7b0
                try clear hx202_0
                try clear p2
                try clear p202
                try clear q202
                obtain ⟨x3_2, HA, HK2, HO_3, HO_4, HB⟩ := hrel
                cases gk with
                | zero => exact absurd HA.out (by simp [spec_PyPIParts.l1])
                | succ k2 =>
                  have H := HA.out
                  clear HA
                  simp only [spec_PyPIParts.l1] at H
                  by_cases c11 : 0 < (t203.size : Int)
                  · rw [if_pos c11] at H
                    have c11b0 : decide (0 < (t203.size : Int)) = true := decide_eq_true c11
                    have c11b1 : decide (0 < t203.size) = true := decide_eq_true (by omega)
                    clear c11
                    (first | rw [c11b0] | (simp only [i64_w, i32_w]; rw [c11b0]) | skip)
                    by_cases c13 : (bt t203 0) = 42
                    · rw [if_pos c13] at H
                      have c13b0 : ((bt t203 0) == 42) = true := beq_iff_eq.mpr c13
                      have c13b1 : ((bt t203 0) != 42) = false := bne_eq_false_iff_eq.mpr c13
                      clear c13
                      by_cases c14 : (Op.bytesLess t203.toList ([42, 102, 105, 110, 97, 108] : List UInt8)) = true
                      · rw [if_pos c14] at H
                        have c14b0 : (Op.bytesLess t203.toList ([42, 102, 105, 110, 97, 108] : List UInt8)) = true := c14
                        clear c14
                        by_cases c15 : (x3_2.length : Int) > 0
                        · rw [if_pos c15] at H
                          have c15b0 : decide (0 < (x3_2.length : Int)) = true := decide_eq_true c15
                          have c15b1 : decide (0 < x3_2.length) = true := decide_eq_true (by omega)
                          clear c15
                          obtain ⟨ji16, hji16⟩ : ∃ j_ : Int, (wrap64 ((x3_2.length : Int) - 1)) = j_ := ⟨_, rfl⟩
                          replace H : (if 0 ≤ (ji16) then (if (ji16) < (x3_2.length : Int) then (if (rdOf ByteArray.empty x3_2 (ji16)).toList = ([42, 102, 105, 110, 97, 108, 45] : List UInt8) then (if (ji16) ≤ (x3_2.length : Int) then (spec_PyPIParts.l1 k2 (x3_2.take ((ji16) : Int).toNat) y199 x5_1 t203) else (none)) else (spec_PyPIParts.j2 k2 x3_2 y199 x5_1 t203)) else (none)) else (none)) = some r := by first | (rw [hji16] at H; exact H) | (simp only [hji16] at H ⊢; exact H)
                          have hji16w : (IntKind.i64.wrap ((x3_2.length : Int) - 1)) = ji16 := (i64_w _).trans hji16
                          by_cases c17 : 0 ≤ (ji16)
                          · rw [if_pos c17] at H
                            have c17b0 : decide (0 ≤ (ji16)) = true := decide_eq_true c17
                            clear c17
                            by_cases c18 : (ji16) < (x3_2.length : Int)
                            · rw [if_pos c18] at H
                              have c18b0 : decide ((ji16) < (x3_2.length : Int)) = true := decide_eq_true c18
                              clear c18
                              by_cases c19 : (rdOf ByteArray.empty x3_2 (ji16)).toList = ([42, 102, 105, 110, 97, 108, 45] : List UInt8)
                              · rw [if_pos c19] at H
                                have c19b0 : ((rdOf ByteArray.empty x3_2 (ji16)).toList == ([42, 102, 105, 110, 97, 108, 45] : List UInt8)) = true := beq_iff_eq.mpr c19
                                have c19b1 : ((rdOf ByteArray.empty x3_2 (ji16)).toList != ([42, 102, 105, 110, 97, 108, 45] : List UInt8)) = false := bne_eq_false_iff_eq.mpr c19
                                clear c19
                                by_cases c20 : (ji16) ≤ (x3_2.length : Int)
                                · rw [if_pos c20] at H
                                  have c20b0 := eq_true c20
                                  have c20b1 : decide ((ji16) ≤ (x3_2.length : Int)) = true := decide_eq_true c20
                                  clear c20
                                  obtain ⟨y205, hy205⟩ : ∃ y_ : List ByteArray, y_ = (x3_2.take ((ji16) : Int).toNat) := ⟨_, rfl⟩
                                  replace H : (spec_PyPIParts.l1 k2 y205 y199 x5_1 t203) = some r := by first | (rw [hy205]; with_reducible exact H) | (have H2_ := (Option.bind_some _ _).symm.trans H; rw [hy205]; with_reducible exact H2_) | (have H2_ := (Option.bind_some _ _).symm.trans H; with_reducible exact H2_) | with_reducible exact H | (rw [hy205]; exact H) | exact H
                                  have Ny205 := Aside0.mk hy205
                                  clear hy205
                                  have H' := Aside0.mk H
                                  clear H
                                  have p12 : 0 ≤ (0 : Int) := (by omega)
                                  have q12 : 0 < t203.size := (by have : (0 : Int) < (t203.size : Int) := of_decide_eq_true (by first | (with_reducible assumption) | assumption); omega)
                                  have hx12 : ∀ h : 0 < t203.size, ((t203[0]'h).toNat : Int) = bt t203 0 := bt_at t203 0
                                  clear p12
                                  have qi12 : (0 < (t203.size : Int)) = True := eq_true (of_decide_eq_true (by first | (with_reducible assumption) | assumption))
                                  replace q12 := eq_true q12
                                  obtain ⟨Ao21, co21, eo21⟩ := Kd.R_slice HO_3.out
                                  subst eo21
                                  have p204 : 0 ≤ ((ji16) : Int) := of_decide_eq_true (by first | (with_reducible assumption) | assumption)
                                  have q204 : (ji16) < (x3_2.length : Int) := of_decide_eq_true (by first | (with_reducible assumption) | assumption)
                                  obtain ⟨ad204, e204, hx204_0⟩ := Kd.at_string (Kd.R_reads' HO_3.out).2.2 (ji16) p204 q204
                                  cases e204
                                  replace p204 := eq_true p204
                                  replace q204 := eq_true q204
                                  have q22 : ((ji16) : Int) ≤ ((x3_2.length : Int) : Int) := of_decide_eq_true (by first | (with_reducible assumption) | assumption)
                                  obtain ⟨i022, hi022, _, hsz22, _⟩ := info_parts info9
                                  have hcut22 := cut_to (P := Try.prog) 24 9 .i64 Try.underlying24 hi022 (some ad204) x3_2.length co21 (ji16) (of_decide_eq_true (by first | (with_reducible assumption) | assumption)) q22 (Kd.R_reads' HO_3.out).2.1
                                  have hr22 := Kd.R_take (m := ((ji16) : Int).toNat) HO_3.out (by omega)
                                  have hy22 : y205.length = ((ji16) : Int).toNat := (by rw [Ny205.out, List.length_take]; omega)
                                  rw [← Ny205.out] at hr22
                                  rw [← hy22] at hr22 hcut22
                                  clear hy22 hi022 hsz22 HO_3
                                  have HO207 := Aside0.mk hr22
                                  clear hr22
                                  replace q22 := eq_true q22
                                  go_wp2
                                  go_roundg k2
                                  case measure => have := HK1.out; have := HK2.out; omega
                                  case rel => exact ⟨(y205), H', ⟨by have := HK1.out; have := HK2.out; omega⟩, ⟨by (with_reducible repeat (first | apply Kd.R_alloc | apply Kd.R_drewN | apply Kd.R_drew)); exact HO207.out⟩, ⟨by (with_reducible repeat (first | apply Kd.R_alloc | apply Kd.R_drewN | apply Kd.R_drew)); exact HO_4.out⟩, ⟨by repeat (first | (with_reducible first | exact HB.out | apply below_alloc | apply pw_below_drewN | apply below_drew1) | exact HB.out)⟩⟩
                                · rw [if_neg c20] at H
                                  exact absurd H (by simp)
                              · rw [if_neg c19] at H
                                have c19b0 : ((rdOf ByteArray.empty x3_2 (ji16)).toList == ([42, 102, 105, 110, 97, 108, 45] : List UInt8)) = false := beq_eq_false_iff_ne.mpr c19
                                have c19b1 : ((rdOf ByteArray.empty x3_2 (ji16)).toList != ([42, 102, 105, 110, 97, 108, 45] : List UInt8)) = true := bne_iff_ne.mpr c19
                                have H' := Aside0.mk H
                                clear H
                                have p12 : 0 ≤ (0 : Int) := (by omega)
                                have q12 : 0 < t203.size := (by have : (0 : Int) < (t203.size : Int) := of_decide_eq_true (by first | (with_reducible assumption) | assumption); omega)
                                have hx12 : ∀ h : 0 < t203.size, ((t203[0]'h).toNat : Int) = bt t203 0 := bt_at t203 0
                                clear p12
                                have qi12 : (0 < (t203.size : Int)) = True := eq_true (of_decide_eq_true (by first | (with_reducible assumption) | assumption))
                                replace q12 := eq_true q12
                                obtain ⟨Ao23, co23, eo23⟩ := Kd.R_slice HO_3.out
                                subst eo23
                                have p204 : 0 ≤ ((ji16) : Int) := of_decide_eq_true (by first | (with_reducible assumption) | assumption)
                                have q204 : (ji16) < (x3_2.length : Int) := of_decide_eq_true (by first | (with_reducible assumption) | assumption)
                                obtain ⟨ad204, e204, hx204_0⟩ := Kd.at_string (Kd.R_reads' HO_3.out).2.2 (ji16) p204 q204
                                cases e204
                                replace p204 := eq_true p204
                                replace q204 := eq_true q204
                                go_wp2
                                go_meet
                                case rel => exact ⟨_, (x3_2), H', ⟨by have := HK1.out; have := HK2.out; first | omega | exact Nat.le_refl _⟩, ⟨by (with_reducible repeat (first | apply Kd.R_alloc | apply Kd.R_drewN | apply Kd.R_drew)); exact HO_3.out⟩, ⟨by (with_reducible repeat (first | apply Kd.R_alloc | apply Kd.R_drewN | apply Kd.R_drew)); exact HO_4.out⟩, ⟨by repeat (first | (with_reducible first | exact HB.out | apply below_alloc | apply pw_below_drewN | apply below_drew1) | exact HB.out)⟩⟩
                            · rw [if_neg c18] at H
                              exact absurd H (by simp)
                          · rw [if_neg c17] at H
                            exact absurd H (by simp)
                        · rw [if_neg c15] at H
                          have c15b0 : decide (0 < (x3_2.length : Int)) = false := decide_eq_false c15
                          have c15b1 : decide (0 < x3_2.length) = false := decide_eq_false (by omega)
                          clear c15
                          have H' := Aside0.mk H
                          clear H
                          have p12 : 0 ≤ (0 : Int) := (by omega)
                          have q12 : 0 < t203.size := (by have : (0 : Int) < (t203.size : Int) := of_decide_eq_true (by first | (with_reducible assumption) | assumption); omega)
                          have hx12 : ∀ h : 0 < t203.size, ((t203[0]'h).toNat : Int) = bt t203 0 := bt_at t203 0
                          clear p12
                          have qi12 : (0 < (t203.size : Int)) = True := eq_true (of_decide_eq_true (by first | (with_reducible assumption) | assumption))
                          replace q12 := eq_true q12
                          obtain ⟨Ao24, co24, eo24⟩ := Kd.R_slice HO_3.out
                          subst eo24
                          go_wp2
                          go_meet
                          case rel => exact ⟨_, (x3_2), H', ⟨by have := HK1.out; have := HK2.out; first | omega | exact Nat.le_refl _⟩, ⟨by (with_reducible repeat (first | apply Kd.R_alloc | apply Kd.R_drewN | apply Kd.R_drew)); exact HO_3.out⟩, ⟨by (with_reducible repeat (first | apply Kd.R_alloc | apply Kd.R_drewN | apply Kd.R_drew)); exact HO_4.out⟩, ⟨by repeat (first | (with_reducible first | exact HB.out | apply below_alloc | apply pw_below_drewN | apply below_drew1) | exact HB.out)⟩⟩
                      · rw [if_neg c14] at H
                        have c14b0 : (Op.bytesLess t203.toList ([42, 102, 105, 110, 97, 108] : List UInt8)) = false := by simpa using c14
                        clear c14
                        have H' := Aside0.mk H
                        clear H
                        have p12 : 0 ≤ (0 : Int) := (by omega)
                        have q12 : 0 < t203.size := (by have : (0 : Int) < (t203.size : Int) := of_decide_eq_true (by first | (with_reducible assumption) | assumption); omega)
                        have hx12 : ∀ h : 0 < t203.size, ((t203[0]'h).toNat : Int) = bt t203 0 := bt_at t203 0
                        clear p12
                        have qi12 : (0 < (t203.size : Int)) = True := eq_true (of_decide_eq_true (by first | (with_reducible assumption) | assumption))
                        replace q12 := eq_true q12
                        go_wp2
                        go_meet
                        case rel => exact ⟨_, (x3_2), H', ⟨by have := HK1.out; have := HK2.out; first | omega | exact Nat.le_refl _⟩, ⟨by (with_reducible repeat (first | apply Kd.R_alloc | apply Kd.R_drewN | apply Kd.R_drew)); exact HO_3.out⟩, ⟨by (with_reducible repeat (first | apply Kd.R_alloc | apply Kd.R_drewN | apply Kd.R_drew)); exact HO_4.out⟩, ⟨by repeat (first | (with_reducible first | exact HB.out | apply below_alloc | apply pw_below_drewN | apply below_drew1) | exact HB.out)⟩⟩
                    · rw [if_neg c13] at H
                      have c13b0 : ((bt t203 0) == 42) = false := beq_eq_false_iff_ne.mpr c13
                      have c13b1 : ((bt t203 0) != 42) = true := bne_iff_ne.mpr c13
                      have H' := Aside0.mk H
                      clear H
                      have p12 : 0 ≤ (0 : Int) := (by omega)
                      have q12 : 0 < t203.size := (by have : (0 : Int) < (t203.size : Int) := of_decide_eq_true (by first | (with_reducible assumption) | assumption); omega)
                      have hx12 : ∀ h : 0 < t203.size, ((t203[0]'h).toNat : Int) = bt t203 0 := bt_at t203 0
                      clear p12
                      have qi12 : (0 < (t203.size : Int)) = True := eq_true (of_decide_eq_true (by first | (with_reducible assumption) | assumption))
                      replace q12 := eq_true q12
                      go_wp2
                      go_meet
                      case rel => exact ⟨_, (x3_2), H', ⟨by have := HK1.out; have := HK2.out; first | omega | exact Nat.le_refl _⟩, ⟨by (with_reducible repeat (first | apply Kd.R_alloc | apply Kd.R_drewN | apply Kd.R_drew)); exact HO_3.out⟩, ⟨by (with_reducible repeat (first | apply Kd.R_alloc | apply Kd.R_drewN | apply Kd.R_drew)); exact HO_4.out⟩, ⟨by repeat (first | (with_reducible first | exact HB.out | apply below_alloc | apply pw_below_drewN | apply below_drew1) | exact HB.out)⟩⟩
                  · rw [if_neg c11] at H
                    exact absurd H (by simp)
            case rest =>
              clear HC9
              try clear c1
              try clear p1
              try clear q1
              try clear hx1
              try clear qi1
              try clear c2
              try clear p2
              try clear q2
              try clear hx2
              try clear c3
              try clear c6
              try clear c6b0
              try clear p6
              try clear c7
              try clear c7b0
              try clear c11
              try clear c11b0
              try clear c11b1
              try clear p12
              try clear q12
              try clear hx12
              try clear qi12
              try clear c13
              try clear c13b0
              try clear c13b1
              try clear c14
              try clear c14b0
              try clear c15
              try clear c15b0
              try clear c15b1
              try clear c17
              try clear c17b0
              try clear c18
              try clear c18b0
              try clear c19
              try clear c19b0
              try clear c19b1
              try clear c20
              try clear c20b0
              try clear c20b1
              try clear p20
              try clear q20
              try clear hx20
              try clear q22
              try clear hx202_0
              try clear hx204_0
              try clear p12
              try clear p2
              try clear p202
              try clear p204
              try clear q12
              try clear q2
              try clear q202
              try clear q204
              try clear q22
              obtain ⟨kq, x3_8, HA, HJ8, HO_3, HO_4, HB⟩ := hcut
              cases kq with
              | zero => exact absurd HA.out (by simp [spec_PyPIParts.j2])
              | succ kj8 =>
                have H := HA.out
                clear HA
                simp only [spec_PyPIParts.j2] at H
                have H' := Aside0.mk H
                clear H
                go_wp2
                (try simp only [Act.put, List.setIfInBounds_toArray, List.set_cons_zero, List.set_cons_succ])
                go_loopg [3] kj8 (fun kq v3 w' => ∃ (x3_3 : List ByteArray), Aside0 (spec_PyPIParts.l2 kq x3_3 y199 x5_1 t203 = some r) ∧ Aside0 (kq ≤ kj8) ∧ Aside0 (Kd.R Kd.string 9 w' w.heap.size (fun k_ => some k_ ≠ ((.slice (some ad202) y199.length co10) : Value).ownBlock) v3 x3_3) ∧ Aside0 (Kd.R Kd.string 9 w' w.heap.size (fun k_ => some k_ ≠ (v3 : Value).ownBlock) (.slice (some ad202) y199.length co10) y199) ∧ Aside0 (Below w.heap.size w w'))
                case atStart => exact ⟨(x3_8), H', ⟨Nat.le_refl _⟩, ⟨by (with_reducible repeat (first | apply Kd.R_alloc | apply Kd.R_drewN | apply Kd.R_drew)); exact HO_3.out⟩, ⟨by (with_reducible repeat (first | apply Kd.R_alloc | apply Kd.R_drewN | apply Kd.R_drew)); exact HO_4.out⟩, ⟨by repeat (first | (with_reducible first | exact HB.out | apply below_alloc | apply pw_below_drewN | apply below_drew1) | exact HB.out)⟩⟩
                case round =>
                  clear H'
                  try clear c1
                  try clear p1
                  try clear q1
                  try clear hx1
                  try clear qi1
                  try clear c2
                  try clear p2
                  try clear q2
                  try clear hx2
                  try clear c3
                  try clear c6
                  try clear c6b0
                  try clear p6
                  try clear c7
                  try clear c7b0
                  try clear c11
                  try clear c11b0
                  try clear c11b1
                  try clear p12
                  try clear q12
                  try clear hx12
                  try clear qi12
                  try clear c13
                  try clear c13b0
                  try clear c13b1
                  try clear c14
                  try clear c14b0
                  try clear c15
                  try clear c15b0
                  try clear c15b1
                  try clear c17
                  try clear c17b0
                  try clear c18
                  try clear c18b0
                  try clear c19
                  try clear c19b0
                  try clear c19b1
                  try clear c20
                  try clear c20b0
                  try clear c20b1
                  try clear p20
                  try clear q20
                  try clear hx20
                  try clear q22
                  try clear hx202_0
                  try clear hx204_0
                  try clear p1
                  try clear p12
                  try clear p2
                  try clear p20
                  try clear p202
                  try clear p204
                  try clear p6
                  try clear q1
                  try clear q12
                  try clear q2
                  try clear q20
                  try clear q202
                  try clear q204
                  try clear q22
                  obtain ⟨x3_3, HA, HK3, HO_3, HO_4, HB⟩ := hrel
                  cases gk with
                  | zero => exact absurd HA.out (by simp [spec_PyPIParts.l2])
                  | succ k3 =>
                    have H := HA.out
                    clear HA
                    simp only [spec_PyPIParts.l2] at H
                    by_cases c25 : 0 < (t203.size : Int)
                    · rw [if_pos c25] at H
                      have c25b0 : decide (0 < (t203.size : Int)) = true := decide_eq_true c25
                      have c25b1 : decide (0 < t203.size) = true := decide_eq_true (by omega)
                      clear c25
                      by_cases c27 : (bt t203 0) = 42
                      · rw [if_pos c27] at H
                        have c27b0 : ((bt t203 0) == 42) = true := beq_iff_eq.mpr c27
                        have c27b1 : ((bt t203 0) != 42) = false := bne_eq_false_iff_eq.mpr c27
                        clear c27
                        by_cases c28 : (x3_3.length : Int) > 0
                        · rw [if_pos c28] at H
                          have c28b0 : decide (0 < (x3_3.length : Int)) = true := decide_eq_true c28
                          have c28b1 : decide (0 < x3_3.length) = true := decide_eq_true (by omega)
                          clear c28
                          obtain ⟨ji29, hji29⟩ : ∃ j_ : Int, (wrap64 ((x3_3.length : Int) - 1)) = j_ := ⟨_, rfl⟩
                          replace H : (if 0 ≤ (ji29) then (if (ji29) < (x3_3.length : Int) then (if (rdOf ByteArray.empty x3_3 (ji29)).toList = ([48, 48, 48, 48, 48, 48, 48, 48] : List UInt8) then (if (ji29) ≤ (x3_3.length : Int) then (spec_PyPIParts.l2 k3 (x3_3.take ((ji29) : Int).toNat) y199 x5_1 t203) else (none)) else (if x3_3.length < 8796093022208 then (spec_PyPIParts.l0 k3 (x3_3 ++ [t203]) y199 (wrap64 (x5_1 + 1))) else (none))) else (none)) else (none)) = some r := by first | (rw [hji29] at H; exact H) | (simp only [hji29] at H ⊢; exact H)
                          have hji29w : (IntKind.i64.wrap ((x3_3.length : Int) - 1)) = ji29 := (i64_w _).trans hji29
                          by_cases c30 : 0 ≤ (ji29)
                          · rw [if_pos c30] at H
                            have c30b0 : decide (0 ≤ (ji29)) = true := decide_eq_true c30
                            clear c30
                            by_cases c31 : (ji29) < (x3_3.length : Int)
                            · rw [if_pos c31] at H
                              have c31b0 : decide ((ji29) < (x3_3.length : Int)) = true := decide_eq_true c31
                              clear c31
                              by_cases c32 : (rdOf ByteArray.empty x3_3 (ji29)).toList = ([48, 48, 48, 48, 48, 48, 48, 48] : List UInt8)
                              · rw [if_pos c32] at H
                                have c32b0 : ((rdOf ByteArray.empty x3_3 (ji29)).toList == ([48, 48, 48, 48, 48, 48, 48, 48] : List UInt8)) = true := beq_iff_eq.mpr c32
                                have c32b1 : ((rdOf ByteArray.empty x3_3 (ji29)).toList != ([48, 48, 48, 48, 48, 48, 48, 48] : List UInt8)) = false := bne_eq_false_iff_eq.mpr c32
                                clear c32
                                by_cases c33 : (ji29) ≤ (x3_3.length : Int)
                                · rw [if_pos c33] at H
                                  have c33b0 := eq_true c33
                                  have c33b1 : decide ((ji29) ≤ (x3_3.length : Int)) = true := decide_eq_true c33
                                  clear c33
                                  obtain ⟨y209, hy209⟩ : ∃ y_ : List ByteArray, y_ = (x3_3.take ((ji29) : Int).toNat) := ⟨_, rfl⟩
                                  replace H : (spec_PyPIParts.l2 k3 y209 y199 x5_1 t203) = some r := by first | (rw [hy209]; with_reducible exact H) | (have H2_ := (Option.bind_some _ _).symm.trans H; rw [hy209]; with_reducible exact H2_) | (have H2_ := (Option.bind_some _ _).symm.trans H; with_reducible exact H2_) | with_reducible exact H | (rw [hy209]; exact H) | exact H
                                  have Ny209 := Aside0.mk hy209
                                  clear hy209
                                  have H' := Aside0.mk H
                                  clear H
                                  have p26 : 0 ≤ (0 : Int) := (by omega)
                                  have q26 : 0 < t203.size := (by have : (0 : Int) < (t203.size : Int) := of_decide_eq_true (by first | (with_reducible assumption) | assumption); omega)
                                  have hx26 : ∀ h : 0 < t203.size, ((t203[0]'h).toNat : Int) = bt t203 0 := bt_at t203 0
                                  clear p26
                                  have qi26 : (0 < (t203.size : Int)) = True := eq_true (of_decide_eq_true (by first | (with_reducible assumption) | assumption))
                                  replace q26 := eq_true q26
                                  obtain ⟨Ao34, co34, eo34⟩ := Kd.R_slice HO_3.out
                                  subst eo34
                                  have p208 : 0 ≤ ((ji29) : Int) := of_decide_eq_true (by first | (with_reducible assumption) | assumption)
                                  have q208 : (ji29) < (x3_3.length : Int) := of_decide_eq_true (by first | (with_reducible assumption) | assumption)
                                  obtain ⟨ad208, e208, hx208_0⟩ := Kd.at_string (Kd.R_reads' HO_3.out).2.2 (ji29) p208 q208
                                  cases e208
                                  replace p208 := eq_true p208
                                  replace q208 := eq_true q208
                                  have q35 : ((ji29) : Int) ≤ ((x3_3.length : Int) : Int) := of_decide_eq_true (by first | (with_reducible assumption) | assumption)
                                  obtain ⟨i035, hi035, _, hsz35, _⟩ := info_parts info9
                                  have hcut35 := cut_to (P := Try.prog) 24 9 .i64 Try.underlying24 hi035 (some ad208) x3_3.length co34 (ji29) (of_decide_eq_true (by first | (with_reducible assumption) | assumption)) q35 (Kd.R_reads' HO_3.out).2.1
                                  have hr35 := Kd.R_take (m := ((ji29) : Int).toNat) HO_3.out (by omega)
                                  have hy35 : y209.length = ((ji29) : Int).toNat := (by rw [Ny209.out, List.length_take]; omega)
                                  rw [← Ny209.out] at hr35
                                  rw [← hy35] at hr35 hcut35
                                  clear hy35 hi035 hsz35 HO_3
                                  have HO211 := Aside0.mk hr35
                                  clear hr35
                                  replace q35 := eq_true q35
                                  go_wp2
                                  go_roundg k3
                                  case measure => have := HK1.out; have := HJ8.out; have := HK3.out; omega
                                  case rel => exact ⟨(y209), H', ⟨by have := HK1.out; have := HJ8.out; have := HK3.out; omega⟩, ⟨by (with_reducible repeat (first | apply Kd.R_alloc | apply Kd.R_drewN | apply Kd.R_drew)); exact HO211.out⟩, ⟨by (with_reducible repeat (first | apply Kd.R_alloc | apply Kd.R_drewN | apply Kd.R_drew)); exact HO_4.out⟩, ⟨by repeat (first | (with_reducible first | exact HB.out | apply below_alloc | apply pw_below_drewN | apply below_drew1) | exact HB.out)⟩⟩
                                · rw [if_neg c33] at H
                                  exact absurd H (by simp)
                              · rw [if_neg c32] at H
                                have c32b0 : ((rdOf ByteArray.empty x3_3 (ji29)).toList == ([48, 48, 48, 48, 48, 48, 48, 48] : List UInt8)) = false := beq_eq_false_iff_ne.mpr c32
                                have c32b1 : ((rdOf ByteArray.empty x3_3 (ji29)).toList != ([48, 48, 48, 48, 48, 48, 48, 48] : List UInt8)) = true := bne_iff_ne.mpr c32
                                by_cases c36 : x3_3.length < 8796093022208
                                · rw [if_pos c36] at H
                                  have LMc36 := Aside0.mk c36
                                  clear c36
                                  obtain ⟨y212, hy212⟩ : ∃ y_ : List ByteArray, y_ = (x3_3 ++ [t203]) := ⟨_, rfl⟩
                                  replace H : (spec_PyPIParts.l0 k3 y212 y199 (wrap64 (x5_1 + 1))) = some r := by first | (rw [hy212]; with_reducible exact H) | (have H2_ := (Option.bind_some _ _).symm.trans H; rw [hy212]; with_reducible exact H2_) | (have H2_ := (Option.bind_some _ _).symm.trans H; with_reducible exact H2_) | with_reducible exact H | (rw [hy212]; exact H) | exact H
                                  have Ny212 := Aside0.mk hy212
                                  clear hy212
                                  have H' := Aside0.mk H
                                  clear H
                                  have p26 : 0 ≤ (0 : Int) := (by omega)
                                  have q26 : 0 < t203.size := (by have : (0 : Int) < (t203.size : Int) := of_decide_eq_true (by first | (with_reducible assumption) | assumption); omega)
                                  have hx26 : ∀ h : 0 < t203.size, ((t203[0]'h).toNat : Int) = bt t203 0 := bt_at t203 0
                                  clear p26
                                  have qi26 : (0 < (t203.size : Int)) = True := eq_true (of_decide_eq_true (by first | (with_reducible assumption) | assumption))
                                  replace q26 := eq_true q26
                                  obtain ⟨Ao37, co37, eo37⟩ := Kd.R_slice HO_3.out
                                  subst eo37
                                  have p208 : 0 ≤ ((ji29) : Int) := of_decide_eq_true (by first | (with_reducible assumption) | assumption)
                                  have q208 : (ji29) < (x3_3.length : Int) := of_decide_eq_true (by first | (with_reducible assumption) | assumption)
                                  obtain ⟨ad208, e208, hx208_0⟩ := Kd.at_string (Kd.R_reads' HO_3.out).2.2 (ji29) p208 q208
                                  cases e208
                                  replace p208 := eq_true p208
                                  replace q208 := eq_true q208
                                  go_wp2_with (first | ((with_reducible refine gate_builtin (b := .append) (xs := #[.tmp 70, .tmp 72]) rfl ?_); (try (refine gate_guard (by rfl) ?_; dsimp only)); at_builtin; refine Kd.R_append Kd.string (w0 := w) w.heap.size rfl (.tmp 70) (.tmp 72) 24 9 (.string ⟨#[]⟩) 16 rfl Try.underlying24 info9 rfl (by decide) (by omega) (.slice (some ad208) x3_3.length co37) x3_3 t203 [.string t203] (fun k_ => some k_ ≠ (.slice (some ad202) y199.length co10 : Value).ownBlock) (fun _ => False) rfl rfl ?aP (fun _ hk => hk.elim) ?aF ?aO ?aB ?aS ?aL ?_; (case aP => exact rfl); (case aB => exact (by repeat (first | (with_reducible first | exact HB.out | apply below_alloc | apply pw_below_drewN | apply below_drew1) | exact HB.out))); (case aF => exact (fun k_ hk => Kd.fresh' (Kd.R_lt (by (with_reducible repeat (first | apply Kd.R_alloc | apply Kd.R_drewN | apply Kd.R_drew)); exact HO_4.out)) k_ hk)); (case aO => exact (by (with_reducible repeat (first | apply Kd.R_alloc | apply Kd.R_drewN | apply Kd.R_drew)); exact HO_3.out)); (case aS => exact (below_size (by repeat (first | (with_reducible first | exact HB.out | apply below_alloc | apply pw_below_drewN | apply below_drew1) | exact HB.out)))); (case aL => have := LMc36.out; omega); intro v213 w38 ho hb hg hat; rw [← Ny212.out] at ho; have n0_ := Aside0.mk (Kd.R_after (ok := (fun _ => True)) (by (with_reducible repeat (first | apply Kd.R_alloc | apply Kd.R_drewN | apply Kd.R_drew)); exact Kd.R_mono HO_4.out (fun _ hk => ⟨trivial, hk⟩)) hg hat); have n1_ := Aside0.mk (hb); have n2_ := Aside0.mk (ho); clear HO_4; clear HB; clear HO_3; have HO_4 := n0_; have HB := n1_; have HO214 := n2_; clear n0_ n1_ n2_; clear ho hb hg hat))
                                  go_roundg k3
                                  case measure => have := HK1.out; have := HJ8.out; have := HK3.out; omega
                                  case rel => exact ⟨(y212), (wrap64 (x5_1 + 1)), (by first | rfl | (simp; done) | (simp [*]; done) | (simp [bne_nil_hyb]; done) | (simp [bne_nil_hyb, *]; done)), H', ⟨by have := HK1.out; have := HJ8.out; have := HK3.out; omega⟩, ⟨by (with_reducible repeat (first | apply Kd.R_alloc | apply Kd.R_drewN | apply Kd.R_drew)); exact HO214.out⟩, ⟨by (with_reducible repeat (first | apply Kd.R_alloc | apply Kd.R_drewN | apply Kd.R_drew)); exact Kd.R_mono HO_4.out (fun _ hk => hk.2)⟩, ⟨by repeat (first | (with_reducible first | exact HB.out | apply below_alloc | apply pw_below_drewN | apply below_drew1) | exact HB.out)⟩⟩
                                · rw [if_neg c36] at H
                                  exact absurd H (by simp)
                            · rw [if_neg c31] at H
                              exact absurd H (by simp)
                          · rw [if_neg c30] at H
                            exact absurd H (by simp)
                        · rw [if_neg c28] at H
                          have c28b0 : decide (0 < (x3_3.length : Int)) = false := decide_eq_false c28
                          have c28b1 : decide (0 < x3_3.length) = false := decide_eq_false (by omega)
                          clear c28
                          by_cases c39 : x3_3.length < 8796093022208
                          · rw [if_pos c39] at H
                            have LMc39 := Aside0.mk c39
                            clear c39
                            obtain ⟨y215, hy215⟩ : ∃ y_ : List ByteArray, y_ = (x3_3 ++ [t203]) := ⟨_, rfl⟩
                            replace H : (spec_PyPIParts.l0 k3 y215 y199 (wrap64 (x5_1 + 1))) = some r := by first | (rw [hy215]; with_reducible exact H) | (have H2_ := (Option.bind_some _ _).symm.trans H; rw [hy215]; with_reducible exact H2_) | (have H2_ := (Option.bind_some _ _).symm.trans H; with_reducible exact H2_) | with_reducible exact H | (rw [hy215]; exact H) | exact H
                            have Ny215 := Aside0.mk hy215
                            clear hy215
                            have H' := Aside0.mk H
                            clear H
                            have p26 : 0 ≤ (0 : Int) := (by omega)
                            have q26 : 0 < t203.size := (by have : (0 : Int) < (t203.size : Int) := of_decide_eq_true (by first | (with_reducible assumption) | assumption); omega)
                            have hx26 : ∀ h : 0 < t203.size, ((t203[0]'h).toNat : Int) = bt t203 0 := bt_at t203 0
                            clear p26
                            have qi26 : (0 < (t203.size : Int)) = True := eq_true (of_decide_eq_true (by first | (with_reducible assumption) | assumption))
                            replace q26 := eq_true q26
                            obtain ⟨Ao40, co40, eo40⟩ := Kd.R_slice HO_3.out
                            subst eo40
                            go_wp2_with (first | ((with_reducible refine gate_builtin (b := .append) (xs := #[.tmp 70, .tmp 72]) rfl ?_); (try (refine gate_guard (by rfl) ?_; dsimp only)); at_builtin; refine Kd.R_append Kd.string (w0 := w) w.heap.size rfl (.tmp 70) (.tmp 72) 24 9 (.string ⟨#[]⟩) 16 rfl Try.underlying24 info9 rfl (by decide) (by omega) (.slice Ao40 x3_3.length co40) x3_3 t203 [.string t203] (fun k_ => some k_ ≠ (.slice (some ad202) y199.length co10 : Value).ownBlock) (fun _ => False) rfl rfl ?aP (fun _ hk => hk.elim) ?aF ?aO ?aB ?aS ?aL ?_; (case aP => exact rfl); (case aB => exact (by repeat (first | (with_reducible first | exact HB.out | apply below_alloc | apply pw_below_drewN | apply below_drew1) | exact HB.out))); (case aF => exact (fun k_ hk => Kd.fresh' (Kd.R_lt (by (with_reducible repeat (first | apply Kd.R_alloc | apply Kd.R_drewN | apply Kd.R_drew)); exact HO_4.out)) k_ hk)); (case aO => exact (by (with_reducible repeat (first | apply Kd.R_alloc | apply Kd.R_drewN | apply Kd.R_drew)); exact HO_3.out)); (case aS => exact (below_size (by repeat (first | (with_reducible first | exact HB.out | apply below_alloc | apply pw_below_drewN | apply below_drew1) | exact HB.out)))); (case aL => have := LMc39.out; omega); intro v216 w41 ho hb hg hat; rw [← Ny215.out] at ho; have n0_ := Aside0.mk (Kd.R_after (ok := (fun _ => True)) (by (with_reducible repeat (first | apply Kd.R_alloc | apply Kd.R_drewN | apply Kd.R_drew)); exact Kd.R_mono HO_4.out (fun _ hk => ⟨trivial, hk⟩)) hg hat); have n1_ := Aside0.mk (hb); have n2_ := Aside0.mk (ho); clear HO_4; clear HB; clear HO_3; have HO_4 := n0_; have HB := n1_; have HO217 := n2_; clear n0_ n1_ n2_; clear ho hb hg hat))
                            go_roundg k3
                            case measure => have := HK1.out; have := HJ8.out; have := HK3.out; omega
                            case rel => exact ⟨(y215), (wrap64 (x5_1 + 1)), (by first | rfl | (simp; done) | (simp [*]; done) | (simp [bne_nil_hyb]; done) | (simp [bne_nil_hyb, *]; done)), H', ⟨by have := HK1.out; have := HJ8.out; have := HK3.out; omega⟩, ⟨by (with_reducible repeat (first | apply Kd.R_alloc | apply Kd.R_drewN | apply Kd.R_drew)); exact HO217.out⟩, ⟨by (with_reducible repeat (first | apply Kd.R_alloc | apply Kd.R_drewN | apply Kd.R_drew)); exact Kd.R_mono HO_4.out (fun _ hk => hk.2)⟩, ⟨by repeat (first | (with_reducible first | exact HB.out | apply below_alloc | apply pw_below_drewN | apply below_drew1) | exact HB.out)⟩⟩
                          · rw [if_neg c39] at H
                            exact absurd H (by simp)
                      · rw [if_neg c27] at H
                        have c27b0 : ((bt t203 0) == 42) = false := beq_eq_false_iff_ne.mpr c27
                        have c27b1 : ((bt t203 0) != 42) = true := bne_iff_ne.mpr c27
                        by_cases c42 : x3_3.length < 8796093022208
                        · rw [if_pos c42] at H
                          have LMc42 := Aside0.mk c42
                          clear c42
                          obtain ⟨y218, hy218⟩ : ∃ y_ : List ByteArray, y_ = (x3_3 ++ [t203]) := ⟨_, rfl⟩
                          replace H : (spec_PyPIParts.l0 k3 y218 y199 (wrap64 (x5_1 + 1))) = some r := by first | (rw [hy218]; with_reducible exact H) | (have H2_ := (Option.bind_some _ _).symm.trans H; rw [hy218]; with_reducible exact H2_) | (have H2_ := (Option.bind_some _ _).symm.trans H; with_reducible exact H2_) | with_reducible exact H | (rw [hy218]; exact H) | exact H
                          have Ny218 := Aside0.mk hy218
                          clear hy218
                          have H' := Aside0.mk H
                          clear H
                          have p26 : 0 ≤ (0 : Int) := (by omega)
                          have q26 : 0 < t203.size := (by have : (0 : Int) < (t203.size : Int) := of_decide_eq_true (by first | (with_reducible assumption) | assumption); omega)
                          have hx26 : ∀ h : 0 < t203.size, ((t203[0]'h).toNat : Int) = bt t203 0 := bt_at t203 0
                          clear p26
                          have qi26 : (0 < (t203.size : Int)) = True := eq_true (of_decide_eq_true (by first | (with_reducible assumption) | assumption))
                          replace q26 := eq_true q26
                          go_wp2_with (first | ((with_reducible refine gate_builtin (b := .append) (xs := #[.tmp 70, .tmp 72]) rfl ?_); (try (refine gate_guard (by rfl) ?_; dsimp only)); at_builtin; refine Kd.R_append Kd.string (w0 := w) w.heap.size rfl (.tmp 70) (.tmp 72) 24 9 (.string ⟨#[]⟩) 16 rfl Try.underlying24 info9 rfl (by decide) (by omega) u3 x3_3 t203 [.string t203] (fun k_ => some k_ ≠ (.slice (some ad202) y199.length co10 : Value).ownBlock) (fun _ => False) rfl rfl ?aP (fun _ hk => hk.elim) ?aF ?aO ?aB ?aS ?aL ?_; (case aP => exact rfl); (case aB => exact (by repeat (first | (with_reducible first | exact HB.out | apply below_alloc | apply pw_below_drewN | apply below_drew1) | exact HB.out))); (case aF => exact (fun k_ hk => Kd.fresh' (Kd.R_lt (by (with_reducible repeat (first | apply Kd.R_alloc | apply Kd.R_drewN | apply Kd.R_drew)); exact HO_4.out)) k_ hk)); (case aO => exact (by (with_reducible repeat (first | apply Kd.R_alloc | apply Kd.R_drewN | apply Kd.R_drew)); exact HO_3.out)); (case aS => exact (below_size (by repeat (first | (with_reducible first | exact HB.out | apply below_alloc | apply pw_below_drewN | apply below_drew1) | exact HB.out)))); (case aL => have := LMc42.out; omega); intro v219 w43 ho hb hg hat; rw [← Ny218.out] at ho; have n0_ := Aside0.mk (Kd.R_after (ok := (fun _ => True)) (by (with_reducible repeat (first | apply Kd.R_alloc | apply Kd.R_drewN | apply Kd.R_drew)); exact Kd.R_mono HO_4.out (fun _ hk => ⟨trivial, hk⟩)) hg hat); have n1_ := Aside0.mk (hb); have n2_ := Aside0.mk (ho); clear HO_4; clear HB; clear HO_3; have HO_4 := n0_; have HB := n1_; have HO220 := n2_; clear n0_ n1_ n2_; clear ho hb hg hat))
                          go_roundg k3
                          case measure => have := HK1.out; have := HJ8.out; have := HK3.out; omega
                          case rel => exact ⟨(y218), (wrap64 (x5_1 + 1)), (by first | rfl | (simp; done) | (simp [*]; done) | (simp [bne_nil_hyb]; done) | (simp [bne_nil_hyb, *]; done)), H', ⟨by have := HK1.out; have := HJ8.out; have := HK3.out; omega⟩, ⟨by (with_reducible repeat (first | apply Kd.R_alloc | apply Kd.R_drewN | apply Kd.R_drew)); exact HO220.out⟩, ⟨by (with_reducible repeat (first | apply Kd.R_alloc | apply Kd.R_drewN | apply Kd.R_drew)); exact Kd.R_mono HO_4.out (fun _ hk => hk.2)⟩, ⟨by repeat (first | (with_reducible first | exact HB.out | apply below_alloc | apply pw_below_drewN | apply below_drew1) | exact HB.out)⟩⟩
                        · rw [if_neg c42] at H
                          exact absurd H (by simp)
                    · rw [if_neg c25] at H
                      exact absurd H (by simp)
          · rw [if_neg c7] at H
            exact absurd H (by simp)
        · rw [if_neg c6] at H
          have c6b0 : decide (x5_1 < (y199.length : Int)) = false := decide_eq_false c6
          clear c6
          obtain rfl := Option.some.inj H
          obtain ⟨Ao44, co44, eo44⟩ := Kd.R_slice HO_4.out
          subst eo44
          go_wp2
          go_ret
          exact ⟨_, by first | rfl | (simp [errW_none, errW_some] <;> rfl) | (simp [*, errW_none, errW_some] <;> rfl) | (simp [bne_nil_hyb]; done), by (with_reducible repeat (first | apply Kd.R_alloc | apply Kd.R_drewN | apply Kd.R_drew)); exact Kd.R_mono HO_3.out (fun _ hk => trivial), by repeat (first | (with_reducible first | exact HB.out | apply below_alloc | apply pw_below_drewN | apply below_drew1) | exact HB.out)⟩
  · rw [if_neg c3] at H
    exact absurd H (by simp)

/-! ### laws_FnPyPIParts: function 4 -/
def laws_FnPyPIParts.j0 : Nat → ByteArray → Bool → Option (Bool)
  | 0, _, _ => none
  | k + 1, x0, x15 => if x15 = true then (some true) else ((impl_PyPIParts.f k x0).bind fun t226 => (if (t226.length : Int) > 0 then ((spec_PyPIParts.f k x0).bind fun t229 => ((laws_texts.f k t226 t229).bind fun t232 => (some t232))) else (some false)))
def laws_FnPyPIParts.f (k : Nat) (a0 : ByteArray) : Option (Bool) := if (a0.size : Int) > 2147483647 then (some true) else ((laws_short.f k (([a0] : List ByteArray))).bind fun t224 => (if t224 = true then ((spec_PyPITextKnown.f k a0).bind fun t225 => (laws_FnPyPIParts.j0 k a0 (!t225))) else (laws_FnPyPIParts.j0 k a0 true)))
theorem laws_FnPyPIParts.mono_l : ∀ k, (∀ y0 y1, LeO (laws_FnPyPIParts.j0 k y0 y1) (laws_FnPyPIParts.j0 (k + 1) y0 y1))
  | 0 => fun _ _ r h => by simp [laws_FnPyPIParts.j0] at h
  | k + 1 => by
    have ih0 := laws_FnPyPIParts.mono_l k
    · intro y0 y1
      unfold laws_FnPyPIParts.j0
      repeat' first
      | (with_reducible exact ih0 _ _)
      | (with_reducible exact impl_PyPIParts.mono _ _)
      | (with_reducible exact laws_short.mono _ _)
      | (with_reducible exact laws_texts.mono _ _ _)
      | (with_reducible exact spec_PyPIParts.mono _ _)
      | (with_reducible exact spec_PyPITextKnown.mono _ _)
      | (with_reducible exact LeO.refl _)
      | (with_reducible exact LeO.none _)
      | (with_reducible refine LeO.ite ?_ ?_)
      | (with_reducible refine LeO.bind ?_ (fun _ => ?_))
      | exact ih0 _ _
      | exact impl_PyPIParts.mono _ _
      | exact laws_short.mono _ _
      | exact laws_texts.mono _ _ _
      | exact spec_PyPIParts.mono _ _
      | exact spec_PyPITextKnown.mono _ _
      | exact LeO.none _
      | refine LeO.ite ?_ ?_
      | refine LeO.bind ?_ (fun _ => ?_)
theorem laws_FnPyPIParts.mono : ∀ a0 k, LeO (laws_FnPyPIParts.f k a0) (laws_FnPyPIParts.f (k + 1) a0) := by
  intro a0 k
  have ih0 := laws_FnPyPIParts.mono_l k
  unfold laws_FnPyPIParts.f
  repeat' first
      | (with_reducible exact ih0 _ _)
      | (with_reducible exact impl_PyPIParts.mono _ _)
      | (with_reducible exact laws_short.mono _ _)
      | (with_reducible exact laws_texts.mono _ _ _)
      | (with_reducible exact spec_PyPIParts.mono _ _)
      | (with_reducible exact spec_PyPITextKnown.mono _ _)
      | (with_reducible exact LeO.refl _)
      | (with_reducible exact LeO.none _)
      | (with_reducible refine LeO.ite ?_ ?_)
      | (with_reducible refine LeO.bind ?_ (fun _ => ?_))
      | exact ih0 _ _
      | exact impl_PyPIParts.mono _ _
      | exact laws_short.mono _ _
      | exact laws_texts.mono _ _ _
      | exact spec_PyPIParts.mono _ _
      | exact spec_PyPITextKnown.mono _ _
      | exact LeO.none _
      | refine LeO.ite ?_ ?_
      | refine LeO.bind ?_ (fun _ => ?_)
set_option maxHeartbeats 8000000 in
set_option maxRecDepth 100000 in
theorem laws_FnPyPIParts.calls (k : Nat) (a0 : ByteArray) (r : Bool) (w : World) (h : laws_FnPyPIParts.f k a0 = some r) :
    Calls Try.prog 4 #[.string a0] w fun e w' => e = .returned (.bool r) ∧ Below w.heap.size w w' := by
  have HB := Aside0.mk (Below.refl w.heap.size w)
  have H : (if (a0.size : Int) > 2147483647 then (some true) else ((laws_short.f k (([a0] : List ByteArray))).bind fun t224 => (if t224 = true then ((spec_PyPITextKnown.f k a0).bind fun t225 => (laws_FnPyPIParts.j0 k a0 (!t225))) else (laws_FnPyPIParts.j0 k a0 true)))) = some r := h
  clear h
  by_cases c2 : (a0.size : Int) > 2147483647
  · rw [if_pos c2] at H
    have c2b0 : decide (2147483647 < (a0.size : Int)) = true := decide_eq_true c2
    have c2b1 : decide (2147483647 < a0.size) = true := decide_eq_true (by omega)
    clear c2
    obtain rfl := Option.some.inj H
    go_enter Try.func4, Try.ntmps4
    go_wp2
    go_ret
    exact ⟨by first | rfl | (simp [errW_none, errW_some] <;> rfl) | (simp [*, errW_none, errW_some] <;> rfl) | (simp [bne_nil_hyb]; done), by repeat (first | (with_reducible first | exact HB.out | apply below_alloc | apply pw_below_drewN | apply below_drew1) | exact HB.out)⟩
  · rw [if_neg c2] at H
    have c2b0 : decide (2147483647 < (a0.size : Int)) = false := decide_eq_false c2
    have c2b1 : decide (2147483647 < a0.size) = false := decide_eq_false (by omega)
    clear c2
    have HC3 := Aside0.mk H
    clear H
    go_enter Try.func4, Try.ntmps4
    go_upto_region 3 with (fail)
    go_cut [15] (fun v15 wc => ∃ (kq : Nat) (x15_2 : Bool), v15 = .bool x15_2 ∧ Aside0 (laws_FnPyPIParts.j0 kq a0 x15_2 = some r) ∧ Aside0 (kq ≤ k) ∧ Aside0 (Below w.heap.size w wc))
    case first =>
      have H := HC3.out
      clear HC3
      obtain ⟨y221, hy221⟩ : ∃ y_ : List ByteArray, y_ = (([a0] : List ByteArray)) := ⟨_, rfl⟩
      replace H : ((laws_short.f k y221).bind fun t224 => (if t224 = true then ((spec_PyPITextKnown.f k a0).bind fun t225 => (laws_FnPyPIParts.j0 k a0 (!t225))) else (laws_FnPyPIParts.j0 k a0 true))) = some r := by first | (rw [hy221]; with_reducible exact H) | (have H2_ := (Option.bind_some _ _).symm.trans H; rw [hy221]; with_reducible exact H2_) | (have H2_ := (Option.bind_some _ _).symm.trans H; with_reducible exact H2_) | with_reducible exact H | (rw [hy221]; exact H) | exact H
      have Ny221 := Aside0.mk hy221
      clear hy221
      replace H := Option.bind_eq_some_iff.mp H
      obtain ⟨t224, A40, H⟩ := H
      replace H : (if t224 = true then ((spec_PyPITextKnown.f k a0).bind fun t225 => (laws_FnPyPIParts.j0 k a0 (!t225))) else (laws_FnPyPIParts.j0 k a0 true)) = some r := H
      have A4 := Aside0.mk A40
      clear A40
      by_cases c5 : t224 = true
      · subst c5
        have H1 : ((spec_PyPITextKnown.f k a0).bind fun t225 => (laws_FnPyPIParts.j0 k a0 (!t225))) = some r := by rw [if_pos rfl] at H; exact H
        clear H
        have H := H1
        clear H1
        replace H := Option.bind_eq_some_iff.mp H
        obtain ⟨t225, A60, H⟩ := H
        replace H : (laws_FnPyPIParts.j0 k a0 (!t225)) = some r := H
        have A6 := Aside0.mk A60
        clear A60
        have H' := Aside0.mk H
        clear H
        go_wp2_with (first | ((with_reducible refine gate_dst (N := 8) rfl ?_); refine Kd.R_lit Kd.string _ 9 ?hg (N := 8) ?hd (xs := ([a0] : List ByteArray)) (inner := [.string a0]) (ok := fun _ => True) (okp := fun _ => True) ?hr ?hp (fun _ hk => hk) trivial (Below.refl _ _) (Nat.le_refl _) (by simp) ?_; (case hd => rfl); (case hg => rfl); (case hr => first | (go_simp; done) | (go_simp; rfl)); (case hp => exact (Reps.one (show Kd.M Kd.string _ _ _ a0 [.string a0] from rfl) (Reps.none _ _))); intro v222 w7 ho8 hb hg_ hnew_; clear hg_ hnew_; (first | rw [← Ny221.out] at ho8 | (simp only [Int.reduceToNat] at ho8; rw [← Ny221.out] at ho8)); have n0_ := Aside0.mk (Kd.R_lower ho8 (below_size (by repeat (first | (with_reducible first | exact HB.out | apply below_alloc | apply pw_below_drewN | apply below_drew1) | exact HB.out)))); have n1_ := Aside0.mk (below_step (by repeat (first | (with_reducible first | exact HB.out | apply below_alloc | apply pw_below_drewN | apply below_drew1) | exact HB.out)) hb); clear HB; have HO223 := n0_; have HB := n1_; clear n0_ n1_; clear hb ho8; obtain ⟨Ao9, co9, eo9⟩ := Kd.R_slice HO223.out; subst eo9) | ((with_reducible refine gate_callee (f := 5) rfl ?_); refine goesL_ (some 9) rfl rfl Try.func5 (by kernel_rfl) rfl #[.slice Ao9 y221.length co9] rfl (by (try simp only [List.map_toArray, List.map_cons, List.map_nil]); first | done | rfl | (simp only [List.length_drop, List.length_take]; rfl)) ?_; (with_reducible refine (laws_short.calls k _ _ y221 true _ ?side1 ?side2 A4.out).mono ?_); (case side1 => repeat (first | exact (Kd.R_reads' HO223.out).2.2 | (with_reducible refine Kd.C_alloc ?_ _) | (with_reducible refine Kd.C_drewN ?_ _) | (with_reducible refine Kd.C_drew ?_))); (case side2 => exact (Kd.R_reads' HO223.out).2.1); rintro e w' ⟨rfl, ⟨nd, rfl⟩⟩; refine ⟨_, rfl, ?_⟩) | (go_at_call 6; (with_reducible refine (spec_PyPITextKnown.calls k a0 t225 _ A6.out).mono ?_); rintro e w' ⟨rfl, ⟨nd, rfl⟩⟩))
        go_meet
        case rel => exact ⟨_, (!t225), (by first | rfl | (simp; done) | (simp [*]; done) | (simp [bne_nil_hyb]; done) | (simp [bne_nil_hyb, *]; done)), H', ⟨by first | omega | exact Nat.le_refl _⟩, ⟨by repeat (first | (with_reducible first | exact HB.out | apply below_alloc | apply pw_below_drewN | apply below_drew1) | exact HB.out)⟩⟩
      · replace c5 := Bool.eq_false_iff.mpr c5
        subst c5
        have H1 : (laws_FnPyPIParts.j0 k a0 true) = some r := by rw [if_neg (show ¬ (false = true) by decide)] at H; exact H
        clear H
        have H := H1
        clear H1
        have H' := Aside0.mk H
        clear H
        go_wp2_with (first | ((with_reducible refine gate_dst (N := 8) rfl ?_); refine Kd.R_lit Kd.string _ 9 ?hg (N := 8) ?hd (xs := ([a0] : List ByteArray)) (inner := [.string a0]) (ok := fun _ => True) (okp := fun _ => True) ?hr ?hp (fun _ hk => hk) trivial (Below.refl _ _) (Nat.le_refl _) (by simp) ?_; (case hd => rfl); (case hg => rfl); (case hr => first | (go_simp; done) | (go_simp; rfl)); (case hp => exact (Reps.one (show Kd.M Kd.string _ _ _ a0 [.string a0] from rfl) (Reps.none _ _))); intro v222 w10 ho11 hb hg_ hnew_; clear hg_ hnew_; (first | rw [← Ny221.out] at ho11 | (simp only [Int.reduceToNat] at ho11; rw [← Ny221.out] at ho11)); have n0_ := Aside0.mk (Kd.R_lower ho11 (below_size (by repeat (first | (with_reducible first | exact HB.out | apply below_alloc | apply pw_below_drewN | apply below_drew1) | exact HB.out)))); have n1_ := Aside0.mk (below_step (by repeat (first | (with_reducible first | exact HB.out | apply below_alloc | apply pw_below_drewN | apply below_drew1) | exact HB.out)) hb); clear HB; have HO223 := n0_; have HB := n1_; clear n0_ n1_; clear hb ho11; obtain ⟨Ao12, co12, eo12⟩ := Kd.R_slice HO223.out; subst eo12) | ((with_reducible refine gate_callee (f := 5) rfl ?_); refine goesL_ (some 9) rfl rfl Try.func5 (by kernel_rfl) rfl #[.slice Ao12 y221.length co12] rfl (by (try simp only [List.map_toArray, List.map_cons, List.map_nil]); first | done | rfl | (simp only [List.length_drop, List.length_take]; rfl)) ?_; (with_reducible refine (laws_short.calls k _ _ y221 false _ ?side1 ?side2 A4.out).mono ?_); (case side1 => repeat (first | exact (Kd.R_reads' HO223.out).2.2 | (with_reducible refine Kd.C_alloc ?_ _) | (with_reducible refine Kd.C_drewN ?_ _) | (with_reducible refine Kd.C_drew ?_))); (case side2 => exact (Kd.R_reads' HO223.out).2.1); rintro e w' ⟨rfl, ⟨nd, rfl⟩⟩; refine ⟨_, rfl, ?_⟩))
        go_meet
        case rel => exact ⟨_, (true), (by first | rfl | (simp; done) | (simp [*]; done) | (simp [bne_nil_hyb]; done) | (simp [bne_nil_hyb, *]; done)), H', ⟨by first | omega | exact Nat.le_refl _⟩, ⟨by repeat (first | (with_reducible first | exact HB.out | apply below_alloc | apply pw_below_drewN | apply below_drew1) | exact HB.out)⟩⟩
    case rest =>
      clear HC3
      try clear c2
      try clear c2b0
      try clear c2b1
      try clear p2
      try clear c4
      try clear c5
      obtain ⟨kq, x15_2, rfl, HA, HJ2, HB⟩ := hcut
      cases kq with
      | zero => exact absurd HA.out (by simp [laws_FnPyPIParts.j0])
      | succ kj2 =>
        have H := HA.out
        clear HA
        simp only [laws_FnPyPIParts.j0] at H
        by_cases c13 : x15_2 = true
        · subst c13
          have H1 : (some true) = some r := by rw [if_pos rfl] at H; exact H
          clear H
          have H := H1
          clear H1
          obtain rfl := Option.some.inj H
          go_wp2
          go_ret
          exact ⟨by first | rfl | (simp [errW_none, errW_some] <;> rfl) | (simp [*, errW_none, errW_some] <;> rfl) | (simp [bne_nil_hyb]; done), by repeat (first | (with_reducible first | exact HB.out | apply below_alloc | apply pw_below_drewN | apply below_drew1) | exact HB.out)⟩
        · replace c13 := Bool.eq_false_iff.mpr c13
          subst c13
          have H1 : ((impl_PyPIParts.f kj2 a0).bind fun t226 => (if (t226.length : Int) > 0 then ((spec_PyPIParts.f kj2 a0).bind fun t229 => ((laws_texts.f kj2 t226 t229).bind fun t232 => (some t232))) else (some false))) = some r := by rw [if_neg (show ¬ (false = true) by decide)] at H; exact H
          clear H
          have H := H1
          clear H1
          replace H := Option.bind_eq_some_iff.mp H
          obtain ⟨t226, A140, H⟩ := H
          replace H : (if (t226.length : Int) > 0 then ((spec_PyPIParts.f kj2 a0).bind fun t229 => ((laws_texts.f kj2 t226 t229).bind fun t232 => (some t232))) else (some false)) = some r := H
          have A14 := Aside0.mk A140
          clear A140
          by_cases c15 : (t226.length : Int) > 0
          · rw [if_pos c15] at H
            have c15b0 : decide (0 < (t226.length : Int)) = true := decide_eq_true c15
            have c15b1 : decide (0 < t226.length) = true := decide_eq_true (by omega)
            clear c15
            replace H := Option.bind_eq_some_iff.mp H
            obtain ⟨t229, A160, H⟩ := H
            replace H : ((laws_texts.f kj2 t226 t229).bind fun t232 => (some t232)) = some r := H
            have A16 := Aside0.mk A160
            clear A160
            replace H := Option.bind_eq_some_iff.mp H
            obtain ⟨t232, A170, H⟩ := H
            replace H : (some t232) = some r := H
            have A17 := Aside0.mk A170
            clear A170
            obtain rfl := Option.some.inj H
            go_wp2_with (first | ((with_reducible refine gate_callee (f := 7) rfl ?_); refine goesL_ (some 17) rfl rfl Try.func7 (by kernel_rfl) rfl #[.string a0] rfl (by (try simp only [List.map_toArray, List.map_cons, List.map_nil]); first | done | rfl | (simp only [List.length_drop, List.length_take]; rfl)) ?_; (with_reducible refine (impl_PyPIParts.calls kj2 a0 t226 _ A14.out).mono ?_); rintro e w18 ⟨v227, rfl, ho0, hb⟩; refine ⟨_, rfl, ?_⟩; have n0_ := Aside0.mk (Kd.R_lower ho0 (below_size (by repeat (first | (with_reducible first | exact HB.out | apply below_alloc | apply pw_below_drewN | apply below_drew1) | exact HB.out)))); have n1_ := Aside0.mk (below_step (by repeat (first | (with_reducible first | exact HB.out | apply below_alloc | apply pw_below_drewN | apply below_drew1) | exact HB.out)) hb); clear HB; have HO228 := n0_; have HB := n1_; clear n0_ n1_; (try clear hb); (try clear hb2); (try clear hk); (try clear hi); (try clear ho0); obtain ⟨Ao19, co19, eo19⟩ := Kd.R_slice HO228.out; subst eo19) | (go_at_call 11; (with_reducible refine (spec_PyPIParts.calls kj2 a0 t229 _ A16.out).mono ?_); rintro e w20 ⟨v230, rfl, ho0, hb⟩; have n0_ := Aside0.mk (Kd.R_elder' (by (with_reducible repeat (first | apply Kd.R_alloc | apply Kd.R_drewN | apply Kd.R_drew)); exact HO228.out) (Kd.R_base ho0) hb); have n1_ := Aside0.mk (Kd.R_lower (Kd.R_new' ho0 (Kd.R_lt (by (with_reducible repeat (first | apply Kd.R_alloc | apply Kd.R_drewN | apply Kd.R_drew)); exact HO228.out))) (below_size (by repeat (first | (with_reducible first | exact HB.out | apply below_alloc | apply pw_below_drewN | apply below_drew1) | exact HB.out)))); have n2_ := Aside0.mk (below_step (by repeat (first | (with_reducible first | exact HB.out | apply below_alloc | apply pw_below_drewN | apply below_drew1) | exact HB.out)) hb); clear HO228; clear HB; have HO228 := n0_; have HO231 := n1_; have HB := n2_; clear n0_ n1_ n2_; (try clear hb); (try clear hb2); (try clear hk); (try clear hi); (try clear ho0); obtain ⟨Ao21, co21, eo21⟩ := Kd.R_slice HO231.out; subst eo21) | (go_at_call 10; (with_reducible refine (laws_texts.calls kj2 _ _ t226 _ _ t229 t232 _ ?side1 ?side2 ?side3 ?side4 A17.out).mono ?_); (case side1 => repeat (first | exact (Kd.R_reads' HO228.out).2.2 | (with_reducible refine Kd.C_alloc ?_ _) | (with_reducible refine Kd.C_drewN ?_ _) | (with_reducible refine Kd.C_drew ?_))); (case side2 => exact (Kd.R_reads' HO228.out).2.1); (case side3 => repeat (first | exact (Kd.R_reads' HO231.out).2.2 | (with_reducible refine Kd.C_alloc ?_ _) | (with_reducible refine Kd.C_drewN ?_ _) | (with_reducible refine Kd.C_drew ?_))); (case side4 => exact (Kd.R_reads' HO231.out).2.1); rintro e w' ⟨rfl, ⟨nd, rfl⟩⟩))
            go_ret
            exact ⟨by first | rfl | (simp [errW_none, errW_some] <;> rfl) | (simp [*, errW_none, errW_some] <;> rfl) | (simp [bne_nil_hyb]; done), by repeat (first | (with_reducible first | exact HB.out | apply below_alloc | apply pw_below_drewN | apply below_drew1) | exact HB.out)⟩
          · rw [if_neg c15] at H
            have c15b0 : decide (0 < (t226.length : Int)) = false := decide_eq_false c15
            have c15b1 : decide (0 < t226.length) = false := decide_eq_false (by omega)
            clear c15
            obtain rfl := Option.some.inj H
            go_wp2_with (first | ((with_reducible refine gate_callee (f := 7) rfl ?_); refine goesL_ (some 17) rfl rfl Try.func7 (by kernel_rfl) rfl #[.string a0] rfl (by (try simp only [List.map_toArray, List.map_cons, List.map_nil]); first | done | rfl | (simp only [List.length_drop, List.length_take]; rfl)) ?_; (with_reducible refine (impl_PyPIParts.calls kj2 a0 t226 _ A14.out).mono ?_); rintro e w22 ⟨v227, rfl, ho0, hb⟩; refine ⟨_, rfl, ?_⟩; have n0_ := Aside0.mk (Kd.R_lower ho0 (below_size (by repeat (first | (with_reducible first | exact HB.out | apply below_alloc | apply pw_below_drewN | apply below_drew1) | exact HB.out)))); have n1_ := Aside0.mk (below_step (by repeat (first | (with_reducible first | exact HB.out | apply below_alloc | apply pw_below_drewN | apply below_drew1) | exact HB.out)) hb); clear HB; have HO228 := n0_; have HB := n1_; clear n0_ n1_; (try clear hb); (try clear hb2); (try clear hk); (try clear hi); (try clear ho0); obtain ⟨Ao23, co23, eo23⟩ := Kd.R_slice HO228.out; subst eo23))
            go_ret
            exact ⟨by first | rfl | (simp [errW_none, errW_some] <;> rfl) | (simp [*, errW_none, errW_some] <;> rfl) | (simp [bne_nil_hyb]; done), by repeat (first | (with_reducible first | exact HB.out | apply below_alloc | apply pw_below_drewN | apply below_drew1) | exact HB.out)⟩

/-- THE ONE PURE STATEMENT of laws_FnPyPIParts: yours. -/
def laws_FnPyPIParts.Pure : Prop := ∀ (a0 : ByteArray), a0.size ≤ 140737488351232 → ∃ k, laws_FnPyPIParts.f k a0 = some true
theorem laws_FnPyPIParts.walk (P : laws_FnPyPIParts.Pure) (a0 : ByteArray) (w : World) (w0 : a0.size ≤ 140737488351232) :
    Calls Try.prog 4 #[.string a0] w fun e w' => e = .returned (.bool true) ∧ Below w.heap.size w w' := by
  obtain ⟨k, h⟩ := P a0 w0
  refine (laws_FnPyPIParts.calls k a0 true w h).mono ?_
  rintro e w' ⟨rfl, hd⟩
  exact ⟨rfl, hd⟩

end Go.Proofs.Yteffbgjfhbgooaa.Q
