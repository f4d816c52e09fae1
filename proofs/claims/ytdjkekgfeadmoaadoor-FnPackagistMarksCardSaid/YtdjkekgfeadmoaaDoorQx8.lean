/- Proved here: each Go function that is named in this text, called as its theorem 'calls' says, returns what its Lean function 'f' tells, and of the memory that was there nothing is changed (a row of a law: the law returns true). Conditions: those that stand in each theorem; where 'f' tells none, nothing is said. Laid by a program of this seat's prover out of the translation; Lean checks it. -/
import Derived.Test.YtdjkekgfeadmoaaDoorQx0
import Derived.Test.YtdjkekgfeadmoaaDoorQx3
namespace Go.Proofs.YtdjkekgfeadmoaaDoor.Q
open Go.RowKit Go.Proofs.YtdjkekgfeadmoaaDoorH Go.Proofs.YtdjkekgfeadmoaaDoorG Go.Proofs.YtdjkekgfeadmoaaDoorW.PrintWords Go.Proofs.YtdjkekgfeadmoaaDoorW.PrintLast Go.Proofs.YtdjkekgfeadmoaaDoorW.PrintMore
attribute [local go_sem] max2_int min2_int max_two min_two max_three min_three max_four min_four   -- for this text's walks alone
set_option linter.unusedVariables false
set_option linter.unusedSimpArgs false

/-! ### spec_Ascii: function 24 -/
def spec_Ascii.l0 : Nat → ByteArray → Int → Option (Bool)
 | 0, _, _ => none
 | k + 1, x0, x3 => if x3 < (x0.size : Int) then (if 0 ≤ x3 then (if (bt x0 x3) > 127 then (some false) else (spec_Ascii.l0 k x0 (wrap64 (x3 + 1)))) else (none)) else (some true)
def spec_Ascii.f (k : Nat) (a0 : ByteArray) : Option (Bool) := spec_Ascii.l0 k a0 0
theorem spec_Ascii.mono_l : ∀ k, (∀ y0 y1, LeO (spec_Ascii.l0 k y0 y1) (spec_Ascii.l0 (k + 1) y0 y1))
 | 0 => fun _ _ r h => by simp [spec_Ascii.l0] at h
 | k + 1 => by
  have ih0 := spec_Ascii.mono_l k
  ·intro y0 y1
   unfold spec_Ascii.l0
   repeat' first
   | (with_reducible exact ih0 _ _)
   | (with_reducible exact LeO.refl _)
   | (with_reducible exact LeO.none _)
   | (with_reducible refine LeO.ite ?_ ?_)
   | (with_reducible refine LeO.bind ?_ (fun _ => ?_))
   | exact ih0 _ _
   | exact LeO.none _
   | refine LeO.ite ?_ ?_
   | refine LeO.bind ?_ (fun _ => ?_)
theorem spec_Ascii.mono : ∀ a0 k, LeO (spec_Ascii.f k a0) (spec_Ascii.f (k + 1) a0) := by
 intro a0 k
 have ih0 := spec_Ascii.mono_l k
 unfold spec_Ascii.f
 repeat' first
   | (with_reducible exact ih0 _ _)
   | (with_reducible exact LeO.refl _)
   | (with_reducible exact LeO.none _)
   | (with_reducible refine LeO.ite ?_ ?_)
   | (with_reducible refine LeO.bind ?_ (fun _ => ?_))
   | exact ih0 _ _
   | exact LeO.none _
   | refine LeO.ite ?_ ?_
   | refine LeO.bind ?_ (fun _ => ?_)
set_option maxHeartbeats 8000000 in
set_option maxRecDepth 100000 in
theorem spec_Ascii.calls (k : Nat) (a0 : ByteArray) (r : Bool) (w : World) (h : spec_Ascii.f k a0 = some r) :
  Calls Tryd.prog 24 #[.string a0] w fun e w' => e = .returned (.bool r) ∧ Drawn0 w w' := by
 have H : (spec_Ascii.l0 k a0 0) = some r := h
 clear h
 have H' := Aside0.mk H
 clear H
 go_enter Tryd.func24, Tryd.ntmps24
 go_wp2
 (try simp only [Act.put, List.setIfInBounds_toArray, List.set_cons_zero, List.set_cons_succ])
 go_loopg [3] k (fun kq v3 w' => ∃ (x3_1 : Int), v3 = .int .i64 x3_1 ∧ Aside0 (spec_Ascii.l0 kq a0 x3_1 = some r) ∧ Aside0 (kq ≤ k) ∧ Drawn0 w w')
 case atStart => exact ⟨(0), (by first | rfl | (simp; done) | (simp [*]; done) | (simp [bne_nil_hyb]; done) | (simp [bne_nil_hyb, *]; done)), H', ⟨Nat.le_refl _⟩, by repeat (first | exact Drawn0.refl _ | apply Drawn0.step)⟩
 case round =>
  clear H'
  obtain ⟨x3_1, rfl, HA, HK1, ⟨m1, rfl⟩⟩ := hrel
  cases gk with
  | zero => exact absurd HA.out (by simp [spec_Ascii.l0])
  | succ k1 =>
   have H := HA.out
   clear HA
   simp only [spec_Ascii.l0] at H
   by_cases c2 : x3_1 < (a0.size : Int)
   ·rw [if_pos c2] at H
    have c2b0 : decide (x3_1 < (a0.size : Int)) = true := decide_eq_true c2
    clear c2
    by_cases c3 : 0 ≤ x3_1
    ·rw [if_pos c3] at H
     have c3b0 : decide (0 ≤ x3_1) = true := decide_eq_true c3
     clear c3
     by_cases c5 : (bt a0 x3_1) > 127
     ·rw [if_pos c5] at H
      have c5b0 : decide (127 < (bt a0 x3_1)) = true := decide_eq_true c5
      clear c5
      obtain rfl := Option.some.inj H
      have p4 : 0 ≤ (x3_1 : Int) := of_decide_eq_true (by first | (with_reducible assumption) | assumption)
      have q4 : x3_1 < (a0.size : Int) := of_decide_eq_true (by first | (with_reducible assumption) | assumption)
      have hx4 := bt_at a0 x3_1
      replace p4 := eq_true p4
      replace q4 := eq_true q4
      go_wp2
      go_ret
      exact ⟨by first | rfl | (simp; done) | (simp [*]; done) | (simp [bne_nil_hyb]; done) | (simp [bne_nil_hyb, *]; done), by repeat (first | exact Drawn0.refl _ | apply Drawn0.step)⟩
     ·rw [if_neg c5] at H
      have c5b0 : decide (127 < (bt a0 x3_1)) = false := decide_eq_false c5
      clear c5
      have H' := Aside0.mk H
      clear H
      have p4 : 0 ≤ (x3_1 : Int) := of_decide_eq_true (by first | (with_reducible assumption) | assumption)
      have q4 : x3_1 < (a0.size : Int) := of_decide_eq_true (by first | (with_reducible assumption) | assumption)
      have hx4 := bt_at a0 x3_1
      replace p4 := eq_true p4
      replace q4 := eq_true q4
      go_wp2
      go_roundg k1
      case measure => have := HK1.out; omega
      case rel => exact ⟨(wrap64 (x3_1 + 1)), (by first | rfl | (simp; done) | (simp [*]; done) | (simp [bne_nil_hyb]; done) | (simp [bne_nil_hyb, *]; done)), H', ⟨by have := HK1.out; omega⟩, by repeat (first | exact Drawn0.refl _ | apply Drawn0.step)⟩
    ·rw [if_neg c3] at H
     exact absurd H (by simp)
   ·rw [if_neg c2] at H
    have c2b0 : decide (x3_1 < (a0.size : Int)) = false := decide_eq_false c2
    clear c2
    obtain rfl := Option.some.inj H
    go_wp2
    go_ret
    exact ⟨by first | rfl | (simp; done) | (simp [*]; done) | (simp [bne_nil_hyb]; done) | (simp [bne_nil_hyb, *]; done), by repeat (first | exact Drawn0.refl _ | apply Drawn0.step)⟩

/-! ### spec_PackagistTextKnown: function 18 -/
def spec_PackagistTextKnown.f (k : Nat) (a0 : ByteArray) : Option (Bool) := (spec_Ascii.f k a0).bind fun t246 => (some t246)
theorem spec_PackagistTextKnown.mono : ∀ a0 k, LeO (spec_PackagistTextKnown.f k a0) (spec_PackagistTextKnown.f (k + 1) a0) := by
 intro a0 k
 unfold spec_PackagistTextKnown.f
 repeat' first
   | (with_reducible exact spec_Ascii.mono _ _)
   | (with_reducible exact LeO.refl _)
   | (with_reducible exact LeO.none _)
   | (with_reducible refine LeO.ite ?_ ?_)
   | (with_reducible refine LeO.bind ?_ (fun _ => ?_))
   | exact spec_Ascii.mono _ _
   | exact LeO.none _
   | refine LeO.ite ?_ ?_
   | refine LeO.bind ?_ (fun _ => ?_)
set_option maxHeartbeats 8000000 in
set_option maxRecDepth 100000 in
theorem spec_PackagistTextKnown.calls (k : Nat) (a0 : ByteArray) (r : Bool) (w : World) (h : spec_PackagistTextKnown.f k a0 = some r) :
  Calls Tryd.prog 18 #[.string a0] w fun e w' => e = .returned (.bool r) ∧ Drawn0 w w' := by
 have H : ((spec_Ascii.f k a0).bind fun t246 => (some t246)) = some r := h
 clear h
 replace H := Option.bind_eq_some_iff.mp H
 obtain ⟨t246, A20, H⟩ := H
 replace H : (some t246) = some r := H
 have A2 := Aside0.mk A20
 clear A20
 obtain rfl := Option.some.inj H
 go_enter Tryd.func18, Tryd.ntmps18
 go_wp2_with (first | ((with_reducible refine gate_callee (f := 24) rfl ?_); refine goesL_ (some 4) rfl rfl Tryd.func24 (by kernel_rfl) rfl #[.string a0] rfl (by (try simp only [List.map_toArray, List.map_cons, List.map_nil]); first | done | rfl | (simp only [List.length_drop, List.length_take]; rfl)) ?_; (with_reducible refine (spec_Ascii.calls k a0 t246 _ A2.out).mono ?_); rintro e w' ⟨rfl, ⟨nd, rfl⟩⟩; refine ⟨_, rfl, ?_⟩))
 go_ret
 exact ⟨by first | rfl | (simp; done) | (simp [*]; done) | (simp [bne_nil_hyb]; done) | (simp [bne_nil_hyb, *]; done), by repeat (first | exact Drawn0.refl _ | apply Drawn0.step)⟩

/-- THE ONE PURE STATEMENT of spec_PackagistTextKnown: yours. -/
def spec_PackagistTextKnown.Pure : Prop := ∀ (a0 : ByteArray), a0.size ≤ 140737488351232 → ∃ k, spec_PackagistTextKnown.f k a0 = some true
theorem spec_PackagistTextKnown.walk (P : spec_PackagistTextKnown.Pure) (a0 : ByteArray) (w : World) (w0 : a0.size ≤ 140737488351232) :
  Calls Tryd.prog 18 #[.string a0] w fun e w' => e = .returned (.bool true) ∧ Below w.heap.size w w' := by
 obtain ⟨k, h⟩ := P a0 w0
 refine (spec_PackagistTextKnown.calls k a0 true w h).mono ?_
 rintro e w' ⟨rfl, hd⟩
 exact ⟨rfl, hd.below⟩

/-! ### semantic_ZZPackagistCanonical: function 25 -/
def semantic_ZZPackagistCanonical.f (k : Nat) (a0 : ByteArray) : Option (ByteArray) := (semantic_canonicalizePackagistVersion.f k a0).bind fun t247 => (some t247)
theorem semantic_ZZPackagistCanonical.mono : ∀ a0 k, LeO (semantic_ZZPackagistCanonical.f k a0) (semantic_ZZPackagistCanonical.f (k + 1) a0) := by
 intro a0 k
 unfold semantic_ZZPackagistCanonical.f
 repeat' first
   | (with_reducible exact semantic_canonicalizePackagistVersion.mono _ _)
   | (with_reducible exact LeO.refl _)
   | (with_reducible exact LeO.none _)
   | (with_reducible refine LeO.ite ?_ ?_)
   | (with_reducible refine LeO.bind ?_ (fun _ => ?_))
   | exact semantic_canonicalizePackagistVersion.mono _ _
   | exact LeO.none _
   | refine LeO.ite ?_ ?_
   | refine LeO.bind ?_ (fun _ => ?_)
set_option maxHeartbeats 8000000 in
set_option maxRecDepth 100000 in
theorem semantic_ZZPackagistCanonical.calls (k : Nat) (a0 : ByteArray) (r : ByteArray) (w : World) (h : semantic_ZZPackagistCanonical.f k a0 = some r) :
  Calls Tryd.prog 25 #[.string a0] w fun e w' => e = .returned (.string r) ∧ Below w.heap.size w w' := by
 have HB := Aside0.mk (Below.refl w.heap.size w)
 have H : ((semantic_canonicalizePackagistVersion.f k a0).bind fun t247 => (some t247)) = some r := h
 clear h
 replace H := Option.bind_eq_some_iff.mp H
 obtain ⟨t247, A20, H⟩ := H
 replace H : (some t247) = some r := H
 have A2 := Aside0.mk A20
 clear A20
 obtain rfl := Option.some.inj H
 go_enter Tryd.func25, Tryd.ntmps25
 go_wp2_with (first | ((with_reducible refine gate_callee (f := 27) rfl ?_); refine goesL_ (some 4) rfl rfl Tryd.func27 (by kernel_rfl) rfl #[.string a0] rfl (by (try simp only [List.map_toArray, List.map_cons, List.map_nil]); first | done | rfl | (simp only [List.length_drop, List.length_take]; rfl)) ?_; (with_reducible refine (semantic_canonicalizePackagistVersion.calls k a0 t247 _ A2.out).mono ?_); rintro e w3 ⟨rfl, hb⟩; refine ⟨_, rfl, ?_⟩; have n0_ := Aside0.mk (below_step (by repeat (first | (with_reducible first | exact HB.out | apply below_alloc | apply pw_below_drewN | apply below_drew1) | exact HB.out)) hb); clear HB; have HB := n0_; clear n0_; (try clear hb); (try clear hb2); (try clear hk); (try clear hi)))
 go_ret
 exact ⟨by first | rfl | (simp [errW_none, errW_some] <;> rfl) | (simp [*, errW_none, errW_some] <;> rfl) | (simp [bne_nil_hyb]; done), by repeat (first | (with_reducible first | exact HB.out | apply below_alloc | apply pw_below_drewN | apply below_drew1) | exact HB.out)⟩

/-! ### impl_PackagistCanonical: function 19 -/
def impl_PackagistCanonical.f (k : Nat) (a0 : ByteArray) : Option (ByteArray) := (semantic_ZZPackagistCanonical.f k a0).bind fun t248 => (some t248)
theorem impl_PackagistCanonical.mono : ∀ a0 k, LeO (impl_PackagistCanonical.f k a0) (impl_PackagistCanonical.f (k + 1) a0) := by
 intro a0 k
 unfold impl_PackagistCanonical.f
 repeat' first
   | (with_reducible exact semantic_ZZPackagistCanonical.mono _ _)
   | (with_reducible exact LeO.refl _)
   | (with_reducible exact LeO.none _)
   | (with_reducible refine LeO.ite ?_ ?_)
   | (with_reducible refine LeO.bind ?_ (fun _ => ?_))
   | exact semantic_ZZPackagistCanonical.mono _ _
   | exact LeO.none _
   | refine LeO.ite ?_ ?_
   | refine LeO.bind ?_ (fun _ => ?_)
set_option maxHeartbeats 8000000 in
set_option maxRecDepth 100000 in
theorem impl_PackagistCanonical.calls (k : Nat) (a0 : ByteArray) (r : ByteArray) (w : World) (h : impl_PackagistCanonical.f k a0 = some r) :
  Calls Tryd.prog 19 #[.string a0] w fun e w' => e = .returned (.string r) ∧ Below w.heap.size w w' := by
 have HB := Aside0.mk (Below.refl w.heap.size w)
 have H : ((semantic_ZZPackagistCanonical.f k a0).bind fun t248 => (some t248)) = some r := h
 clear h
 replace H := Option.bind_eq_some_iff.mp H
 obtain ⟨t248, A20, H⟩ := H
 replace H : (some t248) = some r := H
 have A2 := Aside0.mk A20
 clear A20
 obtain rfl := Option.some.inj H
 go_enter Tryd.func19, Tryd.ntmps19
 go_wp2_with (first | ((with_reducible refine gate_callee (f := 25) rfl ?_); refine goesL_ (some 4) rfl rfl Tryd.func25 (by kernel_rfl) rfl #[.string a0] rfl (by (try simp only [List.map_toArray, List.map_cons, List.map_nil]); first | done | rfl | (simp only [List.length_drop, List.length_take]; rfl)) ?_; (with_reducible refine (semantic_ZZPackagistCanonical.calls k a0 t248 _ A2.out).mono ?_); rintro e w3 ⟨rfl, hb⟩; refine ⟨_, rfl, ?_⟩; have n0_ := Aside0.mk (below_step (by repeat (first | (with_reducible first | exact HB.out | apply below_alloc | apply pw_below_drewN | apply below_drew1) | exact HB.out)) hb); clear HB; have HB := n0_; clear n0_; (try clear hb); (try clear hb2); (try clear hk); (try clear hi)))
 go_ret
 exact ⟨by first | rfl | (simp [errW_none, errW_some] <;> rfl) | (simp [*, errW_none, errW_some] <;> rfl) | (simp [bne_nil_hyb]; done), by repeat (first | (with_reducible first | exact HB.out | apply below_alloc | apply pw_below_drewN | apply below_drew1) | exact HB.out)⟩

end Go.Proofs.YtdjkekgfeadmoaaDoor.Q
