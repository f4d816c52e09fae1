/- Proved here, for the row of the law FnAlpineBuilt: contracts of the Go functions that it reaches, each as its theorem 'calls' says, and the words and plain laws that they need (Qx15, Qx16, Qx1, Qx2, Qx3, Qx17, Qx20, Qx18, BA, BB, BC, BD). -/
import Derived.Test.YtapaijpglfmfgaaDoorFnAlpineBuiltD
section -- Qx15
namespace Go.Proofs.YtapaijpglfmfgaaDoor.Q
open Go.RowKit Go.Proofs.YtapaijpglfmfgaaDoorH Go.Proofs.YtapaijpglfmfgaaDoorG Go.Proofs.YtapaijpglfmfgaaDoorW.PrintWords Go.Proofs.YtapaijpglfmfgaaDoorW.PrintLast Go.Proofs.YtapaijpglfmfgaaDoorW.PrintMore
attribute [local go_sem] max2_int min2_int max_two min_two max_three min_three max_four min_four
set_option linter.unusedVariables false
set_option linter.unusedSimpArgs false
mutual
def spec_AlpineTextKnown.j0 : Nat → ByteArray → Bool → Option (Bool)
 | 0, _, _ => none
 | k + 1, x4, x25 => if x25 = true then (if 1 ≤ (x4.size : Int) then (spec_AlpineTextKnown.j1 k (x4.extract 1 x4.size)) else (none)) else (spec_AlpineTextKnown.j1 k x4)
def spec_AlpineTextKnown.j1 : Nat → ByteArray → Option (Bool)
 | 0, _ => none
 | k + 1, x4 => (spec_alpReadSuffixes.f k x4).bind fun bt371 => (spec_AlpineTextKnown.l0 k bt371.2 0)
def spec_AlpineTextKnown.l0 : Nat → ByteArray → Int → Option (Bool)
 | 0, _, _ => none
 | k + 1, x4, x5 => if x5 < (x4.size : Int) then (if 0 ≤ x5 then (if x5 ≤ (x4.size : Int) then ((spec_alpWord.f k (x4.extract (x5 : Int).toNat x4.size)).bind fun t376 => (if t376.toList = ([] : List UInt8) then (spec_AlpineTextKnown.l0 k x4 (wrap64 (x5 + 1))) else (some false))) else (none)) else (none)) else (some true)
end
def spec_AlpineTextKnown.f (k : Nat) (a0 : ByteArray) : Option (Bool) := (spec_Ascii.f k a0).bind fun t365 => (if t365 = true then ((spec_alpReadNumbers.f k a0).bind fun bt366 => (if bt366.2.toList = ([] : List UInt8) then (spec_AlpineTextKnown.j0 k bt366.2 false) else (if 0 < (bt366.2.size : Int) then (if (bt bt366.2 0) ≥ 97 then (spec_AlpineTextKnown.j0 k bt366.2 (decide ((bt bt366.2 0) ≤ 122))) else (spec_AlpineTextKnown.j0 k bt366.2 false)) else (none)))) else (some false))
set_option maxHeartbeats 8000000 in
set_option maxRecDepth 100000 in
theorem spec_AlpineTextKnown.calls (k : Nat) (a0 : ByteArray) (r : Bool) (w : World) (h : spec_AlpineTextKnown.f k a0 = some r) :
  Calls Tryd.prog 11 #[.string a0] w fun e w' => e = .returned (.bool r) ∧ Below w.heap.size w w' := by
 have HB := Aside0.mk (Below.refl w.heap.size w)
 have H : ((spec_Ascii.f k a0).bind fun t365 => (if t365 = true then ((spec_alpReadNumbers.f k a0).bind fun bt366 => (if bt366.2.toList = ([] : List UInt8) then (spec_AlpineTextKnown.j0 k bt366.2 false) else (if 0 < (bt366.2.size : Int) then (if (bt bt366.2 0) ≥ 97 then (spec_AlpineTextKnown.j0 k bt366.2 (decide ((bt bt366.2 0) ≤ 122))) else (spec_AlpineTextKnown.j0 k bt366.2 false)) else (none)))) else (some false))) = some r := h
 clear h
 replace H := Option.bind_eq_some_iff.mp H
 obtain ⟨t365, A20, H⟩ := H
 replace H : (if t365 = true then ((spec_alpReadNumbers.f k a0).bind fun bt366 => (if bt366.2.toList = ([] : List UInt8) then (spec_AlpineTextKnown.j0 k bt366.2 false) else (if 0 < (bt366.2.size : Int) then (if (bt bt366.2 0) ≥ 97 then (spec_AlpineTextKnown.j0 k bt366.2 (decide ((bt bt366.2 0) ≤ 122))) else (spec_AlpineTextKnown.j0 k bt366.2 false)) else (none)))) else (some false)) = some r := H
 have A2 := Aside0.mk A20
 clear A20
 by_cases c3 : t365 = true
 ·subst c3
  have H1 : ((spec_alpReadNumbers.f k a0).bind fun bt366 => (if bt366.2.toList = ([] : List UInt8) then (spec_AlpineTextKnown.j0 k bt366.2 false) else (if 0 < (bt366.2.size : Int) then (if (bt bt366.2 0) ≥ 97 then (spec_AlpineTextKnown.j0 k bt366.2 (decide ((bt bt366.2 0) ≤ 122))) else (spec_AlpineTextKnown.j0 k bt366.2 false)) else (none)))) = some r := by rw [if_pos rfl] at H; exact H
  clear H
  have H := H1
  clear H1
  replace H := Option.bind_eq_some_iff.mp H
  obtain ⟨⟨t366, t367⟩, A40, H⟩ := H
  replace H : (if t367.toList = ([] : List UInt8) then (spec_AlpineTextKnown.j0 k t367 false) else (if 0 < (t367.size : Int) then (if (bt t367 0) ≥ 97 then (spec_AlpineTextKnown.j0 k t367 (decide ((bt t367 0) ≤ 122))) else (spec_AlpineTextKnown.j0 k t367 false)) else (none))) = some r := H
  have A4 := Aside0.mk A40
  clear A40
  have HC5 := Aside0.mk H
  clear H
  go_enter Tryd.func11, Tryd.ntmps11
  go_upto_region 4 with (first | ((with_reducible refine gate_callee (f := 25) rfl ?_); refine goesL_ (some 7) rfl rfl Tryd.func25 (by kernel_rfl) rfl #[.string a0] rfl (by (try simp only [List.map_toArray, List.map_cons, List.map_nil]); first | done | rfl | (simp only [List.length_drop, List.length_take]; rfl)) ?_; (with_reducible refine (spec_Ascii.calls k a0 true _ A2.out).mono ?_); rintro e w' ⟨rfl, ⟨nd, rfl⟩⟩; refine ⟨_, rfl, ?_⟩) | ((with_reducible refine gate_callee (f := 26) rfl ?_); refine goesL_ (some 11) rfl rfl Tryd.func26 (by kernel_rfl) rfl #[.string a0] rfl (by (try simp only [List.map_toArray, List.map_cons, List.map_nil]); first | done | rfl | (simp only [List.length_drop, List.length_take]; rfl)) ?_; (with_reducible refine (spec_alpReadNumbers.calls k a0 t366 t367 _ A4.out).mono ?_); rintro e w6 ⟨v368, rfl, ho0, hb⟩; refine ⟨_, rfl, ?_⟩; have HO369 := Aside0.mk (Kd.R_lower ho0 (below_size (by (with_reducible apply pw_below_drewN; with_reducible exact HB.out)))); replace HB := Aside0.mk (below_step (by (with_reducible apply pw_below_drewN; with_reducible exact HB.out)) hb); (try clear hb); (try clear hb2); (try clear hk); (try clear hi); (try clear ho0)))
  (try simp only [Act.put, List.setIfInBounds_toArray, List.set_cons_zero, List.set_cons_succ])
  go_cut [25] (fun v25 wc => ∃ (kq : Nat) (x25_4 : Bool), v25 = .bool x25_4 ∧ Aside0 (spec_AlpineTextKnown.j0 kq t367 x25_4 = some r) ∧ Aside0 (kq ≤ k) ∧ Aside0 (Below w.heap.size w wc))
  case first =>
   have H := HC5.out
   clear HC5
   by_cases c7 : t367.toList = ([] : List UInt8)
   ·rw [if_pos c7] at H
    have c7b0 : (t367.toList == ([] : List UInt8)) = true := beq_iff_eq.mpr c7
    have c7b1 : (t367.toList != ([] : List UInt8)) = false := bne_eq_false_iff_eq.mpr c7
    try have c7b9 : t367.toList.isEmpty = true := by simpa using c7b0
    clear c7
    (first | rw [c7b0] | (simp only [i64_w, i32_w]; rw [c7b0]) | rw [c7b9] | skip)
    have H' := Aside0.mk H
    clear H
    go_wp2
    go_meet
    case rel => exact ⟨_, (false), (by rfl), H', ⟨by omega⟩, ⟨by (with_reducible exact HB.out)⟩⟩
   ·rw [if_neg c7] at H
    have c7b0 : (t367.toList == ([] : List UInt8)) = false := beq_eq_false_iff_ne.mpr c7
    have c7b1 : (t367.toList != ([] : List UInt8)) = true := bne_iff_ne.mpr c7
    try have c7b9 : t367.toList.isEmpty = false := by simpa using c7b0
    (first | rw [c7b0] | (simp only [i64_w, i32_w]; rw [c7b0]) | rw [c7b9] | skip)
    by_cases c8 : 0 < (t367.size : Int)
    ·rw [if_pos c8] at H
     have c8b0 : decide (0 < (t367.size : Int)) = true := decide_eq_true c8
     have c8b1 : decide (0 < t367.size) = true := decide_eq_true (by omega)
     clear c8
     by_cases c10 : (bt t367 0) ≥ 97
     ·rw [if_pos c10] at H
      have c10b0 : decide (97 ≤ (bt t367 0)) = true := decide_eq_true c10
      clear c10
      have H' := Aside0.mk H
      clear H
      have p9 : 0 ≤ (0 : Int) := (by omega)
      have q9 : 0 < t367.size := (by have : (0 : Int) < (t367.size : Int) := of_decide_eq_true (by (with_reducible assumption)); omega)
      have hx9 : ∀ h : 0 < t367.size, ((t367[0]'h).toNat : Int) = bt t367 0 := bt_at t367 0
      clear p9
      have qi9 : (0 < (t367.size : Int)) = True := eq_true (of_decide_eq_true (by (with_reducible assumption)))
      replace q9 := eq_true q9
      have p11 : 0 ≤ (0 : Int) := (by omega)
      have q11 : 0 < t367.size := (by have : (0 : Int) < (t367.size : Int) := of_decide_eq_true (by (with_reducible assumption)); omega)
      have hx11 : ∀ h : 0 < t367.size, ((t367[0]'h).toNat : Int) = bt t367 0 := bt_at t367 0
      clear p11
      have qi11 : (0 < (t367.size : Int)) = True := eq_true (of_decide_eq_true (by (with_reducible assumption)))
      replace q11 := eq_true q11
      go_wp2
      go_meet
      case rel => exact ⟨_, (decide ((bt t367 0) ≤ 122)), (by rfl), H', ⟨by omega⟩, ⟨by (with_reducible exact HB.out)⟩⟩
     ·rw [if_neg c10] at H
      have c10b0 : decide (97 ≤ (bt t367 0)) = false := decide_eq_false c10
      clear c10
      have H' := Aside0.mk H
      clear H
      have p9 : 0 ≤ (0 : Int) := (by omega)
      have q9 : 0 < t367.size := (by have : (0 : Int) < (t367.size : Int) := of_decide_eq_true (by (with_reducible assumption)); omega)
      have hx9 : ∀ h : 0 < t367.size, ((t367[0]'h).toNat : Int) = bt t367 0 := bt_at t367 0
      clear p9
      have qi9 : (0 < (t367.size : Int)) = True := eq_true (of_decide_eq_true (by (with_reducible assumption)))
      replace q9 := eq_true q9
      go_wp2
      go_meet
      case rel => exact ⟨_, (false), (by rfl), H', ⟨by omega⟩, ⟨by (with_reducible exact HB.out)⟩⟩
    ·rw [if_neg c8] at H
     exact absurd H (by simp)
  case rest =>
   clear HC5
   obtain ⟨kq, x25_4, rfl, HA, HJ4, HB⟩ := hcut
   cases kq with
   | zero => exact absurd HA.out (by simp [spec_AlpineTextKnown.j0])
   | succ kj4 =>
    have H := HA.out
    clear HA
    simp only [spec_AlpineTextKnown.j0] at H
    have HC12 := Aside0.mk H
    clear H
    go_upto_if 25 with (fail)
    go_cut [4, 25] (fun v4 v25 wc => ∃ (kq : Nat) (x4_11 : ByteArray), v4 = .string x4_11 ∧ Aside0 (spec_AlpineTextKnown.j1 kq x4_11 = some r) ∧ Aside0 (kq ≤ kj4) ∧ Aside0 (Below w.heap.size w wc))
    case first =>
     have H := HC12.out
     clear HC12
     by_cases c13 : x25_4 = true
     ·subst c13
      have H1 : (if 1 ≤ (t367.size : Int) then (spec_AlpineTextKnown.j1 kj4 (t367.extract 1 t367.size)) else (none)) = some r := by rw [if_pos rfl] at H; exact H
      clear H
      have H := H1
      clear H1
      by_cases c14 : 1 ≤ (t367.size : Int)
      ·rw [if_pos c14] at H
       have c14b0 := eq_true c14
       have c14b1 : decide (1 ≤ (t367.size : Int)) = true := decide_eq_true c14
       clear c14
       obtain ⟨y370, hy370⟩ : ∃ y_ : ByteArray, y_ = (t367.extract 1 t367.size) := ⟨_, rfl⟩
       replace H : (spec_AlpineTextKnown.j1 kj4 y370) = some r := by (rw [hy370]; with_reducible exact H)
       have Ny370 := Aside0.mk hy370
       clear hy370
       have H' := Aside0.mk H
       clear H
       go_wp2_with (((with_reducible refine gate_dst (N := 27) rfl ?_); refine named_event ?hg (N := 27) ?hd (v := .string (t367.extract 1 t367.size)) (v' := .string y370) ?hr (congrArg Value.string Ny370.out.symm) ?_; (case hd => rfl); (case hg => rfl); (case hr => first | (go_simp; done) | (go_simp; rfl))))
       go_meet
       case rel => exact ⟨_, (y370), (by rfl), H', ⟨by have := HJ4.out; first | omega | exact Nat.le_refl _⟩, ⟨by (with_reducible exact HB.out)⟩⟩
      ·rw [if_neg c14] at H
       exact absurd H (by simp)
     ·replace c13 := Bool.eq_false_iff.mpr c13
      subst c13
      have H1 : (spec_AlpineTextKnown.j1 kj4 t367) = some r := by rw [if_neg (show ¬ (false = true) by decide)] at H; exact H
      clear H
      have H := H1
      clear H1
      have H' := Aside0.mk H
      clear H
      go_wp2
      go_meet
      case rel => exact ⟨_, (t367), (by rfl), H', ⟨by have := HJ4.out; first | omega | exact Nat.le_refl _⟩, ⟨by (with_reducible exact HB.out)⟩⟩
    case rest =>
     clear HC12
     obtain ⟨kq, x4_11, rfl, HA, HJ11, HB⟩ := hcut
     cases kq with
     | zero => exact absurd HA.out (by simp [spec_AlpineTextKnown.j1])
     | succ kj11 =>
      have H := HA.out
      clear HA
      simp only [spec_AlpineTextKnown.j1] at H
      replace H := Option.bind_eq_some_iff.mp H
      obtain ⟨⟨t371, t372⟩, A150, H⟩ := H
      replace H : (spec_AlpineTextKnown.l0 kj11 t372 0) = some r := H
      have A15 := Aside0.mk A150
      clear A150
      have H' := Aside0.mk H
      clear H
      go_wp2_with (((with_reducible refine gate_callee (f := 27) rfl ?_); refine goesL_ (some 30) rfl rfl Tryd.func27 (by kernel_rfl) rfl #[.string x4_11] rfl (by (try simp only [List.map_toArray, List.map_cons, List.map_nil]); first | done | rfl | (simp only [List.length_drop, List.length_take]; rfl)) ?_; (with_reducible refine (spec_alpReadSuffixes.calls kj11 x4_11 t371 t372 _ A15.out).mono ?_); rintro e w16 ⟨v373, rfl, ho0, hb⟩; refine ⟨_, rfl, ?_⟩; have HO374 := Aside0.mk (Kd.R_lower ho0 (below_size (by (with_reducible exact HB.out)))); replace HB := Aside0.mk (below_step (by (with_reducible exact HB.out)) hb); (try clear hb); (try clear hb2); (try clear hk); (try clear hi); (try clear ho0)))
      (try simp only [Act.put, List.setIfInBounds_toArray, List.set_cons_zero, List.set_cons_succ])
      go_loopg [5] kj11 (fun kq v5 w' => ∃ (x5_3 : Int), v5 = .int .i64 x5_3 ∧ Aside0 (spec_AlpineTextKnown.l0 kq t372 x5_3 = some r) ∧ Aside0 (kq ≤ kj11) ∧ Aside0 (Below w.heap.size w w'))
      case atStart => exact ⟨(0), (by rfl), H', ⟨Nat.le_refl _⟩, ⟨by (with_reducible exact HB.out)⟩⟩
      case round =>
       clear H'
       obtain ⟨x5_3, rfl, HA, HK3, HB⟩ := hrel
       cases gk with
       | zero => exact absurd HA.out (by simp [spec_AlpineTextKnown.l0])
       | succ k3 =>
        have H := HA.out
        clear HA
        simp only [spec_AlpineTextKnown.l0] at H
        by_cases c17 : x5_3 < (t372.size : Int)
        ·rw [if_pos c17] at H
         have c17b0 : decide (x5_3 < (t372.size : Int)) = true := decide_eq_true c17
         clear c17
         by_cases c18 : 0 ≤ x5_3
         ·rw [if_pos c18] at H
          have c18b0 := eq_true c18
          have c18b1 : decide (0 ≤ x5_3) = true := decide_eq_true c18
          clear c18
          by_cases c19 : x5_3 ≤ (t372.size : Int)
          ·rw [if_pos c19] at H
           have c19b0 := eq_true c19
           have c19b1 : decide (x5_3 ≤ (t372.size : Int)) = true := decide_eq_true c19
           clear c19
           obtain ⟨y375, hy375⟩ : ∃ y_ : ByteArray, y_ = (t372.extract (x5_3 : Int).toNat t372.size) := ⟨_, rfl⟩
           replace H : ((spec_alpWord.f k3 y375).bind fun t376 => (if t376.toList = ([] : List UInt8) then (spec_AlpineTextKnown.l0 k3 t372 (wrap64 (x5_3 + 1))) else (some false))) = some r := by (rw [hy375]; with_reducible exact H)
           have Ny375 := Aside0.mk hy375
           clear hy375
           replace H := Option.bind_eq_some_iff.mp H
           obtain ⟨t376, A200, H⟩ := H
           replace H : (if t376.toList = ([] : List UInt8) then (spec_AlpineTextKnown.l0 k3 t372 (wrap64 (x5_3 + 1))) else (some false)) = some r := H
           have A20 := Aside0.mk A200
           clear A200
           by_cases c21 : t376.toList = ([] : List UInt8)
           ·rw [if_pos c21] at H
            have c21b0 : (t376.toList == ([] : List UInt8)) = true := beq_iff_eq.mpr c21
            have c21b1 : (t376.toList != ([] : List UInt8)) = false := bne_eq_false_iff_eq.mpr c21
            try have c21b9 : t376.toList.isEmpty = true := by simpa using c21b0
            clear c21
            have H' := Aside0.mk H
            clear H
            go_wp2_with (first | ((with_reducible refine gate_dst (N := 41) rfl ?_); refine named_event ?hg (N := 41) ?hd (v := .string (t372.extract (x5_3 : Int).toNat t372.size)) (v' := .string y375) ?hr (congrArg Value.string Ny375.out.symm) ?_; (case hd => rfl); (case hg => rfl); (case hr => first | (go_simp; done) | (go_simp; rfl))) | ((with_reducible refine gate_callee (f := 28) rfl ?_); refine goesL_ (some 42) rfl rfl Tryd.func28 (by kernel_rfl) rfl #[.string y375] rfl (by (try simp only [List.map_toArray, List.map_cons, List.map_nil]); first | done | rfl | (simp only [List.length_drop, List.length_take]; rfl)) ?_; (with_reducible refine (spec_alpWord.calls k3 y375 t376 _ A20.out).mono ?_); rintro e w22 ⟨rfl, hb⟩; refine ⟨_, rfl, ?_⟩; replace HB := Aside0.mk (below_step (by (with_reducible exact HB.out)) hb); (try clear hb); (try clear hb2); (try clear hk); (try clear hi)))
            go_roundg k3
            case measure => have := HJ4.out; have := HJ11.out; have := HK3.out; omega
            case rel => exact ⟨(wrap64 (x5_3 + 1)), (by rfl), H', ⟨by have := HJ4.out; have := HJ11.out; have := HK3.out; omega⟩, ⟨by (with_reducible exact HB.out)⟩⟩
           ·rw [if_neg c21] at H
            have c21b0 : (t376.toList == ([] : List UInt8)) = false := beq_eq_false_iff_ne.mpr c21
            have c21b1 : (t376.toList != ([] : List UInt8)) = true := bne_iff_ne.mpr c21
            try have c21b9 : t376.toList.isEmpty = false := by simpa using c21b0
            obtain rfl := Option.some.inj H
            go_wp2_with (first | ((with_reducible refine gate_dst (N := 41) rfl ?_); refine named_event ?hg (N := 41) ?hd (v := .string (t372.extract (x5_3 : Int).toNat t372.size)) (v' := .string y375) ?hr (congrArg Value.string Ny375.out.symm) ?_; (case hd => rfl); (case hg => rfl); (case hr => first | (go_simp; done) | (go_simp; rfl))) | ((with_reducible refine gate_callee (f := 28) rfl ?_); refine goesL_ (some 42) rfl rfl Tryd.func28 (by kernel_rfl) rfl #[.string y375] rfl (by (try simp only [List.map_toArray, List.map_cons, List.map_nil]); first | done | rfl | (simp only [List.length_drop, List.length_take]; rfl)) ?_; (with_reducible refine (spec_alpWord.calls k3 y375 t376 _ A20.out).mono ?_); rintro e w23 ⟨rfl, hb⟩; refine ⟨_, rfl, ?_⟩; replace HB := Aside0.mk (below_step (by (with_reducible exact HB.out)) hb); (try clear hb); (try clear hb2); (try clear hk); (try clear hi)))
            go_ret
            exact ⟨by rfl, by (with_reducible exact HB.out)⟩
          ·rw [if_neg c19] at H
           exact absurd H (by simp)
         ·rw [if_neg c18] at H
          exact absurd H (by simp)
        ·rw [if_neg c17] at H
         have c17b0 : decide (x5_3 < (t372.size : Int)) = false := decide_eq_false c17
         clear c17
         obtain rfl := Option.some.inj H
         go_wp2
         go_ret
         exact ⟨by rfl, by (with_reducible exact HB.out)⟩
 ·replace c3 := Bool.eq_false_iff.mpr c3
  subst c3
  have H1 : (some false) = some r := by rw [if_neg (show ¬ (false = true) by decide)] at H; exact H
  clear H
  have H := H1
  clear H1
  obtain rfl := Option.some.inj H
  go_enter Tryd.func11, Tryd.ntmps11
  go_wp2_with (((with_reducible refine gate_callee (f := 25) rfl ?_); refine goesL_ (some 7) rfl rfl Tryd.func25 (by kernel_rfl) rfl #[.string a0] rfl (by (try simp only [List.map_toArray, List.map_cons, List.map_nil]); first | done | rfl | (simp only [List.length_drop, List.length_take]; rfl)) ?_; (with_reducible refine (spec_Ascii.calls k a0 false _ A2.out).mono ?_); rintro e w' ⟨rfl, ⟨nd, rfl⟩⟩; refine ⟨_, rfl, ?_⟩))
  go_ret
  exact ⟨by rfl, by (with_reducible apply pw_below_drewN; with_reducible exact HB.out)⟩
def spec_alpHex.f (a0 : Int) : Option (Bool) := (spec_isDigit.f a0).bind fun t377 => (if t377 = true then (some true) else (if a0 ≥ 97 then (some (decide (a0 ≤ 102))) else (some false)))
set_option maxHeartbeats 8000000 in
set_option maxRecDepth 100000 in
theorem spec_alpHex.calls (a0 : Int) (r : Bool) (w : World) (h : spec_alpHex.f a0 = some r) :
  Calls Tryd.prog 32 #[.int .u8 a0] w fun e w' => e = .returned (.bool r) ∧ Drawn0 w w' := by
 have H : ((spec_isDigit.f a0).bind fun t377 => (if t377 = true then (some true) else (if a0 ≥ 97 then (some (decide (a0 ≤ 102))) else (some false)))) = some r := h
 clear h
 replace H := Option.bind_eq_some_iff.mp H
 obtain ⟨t377, A20, H⟩ := H
 replace H : (if t377 = true then (some true) else (if a0 ≥ 97 then (some (decide (a0 ≤ 102))) else (some false))) = some r := H
 have A2 := Aside0.mk A20
 clear A20
 by_cases c3 : t377 = true
 ·subst c3
  have H1 : (some true) = some r := by rw [if_pos rfl] at H; exact H
  clear H
  have H := H1
  clear H1
  obtain rfl := Option.some.inj H
  go_enter Tryd.func32, Tryd.ntmps32
  go_wp2_with (((with_reducible refine gate_callee (f := 34) rfl ?_); refine goesL_ (some 4) rfl rfl Tryd.func34 (by kernel_rfl) rfl #[.int .u8 a0] rfl (by (try simp only [List.map_toArray, List.map_cons, List.map_nil]); first | done | rfl | (simp only [List.length_drop, List.length_take]; rfl)) ?_; (with_reducible refine (spec_isDigit.calls a0 true _ A2.out).mono ?_); rintro e w' ⟨rfl, ⟨nd, rfl⟩⟩; refine ⟨_, rfl, ?_⟩))
  go_ret
  exact ⟨by rfl, by repeat (first | exact Drawn0.refl _ | apply Drawn0.step)⟩
 ·replace c3 := Bool.eq_false_iff.mpr c3
  subst c3
  have H1 : (if a0 ≥ 97 then (some (decide (a0 ≤ 102))) else (some false)) = some r := by rw [if_neg (show ¬ (false = true) by decide)] at H; exact H
  clear H
  have H := H1
  clear H1
  by_cases c4 : a0 ≥ 97
  ·rw [if_pos c4] at H
   have c4b0 : decide (97 ≤ a0) = true := decide_eq_true c4
   clear c4
   obtain rfl := Option.some.inj H
   go_enter Tryd.func32, Tryd.ntmps32
   go_wp2_with (((with_reducible refine gate_callee (f := 34) rfl ?_); refine goesL_ (some 4) rfl rfl Tryd.func34 (by kernel_rfl) rfl #[.int .u8 a0] rfl (by (try simp only [List.map_toArray, List.map_cons, List.map_nil]); first | done | rfl | (simp only [List.length_drop, List.length_take]; rfl)) ?_; (with_reducible refine (spec_isDigit.calls a0 false _ A2.out).mono ?_); rintro e w' ⟨rfl, ⟨nd, rfl⟩⟩; refine ⟨_, rfl, ?_⟩))
   go_ret
   exact ⟨by rfl, by repeat (first | exact Drawn0.refl _ | apply Drawn0.step)⟩
  ·rw [if_neg c4] at H
   have c4b0 : decide (97 ≤ a0) = false := decide_eq_false c4
   clear c4
   obtain rfl := Option.some.inj H
   go_enter Tryd.func32, Tryd.ntmps32
   go_wp2_with (((with_reducible refine gate_callee (f := 34) rfl ?_); refine goesL_ (some 4) rfl rfl Tryd.func34 (by kernel_rfl) rfl #[.int .u8 a0] rfl (by (try simp only [List.map_toArray, List.map_cons, List.map_nil]); first | done | rfl | (simp only [List.length_drop, List.length_take]; rfl)) ?_; (with_reducible refine (spec_isDigit.calls a0 false _ A2.out).mono ?_); rintro e w' ⟨rfl, ⟨nd, rfl⟩⟩; refine ⟨_, rfl, ?_⟩))
   go_ret
   exact ⟨by rfl, by repeat (first | exact Drawn0.refl _ | apply Drawn0.step)⟩
end Go.Proofs.YtapaijpglfmfgaaDoor.Q
end
section -- Qx16
namespace Go.Proofs.YtapaijpglfmfgaaDoor.Q
open Go.RowKit Go.Proofs.YtapaijpglfmfgaaDoorH Go.Proofs.YtapaijpglfmfgaaDoorG Go.Proofs.YtapaijpglfmfgaaDoorW.PrintWords Go.Proofs.YtapaijpglfmfgaaDoorW.PrintLast Go.Proofs.YtapaijpglfmfgaaDoorW.PrintMore Go.Proofs.YtapaijpglfmfgaaDoorC
attribute [local go_sem] max2_int min2_int max_two min_two max_three min_three max_four min_four
set_option linter.unusedVariables false
set_option linter.unusedSimpArgs false
mutual
def spec_AlpineParse.j0 : Nat → ByteArray → Bool → ByteArray → ByteArray → ByteArray → ByteArray → Bool → List (S54) → Bool → Bool → ByteArray → Option (ByteArray × ByteArray × ByteArray × ByteArray × Bool × (List (S54)) × (List (S58)) × Bool × Bool × ByteArray × Bool)
 | 0, _, _, _, _, _, _, _, _, _, _, _ => none
 | k + 1, x0, x26, x379000, x379001, x379002, x379003, x379004, x379005, x379007, x379008, x379009 => if x26 = true then (if 0 ≤ 1 then (if 1 ≤ (x0.size : Int) then (spec_AlpineParse.j1 k (x0.extract 1 x0.size) x379000 x379001 (x0.extract 0 1) x379003 x379004 x379005 x379007 x379008 x379009) else (none)) else (none)) else (spec_AlpineParse.j1 k x0 x379000 x379001 x379002 x379003 x379004 x379005 x379007 x379008 x379009)
def spec_AlpineParse.j1 : Nat → ByteArray → ByteArray → ByteArray → ByteArray → ByteArray → Bool → List (S54) → Bool → Bool → ByteArray → Option (ByteArray × ByteArray × ByteArray × ByteArray × Bool × (List (S54)) × (List (S58)) × Bool × Bool × ByteArray × Bool)
 | 0, _, _, _, _, _, _, _, _, _, _ => none
 | k + 1, x0, x379000, x379001, x379002, x379003, x379004, x379005, x379007, x379008, x379009 => (spec_alpReadSuffixes.f k x0).bind fun bt383 => (if (bt383.2.size : Int) > 1 then (if 0 < (bt383.2.size : Int) then (if (bt bt383.2 0) = 126 then (if 1 < (bt383.2.size : Int) then ((spec_alpHex.f (bt bt383.2 1)).bind fun t387 => (spec_AlpineParse.j2 k bt383.2 t387 x379000 x379001 x379002 x379003 x379004 x379005 bt383.1 x379007 x379008 x379009)) else (none)) else (spec_AlpineParse.j2 k bt383.2 false x379000 x379001 x379002 x379003 x379004 x379005 bt383.1 x379007 x379008 x379009)) else (none)) else (spec_AlpineParse.j2 k bt383.2 false x379000 x379001 x379002 x379003 x379004 x379005 bt383.1 x379007 x379008 x379009))
def spec_AlpineParse.j2 : Nat → ByteArray → Bool → ByteArray → ByteArray → ByteArray → ByteArray → Bool → List (S54) → List (S58) → Bool → Bool → ByteArray → Option (ByteArray × ByteArray × ByteArray × ByteArray × Bool × (List (S54)) × (List (S58)) × Bool × Bool × ByteArray × Bool)
 | 0, _, _, _, _, _, _, _, _, _, _, _, _ => none
 | k + 1, x0, x50, x379000, x379001, x379002, x379003, x379004, x379005, x379006, x379007, x379008, x379009 => if x50 = true then (if 1 ≤ (x0.size : Int) then ((E2.spec_alpRun.f k (x0.extract 1 x0.size)).bind fun t388 => (if 0 ≤ (wrap64 (1 + t388)) then (if (wrap64 (1 + t388)) ≤ (x0.size : Int) then (spec_AlpineParse.j3 k (x0.extract ((wrap64 (1 + t388)) : Int).toNat x0.size) x379000 x379001 x379002 (x0.extract 0 ((wrap64 (1 + t388)) : Int).toNat) x379004 x379005 x379006 x379007 x379008 x379009) else (none)) else (none))) else (none)) else (spec_AlpineParse.j3 k x0 x379000 x379001 x379002 x379003 x379004 x379005 x379006 x379007 x379008 x379009)
def spec_AlpineParse.j3 : Nat → ByteArray → ByteArray → ByteArray → ByteArray → ByteArray → Bool → List (S54) → List (S58) → Bool → Bool → ByteArray → Option (ByteArray × ByteArray × ByteArray × ByteArray × Bool × (List (S54)) × (List (S58)) × Bool × Bool × ByteArray × Bool)
 | 0, _, _, _, _, _, _, _, _, _, _, _ => none
 | k + 1, x0, x379000, x379001, x379002, x379003, x379004, x379005, x379006, x379007, x379008, x379009 => if (x0.size : Int) > 1 then (if 0 ≤ 2 then (if 2 ≤ (x0.size : Int) then (spec_AlpineParse.j4 k x0 ((x0.extract 0 2).toList == ([45, 114] : List UInt8)) x379000 x379001 x379002 x379003 x379004 x379005 x379006 x379007 x379008 x379009) else (none)) else (none)) else (spec_AlpineParse.j4 k x0 false x379000 x379001 x379002 x379003 x379004 x379005 x379006 x379007 x379008 x379009)
def spec_AlpineParse.j4 : Nat → ByteArray → Bool → ByteArray → ByteArray → ByteArray → ByteArray → Bool → List (S54) → List (S58) → Bool → Bool → ByteArray → Option (ByteArray × ByteArray × ByteArray × ByteArray × Bool × (List (S54)) × (List (S58)) × Bool × Bool × ByteArray × Bool)
 | 0, _, _, _, _, _, _, _, _, _, _, _, _ => none
 | k + 1, x0, x62, x379000, x379001, x379002, x379003, x379004, x379005, x379006, x379007, x379008, x379009 => if x62 = true then (if 2 ≤ (x0.size : Int) then ((E1.spec_alpRun.f k (x0.extract 2 x0.size)).bind fun t389 => (if 2 ≤ (wrap64 (2 + t389)) then (if (wrap64 (2 + t389)) ≤ (x0.size : Int) then ((spec_intOf.f k (x0.extract 2 ((wrap64 (2 + t389)) : Int).toNat)).bind fun bt390 => (if 0 ≤ (wrap64 (2 + t389)) then (some (x379000, x0.extract ((wrap64 (2 + t389)) : Int).toNat x0.size, x379002, x379003, x379004, x379005, x379006, x379007, bt390.1, bt390.2, true)) else (none))) else (none)) else (none))) else (none)) else (if x0.toList = ([] : List UInt8) then (some (x379000, x379001, x379002, x379003, x379004, x379005, x379006, x379007, x379008, x379009, true)) else (some (x379000, x0, x379002, x379003, true, x379005, x379006, x379007, x379008, x379009, true)))
end
def spec_AlpineParse.f (k : Nat) (a0 : ByteArray) : Option (ByteArray × ByteArray × ByteArray × ByteArray × Bool × (List (S54)) × (List (S58)) × Bool × Bool × ByteArray × Bool) := (spec_alpReadNumbers.f k a0).bind fun bt379 => (if bt379.2.toList = ([] : List UInt8) then (spec_AlpineParse.j0 k bt379.2 false a0 (⟨#[]⟩ : ByteArray) (⟨#[]⟩ : ByteArray) (⟨#[]⟩ : ByteArray) false bt379.1 true false (⟨#[]⟩ : ByteArray)) else (if 0 < (bt379.2.size : Int) then (if (bt bt379.2 0) ≥ 97 then (spec_AlpineParse.j0 k bt379.2 (decide ((bt bt379.2 0) ≤ 122)) a0 (⟨#[]⟩ : ByteArray) (⟨#[]⟩ : ByteArray) (⟨#[]⟩ : ByteArray) false bt379.1 true false (⟨#[]⟩ : ByteArray)) else (spec_AlpineParse.j0 k bt379.2 false a0 (⟨#[]⟩ : ByteArray) (⟨#[]⟩ : ByteArray) (⟨#[]⟩ : ByteArray) false bt379.1 true false (⟨#[]⟩ : ByteArray))) else (none)))
def spec_AlpineParse.T8 : Bool × List (List Nat × List Nat) := (true, [([], []), ([], []), ([0, 1], [0, 1]), ([], []), ([], []), ([3, 4], [3, 4]), ([0, 1, 2], []), ([6, 2, 0, 1, 2], [2, 6]), ([5, 7, 0, 1, 2, 3, 4, 5, 6, 7], [0, 3, 5])])
def spec_AlpineParse.B8 : List Nat := [0, 0, 3, 0, 0, 24, 7, 71, 255]
theorem spec_AlpineParse.tab8 : rtab .any (opsOf Tryd.f13 8) = spec_AlpineParse.T8 := by kernel_rfl
theorem spec_AlpineParse.bits8 : waitsOk spec_AlpineParse.T8.2 spec_AlpineParse.B8 = true := by kernel_rfl
def spec_AlpineParse.T11 : Bool × List (List Nat × List Nat) := (true, [([], []), ([], []), ([1], [1]), ([0, 2], [0, 2]), ([3], [3]), ([], []), ([], []), ([6], [6]), ([5, 7], [5, 7]), ([0, 1, 2, 3, 4], []), ([9, 4, 4, 0, 1, 2, 3, 4], [4, 9]), ([0, 1, 2, 3, 4, 5, 6, 7, 8, 9, 10], []), ([11, 8, 10, 0, 1, 2, 3, 4, 5, 6, 7, 8, 9, 10], [8, 11])])
def spec_AlpineParse.B11 : List Nat := [0, 0, 2, 7, 15, 0, 0, 64, 224, 31, 543, 2047, 4095]
theorem spec_AlpineParse.tab11 : rtab .any (opsOf Tryd.f13 11) = spec_AlpineParse.T11 := by kernel_rfl
theorem spec_AlpineParse.bits11 : waitsOk spec_AlpineParse.T11.2 spec_AlpineParse.B11 = true := by kernel_rfl
set_option maxHeartbeats 8000000 in
set_option maxRecDepth 100000 in
theorem spec_AlpineParse.calls (k : Nat) (a0 : ByteArray) (r1 : ByteArray) (r2 : ByteArray) (r3 : ByteArray) (r4 : ByteArray) (r5 : Bool) (r6 : List (S54)) (r7 : List (S58)) (r8 : Bool) (r9 : Bool) (r10 : ByteArray) (r11 : Bool) (w : World) (h : spec_AlpineParse.f k a0 = some (r1, r2, r3, r4, r5, r6, r7, r8, r9, r10, r11)) :
  Calls Tryd.prog 13 #[.string a0] w fun e w' => ∃ v5_ v6_ : Value, e = .returned (.tuple #[.agg #[.string r1, .string r2, .string r3, .string r4, .bool r5, v5_, v6_, .bool r8, .bool r9, .string r10], .bool r11]) ∧ Kd.R k54 54 w' w.heap.size (fun _ => True) v5_ r6 ∧ Kd.R k58 58 w' w.heap.size (fun _ => True) v6_ r7 ∧ Below w.heap.size w w' := by
 have hu33 := Tryd.underlying33
 have hu31 := Tryd.underlying31
 have HB := Aside0.mk (Below.refl w.heap.size w)
 have H : ((spec_alpReadNumbers.f k a0).bind fun bt379 => (if bt379.2.toList = ([] : List UInt8) then (spec_AlpineParse.j0 k bt379.2 false a0 (⟨#[]⟩ : ByteArray) (⟨#[]⟩ : ByteArray) (⟨#[]⟩ : ByteArray) false bt379.1 true false (⟨#[]⟩ : ByteArray)) else (if 0 < (bt379.2.size : Int) then (if (bt bt379.2 0) ≥ 97 then (spec_AlpineParse.j0 k bt379.2 (decide ((bt bt379.2 0) ≤ 122)) a0 (⟨#[]⟩ : ByteArray) (⟨#[]⟩ : ByteArray) (⟨#[]⟩ : ByteArray) false bt379.1 true false (⟨#[]⟩ : ByteArray)) else (spec_AlpineParse.j0 k bt379.2 false a0 (⟨#[]⟩ : ByteArray) (⟨#[]⟩ : ByteArray) (⟨#[]⟩ : ByteArray) false bt379.1 true false (⟨#[]⟩ : ByteArray))) else (none)))) = some (r1, r2, r3, r4, r5, r6, r7, r8, r9, r10, r11) := h
 clear h
 replace H := Option.bind_eq_some_iff.mp H
 obtain ⟨⟨t379, t380⟩, A20, H⟩ := H
 replace H : (if t380.toList = ([] : List UInt8) then (spec_AlpineParse.j0 k t380 false a0 (⟨#[]⟩ : ByteArray) (⟨#[]⟩ : ByteArray) (⟨#[]⟩ : ByteArray) false t379 true false (⟨#[]⟩ : ByteArray)) else (if 0 < (t380.size : Int) then (if (bt t380 0) ≥ 97 then (spec_AlpineParse.j0 k t380 (decide ((bt t380 0) ≤ 122)) a0 (⟨#[]⟩ : ByteArray) (⟨#[]⟩ : ByteArray) (⟨#[]⟩ : ByteArray) false t379 true false (⟨#[]⟩ : ByteArray)) else (spec_AlpineParse.j0 k t380 false a0 (⟨#[]⟩ : ByteArray) (⟨#[]⟩ : ByteArray) (⟨#[]⟩ : ByteArray) false t379 true false (⟨#[]⟩ : ByteArray))) else (none))) = some (r1, r2, r3, r4, r5, r6, r7, r8, r9, r10, r11) := H
 have A2 := Aside0.mk A20
 clear A20
 have HC3 := Aside0.mk H
 clear H
 go_enter Tryd.func13, Tryd.ntmps13
 go_upto_region 3 with (first | ((with_reducible refine gate_dst (N := 2) rfl ?_); refine box_event ?hg (N := 2) ?hd (cs := #[.string ⟨#[]⟩, .string ⟨#[]⟩, .string ⟨#[]⟩, .string ⟨#[]⟩, .bool false, .slice none 0 0, .slice none 0 0, .bool false, .bool false, .string ⟨#[]⟩]) (t := 33) ?hr ?_; (case hd => rfl); (case hg => rfl); (case hr => first | (go_simp; done) | (go_simp; rfl)); intro gb378 hg w4 hbox hb; have BK378 := Aside0.mk hbox; have GW378 := Aside0.mk ((by rw [hg]; exact (below_size (by (with_reducible exact HB.out))) : w.heap.size ≤ gb378)); have GE378 := Aside0.mk ((by rw [hg]; exact (below_size (by (with_reducible exact HB.out))) : w.heap.size ≤ gb378)); replace HB := Aside0.mk (below_step (by (with_reducible exact HB.out)) hb); clear hb hbox hg; obtain ⟨hcz5_0, hcz5_1, hcz5_2, hcz5_3, hcz5_4, hcz5_5, hcz5_6, hcz5_7, hcz5_8, hcz5_9, hfz5_0, hfz5_1, hfz5_2, hfz5_3, hfz5_4, hfz5_5, hfz5_6, hfz5_7, hfz5_8, hfz5_9⟩ := cl10 BK378.out) | ((with_reducible refine gate_callee (f := 26) rfl ?_); refine goesL_ (some 11) rfl rfl Tryd.func26 (by kernel_rfl) rfl #[.string a0] rfl (by (try simp only [List.map_toArray, List.map_cons, List.map_nil]); first | done | rfl | (simp only [List.length_drop, List.length_take]; rfl)) ?_; (with_reducible refine (spec_alpReadNumbers.calls k a0 t379 t380 _ A2.out).mono ?_); rintro e w6 ⟨v381, rfl, ho0, hb⟩; refine ⟨_, rfl, ?_⟩; have HO382 := Aside0.mk (Kd.R_lower ho0 (below_size (by (with_reducible refine below_set ?_ GE378.out; with_reducible refine below_set ?_ GE378.out; with_reducible exact HB.out)))); replace BK378 := Aside0.mk (blk_below (g := gb378) (o := .cells #[.string a0, .string ⟨#[]⟩, .string ⟨#[]⟩, .string ⟨#[]⟩, .bool false, .slice none 0 0, .slice none 0 0, .bool true, .bool false, .string ⟨#[]⟩] 33 (0, 0)) (by refine blk_put (cs := #[.string a0, .string ⟨#[]⟩, .string ⟨#[]⟩, .string ⟨#[]⟩, .bool false, .slice none 0 0, .slice none 0 0, .bool false, .bool false, .string ⟨#[]⟩]) ?_ 7 _ rfl; refine blk_put (cs := #[.string ⟨#[]⟩, .string ⟨#[]⟩, .string ⟨#[]⟩, .string ⟨#[]⟩, .bool false, .slice none 0 0, .slice none 0 0, .bool false, .bool false, .string ⟨#[]⟩]) ?_ 0 _ rfl; exact BK378.out) hb); replace HB := Aside0.mk (below_step (by (with_reducible refine below_set ?_ GE378.out; with_reducible refine below_set ?_ GE378.out; with_reducible exact HB.out)) hb); (try clear hb); (try clear hb2); (try clear hk); (try clear hi); (try clear ho0); obtain ⟨Ao7, co7, eo7⟩ := Kd.R_slice HO382.out; subst eo7; obtain ⟨hcz8_0, hcz8_1, hcz8_2, hcz8_3, hcz8_4, hcz8_5, hcz8_6, hcz8_7, hcz8_8, hcz8_9, hfz8_0, hfz8_1, hfz8_2, hfz8_3, hfz8_4, hfz8_5, hfz8_6, hfz8_7, hfz8_8, hfz8_9⟩ := cl10 BK378.out))
 (try simp only [Act.put, List.setIfInBounds_toArray, List.set_cons_zero, List.set_cons_succ])
 go_cut [26] (fun v26 wc => ∃ (kq : Nat) (x26_2 : Bool), v26 = .bool x26_2 ∧ Aside0 (spec_AlpineParse.j0 kq t380 x26_2 a0 (⟨#[]⟩ : ByteArray) (⟨#[]⟩ : ByteArray) (⟨#[]⟩ : ByteArray) false t379 true false (⟨#[]⟩ : ByteArray) = some (r1, r2, r3, r4, r5, r6, r7, r8, r9, r10, r11)) ∧ Aside0 (kq ≤ k) ∧ Aside0 (Kd.R k54 54 wc w.heap.size (fun _ => True) (.slice Ao7 t379.length co7) t379) ∧ Aside0 (wc.heap[gb378]? = some (.cells #[.string a0, .string ⟨#[]⟩, .string ⟨#[]⟩, .string ⟨#[]⟩, .bool false, (.slice Ao7 t379.length co7), (.slice none 0 0), .bool true, .bool false, .string ⟨#[]⟩] 33 (0, 0))) ∧ Aside0 (Below w.heap.size w wc))
 case first =>
  have H := HC3.out
  clear HC3
  by_cases c9 : t380.toList = ([] : List UInt8)
  ·rw [if_pos c9] at H
   have c9b0 : (t380.toList == ([] : List UInt8)) = true := beq_iff_eq.mpr c9
   have c9b1 : (t380.toList != ([] : List UInt8)) = false := bne_eq_false_iff_eq.mpr c9
   try have c9b9 : t380.toList.isEmpty = true := by simpa using c9b0
   clear c9
   (first | rw [c9b0] | (simp only [i64_w, i32_w]; rw [c9b0]) | rw [c9b9] | skip)
   have H' := Aside0.mk H
   clear H
   go_wp2
   go_meet
   case rel => exact ⟨_, (false), (by rfl), H', ⟨by omega⟩, ⟨by (with_reducible repeat (first | apply Kd.R_alloc | apply Kd.R_drewN | apply Kd.R_drew)); exact Kd.R_mono (farC (Kd.R_types HO382.out BK378.out (by decide))) (fun _ hk => trivial)⟩, ⟨by refine blk_put (cs := #[.string a0, .string ⟨#[]⟩, .string ⟨#[]⟩, .string ⟨#[]⟩, .bool false, .slice none 0 0, .slice none 0 0, .bool true, .bool false, .string ⟨#[]⟩]) ?_ 5 _ rfl; exact BK378.out⟩, ⟨by (with_reducible refine below_set ?_ GE378.out; with_reducible exact HB.out)⟩⟩
  ·rw [if_neg c9] at H
   have c9b0 : (t380.toList == ([] : List UInt8)) = false := beq_eq_false_iff_ne.mpr c9
   have c9b1 : (t380.toList != ([] : List UInt8)) = true := bne_iff_ne.mpr c9
   try have c9b9 : t380.toList.isEmpty = false := by simpa using c9b0
   (first | rw [c9b0] | (simp only [i64_w, i32_w]; rw [c9b0]) | rw [c9b9] | skip)
   by_cases c10 : 0 < (t380.size : Int)
   ·rw [if_pos c10] at H
    have c10b0 : decide (0 < (t380.size : Int)) = true := decide_eq_true c10
    have c10b1 : decide (0 < t380.size) = true := decide_eq_true (by omega)
    clear c10
    by_cases c12 : (bt t380 0) ≥ 97
    ·rw [if_pos c12] at H
     have c12b0 : decide (97 ≤ (bt t380 0)) = true := decide_eq_true c12
     clear c12
     have H' := Aside0.mk H
     clear H
     have p11 : 0 ≤ (0 : Int) := (by omega)
     have q11 : 0 < t380.size := (by have : (0 : Int) < (t380.size : Int) := of_decide_eq_true (by (with_reducible assumption)); omega)
     have hx11 : ∀ h : 0 < t380.size, ((t380[0]'h).toNat : Int) = bt t380 0 := bt_at t380 0
     clear p11
     have qi11 : (0 < (t380.size : Int)) = True := eq_true (of_decide_eq_true (by (with_reducible assumption)))
     replace q11 := eq_true q11
     have p13 : 0 ≤ (0 : Int) := (by omega)
     have q13 : 0 < t380.size := (by have : (0 : Int) < (t380.size : Int) := of_decide_eq_true (by (with_reducible assumption)); omega)
     have hx13 : ∀ h : 0 < t380.size, ((t380[0]'h).toNat : Int) = bt t380 0 := bt_at t380 0
     clear p13
     have qi13 : (0 < (t380.size : Int)) = True := eq_true (of_decide_eq_true (by (with_reducible assumption)))
     replace q13 := eq_true q13
     go_wp2
     go_meet
     case rel => exact ⟨_, (decide ((bt t380 0) ≤ 122)), (by rfl), H', ⟨by omega⟩, ⟨by (with_reducible repeat (first | apply Kd.R_alloc | apply Kd.R_drewN | apply Kd.R_drew)); exact Kd.R_mono (farC (Kd.R_types HO382.out BK378.out (by decide))) (fun _ hk => trivial)⟩, ⟨by refine blk_put (cs := #[.string a0, .string ⟨#[]⟩, .string ⟨#[]⟩, .string ⟨#[]⟩, .bool false, .slice none 0 0, .slice none 0 0, .bool true, .bool false, .string ⟨#[]⟩]) ?_ 5 _ rfl; exact BK378.out⟩, ⟨by (with_reducible refine below_set ?_ GE378.out; with_reducible exact HB.out)⟩⟩
    ·rw [if_neg c12] at H
     have c12b0 : decide (97 ≤ (bt t380 0)) = false := decide_eq_false c12
     clear c12
     have H' := Aside0.mk H
     clear H
     have p11 : 0 ≤ (0 : Int) := (by omega)
     have q11 : 0 < t380.size := (by have : (0 : Int) < (t380.size : Int) := of_decide_eq_true (by (with_reducible assumption)); omega)
     have hx11 : ∀ h : 0 < t380.size, ((t380[0]'h).toNat : Int) = bt t380 0 := bt_at t380 0
     clear p11
     have qi11 : (0 < (t380.size : Int)) = True := eq_true (of_decide_eq_true (by (with_reducible assumption)))
     replace q11 := eq_true q11
     go_wp2
     go_meet
     case rel => exact ⟨_, (false), (by rfl), H', ⟨by omega⟩, ⟨by (with_reducible repeat (first | apply Kd.R_alloc | apply Kd.R_drewN | apply Kd.R_drew)); exact Kd.R_mono (farC (Kd.R_types HO382.out BK378.out (by decide))) (fun _ hk => trivial)⟩, ⟨by refine blk_put (cs := #[.string a0, .string ⟨#[]⟩, .string ⟨#[]⟩, .string ⟨#[]⟩, .bool false, .slice none 0 0, .slice none 0 0, .bool true, .bool false, .string ⟨#[]⟩]) ?_ 5 _ rfl; exact BK378.out⟩, ⟨by (with_reducible refine below_set ?_ GE378.out; with_reducible exact HB.out)⟩⟩
   ·rw [if_neg c10] at H
    exact absurd H (by simp)
 case rest =>
  clear HC3
  clear hcz5_0 hcz5_1 hcz5_2 hcz5_3 hcz5_4 hcz5_5 hcz5_6 hcz5_7 hcz5_8 hcz5_9 hcz8_0 hcz8_1 hcz8_2 hcz8_3 hcz8_4 hcz8_5 hcz8_6 hcz8_7 hcz8_8 hcz8_9 hfz5_0 hfz5_1 hfz5_2 hfz5_3 hfz5_4 hfz5_5 hfz5_6 hfz5_7 hfz5_8 hfz5_9 hfz8_0 hfz8_1 hfz8_2 hfz8_3 hfz8_4 hfz8_5 hfz8_6 hfz8_7 hfz8_8 hfz8_9
  obtain ⟨kq, x26_2, rfl, HA, HJ2, HO_379005, BK378, HB⟩ := hcut
  cases kq with
  | zero => exact absurd HA.out (by simp [spec_AlpineParse.j0])
  | succ kj2 =>
   have H := HA.out
   clear HA
   simp only [spec_AlpineParse.j0] at H
   have HC14 := Aside0.mk H
   clear H
   go_upto_if 26 with (fail)
   go_cut [0, 26] (fun v0 v26 wc => ∃ (kq : Nat) (x0_13 : ByteArray) (x379002_13 : ByteArray), v0 = .string x0_13 ∧ Aside0 (spec_AlpineParse.j1 kq x0_13 a0 (⟨#[]⟩ : ByteArray) x379002_13 (⟨#[]⟩ : ByteArray) false t379 true false (⟨#[]⟩ : ByteArray) = some (r1, r2, r3, r4, r5, r6, r7, r8, r9, r10, r11)) ∧ Aside0 (kq ≤ kj2) ∧ Aside0 (Kd.R k54 54 wc w.heap.size (fun _ => True) (.slice Ao7 t379.length co7) t379) ∧ Aside0 (wc.heap[gb378]? = some (.cells #[.string a0, .string ⟨#[]⟩, .string x379002_13, .string ⟨#[]⟩, .bool false, (.slice Ao7 t379.length co7), (.slice none 0 0), .bool true, .bool false, .string ⟨#[]⟩] 33 (0, 0))) ∧ Aside0 (Below w.heap.size w wc))
   case first =>
    have H := HC14.out
    clear HC14
    by_cases c15 : x26_2 = true
    ·subst c15
     have H1 : (if 0 ≤ 1 then (if 1 ≤ (t380.size : Int) then (spec_AlpineParse.j1 kj2 (t380.extract 1 t380.size) a0 (⟨#[]⟩ : ByteArray) (t380.extract 0 1) (⟨#[]⟩ : ByteArray) false t379 true false (⟨#[]⟩ : ByteArray)) else (none)) else (none)) = some (r1, r2, r3, r4, r5, r6, r7, r8, r9, r10, r11) := by rw [if_pos rfl] at H; exact H
     clear H
     have H := H1
     clear H1
     by_cases c16 : 0 ≤ 1
     ·rw [if_pos c16] at H
      have c16b0 := eq_true c16
      have c16b1 : decide (0 ≤ 1) = true := decide_eq_true c16
      clear c16
      by_cases c17 : 1 ≤ (t380.size : Int)
      ·rw [if_pos c17] at H
       have c17b0 := eq_true c17
       have c17b1 : decide (1 ≤ (t380.size : Int)) = true := decide_eq_true c17
       clear c17
       have c18b0 := eq_true (of_decide_eq_true (by (with_reducible assumption)) : 1 ≤ (t380.size : Int))
       have H' := Aside0.mk H
       clear H
       try go_wp2
       replace HO_379005 := Aside0.mk (Kd.R_drew HO_379005.out)
       replace BK378 := Aside0.mk (blk_drew BK378.out)
       replace HB := Aside0.mk (below_drew1 HB.out)
       refine start_ (n := 7) (S := fun w' => True) (ds := []) #[false, false, false, false, false, false, false] (by kernel_rfl) rfl rfl trivial (fun hHeld => ?_)
       generalize wc.drew = w19 at HO_379005 BK378 HB hHeld ⊢
       refine pure_ (i := 0) (N := some 27) (v := ?_) (a' := ?_) #[true, false, false, false, false, false, false] rfl rfl (by kernel_rfl) (fun _ _ _ h => h) (Or.inl ⟨by rfl, ?_⟩) ?_ ?_
       rotate_left
       ·intro w'
        go_simp
        with_reducible rfl
       rotate_left
       ·simp only [Act.put, List.setIfInBounds_toArray, List.set_cons_zero, List.set_cons_succ, i64_w, i32_w]
        rfl
       refine pure_ (i := 1) (N := some 28) (v := ?_) (a' := ?_) #[true, true, false, false, false, false, false] rfl rfl (by kernel_rfl) (fun _ _ _ h => h) (Or.inl ⟨by rfl, ?_⟩) ?_ ?_
       rotate_left
       ·intro w'
        go_simp
        with_reducible rfl
       rotate_left
       ·simp only [Act.put, List.setIfInBounds_toArray, List.set_cons_zero, List.set_cons_succ, i64_w, i32_w]
        rfl
       refine pure_ (i := 2) (N := some 29) (v := ?_) (a' := ?_) #[true, true, true, false, false, false, false] rfl rfl (by kernel_rfl) (fun _ _ _ h => h) (Or.inl ⟨by rfl, ?_⟩) ?_ ?_
       rotate_left
       ·intro w'
        go_simp
        with_reducible rfl
       rotate_left
       ·simp only [Act.put, List.setIfInBounds_toArray, List.set_cons_zero, List.set_cons_succ, i64_w, i32_w]
        rfl
       refine pure_ (i := 3) (N := some 30) (v := ?_) (a' := ?_) #[true, true, true, true, false, false, false] rfl rfl (by kernel_rfl) (fun _ _ _ h => h) (Or.inl ⟨by rfl, ?_⟩) ?_ ?_
       rotate_left
       ·intro w'
        go_simp
        with_reducible rfl
       rotate_left
       ·simp only [Act.put, List.setIfInBounds_toArray, List.set_cons_zero, List.set_cons_succ, i64_w, i32_w]
        rfl
       refine pure_ (i := 4) (N := some 31) (v := ?_) (a' := ?_) #[true, true, true, true, true, false, false] rfl rfl (by kernel_rfl) (fun _ _ _ h => h) (Or.inl ⟨by rfl, ?_⟩) ?_ ?_
       rotate_left
       ·intro w'
        go_simp
        with_reducible rfl
       rotate_left
       ·simp only [Act.put, List.setIfInBounds_toArray, List.set_cons_zero, List.set_cons_succ, i64_w, i32_w]
        rfl
       refine one_ (i := 5) (N := none) #[true, true, true, true, true, true, false] rfl rfl (by kernel_rfl) (by decide) (fun K hK => ?_)
       have hs20 : w19.cell? ⟨gb378, 2, none⟩ = some (.string ⟨#[]⟩) := (blk_cell BK378.out 2).trans rfl
       have hfs20 := blk_frozen BK378.out 2
       refine skip_ (w1 := ?_) (by rfl) rfl ?_ ?_
       rotate_left
       ·go_simp
        rfl
       refine hK.out _ _ trivial (fun hHeld => ?_)
       clear hK K
       refine pure_ (i := 6) (N := some 0) (v := ?_) (a' := ?_) #[true, true, true, true, true, true, true] rfl rfl (by kernel_rfl) (fun _ _ _ h => h) (Or.inl ⟨by rfl, ?_⟩) ?_ ?_
       rotate_left
       ·intro w'
        go_simp
        with_reducible rfl
       rotate_left
       ·simp only [Act.put, List.setIfInBounds_toArray, List.set_cons_zero, List.set_cons_succ, i64_w, i32_w]
        rfl
       refine done_ (by kernel_rfl) ?_
       try go_wp2
       go_meet
       case rel => exact ⟨_, (t380.extract 1 t380.size), (t380.extract 0 1), (by rfl), (by exact H'), ⟨by have := HJ2.out; first | omega | exact Nat.le_refl _⟩, ⟨by (with_reducible repeat (first | apply Kd.R_alloc | apply Kd.R_drewN | apply Kd.R_drew)); exact Kd.R_mono (farC (Kd.R_types HO_379005.out BK378.out (by decide))) (fun _ hk => trivial)⟩, ⟨by refine blk_put (cs := #[.string a0, .string ⟨#[]⟩, .string ⟨#[]⟩, .string ⟨#[]⟩, .bool false, .slice Ao7 t379.length co7, .slice none 0 0, .bool true, .bool false, .string ⟨#[]⟩]) ?_ 2 _ rfl; exact BK378.out⟩, ⟨by (with_reducible refine below_set ?_ GE378.out; with_reducible exact HB.out)⟩⟩
      ·rw [if_neg c17] at H
       exact absurd H (by simp)
     ·rw [if_neg c16] at H
      exact absurd H (by simp)
    ·replace c15 := Bool.eq_false_iff.mpr c15
     subst c15
     have H1 : (spec_AlpineParse.j1 kj2 t380 a0 (⟨#[]⟩ : ByteArray) (⟨#[]⟩ : ByteArray) (⟨#[]⟩ : ByteArray) false t379 true false (⟨#[]⟩ : ByteArray)) = some (r1, r2, r3, r4, r5, r6, r7, r8, r9, r10, r11) := by rw [if_neg (show ¬ (false = true) by decide)] at H; exact H
     clear H
     have H := H1
     clear H1
     have H' := Aside0.mk H
     clear H
     go_wp2
     go_meet
     case rel => exact ⟨_, (t380), ((⟨#[]⟩ : ByteArray)), (by rfl), (by exact H'), ⟨by have := HJ2.out; first | omega | exact Nat.le_refl _⟩, ⟨by (with_reducible repeat (first | apply Kd.R_alloc | apply Kd.R_drewN | apply Kd.R_drew)); exact HO_379005.out⟩, ⟨by exact BK378.out⟩, ⟨by (with_reducible exact HB.out)⟩⟩
   case rest =>
    clear HC14
    obtain ⟨kq, x0_13, x379002_13, rfl, HA, HJ13, HO_379005, BK378, HB⟩ := hcut
    cases kq with
    | zero => exact absurd HA.out (by simp [spec_AlpineParse.j1])
    | succ kj13 =>
     have H := HA.out
     clear HA
     simp only [spec_AlpineParse.j1] at H
     replace H := Option.bind_eq_some_iff.mp H
     obtain ⟨⟨t383, t384⟩, A210, H⟩ := H
     replace H : (if (t384.size : Int) > 1 then (if 0 < (t384.size : Int) then (if (bt t384 0) = 126 then (if 1 < (t384.size : Int) then ((spec_alpHex.f (bt t384 1)).bind fun t387 => (spec_AlpineParse.j2 kj13 t384 t387 a0 (⟨#[]⟩ : ByteArray) x379002_13 (⟨#[]⟩ : ByteArray) false t379 t383 true false (⟨#[]⟩ : ByteArray))) else (none)) else (spec_AlpineParse.j2 kj13 t384 false a0 (⟨#[]⟩ : ByteArray) x379002_13 (⟨#[]⟩ : ByteArray) false t379 t383 true false (⟨#[]⟩ : ByteArray))) else (none)) else (spec_AlpineParse.j2 kj13 t384 false a0 (⟨#[]⟩ : ByteArray) x379002_13 (⟨#[]⟩ : ByteArray) false t379 t383 true false (⟨#[]⟩ : ByteArray))) = some (r1, r2, r3, r4, r5, r6, r7, r8, r9, r10, r11) := H
     have A21 := Aside0.mk A210
     clear A210
     have HC22 := Aside0.mk H
     clear H
     go_upto_region 6 with (((with_reducible refine gate_callee (f := 27) rfl ?_); refine goesL_ (some 34) rfl rfl Tryd.func27 (by kernel_rfl) rfl #[.string x0_13] rfl (by (try simp only [List.map_toArray, List.map_cons, List.map_nil]); first | done | rfl | (simp only [List.length_drop, List.length_take]; rfl)) ?_; (with_reducible refine (spec_alpReadSuffixes.calls kj13 x0_13 t383 t384 _ A21.out).mono ?_); rintro e w23 ⟨v385, rfl, ho0, hb⟩; refine ⟨_, rfl, ?_⟩; replace HO_379005 := Aside0.mk (Kd.R_below (by (with_reducible repeat (first | apply Kd.R_alloc | apply Kd.R_drewN | apply Kd.R_drew)); exact HO_379005.out) hb); have HO386 := Aside0.mk (Kd.R_lower ho0 (below_size (by (with_reducible exact HB.out)))); replace BK378 := Aside0.mk (blk_below BK378.out hb); replace HB := Aside0.mk (below_step (by (with_reducible exact HB.out)) hb); (try clear hb); (try clear hb2); (try clear hk); (try clear hi); (try clear ho0); obtain ⟨Ao24, co24, eo24⟩ := Kd.R_slice HO386.out; subst eo24; obtain ⟨hcz25_0, hcz25_1, hcz25_2, hcz25_3, hcz25_4, hcz25_5, hcz25_6, hcz25_7, hcz25_8, hcz25_9, hfz25_0, hfz25_1, hfz25_2, hfz25_3, hfz25_4, hfz25_5, hfz25_6, hfz25_7, hfz25_8, hfz25_9⟩ := cl10 BK378.out))
     (try simp only [Act.put, List.setIfInBounds_toArray, List.set_cons_zero, List.set_cons_succ])
     go_cut [50] (fun v50 wc => ∃ (kq : Nat) (x50_21 : Bool), v50 = .bool x50_21 ∧ Aside0 (spec_AlpineParse.j2 kq t384 x50_21 a0 (⟨#[]⟩ : ByteArray) x379002_13 (⟨#[]⟩ : ByteArray) false t379 t383 true false (⟨#[]⟩ : ByteArray) = some (r1, r2, r3, r4, r5, r6, r7, r8, r9, r10, r11)) ∧ Aside0 (kq ≤ kj13) ∧ Aside0 (Kd.R k54 54 wc w.heap.size (fun _ => True) (.slice Ao7 t379.length co7) t379) ∧ Aside0 (Kd.R k58 58 wc w.heap.size (fun _ => True) (.slice Ao24 t383.length co24) t383) ∧ Aside0 (wc.heap[gb378]? = some (.cells #[.string a0, .string ⟨#[]⟩, .string x379002_13, .string ⟨#[]⟩, .bool false, (.slice Ao7 t379.length co7), (.slice Ao24 t383.length co24), .bool true, .bool false, .string ⟨#[]⟩] 33 (0, 0))) ∧ Aside0 (Below w.heap.size w wc))
     case first =>
      have H := HC22.out
      clear HC22
      by_cases c26 : (t384.size : Int) > 1
      ·rw [if_pos c26] at H
       have c26b0 : decide (1 < (t384.size : Int)) = true := decide_eq_true c26
       have c26b1 : decide (1 < t384.size) = true := decide_eq_true (by omega)
       clear c26
       (first | rw [c26b0] | (simp only [i64_w, i32_w]; rw [c26b0]) | skip)
       by_cases c27 : 0 < (t384.size : Int)
       ·rw [if_pos c27] at H
        have c27b0 : decide (0 < (t384.size : Int)) = true := decide_eq_true c27
        have c27b1 : decide (0 < t384.size) = true := decide_eq_true (by omega)
        clear c27
        by_cases c29 : (bt t384 0) = 126
        ·rw [if_pos c29] at H
         have c29b0 : ((bt t384 0) == 126) = true := beq_iff_eq.mpr c29
         have c29b1 : ((bt t384 0) != 126) = false := bne_eq_false_iff_eq.mpr c29
         clear c29
         by_cases c30 : 1 < (t384.size : Int)
         ·rw [if_pos c30] at H
          have c30b0 : decide (1 < (t384.size : Int)) = true := decide_eq_true c30
          have c30b1 : decide (1 < t384.size) = true := decide_eq_true (by omega)
          clear c30
          replace H := Option.bind_eq_some_iff.mp H
          obtain ⟨t387, A320, H⟩ := H
          replace H : (spec_AlpineParse.j2 kj13 t384 t387 a0 (⟨#[]⟩ : ByteArray) x379002_13 (⟨#[]⟩ : ByteArray) false t379 t383 true false (⟨#[]⟩ : ByteArray)) = some (r1, r2, r3, r4, r5, r6, r7, r8, r9, r10, r11) := H
          have A32 := Aside0.mk A320
          clear A320
          have H' := Aside0.mk H
          clear H
          have p28 : 0 ≤ (0 : Int) := (by omega)
          have q28 : 0 < t384.size := (by have : (0 : Int) < (t384.size : Int) := of_decide_eq_true (by (with_reducible assumption)); omega)
          have hx28 : ∀ h : 0 < t384.size, ((t384[0]'h).toNat : Int) = bt t384 0 := bt_at t384 0
          clear p28
          have qi28 : (0 < (t384.size : Int)) = True := eq_true (of_decide_eq_true (by (with_reducible assumption)))
          replace q28 := eq_true q28
          have p31 : 0 ≤ (1 : Int) := (by omega)
          have q31 : 1 < t384.size := (by have : (1 : Int) < (t384.size : Int) := of_decide_eq_true (by (with_reducible assumption)); omega)
          have hx31 : ∀ h : 1 < t384.size, ((t384[1]'h).toNat : Int) = bt t384 1 := bt_at t384 1
          clear p31
          have qi31 : (1 < (t384.size : Int)) = True := eq_true (of_decide_eq_true (by (with_reducible assumption)))
          replace q31 := eq_true q31
          go_wp2_with ((go_at_call 32; (with_reducible refine (spec_alpHex.calls (bt t384 1) t387 _ A32.out).mono ?_); rintro e w' ⟨rfl, ⟨nd, rfl⟩⟩))
          go_meet
          case rel => exact ⟨_, (t387), (by rfl), (by exact H'), ⟨by have := HJ2.out; have := HJ13.out; first | omega | exact Nat.le_refl _⟩, ⟨by (with_reducible repeat (first | apply Kd.R_alloc | apply Kd.R_drewN | apply Kd.R_drew)); exact Kd.R_mono (farC (Kd.R_types HO_379005.out BK378.out (by decide))) (fun _ hk => trivial)⟩, ⟨by (with_reducible repeat (first | apply Kd.R_alloc | apply Kd.R_drewN | apply Kd.R_drew)); exact Kd.R_mono (farC (Kd.R_types HO386.out BK378.out (by decide))) (fun _ hk => trivial)⟩, ⟨by (with_reducible (refine blk_drewN ?_ _)); refine blk_put (cs := #[.string a0, .string ⟨#[]⟩, .string x379002_13, .string ⟨#[]⟩, .bool false, .slice Ao7 t379.length co7, .slice none 0 0, .bool true, .bool false, .string ⟨#[]⟩]) ?_ 6 _ rfl; exact BK378.out⟩, ⟨by (with_reducible apply pw_below_drewN; with_reducible refine below_set ?_ GE378.out; with_reducible exact HB.out)⟩⟩
         ·rw [if_neg c30] at H
          exact absurd H (by simp)
        ·rw [if_neg c29] at H
         have c29b0 : ((bt t384 0) == 126) = false := beq_eq_false_iff_ne.mpr c29
         have c29b1 : ((bt t384 0) != 126) = true := bne_iff_ne.mpr c29
         have H' := Aside0.mk H
         clear H
         have p28 : 0 ≤ (0 : Int) := (by omega)
         have q28 : 0 < t384.size := (by have : (0 : Int) < (t384.size : Int) := of_decide_eq_true (by (with_reducible assumption)); omega)
         have hx28 : ∀ h : 0 < t384.size, ((t384[0]'h).toNat : Int) = bt t384 0 := bt_at t384 0
         clear p28
         have qi28 : (0 < (t384.size : Int)) = True := eq_true (of_decide_eq_true (by (with_reducible assumption)))
         replace q28 := eq_true q28
         go_wp2
         go_meet
         case rel => exact ⟨_, (false), (by rfl), (by exact H'), ⟨by have := HJ2.out; have := HJ13.out; first | omega | exact Nat.le_refl _⟩, ⟨by (with_reducible repeat (first | apply Kd.R_alloc | apply Kd.R_drewN | apply Kd.R_drew)); exact Kd.R_mono (farC (Kd.R_types HO_379005.out BK378.out (by decide))) (fun _ hk => trivial)⟩, ⟨by (with_reducible repeat (first | apply Kd.R_alloc | apply Kd.R_drewN | apply Kd.R_drew)); exact Kd.R_mono (farC (Kd.R_types HO386.out BK378.out (by decide))) (fun _ hk => trivial)⟩, ⟨by refine blk_put (cs := #[.string a0, .string ⟨#[]⟩, .string x379002_13, .string ⟨#[]⟩, .bool false, .slice Ao7 t379.length co7, .slice none 0 0, .bool true, .bool false, .string ⟨#[]⟩]) ?_ 6 _ rfl; exact BK378.out⟩, ⟨by (with_reducible refine below_set ?_ GE378.out; with_reducible exact HB.out)⟩⟩
       ·rw [if_neg c27] at H
        exact absurd H (by simp)
      ·rw [if_neg c26] at H
       have c26b0 : decide (1 < (t384.size : Int)) = false := decide_eq_false c26
       have c26b1 : decide (1 < t384.size) = false := decide_eq_false (by omega)
       clear c26
       (first | rw [c26b0] | (simp only [i64_w, i32_w]; rw [c26b0]) | skip)
       have H' := Aside0.mk H
       clear H
       go_wp2
       go_meet
       case rel => exact ⟨_, (false), (by rfl), (by exact H'), ⟨by have := HJ2.out; have := HJ13.out; first | omega | exact Nat.le_refl _⟩, ⟨by (with_reducible repeat (first | apply Kd.R_alloc | apply Kd.R_drewN | apply Kd.R_drew)); exact Kd.R_mono (farC (Kd.R_types HO_379005.out BK378.out (by decide))) (fun _ hk => trivial)⟩, ⟨by (with_reducible repeat (first | apply Kd.R_alloc | apply Kd.R_drewN | apply Kd.R_drew)); exact Kd.R_mono (farC (Kd.R_types HO386.out BK378.out (by decide))) (fun _ hk => trivial)⟩, ⟨by refine blk_put (cs := #[.string a0, .string ⟨#[]⟩, .string x379002_13, .string ⟨#[]⟩, .bool false, .slice Ao7 t379.length co7, .slice none 0 0, .bool true, .bool false, .string ⟨#[]⟩]) ?_ 6 _ rfl; exact BK378.out⟩, ⟨by (with_reducible refine below_set ?_ GE378.out; with_reducible exact HB.out)⟩⟩
     case rest =>
      clear HC22
      clear hcz25_0 hcz25_1 hcz25_2 hcz25_3 hcz25_4 hcz25_5 hcz25_6 hcz25_7 hcz25_8 hcz25_9 hfz25_0 hfz25_1 hfz25_2 hfz25_3 hfz25_4 hfz25_5 hfz25_6 hfz25_7 hfz25_8 hfz25_9
      obtain ⟨kq, x50_21, rfl, HA, HJ21, HO_379005, HO_379006, BK378, HB⟩ := hcut
      cases kq with
      | zero => exact absurd HA.out (by simp [spec_AlpineParse.j2])
      | succ kj21 =>
       have H := HA.out
       clear HA
       simp only [spec_AlpineParse.j2] at H
       have HC33 := Aside0.mk H
       clear H
       go_upto_if 50 with (fail)
       go_cut [0, 50] (fun v0 v50 wc => ∃ (kq : Nat) (x0_32 : ByteArray) (x379003_32 : ByteArray), v0 = .string x0_32 ∧ Aside0 (spec_AlpineParse.j3 kq x0_32 a0 (⟨#[]⟩ : ByteArray) x379002_13 x379003_32 false t379 t383 true false (⟨#[]⟩ : ByteArray) = some (r1, r2, r3, r4, r5, r6, r7, r8, r9, r10, r11)) ∧ Aside0 (kq ≤ kj21) ∧ Aside0 (Kd.R k54 54 wc w.heap.size (fun _ => True) (.slice Ao7 t379.length co7) t379) ∧ Aside0 (Kd.R k58 58 wc w.heap.size (fun _ => True) (.slice Ao24 t383.length co24) t383) ∧ Aside0 (wc.heap[gb378]? = some (.cells #[.string a0, .string ⟨#[]⟩, .string x379002_13, .string x379003_32, .bool false, (.slice Ao7 t379.length co7), (.slice Ao24 t383.length co24), .bool true, .bool false, .string ⟨#[]⟩] 33 (0, 0))) ∧ Aside0 (Below w.heap.size w wc))
       case first =>
        have H := HC33.out
        clear HC33
        by_cases c34 : x50_21 = true
        ·subst c34
         have H1 : (if 1 ≤ (t384.size : Int) then ((E2.spec_alpRun.f kj21 (t384.extract 1 t384.size)).bind fun t388 => (if 0 ≤ (wrap64 (1 + t388)) then (if (wrap64 (1 + t388)) ≤ (t384.size : Int) then (spec_AlpineParse.j3 kj21 (t384.extract ((wrap64 (1 + t388)) : Int).toNat t384.size) a0 (⟨#[]⟩ : ByteArray) x379002_13 (t384.extract 0 ((wrap64 (1 + t388)) : Int).toNat) false t379 t383 true false (⟨#[]⟩ : ByteArray)) else (none)) else (none))) else (none)) = some (r1, r2, r3, r4, r5, r6, r7, r8, r9, r10, r11) := by rw [if_pos rfl] at H; exact H
         clear H
         have H := H1
         clear H1
         by_cases c35 : 1 ≤ (t384.size : Int)
         ·rw [if_pos c35] at H
          have c35b0 := eq_true c35
          have c35b1 : decide (1 ≤ (t384.size : Int)) = true := decide_eq_true c35
          clear c35
          replace H := Option.bind_eq_some_iff.mp H
          obtain ⟨t388, A360, H⟩ := H
          replace H : (if 0 ≤ (wrap64 (1 + t388)) then (if (wrap64 (1 + t388)) ≤ (t384.size : Int) then (spec_AlpineParse.j3 kj21 (t384.extract ((wrap64 (1 + t388)) : Int).toNat t384.size) a0 (⟨#[]⟩ : ByteArray) x379002_13 (t384.extract 0 ((wrap64 (1 + t388)) : Int).toNat) false t379 t383 true false (⟨#[]⟩ : ByteArray)) else (none)) else (none)) = some (r1, r2, r3, r4, r5, r6, r7, r8, r9, r10, r11) := H
          have A36 := Aside0.mk A360
          clear A360
          obtain ⟨ji37, hji37⟩ : ∃ j_ : Int, (wrap64 (1 + t388)) = j_ := ⟨_, rfl⟩
          replace H : (if 0 ≤ (ji37) then (if (ji37) ≤ (t384.size : Int) then (spec_AlpineParse.j3 kj21 (t384.extract ((ji37) : Int).toNat t384.size) a0 (⟨#[]⟩ : ByteArray) x379002_13 (t384.extract 0 ((ji37) : Int).toNat) false t379 t383 true false (⟨#[]⟩ : ByteArray)) else (none)) else (none)) = some (r1, r2, r3, r4, r5, r6, r7, r8, r9, r10, r11) := by (rw [hji37] at H; exact H)
          (try rw [hji37] at A36)
          have hji37w : (IntKind.i64.wrap (1 + t388)) = ji37 := (i64_w _).trans hji37
          by_cases c38 : 0 ≤ (ji37)
          ·rw [if_pos c38] at H
           have c38b0 := eq_true c38
           have c38b1 : decide (0 ≤ (ji37)) = true := decide_eq_true c38
           clear c38
           by_cases c39 : (ji37) ≤ (t384.size : Int)
           ·rw [if_pos c39] at H
            have c39b0 := eq_true c39
            have c39b1 : decide ((ji37) ≤ (t384.size : Int)) = true := decide_eq_true c39
            clear c39
            have c40b0 := eq_true (of_decide_eq_true (by (with_reducible assumption)) : 0 ≤ (ji37))
            have c41b0 := eq_true (of_decide_eq_true (by (with_reducible assumption)) : (ji37) ≤ (t384.size : Int))
            have H' := Aside0.mk H
            clear H
            try go_wp2_with (((with_reducible refine gate_callee (f := 33) rfl ?_); refine goesL_ (some 53) rfl rfl Tryd.func33 (by kernel_rfl) rfl #[.string (t384.extract 1 t384.size), .func (.func 32) #[] #[]] rfl (by (try simp only [List.map_toArray, List.map_cons, List.map_nil]); first | done | rfl | (simp only [List.length_drop, List.length_take]; rfl)) ?_; (with_reducible refine (E2.spec_alpRun.calls kj21 (t384.extract 1 t384.size) t388 _ A36.out).mono ?_); rintro e w' ⟨rfl, ⟨nd, rfl⟩⟩; refine ⟨_, rfl, ?_⟩; (try (rw [drewN_self wc]; generalize hq_ : World.drewN wc _ = wc; have n0_ : Aside0 (Kd.R k54 54 wc w.heap.size (fun _ => True) (.slice Ao7 t379.length co7) t379) := ⟨by rw [← hq_]; exact (by (with_reducible repeat (first | apply Kd.R_alloc | apply Kd.R_drewN | apply Kd.R_drew)); exact HO_379005.out)⟩; have n1_ : Aside0 (Kd.R k58 58 wc w.heap.size (fun _ => True) (.slice Ao24 t383.length co24) t383) := ⟨by rw [← hq_]; exact (by (with_reducible repeat (first | apply Kd.R_alloc | apply Kd.R_drewN | apply Kd.R_drew)); exact HO_379006.out)⟩; have n2_ : Aside0 (wc.heap[gb378]? = some (.cells #[.string a0, .string ⟨#[]⟩, .string x379002_13, .string ⟨#[]⟩, .bool false, .slice Ao7 t379.length co7, .slice Ao24 t383.length co24, .bool true, .bool false, .string ⟨#[]⟩] 33 (0, 0))) := ⟨by rw [← hq_]; exact (by (with_reducible (refine blk_drewN ?_ _)); exact BK378.out)⟩; have n3_ : Aside0 (Below w.heap.size w wc) := ⟨by rw [← hq_]; exact (by (with_reducible apply pw_below_drewN; with_reducible exact HB.out))⟩; clear HO_379005 HO_379006 BK378 HB hq_; have HO_379005 := n0_; have HO_379006 := n1_; have BK378 := n2_; have HB := n3_; clear n0_ n1_ n2_ n3_))))
            replace HO_379005 := Aside0.mk (Kd.R_drew HO_379005.out)
            replace HO_379006 := Aside0.mk (Kd.R_drew HO_379006.out)
            replace BK378 := Aside0.mk (blk_drew BK378.out)
            replace HB := Aside0.mk (below_drew1 HB.out)
            refine start_ (n := 9) (S := fun w' => True) (ds := []) #[false, false, false, false, false, false, false, false, false] (by kernel_rfl) rfl rfl trivial (fun hHeld => ?_); refine with_tabW spec_AlpineParse.tab8 spec_AlpineParse.bits8 (fun HT_ HW_ => ?_)
            generalize wc.drew = w42 at HO_379005 HO_379006 BK378 HB hHeld ⊢
            refine pure_ (i := 0) (N := some 55) (v := ?_) (a' := ?_) #[true, false, false, false, false, false, false, false, false] rfl rfl (any_of HT_.out (by kernel_rfl)) (fun _ _ _ h => h) (Or.inl ⟨by rfl, ?_⟩) ?_ ?_
            rotate_left
            ·intro w'
             go_simp
             with_reducible rfl
            rotate_left
            ·simp only [Act.put, List.setIfInBounds_toArray, List.set_cons_zero, List.set_cons_succ, i64_w, i32_w]
             rfl
            refine pure_ (i := 1) (N := some 56) (v := ?_) (a' := ?_) #[true, true, false, false, false, false, false, false, false] rfl rfl (any_of HT_.out (by kernel_rfl)) (fun _ _ _ h => h) (Or.inl ⟨by rfl, ?_⟩) ?_ ?_
            rotate_left
            ·intro w'
             go_simp
             with_reducible rfl
            rotate_left
            ·simp only [Act.put, List.setIfInBounds_toArray, List.set_cons_zero, List.set_cons_succ, i64_w, i32_w]
             rfl
            refine pure_ (i := 2) (N := some 57) (v := ?_) (a' := ?_) #[true, true, true, false, false, false, false, false, false] rfl rfl (any_of HT_.out (by kernel_rfl)) (fun _ _ _ h => h) (Or.inl ⟨by rfl, ?_⟩) ?_ ?_
            rotate_left
            ·intro w'
             go_simp
             with_reducible rfl
            rotate_left
            ·simp only [Act.put, List.setIfInBounds_toArray, List.set_cons_zero, List.set_cons_succ, i64_w, i32_w]
             rfl
            refine pure_ (i := 3) (N := some 58) (v := ?_) (a' := ?_) #[true, true, true, true, false, false, false, false, false] rfl rfl (any_of HT_.out (by kernel_rfl)) (fun _ _ _ h => h) (Or.inl ⟨by rfl, ?_⟩) ?_ ?_
            rotate_left
            ·intro w'
             go_simp
             with_reducible rfl
            rotate_left
            ·simp only [Act.put, List.setIfInBounds_toArray, List.set_cons_zero, List.set_cons_succ, i64_w, i32_w]
             rfl
            refine pure_ (i := 4) (N := some 59) (v := ?_) (a' := ?_) #[true, true, true, true, true, false, false, false, false] rfl rfl (any_of HT_.out (by kernel_rfl)) (fun _ _ _ h => h) (Or.inl ⟨by rfl, ?_⟩) ?_ ?_
            rotate_left
            ·intro w'
             go_simp
             with_reducible rfl
            rotate_left
            ·simp only [Act.put, List.setIfInBounds_toArray, List.set_cons_zero, List.set_cons_succ, i64_w, i32_w]
             rfl
            refine pure_ (i := 5) (N := some 60) (v := ?_) (a' := ?_) #[true, true, true, true, true, true, false, false, false] rfl rfl (any_of HT_.out (by kernel_rfl)) (fun _ _ _ h => h) (Or.inl ⟨by rfl, ?_⟩) ?_ ?_
            rotate_left
            ·intro w'
             go_simp
             with_reducible rfl
            rotate_left
            ·simp only [Act.put, List.setIfInBounds_toArray, List.set_cons_zero, List.set_cons_succ, i64_w, i32_w]
             rfl
            refine pure_ (i := 6) (N := some 61) (v := ?_) (a' := ?_) #[true, true, true, true, true, true, true, false, false] rfl rfl (any_of HT_.out (by kernel_rfl)) (fun _ _ _ h => h) (Or.inl ⟨by rfl, ?_⟩) ?_ ?_
            rotate_left
            ·intro w'
             go_simp
             with_reducible rfl
            rotate_left
            ·simp only [Act.put, List.setIfInBounds_toArray, List.set_cons_zero, List.set_cons_succ, i64_w, i32_w]
             rfl
            refine one_ (i := 7) (N := none) #[true, true, true, true, true, true, true, true, false] rfl rfl (one_of HT_.out (by kernel_rfl)) (by decide) (fun K hK => ?_)
            have hs43 : w42.cell? ⟨gb378, 3, none⟩ = some (.string ⟨#[]⟩) := (blk_cell BK378.out 3).trans rfl
            have hfs43 := blk_frozen BK378.out 3
            refine skip_ (w1 := ?_) (by rfl) rfl ?_ ?_
            rotate_left
            ·go_simp
             rfl
            refine hK.out _ _ trivial (fun hHeld => ?_)
            clear hK K
            refine pure_ (i := 8) (N := some 0) (v := ?_) (a' := ?_) #[true, true, true, true, true, true, true, true, true] rfl rfl (any_of HT_.out (by kernel_rfl)) (fun _ _ _ h => h) (Or.inl ⟨by rfl, ?_⟩) ?_ ?_
            rotate_left
            ·intro w'
             go_simp
             with_reducible rfl
            rotate_left
            ·simp only [Act.put, List.setIfInBounds_toArray, List.set_cons_zero, List.set_cons_succ, i64_w, i32_w]
             rfl
            refine done_ (done_of HT_.out (by kernel_rfl)) ?_
            try go_wp2
            go_meet
            case rel => exact ⟨_, (t384.extract ((ji37) : Int).toNat t384.size), (t384.extract 0 ((ji37) : Int).toNat), (by rfl), (by exact H'), ⟨by have := HJ2.out; have := HJ13.out; have := HJ21.out; first | omega | exact Nat.le_refl _⟩, ⟨by (with_reducible repeat (first | apply Kd.R_alloc | apply Kd.R_drewN | apply Kd.R_drew)); exact Kd.R_mono (farC (Kd.R_types HO_379005.out BK378.out (by decide))) (fun _ hk => trivial)⟩, ⟨by (with_reducible repeat (first | apply Kd.R_alloc | apply Kd.R_drewN | apply Kd.R_drew)); exact Kd.R_mono (farC (Kd.R_types HO_379006.out BK378.out (by decide))) (fun _ hk => trivial)⟩, ⟨by refine blk_put (cs := #[.string a0, .string ⟨#[]⟩, .string x379002_13, .string ⟨#[]⟩, .bool false, .slice Ao7 t379.length co7, .slice Ao24 t383.length co24, .bool true, .bool false, .string ⟨#[]⟩]) ?_ 3 _ rfl; exact BK378.out⟩, ⟨by (with_reducible refine below_set ?_ GE378.out; with_reducible exact HB.out)⟩⟩
           ·rw [if_neg c39] at H
            exact absurd H (by simp)
          ·rw [if_neg c38] at H
           exact absurd H (by simp)
         ·rw [if_neg c35] at H
          exact absurd H (by simp)
        ·replace c34 := Bool.eq_false_iff.mpr c34
         subst c34
         have H1 : (spec_AlpineParse.j3 kj21 t384 a0 (⟨#[]⟩ : ByteArray) x379002_13 (⟨#[]⟩ : ByteArray) false t379 t383 true false (⟨#[]⟩ : ByteArray)) = some (r1, r2, r3, r4, r5, r6, r7, r8, r9, r10, r11) := by rw [if_neg (show ¬ (false = true) by decide)] at H; exact H
         clear H
         have H := H1
         clear H1
         have H' := Aside0.mk H
         clear H
         go_wp2
         go_meet
         case rel => exact ⟨_, (t384), ((⟨#[]⟩ : ByteArray)), (by rfl), (by exact H'), ⟨by have := HJ2.out; have := HJ13.out; have := HJ21.out; first | omega | exact Nat.le_refl _⟩, ⟨by (with_reducible repeat (first | apply Kd.R_alloc | apply Kd.R_drewN | apply Kd.R_drew)); exact HO_379005.out⟩, ⟨by (with_reducible repeat (first | apply Kd.R_alloc | apply Kd.R_drewN | apply Kd.R_drew)); exact HO_379006.out⟩, ⟨by exact BK378.out⟩, ⟨by (with_reducible exact HB.out)⟩⟩
       case rest =>
        clear HC33
        obtain ⟨kq, x0_32, x379003_32, rfl, HA, HJ32, HO_379005, HO_379006, BK378, HB⟩ := hcut
        cases kq with
        | zero => exact absurd HA.out (by simp [spec_AlpineParse.j3])
        | succ kj32 =>
         have H := HA.out
         clear HA
         simp only [spec_AlpineParse.j3] at H
         have HC44 := Aside0.mk H
         clear H
         go_upto_region 9 with (fail)
         go_cut [62] (fun v62 wc => ∃ (kq : Nat) (x62_43 : Bool), v62 = .bool x62_43 ∧ Aside0 (spec_AlpineParse.j4 kq x0_32 x62_43 a0 (⟨#[]⟩ : ByteArray) x379002_13 x379003_32 false t379 t383 true false (⟨#[]⟩ : ByteArray) = some (r1, r2, r3, r4, r5, r6, r7, r8, r9, r10, r11)) ∧ Aside0 (kq ≤ kj32) ∧ Aside0 (Kd.R k54 54 wc w.heap.size (fun _ => True) (.slice Ao7 t379.length co7) t379) ∧ Aside0 (Kd.R k58 58 wc w.heap.size (fun _ => True) (.slice Ao24 t383.length co24) t383) ∧ Aside0 (wc.heap[gb378]? = some (.cells #[.string a0, .string ⟨#[]⟩, .string x379002_13, .string x379003_32, .bool false, (.slice Ao7 t379.length co7), (.slice Ao24 t383.length co24), .bool true, .bool false, .string ⟨#[]⟩] 33 (0, 0))) ∧ Aside0 (Below w.heap.size w wc))
         case first =>
          have H := HC44.out
          clear HC44
          by_cases c45 : (x0_32.size : Int) > 1
          ·rw [if_pos c45] at H
           have c45b0 : decide (1 < (x0_32.size : Int)) = true := decide_eq_true c45
           have c45b1 : decide (1 < x0_32.size) = true := decide_eq_true (by omega)
           clear c45
           (first | rw [c45b0] | (simp only [i64_w, i32_w]; rw [c45b0]) | skip)
           by_cases c46 : 0 ≤ 2
           ·rw [if_pos c46] at H
            have c46b0 := eq_true c46
            have c46b1 : decide (0 ≤ 2) = true := decide_eq_true c46
            clear c46
            by_cases c47 : 2 ≤ (x0_32.size : Int)
            ·rw [if_pos c47] at H
             have c47b0 := eq_true c47
             have c47b1 : decide (2 ≤ (x0_32.size : Int)) = true := decide_eq_true c47
             clear c47
             have H' := Aside0.mk H
             clear H
             go_wp2
             go_meet
             case rel => exact ⟨_, (((x0_32.extract 0 2).toList == ([45, 114] : List UInt8))), (by rfl), (by exact H'), ⟨by have := HJ2.out; have := HJ13.out; have := HJ21.out; have := HJ32.out; first | omega | exact Nat.le_refl _⟩, ⟨by (with_reducible repeat (first | apply Kd.R_alloc | apply Kd.R_drewN | apply Kd.R_drew)); exact HO_379005.out⟩, ⟨by (with_reducible repeat (first | apply Kd.R_alloc | apply Kd.R_drewN | apply Kd.R_drew)); exact HO_379006.out⟩, ⟨by exact BK378.out⟩, ⟨by (with_reducible exact HB.out)⟩⟩
            ·rw [if_neg c47] at H
             exact absurd H (by simp)
           ·rw [if_neg c46] at H
            exact absurd H (by simp)
          ·rw [if_neg c45] at H
           have c45b0 : decide (1 < (x0_32.size : Int)) = false := decide_eq_false c45
           have c45b1 : decide (1 < x0_32.size) = false := decide_eq_false (by omega)
           clear c45
           (first | rw [c45b0] | (simp only [i64_w, i32_w]; rw [c45b0]) | skip)
           have H' := Aside0.mk H
           clear H
           go_wp2
           go_meet
           case rel => exact ⟨_, (false), (by rfl), (by exact H'), ⟨by have := HJ2.out; have := HJ13.out; have := HJ21.out; have := HJ32.out; first | omega | exact Nat.le_refl _⟩, ⟨by (with_reducible repeat (first | apply Kd.R_alloc | apply Kd.R_drewN | apply Kd.R_drew)); exact HO_379005.out⟩, ⟨by (with_reducible repeat (first | apply Kd.R_alloc | apply Kd.R_drewN | apply Kd.R_drew)); exact HO_379006.out⟩, ⟨by exact BK378.out⟩, ⟨by (with_reducible exact HB.out)⟩⟩
         case rest =>
          clear HC44
          obtain ⟨kq, x62_43, rfl, HA, HJ43, HO_379005, HO_379006, BK378, HB⟩ := hcut
          cases kq with
          | zero => exact absurd HA.out (by simp [spec_AlpineParse.j4])
          | succ kj43 =>
           have H := HA.out
           clear HA
           simp only [spec_AlpineParse.j4] at H
           by_cases c48 : x62_43 = true
           ·subst c48
            have H1 : (if 2 ≤ (x0_32.size : Int) then ((E1.spec_alpRun.f kj43 (x0_32.extract 2 x0_32.size)).bind fun t389 => (if 2 ≤ (wrap64 (2 + t389)) then (if (wrap64 (2 + t389)) ≤ (x0_32.size : Int) then ((spec_intOf.f kj43 (x0_32.extract 2 ((wrap64 (2 + t389)) : Int).toNat)).bind fun bt390 => (if 0 ≤ (wrap64 (2 + t389)) then (some (a0, x0_32.extract ((wrap64 (2 + t389)) : Int).toNat x0_32.size, x379002_13, x379003_32, false, t379, t383, true, bt390.1, bt390.2, true)) else (none))) else (none)) else (none))) else (none)) = some (r1, r2, r3, r4, r5, r6, r7, r8, r9, r10, r11) := by rw [if_pos rfl] at H; exact H
            clear H
            have H := H1
            clear H1
            by_cases c49 : 2 ≤ (x0_32.size : Int)
            ·rw [if_pos c49] at H
             have c49b0 := eq_true c49
             have c49b1 : decide (2 ≤ (x0_32.size : Int)) = true := decide_eq_true c49
             clear c49
             replace H := Option.bind_eq_some_iff.mp H
             obtain ⟨t389, A500, H⟩ := H
             replace H : (if 2 ≤ (wrap64 (2 + t389)) then (if (wrap64 (2 + t389)) ≤ (x0_32.size : Int) then ((spec_intOf.f kj43 (x0_32.extract 2 ((wrap64 (2 + t389)) : Int).toNat)).bind fun bt390 => (if 0 ≤ (wrap64 (2 + t389)) then (some (a0, x0_32.extract ((wrap64 (2 + t389)) : Int).toNat x0_32.size, x379002_13, x379003_32, false, t379, t383, true, bt390.1, bt390.2, true)) else (none))) else (none)) else (none)) = some (r1, r2, r3, r4, r5, r6, r7, r8, r9, r10, r11) := H
             have A50 := Aside0.mk A500
             clear A500
             by_cases c51 : 2 ≤ (wrap64 (2 + t389))
             ·rw [if_pos c51] at H
              have c51b0 := eq_true c51
              have c51b1 : decide (2 ≤ (wrap64 (2 + t389))) = true := decide_eq_true c51
              by_cases c52 : (wrap64 (2 + t389)) ≤ (x0_32.size : Int)
              ·rw [if_pos c52] at H
               have c52b0 := eq_true c52
               have c52b1 : decide ((wrap64 (2 + t389)) ≤ (x0_32.size : Int)) = true := decide_eq_true c52
               replace H := Option.bind_eq_some_iff.mp H
               obtain ⟨⟨t390, t391⟩, A530, H⟩ := H
               replace H : (if 0 ≤ (wrap64 (2 + t389)) then (some (a0, x0_32.extract ((wrap64 (2 + t389)) : Int).toNat x0_32.size, x379002_13, x379003_32, false, t379, t383, true, t390, t391, true)) else (none)) = some (r1, r2, r3, r4, r5, r6, r7, r8, r9, r10, r11) := H
               have A53 := Aside0.mk A530
               clear A530
               obtain ⟨ji54, hji54⟩ : ∃ j_ : Int, (wrap64 (2 + t389)) = j_ := ⟨_, rfl⟩
               (try rw [hji54] at hji37)
               (try rw [hji54] at hji37w)
               replace H : (if 0 ≤ (ji54) then (some (a0, x0_32.extract ((ji54) : Int).toNat x0_32.size, x379002_13, x379003_32, false, t379, t383, true, t390, t391, true)) else (none)) = some (r1, r2, r3, r4, r5, r6, r7, r8, r9, r10, r11) := by (rw [hji54] at H; exact H)
               (try rw [hji54] at c51b0)
               (try rw [hji54] at c51b1)
               (try rw [hji54] at c51)
               (try rw [hji54] at c52b0)
               (try rw [hji54] at c52b1)
               (try rw [hji54] at c52)
               (try rw [hji54] at A50)
               (try rw [hji54] at A53)
               have hji54w : (IntKind.i64.wrap (2 + t389)) = ji54 := (i64_w _).trans hji54
               by_cases c55 : 0 ≤ (ji54)
               ·rw [if_pos c55] at H
                have c55b0 := eq_true c55
                have c55b1 : decide (0 ≤ (ji54)) = true := decide_eq_true c55
                clear c55
                have c56b0 := eq_true (of_decide_eq_true (by (with_reducible assumption)) : (ji54) ≤ (x0_32.size : Int))
                simp only [Option.some.injEq, Prod.mk.injEq] at H
                obtain ⟨rfl, rfl, rfl, rfl, rfl, rfl, rfl, rfl, rfl, rfl, rfl⟩ := H
                try go_wp2_with (((with_reducible refine gate_callee (f := 33) rfl ?_); refine goesL_ (some 73) rfl rfl Tryd.func33 (by kernel_rfl) rfl #[.string (x0_32.extract 2 x0_32.size), .func (.func 34) #[] #[]] rfl (by (try simp only [List.map_toArray, List.map_cons, List.map_nil]); first | done | rfl | (simp only [List.length_drop, List.length_take]; rfl)) ?_; (with_reducible refine (E1.spec_alpRun.calls kj43 (x0_32.extract 2 x0_32.size) t389 _ A50.out).mono ?_); rintro e w' ⟨rfl, ⟨nd, rfl⟩⟩; refine ⟨_, rfl, ?_⟩; (try (rw [drewN_self wc]; generalize hq_ : World.drewN wc _ = wc; have n0_ : Aside0 (Kd.R k54 54 wc w.heap.size (fun _ => True) (.slice Ao7 t379.length co7) t379) := ⟨by rw [← hq_]; exact (by (with_reducible repeat (first | apply Kd.R_alloc | apply Kd.R_drewN | apply Kd.R_drew)); exact HO_379005.out)⟩; have n1_ : Aside0 (Kd.R k58 58 wc w.heap.size (fun _ => True) (.slice Ao24 t383.length co24) t383) := ⟨by rw [← hq_]; exact (by (with_reducible repeat (first | apply Kd.R_alloc | apply Kd.R_drewN | apply Kd.R_drew)); exact HO_379006.out)⟩; have n2_ : Aside0 (wc.heap[gb378]? = some (.cells #[.string a0, .string ⟨#[]⟩, .string x379002_13, .string x379003_32, .bool false, .slice Ao7 t379.length co7, .slice Ao24 t383.length co24, .bool true, .bool false, .string ⟨#[]⟩] 33 (0, 0))) := ⟨by rw [← hq_]; exact (by (with_reducible (refine blk_drewN ?_ _)); exact BK378.out)⟩; have n3_ : Aside0 (Below w.heap.size w wc) := ⟨by rw [← hq_]; exact (by (with_reducible apply pw_below_drewN; with_reducible exact HB.out))⟩; clear HO_379005 HO_379006 BK378 HB hq_; have HO_379005 := n0_; have HO_379006 := n1_; have BK378 := n2_; have HB := n3_; clear n0_ n1_ n2_ n3_))))
                replace HO_379005 := Aside0.mk (Kd.R_drew HO_379005.out)
                replace HO_379006 := Aside0.mk (Kd.R_drew HO_379006.out)
                replace BK378 := Aside0.mk (blk_drew BK378.out)
                replace HB := Aside0.mk (below_drew1 HB.out)
                refine start_ (n := 13) (S := fun w' => True) (ds := []) #[false, false, false, false, false, false, false, false, false, false, false, false, false] (by kernel_rfl) rfl rfl trivial (fun hHeld => ?_); refine with_tabW spec_AlpineParse.tab11 spec_AlpineParse.bits11 (fun HT_ HW_ => ?_)
                generalize wc.drew = w57 at HO_379005 HO_379006 BK378 HB hHeld ⊢
                refine pure_ (i := 0) (N := some 74) (v := ?_) (a' := ?_) #[true, false, false, false, false, false, false, false, false, false, false, false, false] rfl rfl (any_of HT_.out (by kernel_rfl)) (fun _ _ _ h => h) (Or.inl ⟨by rfl, ?_⟩) ?_ ?_
                rotate_left
                ·intro w'
                 go_simp
                 with_reducible rfl
                rotate_left
                ·simp only [Act.put, List.setIfInBounds_toArray, List.set_cons_zero, List.set_cons_succ, i64_w, i32_w]
                 rfl
                refine pure_ (i := 1) (N := some 75) (v := ?_) (a' := ?_) #[true, true, false, false, false, false, false, false, false, false, false, false, false] rfl rfl (any_of HT_.out (by kernel_rfl)) (fun _ _ _ h => h) (Or.inl ⟨by rfl, ?_⟩) ?_ ?_
                rotate_left
                ·intro w'
                 go_simp
                 with_reducible rfl
                rotate_left
                ·simp only [Act.put, List.setIfInBounds_toArray, List.set_cons_zero, List.set_cons_succ, i64_w, i32_w]
                 rfl
                refine pure_ (i := 2) (N := some 76) (v := ?_) (a' := ?_) #[true, true, true, false, false, false, false, false, false, false, false, false, false] rfl rfl (any_of HT_.out (by kernel_rfl)) (fun _ _ _ h => h) (Or.inl ⟨by rfl, ?_⟩) ?_ ?_
                rotate_left
                ·intro w'
                 go_simp
                 with_reducible rfl
                rotate_left
                ·simp only [Act.put, List.setIfInBounds_toArray, List.set_cons_zero, List.set_cons_succ, i64_w, i32_w]
                 rfl
                refine pure_ (i := 3) (N := some 77) (v := ?_) (a' := ?_) #[true, true, true, true, false, false, false, false, false, false, false, false, false] rfl rfl (any_of HT_.out (by kernel_rfl)) (fun _ _ _ h => h) (Or.inl ⟨by rfl, ?_⟩) ?_ ?_
                rotate_left
                ·intro w'
                 go_simp
                 with_reducible rfl
                rotate_left
                ·simp only [Act.put, List.setIfInBounds_toArray, List.set_cons_zero, List.set_cons_succ, i64_w, i32_w]
                 rfl
                refine pure_ (i := 5) (N := some 79) (v := ?_) (a' := ?_) #[true, true, true, true, false, true, false, false, false, false, false, false, false] rfl rfl (any_of HT_.out (by kernel_rfl)) (fun _ _ _ h => h) (Or.inl ⟨by rfl, ?_⟩) ?_ ?_
                rotate_left
                ·intro w'
                 go_simp
                 with_reducible rfl
                rotate_left
                ·simp only [Act.put, List.setIfInBounds_toArray, List.set_cons_zero, List.set_cons_succ, i64_w, i32_w]
                 rfl
                refine pure_ (i := 6) (N := some 80) (v := ?_) (a' := ?_) #[true, true, true, true, false, true, true, false, false, false, false, false, false] rfl rfl (any_of HT_.out (by kernel_rfl)) (fun _ _ _ h => h) (Or.inl ⟨by rfl, ?_⟩) ?_ ?_
                rotate_left
                ·intro w'
                 go_simp
                 with_reducible rfl
                rotate_left
                ·simp only [Act.put, List.setIfInBounds_toArray, List.set_cons_zero, List.set_cons_succ, i64_w, i32_w]
                 rfl
                refine pure_ (i := 7) (N := some 81) (v := ?_) (a' := ?_) #[true, true, true, true, false, true, true, true, false, false, false, false, false] rfl rfl (any_of HT_.out (by kernel_rfl)) (fun _ _ _ h => h) (Or.inl ⟨by rfl, ?_⟩) ?_ ?_
                rotate_left
                ·intro w'
                 go_simp
                 with_reducible rfl
                rotate_left
                ·simp only [Act.put, List.setIfInBounds_toArray, List.set_cons_zero, List.set_cons_succ, i64_w, i32_w]
                 rfl
                refine pure_ (i := 8) (N := some 82) (v := ?_) (a' := ?_) #[true, true, true, true, false, true, true, true, true, false, false, false, false] rfl rfl (any_of HT_.out (by kernel_rfl)) (fun _ _ _ h => h) (Or.inl ⟨by rfl, ?_⟩) ?_ ?_
                rotate_left
                ·intro w'
                 go_simp
                 with_reducible rfl
                rotate_left
                ·simp only [Act.put, List.setIfInBounds_toArray, List.set_cons_zero, List.set_cons_succ, i64_w, i32_w]
                 rfl
                refine one_ (i := 4) (N := some 78) #[true, true, true, true, true, true, true, true, true, false, false, false, false] rfl rfl (one_of HT_.out (by kernel_rfl)) (by decide) (fun K hK => ?_)
                refine goes_ Tryd.func35 (by kernel_rfl) rfl #[.string (x0_32.extract 2 ((ji54) : Int).toNat)] (by rfl) rfl rfl (by (try simp only [List.map_toArray, List.map_cons, List.map_nil]); first | done | (simp only [hji54]; rfl) | rfl | (simp only [List.length_drop, List.length_take]; rfl)) ?_
                with_reducible refine (spec_intOf.calls kj43 (x0_32.extract 2 ((ji54) : Int).toNat) t390 t391 _ A53.out).mono ?_
                rintro e w58 ⟨rfl, hb⟩
                refine ⟨_, rfl, ?_⟩
                replace HO_379005 := Aside0.mk (Kd.R_below (by (with_reducible repeat (first | apply Kd.R_alloc | apply Kd.R_drewN | apply Kd.R_drew)); exact HO_379005.out) hb)
                replace HO_379006 := Aside0.mk (Kd.R_below (by (with_reducible repeat (first | apply Kd.R_alloc | apply Kd.R_drewN | apply Kd.R_drew)); exact HO_379006.out) hb)
                replace BK378 := Aside0.mk (blk_below BK378.out hb)
                replace HB := Aside0.mk (below_step (by (with_reducible exact HB.out)) hb)
                (try clear hb)
                (try clear hb2)
                (try clear hk)
                (try clear hi)
                refine hK.out _ _ trivial (fun hHeld => ?_)
                clear hK K
                refine norm_ (a' := ?_) ?_ ?_
                rotate_left
                ·show Act.put _ (some 78) _ = _
                 simp only [Act.put, List.setIfInBounds_toArray, List.set_cons_zero, List.set_cons_succ, i64_w, i32_w]
                 rfl
                refine pure_ (i := 9) (N := some 83) (v := ?_) (a' := ?_) #[true, true, true, true, true, true, true, true, true, true, false, false, false] rfl rfl (any_of HT_.out (by kernel_rfl)) (fun _ _ _ h => h) (Or.inl ⟨by rfl, ?_⟩) ?_ ?_
                rotate_left
                ·intro w'
                 go_simp
                 with_reducible rfl
                rotate_left
                ·simp only [Act.put, List.setIfInBounds_toArray, List.set_cons_zero, List.set_cons_succ, i64_w, i32_w]
                 rfl
                refine one_ (i := 10) (N := none) #[true, true, true, true, true, true, true, true, true, true, true, false, false] rfl rfl (one_of HT_.out (by kernel_rfl)) (by decide) (fun K hK => ?_)
                have hs59 : w58.cell? ⟨gb378, 8, none⟩ = some (.bool false) := (blk_cell BK378.out 8).trans rfl
                have hfs59 := blk_frozen BK378.out 8
                have hs60 : w58.cell? ⟨gb378, 9, none⟩ = some (.string ⟨#[]⟩) := (blk_cell BK378.out 9).trans rfl
                have hfs60 := blk_frozen BK378.out 9
                refine skip_ (w1 := ?_) (by rfl) rfl ?_ ?_
                rotate_left
                ·go_simp
                 rfl
                refine hK.out _ _ trivial (fun hHeld => ?_)
                clear hK K
                refine pure_ (i := 11) (N := some 84) (v := ?_) (a' := ?_) #[true, true, true, true, true, true, true, true, true, true, true, true, false] rfl rfl (any_of HT_.out (by kernel_rfl)) (fun _ _ _ h => h) (Or.inl ⟨by rfl, ?_⟩) ?_ ?_
                rotate_left
                ·intro w'
                 go_simp
                 with_reducible rfl
                rotate_left
                ·simp only [Act.put, List.setIfInBounds_toArray, List.set_cons_zero, List.set_cons_succ, i64_w, i32_w]
                 rfl
                refine one_ (i := 12) (N := none) #[true, true, true, true, true, true, true, true, true, true, true, true, true] rfl rfl (one_of HT_.out (by kernel_rfl)) (by decide) (fun K hK => ?_)
                have hs61 : w58.cell? ⟨gb378, 1, none⟩ = some (.string ⟨#[]⟩) := (blk_cell BK378.out 1).trans rfl
                have hfs61 := blk_frozen BK378.out 1
                refine skip_ (w1 := ?_) (by rfl) rfl ?_ ?_
                rotate_left
                ·go_simp
                 rfl
                refine hK.out _ _ trivial (fun hHeld => ?_)
                clear hK K
                refine done_ (done_of HT_.out (by kernel_rfl)) ?_
                obtain ⟨hcz62_0, hcz62_1, hcz62_2, hcz62_3, hcz62_4, hcz62_5, hcz62_6, hcz62_7, hcz62_8, hcz62_9, hfz62_0, hfz62_1, hfz62_2, hfz62_3, hfz62_4, hfz62_5, hfz62_6, hfz62_7, hfz62_8, hfz62_9⟩ := cl10 BK378.out
                try go_wp2
                refine bodyPost_ret (results_ct rfl _ _ gb378 33 #[.string a0, .string (x0_32.extract ((ji54) : Int).toNat x0_32.size), .string x379002_13, .string x379003_32, .bool false, .slice Ao7 t379.length co7, .slice Ao24 t383.length co24, .bool true, .bool t390, .string t391] (0, 0) _ rfl (by refine blk_put (cs := #[.string a0, .string (x0_32.extract ((ji54) : Int).toNat x0_32.size), .string x379002_13, .string x379003_32, .bool false, .slice Ao7 t379.length co7, .slice Ao24 t383.length co24, .bool true, .bool t390, .string t391]) ?_ 9 _ rfl; refine blk_put (cs := #[.string a0, .string (x0_32.extract ((ji54) : Int).toNat x0_32.size), .string x379002_13, .string x379003_32, .bool false, .slice Ao7 t379.length co7, .slice Ao24 t383.length co24, .bool true, .bool t390, .string t391]) ?_ 8 _ rfl; refine blk_put (cs := #[.string a0, .string (x0_32.extract ((ji54) : Int).toNat x0_32.size), .string x379002_13, .string x379003_32, .bool false, .slice Ao7 t379.length co7, .slice Ao24 t383.length co24, .bool true, .bool t390, .string t391]) ?_ 7 _ rfl; refine blk_put (cs := #[.string a0, .string (x0_32.extract ((ji54) : Int).toNat x0_32.size), .string x379002_13, .string x379003_32, .bool false, .slice Ao7 t379.length co7, .slice Ao24 t383.length co24, .bool true, .bool t390, .string t391]) ?_ 6 _ rfl; refine blk_put (cs := #[.string a0, .string (x0_32.extract ((ji54) : Int).toNat x0_32.size), .string x379002_13, .string x379003_32, .bool false, .slice Ao7 t379.length co7, .slice Ao24 t383.length co24, .bool true, .bool t390, .string t391]) ?_ 5 _ rfl; refine blk_put (cs := #[.string a0, .string (x0_32.extract ((ji54) : Int).toNat x0_32.size), .string x379002_13, .string x379003_32, .bool false, .slice Ao7 t379.length co7, .slice Ao24 t383.length co24, .bool true, .bool t390, .string t391]) ?_ 4 _ rfl; refine blk_put (cs := #[.string a0, .string (x0_32.extract ((ji54) : Int).toNat x0_32.size), .string x379002_13, .string x379003_32, .bool false, .slice Ao7 t379.length co7, .slice Ao24 t383.length co24, .bool true, .bool t390, .string t391]) ?_ 3 _ rfl; refine blk_put (cs := #[.string a0, .string (x0_32.extract ((ji54) : Int).toNat x0_32.size), .string x379002_13, .string x379003_32, .bool false, .slice Ao7 t379.length co7, .slice Ao24 t383.length co24, .bool true, .bool t390, .string t391]) ?_ 2 _ rfl; refine blk_put (cs := #[.string a0, .string (x0_32.extract ((ji54) : Int).toNat x0_32.size), .string x379002_13, .string x379003_32, .bool false, .slice Ao7 t379.length co7, .slice Ao24 t383.length co24, .bool true, .bool t390, .string t391]) ?_ 1 _ rfl; refine blk_put (cs := #[.string a0, .string (x0_32.extract ((ji54) : Int).toNat x0_32.size), .string x379002_13, .string x379003_32, .bool false, .slice Ao7 t379.length co7, .slice Ao24 t383.length co24, .bool true, .bool t390, .string t391]) ?_ 0 _ rfl; refine blk_put (cs := #[.string a0, .string ⟨#[]⟩, .string x379002_13, .string x379003_32, .bool false, .slice Ao7 t379.length co7, .slice Ao24 t383.length co24, .bool true, .bool t390, .string t391]) ?_ 1 _ rfl; refine blk_put (cs := #[.string a0, .string ⟨#[]⟩, .string x379002_13, .string x379003_32, .bool false, .slice Ao7 t379.length co7, .slice Ao24 t383.length co24, .bool true, .bool t390, .string ⟨#[]⟩]) ?_ 9 _ rfl; refine blk_put (cs := #[.string a0, .string ⟨#[]⟩, .string x379002_13, .string x379003_32, .bool false, .slice Ao7 t379.length co7, .slice Ao24 t383.length co24, .bool true, .bool false, .string ⟨#[]⟩]) ?_ 8 _ rfl; exact BK378.out) Tryd.underlying33 rfl (by kernel_rfl)) rfl ?_
                exact ⟨_, _, by rfl, by (with_reducible repeat (first | apply Kd.R_alloc | apply Kd.R_drewN | apply Kd.R_drew)); exact Kd.R_mono (farC (farC (farC (farC (farC (farC (farC (farC (farC (farC (farC (farC (farC (Kd.R_types HO_379005.out BK378.out (by decide))))))))))))))) (fun _ hk => trivial), by (with_reducible repeat (first | apply Kd.R_alloc | apply Kd.R_drewN | apply Kd.R_drew)); exact Kd.R_mono (farC (farC (farC (farC (farC (farC (farC (farC (farC (farC (farC (farC (farC (Kd.R_types HO_379006.out BK378.out (by decide))))))))))))))) (fun _ hk => trivial), by repeat (first | (with_reducible first | exact HB.out | apply below_alloc | apply pw_below_drewN | apply below_drew1 | refine below_set ?_ GE378.out) | exact HB.out)⟩
               ·rw [if_neg c55] at H
                exact absurd H (by simp)
              ·rw [if_neg c52] at H
               exact absurd H (by simp)
             ·rw [if_neg c51] at H
              exact absurd H (by simp)
            ·rw [if_neg c49] at H
             exact absurd H (by simp)
           ·replace c48 := Bool.eq_false_iff.mpr c48
            subst c48
            have H1 : (if x0_32.toList = ([] : List UInt8) then (some (a0, (⟨#[]⟩ : ByteArray), x379002_13, x379003_32, false, t379, t383, true, false, (⟨#[]⟩ : ByteArray), true)) else (some (a0, x0_32, x379002_13, x379003_32, true, t379, t383, true, false, (⟨#[]⟩ : ByteArray), true))) = some (r1, r2, r3, r4, r5, r6, r7, r8, r9, r10, r11) := by rw [if_neg (show ¬ (false = true) by decide)] at H; exact H
            clear H
            have H := H1
            clear H1
            by_cases c63 : x0_32.toList = ([] : List UInt8)
            ·rw [if_pos c63] at H
             have c63b0 : (x0_32.toList == ([] : List UInt8)) = true := beq_iff_eq.mpr c63
             have c63b1 : (x0_32.toList != ([] : List UInt8)) = false := bne_eq_false_iff_eq.mpr c63
             try have c63b9 : x0_32.toList.isEmpty = true := by simpa using c63b0
             clear c63
             simp only [Option.some.injEq, Prod.mk.injEq] at H
             obtain ⟨rfl, rfl, rfl, rfl, rfl, rfl, rfl, rfl, rfl, rfl, rfl⟩ := H
             obtain ⟨hcz64_0, hcz64_1, hcz64_2, hcz64_3, hcz64_4, hcz64_5, hcz64_6, hcz64_7, hcz64_8, hcz64_9, hfz64_0, hfz64_1, hfz64_2, hfz64_3, hfz64_4, hfz64_5, hfz64_6, hfz64_7, hfz64_8, hfz64_9⟩ := cl10 BK378.out
             go_wp2
             refine bodyPost_ret (results_ct rfl _ _ gb378 33 #[.string a0, .string ⟨#[]⟩, .string x379002_13, .string x379003_32, .bool false, .slice Ao7 t379.length co7, .slice Ao24 t383.length co24, .bool true, .bool false, .string ⟨#[]⟩] (0, 0) _ rfl (by exact put10 BK378.out) Tryd.underlying33 rfl (by kernel_rfl)) rfl ?_
             exact ⟨_, _, by rfl, by (with_reducible repeat (first | apply Kd.R_alloc | apply Kd.R_drewN | apply Kd.R_drew)); exact Kd.R_mono (farC (farC (farC (farC (farC (farC (farC (farC (farC (farC (Kd.R_types HO_379005.out BK378.out (by decide)))))))))))) (fun _ hk => trivial), by (with_reducible repeat (first | apply Kd.R_alloc | apply Kd.R_drewN | apply Kd.R_drew)); exact Kd.R_mono (farC (farC (farC (farC (farC (farC (farC (farC (farC (farC (Kd.R_types HO_379006.out BK378.out (by decide)))))))))))) (fun _ hk => trivial), by repeat (first | (with_reducible first | exact HB.out | apply below_alloc | apply pw_below_drewN | apply below_drew1 | refine below_set ?_ GE378.out) | exact HB.out)⟩
            ·rw [if_neg c63] at H
             have c63b0 : (x0_32.toList == ([] : List UInt8)) = false := beq_eq_false_iff_ne.mpr c63
             have c63b1 : (x0_32.toList != ([] : List UInt8)) = true := bne_iff_ne.mpr c63
             try have c63b9 : x0_32.toList.isEmpty = false := by simpa using c63b0
             simp only [Option.some.injEq, Prod.mk.injEq] at H
             obtain ⟨rfl, rfl, rfl, rfl, rfl, rfl, rfl, rfl, rfl, rfl, rfl⟩ := H
             obtain ⟨hcz65_0, hcz65_1, hcz65_2, hcz65_3, hcz65_4, hcz65_5, hcz65_6, hcz65_7, hcz65_8, hcz65_9, hfz65_0, hfz65_1, hfz65_2, hfz65_3, hfz65_4, hfz65_5, hfz65_6, hfz65_7, hfz65_8, hfz65_9⟩ := cl10 BK378.out
             go_wp2
             refine bodyPost_ret (results_ct rfl _ _ gb378 33 #[.string a0, .string x0_32, .string x379002_13, .string x379003_32, .bool true, .slice Ao7 t379.length co7, .slice Ao24 t383.length co24, .bool true, .bool false, .string ⟨#[]⟩] (0, 0) _ rfl (by refine blk_put (cs := #[.string a0, .string x0_32, .string x379002_13, .string x379003_32, .bool true, .slice Ao7 t379.length co7, .slice Ao24 t383.length co24, .bool true, .bool false, .string ⟨#[]⟩]) ?_ 9 _ rfl; refine blk_put (cs := #[.string a0, .string x0_32, .string x379002_13, .string x379003_32, .bool true, .slice Ao7 t379.length co7, .slice Ao24 t383.length co24, .bool true, .bool false, .string ⟨#[]⟩]) ?_ 8 _ rfl; refine blk_put (cs := #[.string a0, .string x0_32, .string x379002_13, .string x379003_32, .bool true, .slice Ao7 t379.length co7, .slice Ao24 t383.length co24, .bool true, .bool false, .string ⟨#[]⟩]) ?_ 7 _ rfl; refine blk_put (cs := #[.string a0, .string x0_32, .string x379002_13, .string x379003_32, .bool true, .slice Ao7 t379.length co7, .slice Ao24 t383.length co24, .bool true, .bool false, .string ⟨#[]⟩]) ?_ 6 _ rfl; refine blk_put (cs := #[.string a0, .string x0_32, .string x379002_13, .string x379003_32, .bool true, .slice Ao7 t379.length co7, .slice Ao24 t383.length co24, .bool true, .bool false, .string ⟨#[]⟩]) ?_ 5 _ rfl; refine blk_put (cs := #[.string a0, .string x0_32, .string x379002_13, .string x379003_32, .bool true, .slice Ao7 t379.length co7, .slice Ao24 t383.length co24, .bool true, .bool false, .string ⟨#[]⟩]) ?_ 4 _ rfl; refine blk_put (cs := #[.string a0, .string x0_32, .string x379002_13, .string x379003_32, .bool true, .slice Ao7 t379.length co7, .slice Ao24 t383.length co24, .bool true, .bool false, .string ⟨#[]⟩]) ?_ 3 _ rfl; refine blk_put (cs := #[.string a0, .string x0_32, .string x379002_13, .string x379003_32, .bool true, .slice Ao7 t379.length co7, .slice Ao24 t383.length co24, .bool true, .bool false, .string ⟨#[]⟩]) ?_ 2 _ rfl; refine blk_put (cs := #[.string a0, .string x0_32, .string x379002_13, .string x379003_32, .bool true, .slice Ao7 t379.length co7, .slice Ao24 t383.length co24, .bool true, .bool false, .string ⟨#[]⟩]) ?_ 1 _ rfl; refine blk_put (cs := #[.string a0, .string x0_32, .string x379002_13, .string x379003_32, .bool true, .slice Ao7 t379.length co7, .slice Ao24 t383.length co24, .bool true, .bool false, .string ⟨#[]⟩]) ?_ 0 _ rfl; refine blk_put (cs := #[.string a0, .string ⟨#[]⟩, .string x379002_13, .string x379003_32, .bool true, .slice Ao7 t379.length co7, .slice Ao24 t383.length co24, .bool true, .bool false, .string ⟨#[]⟩]) ?_ 1 _ rfl; refine blk_put (cs := #[.string a0, .string ⟨#[]⟩, .string x379002_13, .string x379003_32, .bool false, .slice Ao7 t379.length co7, .slice Ao24 t383.length co24, .bool true, .bool false, .string ⟨#[]⟩]) ?_ 4 _ rfl; exact BK378.out) Tryd.underlying33 rfl (by kernel_rfl)) rfl ?_
             exact ⟨_, _, by rfl, by (with_reducible repeat (first | apply Kd.R_alloc | apply Kd.R_drewN | apply Kd.R_drew)); exact Kd.R_mono (farC (farC (farC (farC (farC (farC (farC (farC (farC (farC (farC (farC (Kd.R_types HO_379005.out BK378.out (by decide)))))))))))))) (fun _ hk => trivial), by (with_reducible repeat (first | apply Kd.R_alloc | apply Kd.R_drewN | apply Kd.R_drew)); exact Kd.R_mono (farC (farC (farC (farC (farC (farC (farC (farC (farC (farC (farC (farC (Kd.R_types HO_379006.out BK378.out (by decide)))))))))))))) (fun _ hk => trivial), by repeat (first | (with_reducible first | exact HB.out | apply below_alloc | apply pw_below_drewN | apply below_drew1 | refine below_set ?_ GE378.out) | exact HB.out)⟩
end Go.Proofs.YtapaijpglfmfgaaDoor.Q
end
section -- Qx1
namespace Go.Proofs.YtapaijpglfmfgaaDoor.Q
open Go.RowKit Go.Proofs.YtapaijpglfmfgaaDoorH Go.Proofs.YtapaijpglfmfgaaDoorG Go.Proofs.YtapaijpglfmfgaaDoorW.PrintWords Go.Proofs.YtapaijpglfmfgaaDoorW.PrintLast Go.Proofs.YtapaijpglfmfgaaDoorW.PrintMore
attribute [local go_sem] max2_int min2_int max_two min_two max_three min_three max_four min_four
set_option linter.unusedVariables false
set_option linter.unusedSimpArgs false
theorem eqA31 (d : Nat) (w : World) (x0 y0 : Bool) (x1 y1 : ByteArray) :
  (Op.equalIn (d + 2) 31 (.agg #[.bool x0, .string x1]) (.agg #[.bool y0, .string y1])).run Tryd.prog w = .ok (x0 == y0 && (x1.toList == y1.toList)) w := by
 refine eqA_of Tryd.underlying31 (by kernel_rfl) ?_
 refine eqf_cons (by rfl) (by go_simp; rfl) (by go_simp; rfl) (by go_simp) ?_
 exact eqf_last (by rfl) (by go_simp; rfl) (by go_simp; rfl) (by go_simp)
end Go.Proofs.YtapaijpglfmfgaaDoor.Q
end
section -- Qx2
namespace Go.Proofs.YtapaijpglfmfgaaDoor.Q
open Go.RowKit Go.Proofs.YtapaijpglfmfgaaDoorH Go.Proofs.YtapaijpglfmfgaaDoorG Go.Proofs.YtapaijpglfmfgaaDoorW.PrintWords Go.Proofs.YtapaijpglfmfgaaDoorW.PrintLast Go.Proofs.YtapaijpglfmfgaaDoorW.PrintMore
attribute [local go_sem] max2_int min2_int max_two min_two max_three min_three max_four min_four
set_option linter.unusedVariables false
set_option linter.unusedSimpArgs false
theorem eqA54 (d : Nat) (w : World) (x0 y0 : ByteArray) (x1 y1 : Bool) (x2 y2 : ByteArray) (x3 y3 : Int) :
  (Op.equalIn (d + 3) 54 (.agg #[.string x0, .bool x1, .string x2, .int .i64 x3]) (.agg #[.string y0, .bool y1, .string y2, .int .i64 y3])).run Tryd.prog w = .ok (x0.toList == y0.toList && ((x1 == y1 && (x2.toList == y2.toList)) && (x3 == y3))) w := by
 refine eqA_of Tryd.underlying54 (by kernel_rfl) ?_
 refine eqf_cons (by rfl) (by go_simp; rfl) (by go_simp; rfl) (by go_simp) ?_
 refine eqf_cons (by rfl) (by go_simp) (by go_simp) (eqA31 (d + 0) w _ _ _ _) ?_
 exact eqf_last (by rfl) (by go_simp; rfl) (by go_simp; rfl) (by go_simp)
end Go.Proofs.YtapaijpglfmfgaaDoor.Q
end
section -- Qx3
namespace Go.Proofs.YtapaijpglfmfgaaDoor.Q
open Go.RowKit Go.Proofs.YtapaijpglfmfgaaDoorH Go.Proofs.YtapaijpglfmfgaaDoorG Go.Proofs.YtapaijpglfmfgaaDoorW.PrintWords Go.Proofs.YtapaijpglfmfgaaDoorW.PrintLast Go.Proofs.YtapaijpglfmfgaaDoorW.PrintMore
attribute [local go_sem] max2_int min2_int max_two min_two max_three min_three max_four min_four
set_option linter.unusedVariables false
set_option linter.unusedSimpArgs false
theorem eqA58 (d : Nat) (w : World) (x0 y0 : Int) (x1 y1 : Bool) (x2 y2 : ByteArray) :
  (Op.equalIn (d + 3) 58 (.agg #[.int .i64 x0, .bool x1, .string x2]) (.agg #[.int .i64 y0, .bool y1, .string y2])).run Tryd.prog w = .ok (x0 == y0 && ((x1 == y1 && (x2.toList == y2.toList)))) w := by
 refine eqA_of Tryd.underlying58 (by kernel_rfl) ?_
 refine eqf_cons (by rfl) (by go_simp; rfl) (by go_simp; rfl) (by go_simp) ?_
 exact eqf_last (by rfl) (by go_simp) (by go_simp) (eqA31 (d + 0) w _ _ _ _)
end Go.Proofs.YtapaijpglfmfgaaDoor.Q
end
section -- Qx17
namespace Go.Proofs.YtapaijpglfmfgaaDoor.Q
open Go.RowKit Go.Proofs.YtapaijpglfmfgaaDoorH Go.Proofs.YtapaijpglfmfgaaDoorG Go.Proofs.YtapaijpglfmfgaaDoorW.PrintWords Go.Proofs.YtapaijpglfmfgaaDoorW.PrintLast Go.Proofs.YtapaijpglfmfgaaDoorW.PrintMore Go.Proofs.YtapaijpglfmfgaaDoorC
attribute [local go_sem] max2_int min2_int max_two min_two max_three min_three max_four min_four
set_option linter.unusedVariables false
set_option linter.unusedSimpArgs false
attribute [local go_sem high] eqA31 eqA54 eqA58
mutual
def laws_alpine.j0 : Nat → Bool → ByteArray → ByteArray → ByteArray → ByteArray → Bool → List (S54) → List (S58) → Bool → Bool → ByteArray → ByteArray → ByteArray → ByteArray → ByteArray → Bool → List (S54) → List (S58) → Bool → Bool → ByteArray → Option (Bool)
 | 0, _, _, _, _, _, _, _, _, _, _, _, _, _, _, _, _, _, _, _, _, _ => none
 | k + 1, x53, x393000, x393001, x393002, x393003, x393004, x393005, x393006, x393007, x393008, x393009, x394000, x394001, x394002, x394003, x394004, x394005, x394006, x394007, x394008, x394009 => if x53 = true then (some false) else (if (x393005.length : Int) = (x394005.length : Int) then (laws_alpine.j1 k ((x393006.length : Int) != (x394006.length : Int)) x393000 x393001 x393002 x393003 x393004 x393005 x393006 x393007 x393008 x393009 x394000 x394001 x394002 x394003 x394004 x394005 x394006 x394007 x394008 x394009) else (laws_alpine.j1 k true x393000 x393001 x393002 x393003 x393004 x393005 x393006 x393007 x393008 x393009 x394000 x394001 x394002 x394003 x394004 x394005 x394006 x394007 x394008 x394009))
def laws_alpine.j1 : Nat → Bool → ByteArray → ByteArray → ByteArray → ByteArray → Bool → List (S54) → List (S58) → Bool → Bool → ByteArray → ByteArray → ByteArray → ByteArray → ByteArray → Bool → List (S54) → List (S58) → Bool → Bool → ByteArray → Option (Bool)
 | 0, _, _, _, _, _, _, _, _, _, _, _, _, _, _, _, _, _, _, _, _, _ => none
 | k + 1, x69, x393000, x393001, x393002, x393003, x393004, x393005, x393006, x393007, x393008, x393009, x394000, x394001, x394002, x394003, x394004, x394005, x394006, x394007, x394008, x394009 => if x69 = true then (some false) else (laws_alpine.l0 k (x393005.length : Int) 0 x393000 x393001 x393002 x393003 x393004 x393005 x393006 x393007 x393008 x393009 x394000 x394001 x394002 x394003 x394004 x394005 x394006 x394007 x394008 x394009)
def laws_alpine.l0 : Nat → Int → Int → ByteArray → ByteArray → ByteArray → ByteArray → Bool → List (S54) → List (S58) → Bool → Bool → ByteArray → ByteArray → ByteArray → ByteArray → ByteArray → Bool → List (S54) → List (S58) → Bool → Bool → ByteArray → Option (Bool)
 | 0, _, _, _, _, _, _, _, _, _, _, _, _, _, _, _, _, _, _, _, _, _, _ => none
 | k + 1, x72, x73, x393000, x393001, x393002, x393003, x393004, x393005, x393006, x393007, x393008, x393009, x394000, x394001, x394002, x394003, x394004, x394005, x394006, x394007, x394008, x394009 => if x73 < x72 then (if 0 ≤ x73 then (if x73 < (x393005.length : Int) then (if x73 < (x394005.length : Int) then (if (!((((rd_T54 x393005 x73).f0).toList) == (((rd_T54 x394005 x73).f0).toList)) || ((!(((rd_T54 x393005 x73).f1.f0) == ((rd_T54 x394005 x73).f1.f0)) || (!((((rd_T54 x393005 x73).f1.f1).toList) == (((rd_T54 x394005 x73).f1.f1).toList)))) || (!(((rd_T54 x393005 x73).f2) == ((rd_T54 x394005 x73).f2))))) = true then (some false) else (laws_alpine.l0 k x72 (wrap64 (x73 + 1)) x393000 x393001 x393002 x393003 x393004 x393005 x393006 x393007 x393008 x393009 x394000 x394001 x394002 x394003 x394004 x394005 x394006 x394007 x394008 x394009)) else (none)) else (none)) else (none)) else (laws_alpine.l1 k (x393006.length : Int) 0 x393000 x393001 x393002 x393003 x393004 x393005 x393006 x393007 x393008 x393009 x394000 x394001 x394002 x394003 x394004 x394005 x394006 x394007 x394008 x394009)
def laws_alpine.l1 : Nat → Int → Int → ByteArray → ByteArray → ByteArray → ByteArray → Bool → List (S54) → List (S58) → Bool → Bool → ByteArray → ByteArray → ByteArray → ByteArray → ByteArray → Bool → List (S54) → List (S58) → Bool → Bool → ByteArray → Option (Bool)
 | 0, _, _, _, _, _, _, _, _, _, _, _, _, _, _, _, _, _, _, _, _, _, _ => none
 | k + 1, x90, x91, x393000, x393001, x393002, x393003, x393004, x393005, x393006, x393007, x393008, x393009, x394000, x394001, x394002, x394003, x394004, x394005, x394006, x394007, x394008, x394009 => if x91 < x90 then (if 0 ≤ x91 then (if x91 < (x393006.length : Int) then (if x91 < (x394006.length : Int) then (if (!(((rd_T58 x393006 x91).f0) == ((rd_T58 x394006 x91).f0)) || ((!(((rd_T58 x393006 x91).f1.f0) == ((rd_T58 x394006 x91).f1.f0)) || (!((((rd_T58 x393006 x91).f1.f1).toList) == (((rd_T58 x394006 x91).f1.f1).toList)))))) = true then (some false) else (laws_alpine.l1 k x90 (wrap64 (x91 + 1)) x393000 x393001 x393002 x393003 x393004 x393005 x393006 x393007 x393008 x393009 x394000 x394001 x394002 x394003 x394004 x394005 x394006 x394007 x394008 x394009)) else (none)) else (none)) else (none)) else (some true)
end
def laws_alpine.f (k : Nat) (a0_0 : ByteArray) (a0_1 : ByteArray) (a0_2 : ByteArray) (a0_3 : ByteArray) (a0_4 : Bool) (l0_5 : List (S54)) (l0_6 : List (S58)) (a0_7 : Bool) (a0_8 : Bool) (a0_9 : ByteArray) (a1_0 : ByteArray) (a1_1 : ByteArray) (a1_2 : ByteArray) (a1_3 : ByteArray) (a1_4 : Bool) (l1_5 : List (S54)) (l1_6 : List (S58)) (a1_7 : Bool) (a1_8 : Bool) (a1_9 : ByteArray) : Option (Bool) := if a0_0.toList = a1_0.toList then (if a0_1.toList = a1_1.toList then (if a0_2.toList = a1_2.toList then (if a0_3.toList = a1_3.toList then (if (a0_4 != a1_4) = true then (laws_alpine.j0 k true a0_0 a0_1 a0_2 a0_3 a0_4 l0_5 l0_6 a0_7 a0_8 a0_9 a1_0 a1_1 a1_2 a1_3 a1_4 l1_5 l1_6 a1_7 a1_8 a1_9) else (if (a0_7 != a1_7) = true then (laws_alpine.j0 k true a0_0 a0_1 a0_2 a0_3 a0_4 l0_5 l0_6 a0_7 a0_8 a0_9 a1_0 a1_1 a1_2 a1_3 a1_4 l1_5 l1_6 a1_7 a1_8 a1_9) else (laws_alpine.j0 k (!(a0_8 == a1_8) || (!(a0_9.toList == a1_9.toList))) a0_0 a0_1 a0_2 a0_3 a0_4 l0_5 l0_6 a0_7 a0_8 a0_9 a1_0 a1_1 a1_2 a1_3 a1_4 l1_5 l1_6 a1_7 a1_8 a1_9))) else (laws_alpine.j0 k true a0_0 a0_1 a0_2 a0_3 a0_4 l0_5 l0_6 a0_7 a0_8 a0_9 a1_0 a1_1 a1_2 a1_3 a1_4 l1_5 l1_6 a1_7 a1_8 a1_9)) else (laws_alpine.j0 k true a0_0 a0_1 a0_2 a0_3 a0_4 l0_5 l0_6 a0_7 a0_8 a0_9 a1_0 a1_1 a1_2 a1_3 a1_4 l1_5 l1_6 a1_7 a1_8 a1_9)) else (laws_alpine.j0 k true a0_0 a0_1 a0_2 a0_3 a0_4 l0_5 l0_6 a0_7 a0_8 a0_9 a1_0 a1_1 a1_2 a1_3 a1_4 l1_5 l1_6 a1_7 a1_8 a1_9)) else (laws_alpine.j0 k true a0_0 a0_1 a0_2 a0_3 a0_4 l0_5 l0_6 a0_7 a0_8 a0_9 a1_0 a1_1 a1_2 a1_3 a1_4 l1_5 l1_6 a1_7 a1_8 a1_9)
set_option maxHeartbeats 8000000 in
set_option maxRecDepth 100000 in
theorem laws_alpine.calls (k : Nat) (a0_0 : ByteArray) (a0_1 : ByteArray) (a0_2 : ByteArray) (a0_3 : ByteArray) (a0_4 : Bool) (A0_5 : Option Addr) (c0_5 : Nat) (l0_5 : List (S54)) (A0_6 : Option Addr) (c0_6 : Nat) (l0_6 : List (S58)) (a0_7 : Bool) (a0_8 : Bool) (a0_9 : ByteArray) (a1_0 : ByteArray) (a1_1 : ByteArray) (a1_2 : ByteArray) (a1_3 : ByteArray) (a1_4 : Bool) (A1_5 : Option Addr) (c1_5 : Nat) (l1_5 : List (S54)) (A1_6 : Option Addr) (c1_6 : Nat) (l1_6 : List (S58)) (a1_7 : Bool) (a1_8 : Bool) (a1_9 : ByteArray) (r : Bool) (w : World) (hr0_5 : Kd.C k54 w A0_5 l0_5.length l0_5) (hc0_5 : l0_5.length ≤ c0_5) (hr0_6 : Kd.C k58 w A0_6 l0_6.length l0_6) (hc0_6 : l0_6.length ≤ c0_6) (hr1_5 : Kd.C k54 w A1_5 l1_5.length l1_5) (hc1_5 : l1_5.length ≤ c1_5) (hr1_6 : Kd.C k58 w A1_6 l1_6.length l1_6) (hc1_6 : l1_6.length ≤ c1_6) (h : laws_alpine.f k a0_0 a0_1 a0_2 a0_3 a0_4 l0_5 l0_6 a0_7 a0_8 a0_9 a1_0 a1_1 a1_2 a1_3 a1_4 l1_5 l1_6 a1_7 a1_8 a1_9 = some r) :
  Calls Tryd.prog 14 #[.agg #[.string a0_0, .string a0_1, .string a0_2, .string a0_3, .bool a0_4, .slice A0_5 l0_5.length c0_5, .slice A0_6 l0_6.length c0_6, .bool a0_7, .bool a0_8, .string a0_9], .agg #[.string a1_0, .string a1_1, .string a1_2, .string a1_3, .bool a1_4, .slice A1_5 l1_5.length c1_5, .slice A1_6 l1_6.length c1_6, .bool a1_7, .bool a1_8, .string a1_9]] w fun e w' => e = .returned (.bool r) ∧ Below w.heap.size w w' := by
 have hu33 := Tryd.underlying33
 have hu31 := Tryd.underlying31
 have hu54 := Tryd.underlying54
 have hu58 := Tryd.underlying58
 have HR0_5 := Aside0.mk hr0_5
 have HC0_5 := Aside0.mk hc0_5
 clear hr0_5 hc0_5
 have HR0_6 := Aside0.mk hr0_6
 have HC0_6 := Aside0.mk hc0_6
 clear hr0_6 hc0_6
 have HR1_5 := Aside0.mk hr1_5
 have HC1_5 := Aside0.mk hc1_5
 clear hr1_5 hc1_5
 have HR1_6 := Aside0.mk hr1_6
 have HC1_6 := Aside0.mk hc1_6
 clear hr1_6 hc1_6
 have HB := Aside0.mk (Below.refl w.heap.size w)
 have H : (if a0_0.toList = a1_0.toList then (if a0_1.toList = a1_1.toList then (if a0_2.toList = a1_2.toList then (if a0_3.toList = a1_3.toList then (if (a0_4 != a1_4) = true then (laws_alpine.j0 k true a0_0 a0_1 a0_2 a0_3 a0_4 l0_5 l0_6 a0_7 a0_8 a0_9 a1_0 a1_1 a1_2 a1_3 a1_4 l1_5 l1_6 a1_7 a1_8 a1_9) else (if (a0_7 != a1_7) = true then (laws_alpine.j0 k true a0_0 a0_1 a0_2 a0_3 a0_4 l0_5 l0_6 a0_7 a0_8 a0_9 a1_0 a1_1 a1_2 a1_3 a1_4 l1_5 l1_6 a1_7 a1_8 a1_9) else (laws_alpine.j0 k (!(a0_8 == a1_8) || (!(a0_9.toList == a1_9.toList))) a0_0 a0_1 a0_2 a0_3 a0_4 l0_5 l0_6 a0_7 a0_8 a0_9 a1_0 a1_1 a1_2 a1_3 a1_4 l1_5 l1_6 a1_7 a1_8 a1_9))) else (laws_alpine.j0 k true a0_0 a0_1 a0_2 a0_3 a0_4 l0_5 l0_6 a0_7 a0_8 a0_9 a1_0 a1_1 a1_2 a1_3 a1_4 l1_5 l1_6 a1_7 a1_8 a1_9)) else (laws_alpine.j0 k true a0_0 a0_1 a0_2 a0_3 a0_4 l0_5 l0_6 a0_7 a0_8 a0_9 a1_0 a1_1 a1_2 a1_3 a1_4 l1_5 l1_6 a1_7 a1_8 a1_9)) else (laws_alpine.j0 k true a0_0 a0_1 a0_2 a0_3 a0_4 l0_5 l0_6 a0_7 a0_8 a0_9 a1_0 a1_1 a1_2 a1_3 a1_4 l1_5 l1_6 a1_7 a1_8 a1_9)) else (laws_alpine.j0 k true a0_0 a0_1 a0_2 a0_3 a0_4 l0_5 l0_6 a0_7 a0_8 a0_9 a1_0 a1_1 a1_2 a1_3 a1_4 l1_5 l1_6 a1_7 a1_8 a1_9)) = some r := h
 clear h
 have HC3 := Aside0.mk H
 clear H
 go_enter Tryd.func14, Tryd.ntmps14
 go_upto_region 1 with (first | ((with_reducible refine gate_dst (N := 2) rfl ?_); (try (refine gate_guard (by rfl) ?_; dsimp only)); refine box_event ?hg (N := 2) ?hd (cs := #[.string a0_0, .string a0_1, .string a0_2, .string a0_3, .bool a0_4, .slice A0_5 l0_5.length c0_5, .slice A0_6 l0_6.length c0_6, .bool a0_7, .bool a0_8, .string a0_9]) (t := 33) ?hr ?_; (case hd => rfl); (case hg => rfl); (case hr => first | (go_simp; done) | (go_simp; rfl)); intro gb392 hg w4 hbox hb; have BK392 := Aside0.mk hbox; have GW392 := Aside0.mk ((by rw [hg]; exact (below_size (by (with_reducible exact HB.out))) : w.heap.size ≤ gb392)); have GE392 := Aside0.mk ((by rw [hg]; exact (below_size (by (with_reducible exact HB.out))) : w.heap.size ≤ gb392)); replace HB := Aside0.mk (below_step (by (with_reducible exact HB.out)) hb); clear hb hbox hg) | ((with_reducible refine gate_dst (N := 3) rfl ?_); (try (refine gate_guard (by rfl) ?_; dsimp only)); refine box_event ?hg (N := 3) ?hd (cs := #[.string a1_0, .string a1_1, .string a1_2, .string a1_3, .bool a1_4, .slice A1_5 l1_5.length c1_5, .slice A1_6 l1_6.length c1_6, .bool a1_7, .bool a1_8, .string a1_9]) (t := 33) ?hr ?_; (case hd => rfl); (case hg => rfl); (case hr => first | (go_simp; done) | (go_simp; rfl)); intro gb393 hg w5 hbox hb; have n0_ := Aside0.mk (blk_below BK392.out hb); have n1_ := Aside0.mk (below_step (by (with_reducible exact HB.out)) hb); have n2_ := Aside0.mk hbox; have n3_ := Aside0.mk ((by rw [hg]; exact (below_size (by (with_reducible exact HB.out))) : w.heap.size ≤ gb393)); have n4_ := Aside0.mk ((by rw [hg]; exact (below_size (by (with_reducible exact HB.out))) : w.heap.size ≤ gb393)); have n5_ := Aside0.mk ((by rw [hg]; exact Nat.ne_of_lt (blk_lt BK392.out) : gb392 ≠ gb393)); have n6_ := Aside0.mk ((by rw [hg]; exact Nat.ne_of_gt (blk_lt BK392.out) : gb393 ≠ gb392)); clear BK392; clear HB; have BK392 := n0_; have HB := n1_; have BK393 := n2_; have GW393 := n3_; have GE393 := n4_; have NB392_393 := n5_; have NB393_392 := n6_; clear n0_ n1_ n2_ n3_ n4_ n5_ n6_; clear hb hbox hg))
 repeat (go_quiet (fail); go_upto_region 1 with (fail))
 (try simp only [Act.put, List.setIfInBounds_toArray, List.set_cons_zero, List.set_cons_succ])
 go_cut [53] (fun v53 wc => ∃ (kq : Nat) (x53_2 : Bool), v53 = .bool x53_2 ∧ Aside0 (laws_alpine.j0 kq x53_2 a0_0 a0_1 a0_2 a0_3 a0_4 l0_5 l0_6 a0_7 a0_8 a0_9 a1_0 a1_1 a1_2 a1_3 a1_4 l1_5 l1_6 a1_7 a1_8 a1_9 = some r) ∧ Aside0 (kq ≤ k) ∧ Aside0 (wc.heap[gb392]? = some (.cells #[.string a0_0, .string a0_1, .string a0_2, .string a0_3, .bool a0_4, (.slice A0_5 l0_5.length c0_5), (.slice A0_6 l0_6.length c0_6), .bool a0_7, .bool a0_8, .string a0_9] 33 (0, 0))) ∧ Aside0 (wc.heap[gb393]? = some (.cells #[.string a1_0, .string a1_1, .string a1_2, .string a1_3, .bool a1_4, (.slice A1_5 l1_5.length c1_5), (.slice A1_6 l1_6.length c1_6), .bool a1_7, .bool a1_8, .string a1_9] 33 (0, 0))) ∧ Aside0 (Below w.heap.size w wc))
 case first =>
  have H := HC3.out
  clear HC3
  by_cases c6 : a0_0.toList = a1_0.toList
  ·rw [if_pos c6] at H
   have c6b0 : (a0_0.toList == a1_0.toList) = true := beq_iff_eq.mpr c6
   have c6b1 : (a0_0.toList != a1_0.toList) = false := bne_eq_false_iff_eq.mpr c6
   clear c6
   (first | rw [c6b0] | (simp only [i64_w, i32_w]; rw [c6b0]) | skip)
   by_cases c7 : a0_1.toList = a1_1.toList
   ·rw [if_pos c7] at H
    have c7b0 : (a0_1.toList == a1_1.toList) = true := beq_iff_eq.mpr c7
    have c7b1 : (a0_1.toList != a1_1.toList) = false := bne_eq_false_iff_eq.mpr c7
    clear c7
    by_cases c8 : a0_2.toList = a1_2.toList
    ·rw [if_pos c8] at H
     have c8b0 : (a0_2.toList == a1_2.toList) = true := beq_iff_eq.mpr c8
     have c8b1 : (a0_2.toList != a1_2.toList) = false := bne_eq_false_iff_eq.mpr c8
     clear c8
     by_cases c9 : a0_3.toList = a1_3.toList
     ·rw [if_pos c9] at H
      have c9b0 : (a0_3.toList == a1_3.toList) = true := beq_iff_eq.mpr c9
      have c9b1 : (a0_3.toList != a1_3.toList) = false := bne_eq_false_iff_eq.mpr c9
      clear c9
      by_cases c10 : (a0_4 != a1_4) = true
      ·rw [if_pos c10] at H
       have c10b0 : (a0_4 != a1_4) = true := c10
       (try (have c10b1 : decide (a0_4 = a1_4) = false := by simpa using c10))
       (try (have c10b2 : (a0_4 == a1_4) = false := by simpa using c10))
       (try (have c10b3 : ¬ (a0_4 = a1_4) := by simpa using c10))
       clear c10
       have H' := Aside0.mk H
       clear H
       have hnb11 := NB392_393.out
       have hnc11 := NB393_392.out
       obtain ⟨hcz12_0, hcz12_1, hcz12_2, hcz12_3, hcz12_4, hcz12_5, hcz12_6, hcz12_7, hcz12_8, hcz12_9, _⟩ := cl10 BK392.out
       obtain ⟨hcz13_0, hcz13_1, hcz13_2, hcz13_3, hcz13_4, hcz13_5, hcz13_6, hcz13_7, hcz13_8, hcz13_9, _⟩ := cl10 BK393.out
       go_wp2
       repeat (go_quiet (fail); try go_wp2)
       go_meet
       case rel => exact ⟨_, (true), (by rfl), H', ⟨by omega⟩, ⟨by exact BK392.out⟩, ⟨by exact BK393.out⟩, ⟨by (with_reducible exact HB.out)⟩⟩
      ·rw [if_neg c10] at H
       have c10b0 : (a0_4 != a1_4) = false := by simpa using c10
       (try (have c10b1 : decide (a0_4 = a1_4) = true := by simpa using c10))
       (try (have c10b2 : (a0_4 == a1_4) = true := by simpa using c10))
       clear c10
       by_cases c14 : (a0_7 != a1_7) = true
       ·rw [if_pos c14] at H
        have c14b0 : (a0_7 != a1_7) = true := c14
        (try (have c14b1 : decide (a0_7 = a1_7) = false := by simpa using c14))
        (try (have c14b2 : (a0_7 == a1_7) = false := by simpa using c14))
        (try (have c14b3 : ¬ (a0_7 = a1_7) := by simpa using c14))
        clear c14
        have H' := Aside0.mk H
        clear H
        have hnb15 := NB392_393.out
        have hnc15 := NB393_392.out
        obtain ⟨hcz16_0, hcz16_1, hcz16_2, hcz16_3, hcz16_4, hcz16_5, hcz16_6, hcz16_7, hcz16_8, hcz16_9, _⟩ := cl10 BK392.out
        obtain ⟨hcz17_0, hcz17_1, hcz17_2, hcz17_3, hcz17_4, hcz17_5, hcz17_6, hcz17_7, hcz17_8, hcz17_9, _⟩ := cl10 BK393.out
        go_wp2
        repeat (go_quiet (fail); try go_wp2)
        go_meet
        case rel => exact ⟨_, (true), (by rfl), H', ⟨by omega⟩, ⟨by exact BK392.out⟩, ⟨by exact BK393.out⟩, ⟨by (with_reducible exact HB.out)⟩⟩
       ·rw [if_neg c14] at H
        have c14b0 : (a0_7 != a1_7) = false := by simpa using c14
        (try (have c14b1 : decide (a0_7 = a1_7) = true := by simpa using c14))
        (try (have c14b2 : (a0_7 == a1_7) = true := by simpa using c14))
        clear c14
        have H' := Aside0.mk H
        clear H
        have hnb18 := NB392_393.out
        have hnc18 := NB393_392.out
        obtain ⟨hcz19_0, hcz19_1, hcz19_2, hcz19_3, hcz19_4, hcz19_5, hcz19_6, hcz19_7, hcz19_8, hcz19_9, _⟩ := cl10 BK392.out
        obtain ⟨hcz20_0, hcz20_1, hcz20_2, hcz20_3, hcz20_4, hcz20_5, hcz20_6, hcz20_7, hcz20_8, hcz20_9, _⟩ := cl10 BK393.out
        go_wp2
        repeat (go_quiet (fail); try go_wp2)
        go_meet
        case rel => exact ⟨_, ((!(a0_8 == a1_8) || (!(a0_9.toList == a1_9.toList)))), (by rfl), H', ⟨by omega⟩, ⟨by exact BK392.out⟩, ⟨by exact BK393.out⟩, ⟨by (with_reducible exact HB.out)⟩⟩
     ·rw [if_neg c9] at H
      have c9b0 : (a0_3.toList == a1_3.toList) = false := beq_eq_false_iff_ne.mpr c9
      have c9b1 : (a0_3.toList != a1_3.toList) = true := bne_iff_ne.mpr c9
      have H' := Aside0.mk H
      clear H
      have hnb21 := NB392_393.out
      have hnc21 := NB393_392.out
      obtain ⟨hcz22_0, hcz22_1, hcz22_2, hcz22_3, hcz22_4, hcz22_5, hcz22_6, hcz22_7, hcz22_8, hcz22_9, _⟩ := cl10 BK392.out
      obtain ⟨hcz23_0, hcz23_1, hcz23_2, hcz23_3, hcz23_4, hcz23_5, hcz23_6, hcz23_7, hcz23_8, hcz23_9, _⟩ := cl10 BK393.out
      go_wp2
      repeat (go_quiet (fail); try go_wp2)
      go_meet
      case rel => exact ⟨_, (true), (by rfl), H', ⟨by omega⟩, ⟨by exact BK392.out⟩, ⟨by exact BK393.out⟩, ⟨by (with_reducible exact HB.out)⟩⟩
    ·rw [if_neg c8] at H
     have c8b0 : (a0_2.toList == a1_2.toList) = false := beq_eq_false_iff_ne.mpr c8
     have c8b1 : (a0_2.toList != a1_2.toList) = true := bne_iff_ne.mpr c8
     have H' := Aside0.mk H
     clear H
     have hnb24 := NB392_393.out
     have hnc24 := NB393_392.out
     obtain ⟨hcz25_0, hcz25_1, hcz25_2, hcz25_3, hcz25_4, hcz25_5, hcz25_6, hcz25_7, hcz25_8, hcz25_9, _⟩ := cl10 BK392.out
     obtain ⟨hcz26_0, hcz26_1, hcz26_2, hcz26_3, hcz26_4, hcz26_5, hcz26_6, hcz26_7, hcz26_8, hcz26_9, _⟩ := cl10 BK393.out
     go_wp2
     repeat (go_quiet (fail); try go_wp2)
     go_meet
     case rel => exact ⟨_, (true), (by rfl), H', ⟨by omega⟩, ⟨by exact BK392.out⟩, ⟨by exact BK393.out⟩, ⟨by (with_reducible exact HB.out)⟩⟩
   ·rw [if_neg c7] at H
    have c7b0 : (a0_1.toList == a1_1.toList) = false := beq_eq_false_iff_ne.mpr c7
    have c7b1 : (a0_1.toList != a1_1.toList) = true := bne_iff_ne.mpr c7
    have H' := Aside0.mk H
    clear H
    have hnb27 := NB392_393.out
    have hnc27 := NB393_392.out
    obtain ⟨hcz28_0, hcz28_1, hcz28_2, hcz28_3, hcz28_4, hcz28_5, hcz28_6, hcz28_7, hcz28_8, hcz28_9, _⟩ := cl10 BK392.out
    obtain ⟨hcz29_0, hcz29_1, hcz29_2, hcz29_3, hcz29_4, hcz29_5, hcz29_6, hcz29_7, hcz29_8, hcz29_9, _⟩ := cl10 BK393.out
    go_wp2
    repeat (go_quiet (fail); try go_wp2)
    go_meet
    case rel => exact ⟨_, (true), (by rfl), H', ⟨by omega⟩, ⟨by exact BK392.out⟩, ⟨by exact BK393.out⟩, ⟨by (with_reducible exact HB.out)⟩⟩
  ·rw [if_neg c6] at H
   have c6b0 : (a0_0.toList == a1_0.toList) = false := beq_eq_false_iff_ne.mpr c6
   have c6b1 : (a0_0.toList != a1_0.toList) = true := bne_iff_ne.mpr c6
   (first | rw [c6b0] | (simp only [i64_w, i32_w]; rw [c6b0]) | skip)
   have H' := Aside0.mk H
   clear H
   have hnb30 := NB392_393.out
   have hnc30 := NB393_392.out
   obtain ⟨hcz31_0, hcz31_1, hcz31_2, hcz31_3, hcz31_4, hcz31_5, hcz31_6, hcz31_7, hcz31_8, hcz31_9, _⟩ := cl10 BK392.out
   obtain ⟨hcz32_0, hcz32_1, hcz32_2, hcz32_3, hcz32_4, hcz32_5, hcz32_6, hcz32_7, hcz32_8, hcz32_9, _⟩ := cl10 BK393.out
   go_wp2
   repeat (go_quiet (fail); try go_wp2)
   go_meet
   case rel => exact ⟨_, (true), (by rfl), H', ⟨by omega⟩, ⟨by exact BK392.out⟩, ⟨by exact BK393.out⟩, ⟨by (with_reducible exact HB.out)⟩⟩
 case rest =>
  clear HC3
  obtain ⟨kq, x53_2, rfl, HA, HJ2, BK392, BK393, HB⟩ := hcut
  cases kq with
  | zero => exact absurd HA.out (by simp [laws_alpine.j0])
  | succ kj2 =>
   have H := HA.out
   clear HA
   simp only [laws_alpine.j0] at H
   by_cases c33 : x53_2 = true
   ·subst c33
    have H1 : (some false) = some r := by rw [if_pos rfl] at H; exact H
    clear H
    have H := H1
    clear H1
    obtain rfl := Option.some.inj H
    go_wp2
    repeat (go_quiet (fail); try go_wp2)
    go_ret
    exact ⟨by rfl, by (with_reducible exact HB.out)⟩
   ·replace c33 := Bool.eq_false_iff.mpr c33
    subst c33
    have H1 : (if (l0_5.length : Int) = (l1_5.length : Int) then (laws_alpine.j1 kj2 ((l0_6.length : Int) != (l1_6.length : Int)) a0_0 a0_1 a0_2 a0_3 a0_4 l0_5 l0_6 a0_7 a0_8 a0_9 a1_0 a1_1 a1_2 a1_3 a1_4 l1_5 l1_6 a1_7 a1_8 a1_9) else (laws_alpine.j1 kj2 true a0_0 a0_1 a0_2 a0_3 a0_4 l0_5 l0_6 a0_7 a0_8 a0_9 a1_0 a1_1 a1_2 a1_3 a1_4 l1_5 l1_6 a1_7 a1_8 a1_9)) = some r := by rw [if_neg (show ¬ (false = true) by decide)] at H; exact H
    clear H
    have H := H1
    clear H1
    have HC34 := Aside0.mk H
    clear H
    go_upto_region 3 with (fail)
    repeat (go_quiet (fail); go_upto_region 3 with (fail))
    go_cut [69] (fun v69 wc => ∃ (kq : Nat) (x69_33 : Bool), v69 = .bool x69_33 ∧ Aside0 (laws_alpine.j1 kq x69_33 a0_0 a0_1 a0_2 a0_3 a0_4 l0_5 l0_6 a0_7 a0_8 a0_9 a1_0 a1_1 a1_2 a1_3 a1_4 l1_5 l1_6 a1_7 a1_8 a1_9 = some r) ∧ Aside0 (kq ≤ kj2) ∧ Aside0 (wc.heap[gb392]? = some (.cells #[.string a0_0, .string a0_1, .string a0_2, .string a0_3, .bool a0_4, (.slice A0_5 l0_5.length c0_5), (.slice A0_6 l0_6.length c0_6), .bool a0_7, .bool a0_8, .string a0_9] 33 (0, 0))) ∧ Aside0 (wc.heap[gb393]? = some (.cells #[.string a1_0, .string a1_1, .string a1_2, .string a1_3, .bool a1_4, (.slice A1_5 l1_5.length c1_5), (.slice A1_6 l1_6.length c1_6), .bool a1_7, .bool a1_8, .string a1_9] 33 (0, 0))) ∧ Aside0 (Below w.heap.size w wc))
    case first =>
     have H := HC34.out
     clear HC34
     by_cases c35 : (l0_5.length : Int) = (l1_5.length : Int)
     ·rw [if_pos c35] at H
      have c35b0 : ((l0_5.length : Int) == (l1_5.length : Int)) = true := beq_iff_eq.mpr c35
      have c35b1 : ((l0_5.length : Int) != (l1_5.length : Int)) = false := bne_eq_false_iff_eq.mpr c35
      have c35b2 : (l0_5.length == l1_5.length) = true := by (simp at c35 ⊢; omega)
      clear c35
      (first | rw [c35b0] | (simp only [i64_w, i32_w]; rw [c35b0]) | skip)
      have H' := Aside0.mk H
      clear H
      have hnb36 := NB392_393.out
      have hnc36 := NB393_392.out
      obtain ⟨hcz37_0, hcz37_1, hcz37_2, hcz37_3, hcz37_4, hcz37_5, hcz37_6, hcz37_7, hcz37_8, hcz37_9, _⟩ := cl10 BK392.out
      obtain ⟨hcz38_0, hcz38_1, hcz38_2, hcz38_3, hcz38_4, hcz38_5, hcz38_6, hcz38_7, hcz38_8, hcz38_9, _⟩ := cl10 BK393.out
      go_wp2
      repeat (go_quiet (fail); try go_wp2)
      go_meet
      case rel => exact ⟨_, (((l0_6.length : Int) != (l1_6.length : Int))), (by rfl), H', ⟨by have := HJ2.out; first | omega | exact Nat.le_refl _⟩, ⟨by exact BK392.out⟩, ⟨by exact BK393.out⟩, ⟨by (with_reducible exact HB.out)⟩⟩
     ·rw [if_neg c35] at H
      have c35b0 : ((l0_5.length : Int) == (l1_5.length : Int)) = false := beq_eq_false_iff_ne.mpr c35
      have c35b1 : ((l0_5.length : Int) != (l1_5.length : Int)) = true := bne_iff_ne.mpr c35
      have c35b2 : (l0_5.length == l1_5.length) = false := by (simp at c35 ⊢; omega)
      (first | rw [c35b0] | (simp only [i64_w, i32_w]; rw [c35b0]) | skip)
      have H' := Aside0.mk H
      clear H
      have hnb39 := NB392_393.out
      have hnc39 := NB393_392.out
      obtain ⟨hcz40_0, hcz40_1, hcz40_2, hcz40_3, hcz40_4, hcz40_5, hcz40_6, hcz40_7, hcz40_8, hcz40_9, _⟩ := cl10 BK392.out
      obtain ⟨hcz41_0, hcz41_1, hcz41_2, hcz41_3, hcz41_4, hcz41_5, hcz41_6, hcz41_7, hcz41_8, hcz41_9, _⟩ := cl10 BK393.out
      go_wp2
      repeat (go_quiet (fail); try go_wp2)
      go_meet
      case rel => exact ⟨_, (true), (by rfl), H', ⟨by have := HJ2.out; first | omega | exact Nat.le_refl _⟩, ⟨by exact BK392.out⟩, ⟨by exact BK393.out⟩, ⟨by (with_reducible exact HB.out)⟩⟩
    case rest =>
     clear HC34
     obtain ⟨kq, x69_33, rfl, HA, HJ33, BK392, BK393, HB⟩ := hcut
     cases kq with
     | zero => exact absurd HA.out (by simp [laws_alpine.j1])
     | succ kj33 =>
      have H := HA.out
      clear HA
      simp only [laws_alpine.j1] at H
      by_cases c42 : x69_33 = true
      ·subst c42
       have H1 : (some false) = some r := by rw [if_pos rfl] at H; exact H
       clear H
       have H := H1
       clear H1
       obtain rfl := Option.some.inj H
       go_wp2
       repeat (go_quiet (fail); try go_wp2)
       go_ret
       exact ⟨by rfl, by (with_reducible exact HB.out)⟩
      ·replace c42 := Bool.eq_false_iff.mpr c42
       subst c42
       have H1 : (laws_alpine.l0 kj33 (l0_5.length : Int) 0 a0_0 a0_1 a0_2 a0_3 a0_4 l0_5 l0_6 a0_7 a0_8 a0_9 a1_0 a1_1 a1_2 a1_3 a1_4 l1_5 l1_6 a1_7 a1_8 a1_9) = some r := by rw [if_neg (show ¬ (false = true) by decide)] at H; exact H
       clear H
       have H := H1
       clear H1
       have H' := Aside0.mk H
       clear H
       have hnb43 := NB392_393.out
       have hnc43 := NB393_392.out
       obtain ⟨hcz44_0, hcz44_1, hcz44_2, hcz44_3, hcz44_4, hcz44_5, hcz44_6, hcz44_7, hcz44_8, hcz44_9, _⟩ := cl10 BK392.out
       go_wp2
       repeat (go_quiet (fail); try go_wp2)
       (try simp only [Act.put, List.setIfInBounds_toArray, List.set_cons_zero, List.set_cons_succ])
       go_loopg [73] kj33 (fun kq v73 w' => ∃ (x73_3 : Int), v73 = .int .i64 x73_3 ∧ Aside0 (laws_alpine.l0 kq (l0_5.length : Int) x73_3 a0_0 a0_1 a0_2 a0_3 a0_4 l0_5 l0_6 a0_7 a0_8 a0_9 a1_0 a1_1 a1_2 a1_3 a1_4 l1_5 l1_6 a1_7 a1_8 a1_9 = some r) ∧ Aside0 (kq ≤ kj33) ∧ Aside0 (w'.heap[gb392]? = some (.cells #[.string a0_0, .string a0_1, .string a0_2, .string a0_3, .bool a0_4, (.slice A0_5 l0_5.length c0_5), (.slice A0_6 l0_6.length c0_6), .bool a0_7, .bool a0_8, .string a0_9] 33 (0, 0))) ∧ Aside0 (w'.heap[gb393]? = some (.cells #[.string a1_0, .string a1_1, .string a1_2, .string a1_3, .bool a1_4, (.slice A1_5 l1_5.length c1_5), (.slice A1_6 l1_6.length c1_6), .bool a1_7, .bool a1_8, .string a1_9] 33 (0, 0))) ∧ Aside0 (Below w.heap.size w w'))
       case atStart => exact ⟨(0), (by rfl), H', ⟨Nat.le_refl _⟩, ⟨by exact BK392.out⟩, ⟨by exact BK393.out⟩, ⟨by (with_reducible exact HB.out)⟩⟩
       case round =>
        clear H'
        clear hcz44_0 hcz44_1 hcz44_2 hcz44_3 hcz44_4 hcz44_5 hcz44_6 hcz44_7 hcz44_8 hcz44_9
        obtain ⟨x73_3, rfl, HA, HK3, BK392, BK393, HB⟩ := hrel
        cases gk with
        | zero => exact absurd HA.out (by simp [laws_alpine.l0])
        | succ k3 =>
         have H := HA.out
         clear HA
         simp only [laws_alpine.l0] at H
         by_cases c45 : x73_3 < (l0_5.length : Int)
         ·rw [if_pos c45] at H
          have c45b0 : decide (x73_3 < (l0_5.length : Int)) = true := decide_eq_true c45
          clear c45
          by_cases c46 : 0 ≤ x73_3
          ·rw [if_pos c46] at H
           have c46b0 : decide (0 ≤ x73_3) = true := decide_eq_true c46
           clear c46
           by_cases c47 : x73_3 < (l0_5.length : Int)
           ·rw [if_pos c47] at H
            have c47b0 : decide (x73_3 < (l0_5.length : Int)) = true := decide_eq_true c47
            clear c47
            by_cases c48 : x73_3 < (l1_5.length : Int)
            ·rw [if_pos c48] at H
             have c48b0 : decide (x73_3 < (l1_5.length : Int)) = true := decide_eq_true c48
             clear c48
             by_cases c49 : (!((((rd_T54 l0_5 x73_3).f0).toList) == (((rd_T54 l1_5 x73_3).f0).toList)) || ((!(((rd_T54 l0_5 x73_3).f1.f0) == ((rd_T54 l1_5 x73_3).f1.f0)) || (!((((rd_T54 l0_5 x73_3).f1.f1).toList) == (((rd_T54 l1_5 x73_3).f1.f1).toList)))) || (!(((rd_T54 l0_5 x73_3).f2) == ((rd_T54 l1_5 x73_3).f2))))) = true
             ·rw [if_pos c49] at H
              have c49b0 : (!((((rd_T54 l0_5 x73_3).f0).toList) == (((rd_T54 l1_5 x73_3).f0).toList)) || ((!(((rd_T54 l0_5 x73_3).f1.f0) == ((rd_T54 l1_5 x73_3).f1.f0)) || (!((((rd_T54 l0_5 x73_3).f1.f1).toList) == (((rd_T54 l1_5 x73_3).f1.f1).toList)))) || (!(((rd_T54 l0_5 x73_3).f2) == ((rd_T54 l1_5 x73_3).f2))))) = true := c49
              clear c49
              obtain rfl := Option.some.inj H
              have hnb50 := NB392_393.out
              have hnc50 := NB393_392.out
              obtain ⟨hcz51_0, hcz51_1, hcz51_2, hcz51_3, hcz51_4, hcz51_5, hcz51_6, hcz51_7, hcz51_8, hcz51_9, _⟩ := cl10 BK392.out
              have p394 : 0 ≤ (x73_3 : Int) := of_decide_eq_true (by (with_reducible assumption))
              have q394 : x73_3 < (l0_5.length : Int) := of_decide_eq_true (by (with_reducible assumption))
              obtain ⟨ad394, e394, hx394_0, hx394_1, hx394_2, hx394_3⟩ := at_T54 HR0_5.out x73_3 p394 q394
              cases e394
              replace hx394_0 := (HB.out.cell (World.block_lt_of_cell? w _ hx394_0)).trans hx394_0
              replace hx394_1 := (HB.out.cell (World.block_lt_of_cell? w _ hx394_1)).trans hx394_1
              replace hx394_2 := (HB.out.cell (World.block_lt_of_cell? w _ hx394_2)).trans hx394_2
              replace hx394_3 := (HB.out.cell (World.block_lt_of_cell? w _ hx394_3)).trans hx394_3
              replace p394 := eq_true p394
              replace q394 := eq_true q394
              obtain ⟨hcz52_0, hcz52_1, hcz52_2, hcz52_3, hcz52_4, hcz52_5, hcz52_6, hcz52_7, hcz52_8, hcz52_9, _⟩ := cl10 BK393.out
              have p395 : 0 ≤ (x73_3 : Int) := of_decide_eq_true (by (with_reducible assumption))
              have q395 : x73_3 < (l1_5.length : Int) := of_decide_eq_true (by (with_reducible assumption))
              obtain ⟨ad395, e395, hx395_0, hx395_1, hx395_2, hx395_3⟩ := at_T54 HR1_5.out x73_3 p395 q395
              cases e395
              replace hx395_0 := (HB.out.cell (World.block_lt_of_cell? w _ hx395_0)).trans hx395_0
              replace hx395_1 := (HB.out.cell (World.block_lt_of_cell? w _ hx395_1)).trans hx395_1
              replace hx395_2 := (HB.out.cell (World.block_lt_of_cell? w _ hx395_2)).trans hx395_2
              replace hx395_3 := (HB.out.cell (World.block_lt_of_cell? w _ hx395_3)).trans hx395_3
              replace p395 := eq_true p395
              replace q395 := eq_true q395
              go_wp2
              repeat (go_quiet (fail); try go_wp2)
              go_ret
              exact ⟨by rfl, by (with_reducible apply pw_below_drewN; with_reducible exact HB.out)⟩
             ·rw [if_neg c49] at H
              have c49b0 : (!((((rd_T54 l0_5 x73_3).f0).toList) == (((rd_T54 l1_5 x73_3).f0).toList)) || ((!(((rd_T54 l0_5 x73_3).f1.f0) == ((rd_T54 l1_5 x73_3).f1.f0)) || (!((((rd_T54 l0_5 x73_3).f1.f1).toList) == (((rd_T54 l1_5 x73_3).f1.f1).toList)))) || (!(((rd_T54 l0_5 x73_3).f2) == ((rd_T54 l1_5 x73_3).f2))))) = false := by simpa using c49
              clear c49
              have H' := Aside0.mk H
              clear H
              have hnb53 := NB392_393.out
              have hnc53 := NB393_392.out
              obtain ⟨hcz54_0, hcz54_1, hcz54_2, hcz54_3, hcz54_4, hcz54_5, hcz54_6, hcz54_7, hcz54_8, hcz54_9, _⟩ := cl10 BK392.out
              have p394 : 0 ≤ (x73_3 : Int) := of_decide_eq_true (by (with_reducible assumption))
              have q394 : x73_3 < (l0_5.length : Int) := of_decide_eq_true (by (with_reducible assumption))
              obtain ⟨ad394, e394, hx394_0, hx394_1, hx394_2, hx394_3⟩ := at_T54 HR0_5.out x73_3 p394 q394
              cases e394
              replace hx394_0 := (HB.out.cell (World.block_lt_of_cell? w _ hx394_0)).trans hx394_0
              replace hx394_1 := (HB.out.cell (World.block_lt_of_cell? w _ hx394_1)).trans hx394_1
              replace hx394_2 := (HB.out.cell (World.block_lt_of_cell? w _ hx394_2)).trans hx394_2
              replace hx394_3 := (HB.out.cell (World.block_lt_of_cell? w _ hx394_3)).trans hx394_3
              replace p394 := eq_true p394
              replace q394 := eq_true q394
              obtain ⟨hcz55_0, hcz55_1, hcz55_2, hcz55_3, hcz55_4, hcz55_5, hcz55_6, hcz55_7, hcz55_8, hcz55_9, _⟩ := cl10 BK393.out
              have p395 : 0 ≤ (x73_3 : Int) := of_decide_eq_true (by (with_reducible assumption))
              have q395 : x73_3 < (l1_5.length : Int) := of_decide_eq_true (by (with_reducible assumption))
              obtain ⟨ad395, e395, hx395_0, hx395_1, hx395_2, hx395_3⟩ := at_T54 HR1_5.out x73_3 p395 q395
              cases e395
              replace hx395_0 := (HB.out.cell (World.block_lt_of_cell? w _ hx395_0)).trans hx395_0
              replace hx395_1 := (HB.out.cell (World.block_lt_of_cell? w _ hx395_1)).trans hx395_1
              replace hx395_2 := (HB.out.cell (World.block_lt_of_cell? w _ hx395_2)).trans hx395_2
              replace hx395_3 := (HB.out.cell (World.block_lt_of_cell? w _ hx395_3)).trans hx395_3
              replace p395 := eq_true p395
              replace q395 := eq_true q395
              go_wp2
              repeat (go_quiet (fail); try go_wp2)
              go_roundg k3
              case measure => have := HJ2.out; have := HJ33.out; have := HK3.out; omega
              case rel => exact ⟨(wrap64 (x73_3 + 1)), (by rfl), H', ⟨by have := HJ2.out; have := HJ33.out; have := HK3.out; omega⟩, ⟨by (with_reducible (refine blk_drewN ?_ _)); exact BK392.out⟩, ⟨by (with_reducible (refine blk_drewN ?_ _)); exact BK393.out⟩, ⟨by (with_reducible apply pw_below_drewN; with_reducible exact HB.out)⟩⟩
            ·rw [if_neg c48] at H
             exact absurd H (by simp)
           ·rw [if_neg c47] at H
            exact absurd H (by simp)
          ·rw [if_neg c46] at H
           exact absurd H (by simp)
         ·rw [if_neg c45] at H
          have c45b0 : decide (x73_3 < (l0_5.length : Int)) = false := decide_eq_false c45
          clear c45
          have H' := Aside0.mk H
          clear H
          have hnb56 := NB392_393.out
          have hnc56 := NB393_392.out
          obtain ⟨hcz57_0, hcz57_1, hcz57_2, hcz57_3, hcz57_4, hcz57_5, hcz57_6, hcz57_7, hcz57_8, hcz57_9, _⟩ := cl10 BK392.out
          go_wp2
          repeat (go_quiet (fail); try go_wp2)
          (try simp only [Act.put, List.setIfInBounds_toArray, List.set_cons_zero, List.set_cons_succ])
          go_loopg [91] k3 (fun kq v91 w' => ∃ (x91_4 : Int), v91 = .int .i64 x91_4 ∧ Aside0 (laws_alpine.l1 kq (l0_6.length : Int) x91_4 a0_0 a0_1 a0_2 a0_3 a0_4 l0_5 l0_6 a0_7 a0_8 a0_9 a1_0 a1_1 a1_2 a1_3 a1_4 l1_5 l1_6 a1_7 a1_8 a1_9 = some r) ∧ Aside0 (kq ≤ k3) ∧ Aside0 (w'.heap[gb392]? = some (.cells #[.string a0_0, .string a0_1, .string a0_2, .string a0_3, .bool a0_4, (.slice A0_5 l0_5.length c0_5), (.slice A0_6 l0_6.length c0_6), .bool a0_7, .bool a0_8, .string a0_9] 33 (0, 0))) ∧ Aside0 (w'.heap[gb393]? = some (.cells #[.string a1_0, .string a1_1, .string a1_2, .string a1_3, .bool a1_4, (.slice A1_5 l1_5.length c1_5), (.slice A1_6 l1_6.length c1_6), .bool a1_7, .bool a1_8, .string a1_9] 33 (0, 0))) ∧ Aside0 (Below w.heap.size w w'))
          case atStart => exact ⟨(0), (by rfl), H', ⟨Nat.le_refl _⟩, ⟨by exact BK392.out⟩, ⟨by exact BK393.out⟩, ⟨by (with_reducible exact HB.out)⟩⟩
          case round =>
           clear H'
           clear c45b0 hcz57_0 hcz57_1 hcz57_2 hcz57_3 hcz57_4 hcz57_5 hcz57_6 hcz57_7 hcz57_8 hcz57_9
           obtain ⟨x91_4, rfl, HA, HK4, BK392, BK393, HB⟩ := hrel
           cases gk with
           | zero => exact absurd HA.out (by simp [laws_alpine.l1])
           | succ k4 =>
            have H := HA.out
            clear HA
            simp only [laws_alpine.l1] at H
            by_cases c58 : x91_4 < (l0_6.length : Int)
            ·rw [if_pos c58] at H
             have c58b0 : decide (x91_4 < (l0_6.length : Int)) = true := decide_eq_true c58
             clear c58
             by_cases c59 : 0 ≤ x91_4
             ·rw [if_pos c59] at H
              have c59b0 : decide (0 ≤ x91_4) = true := decide_eq_true c59
              clear c59
              by_cases c60 : x91_4 < (l0_6.length : Int)
              ·rw [if_pos c60] at H
               have c60b0 : decide (x91_4 < (l0_6.length : Int)) = true := decide_eq_true c60
               clear c60
               by_cases c61 : x91_4 < (l1_6.length : Int)
               ·rw [if_pos c61] at H
                have c61b0 : decide (x91_4 < (l1_6.length : Int)) = true := decide_eq_true c61
                clear c61
                by_cases c62 : (!(((rd_T58 l0_6 x91_4).f0) == ((rd_T58 l1_6 x91_4).f0)) || ((!(((rd_T58 l0_6 x91_4).f1.f0) == ((rd_T58 l1_6 x91_4).f1.f0)) || (!((((rd_T58 l0_6 x91_4).f1.f1).toList) == (((rd_T58 l1_6 x91_4).f1.f1).toList)))))) = true
                ·rw [if_pos c62] at H
                 have c62b0 : (!(((rd_T58 l0_6 x91_4).f0) == ((rd_T58 l1_6 x91_4).f0)) || ((!(((rd_T58 l0_6 x91_4).f1.f0) == ((rd_T58 l1_6 x91_4).f1.f0)) || (!((((rd_T58 l0_6 x91_4).f1.f1).toList) == (((rd_T58 l1_6 x91_4).f1.f1).toList)))))) = true := c62
                 clear c62
                 obtain rfl := Option.some.inj H
                 have hnb63 := NB392_393.out
                 have hnc63 := NB393_392.out
                 obtain ⟨hcz64_0, hcz64_1, hcz64_2, hcz64_3, hcz64_4, hcz64_5, hcz64_6, hcz64_7, hcz64_8, hcz64_9, _⟩ := cl10 BK392.out
                 have p396 : 0 ≤ (x91_4 : Int) := of_decide_eq_true (by (with_reducible assumption))
                 have q396 : x91_4 < (l0_6.length : Int) := of_decide_eq_true (by (with_reducible assumption))
                 obtain ⟨ad396, e396, hx396_0, hx396_1, hx396_2⟩ := at_T58 HR0_6.out x91_4 p396 q396
                 cases e396
                 replace hx396_0 := (HB.out.cell (World.block_lt_of_cell? w _ hx396_0)).trans hx396_0
                 replace hx396_1 := (HB.out.cell (World.block_lt_of_cell? w _ hx396_1)).trans hx396_1
                 replace hx396_2 := (HB.out.cell (World.block_lt_of_cell? w _ hx396_2)).trans hx396_2
                 replace p396 := eq_true p396
                 replace q396 := eq_true q396
                 obtain ⟨hcz65_0, hcz65_1, hcz65_2, hcz65_3, hcz65_4, hcz65_5, hcz65_6, hcz65_7, hcz65_8, hcz65_9, _⟩ := cl10 BK393.out
                 have p397 : 0 ≤ (x91_4 : Int) := of_decide_eq_true (by (with_reducible assumption))
                 have q397 : x91_4 < (l1_6.length : Int) := of_decide_eq_true (by (with_reducible assumption))
                 obtain ⟨ad397, e397, hx397_0, hx397_1, hx397_2⟩ := at_T58 HR1_6.out x91_4 p397 q397
                 cases e397
                 replace hx397_0 := (HB.out.cell (World.block_lt_of_cell? w _ hx397_0)).trans hx397_0
                 replace hx397_1 := (HB.out.cell (World.block_lt_of_cell? w _ hx397_1)).trans hx397_1
                 replace hx397_2 := (HB.out.cell (World.block_lt_of_cell? w _ hx397_2)).trans hx397_2
                 replace p397 := eq_true p397
                 replace q397 := eq_true q397
                 go_wp2
                 repeat (go_quiet (fail); try go_wp2)
                 go_ret
                 exact ⟨by rfl, by (with_reducible apply pw_below_drewN; with_reducible exact HB.out)⟩
                ·rw [if_neg c62] at H
                 have c62b0 : (!(((rd_T58 l0_6 x91_4).f0) == ((rd_T58 l1_6 x91_4).f0)) || ((!(((rd_T58 l0_6 x91_4).f1.f0) == ((rd_T58 l1_6 x91_4).f1.f0)) || (!((((rd_T58 l0_6 x91_4).f1.f1).toList) == (((rd_T58 l1_6 x91_4).f1.f1).toList)))))) = false := by simpa using c62
                 clear c62
                 have H' := Aside0.mk H
                 clear H
                 have hnb66 := NB392_393.out
                 have hnc66 := NB393_392.out
                 obtain ⟨hcz67_0, hcz67_1, hcz67_2, hcz67_3, hcz67_4, hcz67_5, hcz67_6, hcz67_7, hcz67_8, hcz67_9, _⟩ := cl10 BK392.out
                 have p396 : 0 ≤ (x91_4 : Int) := of_decide_eq_true (by (with_reducible assumption))
                 have q396 : x91_4 < (l0_6.length : Int) := of_decide_eq_true (by (with_reducible assumption))
                 obtain ⟨ad396, e396, hx396_0, hx396_1, hx396_2⟩ := at_T58 HR0_6.out x91_4 p396 q396
                 cases e396
                 replace hx396_0 := (HB.out.cell (World.block_lt_of_cell? w _ hx396_0)).trans hx396_0
                 replace hx396_1 := (HB.out.cell (World.block_lt_of_cell? w _ hx396_1)).trans hx396_1
                 replace hx396_2 := (HB.out.cell (World.block_lt_of_cell? w _ hx396_2)).trans hx396_2
                 replace p396 := eq_true p396
                 replace q396 := eq_true q396
                 obtain ⟨hcz68_0, hcz68_1, hcz68_2, hcz68_3, hcz68_4, hcz68_5, hcz68_6, hcz68_7, hcz68_8, hcz68_9, _⟩ := cl10 BK393.out
                 have p397 : 0 ≤ (x91_4 : Int) := of_decide_eq_true (by (with_reducible assumption))
                 have q397 : x91_4 < (l1_6.length : Int) := of_decide_eq_true (by (with_reducible assumption))
                 obtain ⟨ad397, e397, hx397_0, hx397_1, hx397_2⟩ := at_T58 HR1_6.out x91_4 p397 q397
                 cases e397
                 replace hx397_0 := (HB.out.cell (World.block_lt_of_cell? w _ hx397_0)).trans hx397_0
                 replace hx397_1 := (HB.out.cell (World.block_lt_of_cell? w _ hx397_1)).trans hx397_1
                 replace hx397_2 := (HB.out.cell (World.block_lt_of_cell? w _ hx397_2)).trans hx397_2
                 replace p397 := eq_true p397
                 replace q397 := eq_true q397
                 go_wp2
                 repeat (go_quiet (fail); try go_wp2)
                 go_roundg k4
                 case measure => have := HJ2.out; have := HJ33.out; have := HK3.out; have := HK4.out; omega
                 case rel => exact ⟨(wrap64 (x91_4 + 1)), (by rfl), H', ⟨by have := HJ2.out; have := HJ33.out; have := HK3.out; have := HK4.out; omega⟩, ⟨by (with_reducible (refine blk_drewN ?_ _)); exact BK392.out⟩, ⟨by (with_reducible (refine blk_drewN ?_ _)); exact BK393.out⟩, ⟨by (with_reducible apply pw_below_drewN; with_reducible exact HB.out)⟩⟩
               ·rw [if_neg c61] at H
                exact absurd H (by simp)
              ·rw [if_neg c60] at H
               exact absurd H (by simp)
             ·rw [if_neg c59] at H
              exact absurd H (by simp)
            ·rw [if_neg c58] at H
             have c58b0 : decide (x91_4 < (l0_6.length : Int)) = false := decide_eq_false c58
             clear c58
             obtain rfl := Option.some.inj H
             go_wp2
             repeat (go_quiet (fail); try go_wp2)
             go_ret
             exact ⟨by rfl, by (with_reducible exact HB.out)⟩
end Go.Proofs.YtapaijpglfmfgaaDoor.Q
end
section -- Qx20
namespace Go.Proofs.YtapaijpglfmfgaaDoor.Q
open Go.RowKit Go.Proofs.YtapaijpglfmfgaaDoorH Go.Proofs.YtapaijpglfmfgaaDoorG Go.Proofs.YtapaijpglfmfgaaDoorW.PrintWords Go.Proofs.YtapaijpglfmfgaaDoorW.PrintLast Go.Proofs.YtapaijpglfmfgaaDoorW.PrintMore Go.Proofs.YtapaijpglfmfgaaDoorC
attribute [local go_sem] max2_int min2_int max_two min_two max_three min_three max_four min_four
set_option linter.unusedVariables false
set_option linter.unusedSimpArgs false
def laws_short.l0 : Nat → List ByteArray → List ByteArray → Int → Int → Option (Bool)
 | 0, _, _, _, _ => none
 | k + 1, x0, x5, x6, x7 => if x7 < x6 then (if 0 ≤ x7 then (if x7 < (x5.length : Int) then (if ((rdOf ByteArray.empty x5 x7).size : Int) > 1200 then (some false) else (laws_short.l0 k x0 x5 x6 (wrap64 (x7 + 1)))) else (none)) else (none)) else (some (decide ((x0.length : Int) ≤ 60)))
def laws_short.f (k : Nat) (l0 : List ByteArray) : Option (Bool) := laws_short.l0 k l0 l0 (l0.length : Int) 0
def laws_FnAlpineParse.j0 : Nat → ByteArray → Bool → Option (Bool)
 | 0, _, _ => none
 | k + 1, x0, x18 => if x18 = true then (some true) else ((impl_AlpineParse.f x0).bind fun bt458 => ((spec_AlpineParse.f k x0).bind fun bt474 => (if (bt458.2.2.2.2.2.2.2.2.2.2 == bt474.2.2.2.2.2.2.2.2.2.2) = true then ((laws_alpine.f k bt458.1 bt458.2.1 bt458.2.2.1 bt458.2.2.2.1 bt458.2.2.2.2.1 bt458.2.2.2.2.2.1 bt458.2.2.2.2.2.2.1 bt458.2.2.2.2.2.2.2.1 bt458.2.2.2.2.2.2.2.2.1 bt458.2.2.2.2.2.2.2.2.2.1 bt474.1 bt474.2.1 bt474.2.2.1 bt474.2.2.2.1 bt474.2.2.2.2.1 bt474.2.2.2.2.2.1 bt474.2.2.2.2.2.2.1 bt474.2.2.2.2.2.2.2.1 bt474.2.2.2.2.2.2.2.2.1 bt474.2.2.2.2.2.2.2.2.2.1).bind fun t490 => (some t490)) else (some false))))
def laws_FnAlpineParse.f (k : Nat) (a0 : ByteArray) : Option (Bool) := if (a0.size : Int) > 2147483647 then (some true) else ((laws_short.f k (([a0] : List ByteArray))).bind fun t456 => (if t456 = true then ((spec_AlpineTextKnown.f k a0).bind fun t457 => (laws_FnAlpineParse.j0 k a0 (!t457))) else (laws_FnAlpineParse.j0 k a0 true)))
def laws_FnAlpineParse.Pure : Prop := ∀ (a0 : ByteArray), a0.size ≤ 140737488351232 → ∃ k, laws_FnAlpineParse.f k a0 = some true
end Go.Proofs.YtapaijpglfmfgaaDoor.Q
end
section -- Qx18
namespace Go.Proofs.YtapaijpglfmfgaaDoor.Q
open Go.RowKit Go.Proofs.YtapaijpglfmfgaaDoorH Go.Proofs.YtapaijpglfmfgaaDoorG Go.Proofs.YtapaijpglfmfgaaDoorW.PrintWords Go.Proofs.YtapaijpglfmfgaaDoorW.PrintLast Go.Proofs.YtapaijpglfmfgaaDoorW.PrintMore Go.Proofs.YtapaijpglfmfgaaDoorC
attribute [local go_sem] max2_int min2_int max_two min_two max_three min_three max_four min_four
set_option linter.unusedVariables false
set_option linter.unusedSimpArgs false
def laws_FnAlpineBuilt.j0 : Nat → ByteArray → Bool → ByteArray → ByteArray → ByteArray → ByteArray → Bool → List (S54) → List (S58) → Bool → Bool → ByteArray → Option (Bool)
 | 0, _, _, _, _, _, _, _, _, _, _, _, _ => none
 | k + 1, x3, x25, x417000, x417001, x417002, x417003, x417004, x417005, x417006, x417007, x417008, x417009 => if x25 = true then (some true) else ((impl_AlpineParse.f x3).bind fun bt418 => ((spec_AlpineParse.f k x3).bind fun bt434 => (if bt418.2.2.2.2.2.2.2.2.2.2 = true then (if bt434.2.2.2.2.2.2.2.2.2.2 = true then ((laws_alpine.f k bt418.1 bt418.2.1 bt418.2.2.1 bt418.2.2.2.1 bt418.2.2.2.2.1 bt418.2.2.2.2.2.1 bt418.2.2.2.2.2.2.1 bt418.2.2.2.2.2.2.2.1 bt418.2.2.2.2.2.2.2.2.1 bt418.2.2.2.2.2.2.2.2.2.1 x417000 x417001 x417002 x417003 x417004 x417005 x417006 x417007 x417008 x417009).bind fun t450 => (if t450 = true then ((laws_alpine.f k bt434.1 bt434.2.1 bt434.2.2.1 bt434.2.2.2.1 bt434.2.2.2.2.1 bt434.2.2.2.2.2.1 bt434.2.2.2.2.2.2.1 bt434.2.2.2.2.2.2.2.1 bt434.2.2.2.2.2.2.2.2.1 bt434.2.2.2.2.2.2.2.2.2.1 x417000 x417001 x417002 x417003 x417004 x417005 x417006 x417007 x417008 x417009).bind fun t451 => (some t451)) else (some false))) else (some false)) else (some false))))
def laws_FnAlpineBuilt.f (k : Nat) (l0_0 : List Int) (a0_1 : Int) (l0_2 : List Int) (l0_3 : List Int) (a0_4 : ByteArray) (a0_5 : Bool) (a0_6 : Int) : Option (Bool) := (laws_zzFits1.f l0_0 a0_1 l0_2 l0_3 a0_4 a0_5 a0_6).bind fun t399 => (if t399 = true then ((laws_Package_text.f k l0_0 a0_1 l0_2 l0_3 a0_4 a0_5 a0_6).bind fun bt400 => (if bt400.2.2.2.2.2.2.2.2.2.2.2 = true then ((spec_AlpineTextKnown.f k bt400.1).bind fun t417 => (laws_FnAlpineBuilt.j0 k bt400.1 (!t417) bt400.2.1 bt400.2.2.1 bt400.2.2.2.1 bt400.2.2.2.2.1 bt400.2.2.2.2.2.1 bt400.2.2.2.2.2.2.1 bt400.2.2.2.2.2.2.2.1 bt400.2.2.2.2.2.2.2.2.1 bt400.2.2.2.2.2.2.2.2.2.1 bt400.2.2.2.2.2.2.2.2.2.2.1)) else (laws_FnAlpineBuilt.j0 k bt400.1 true bt400.2.1 bt400.2.2.1 bt400.2.2.2.1 bt400.2.2.2.2.1 bt400.2.2.2.2.2.1 bt400.2.2.2.2.2.2.1 bt400.2.2.2.2.2.2.2.1 bt400.2.2.2.2.2.2.2.2.1 bt400.2.2.2.2.2.2.2.2.2.1 bt400.2.2.2.2.2.2.2.2.2.2.1))) else (some true))
set_option maxHeartbeats 8000000 in
set_option maxRecDepth 100000 in
theorem laws_FnAlpineBuilt.calls (k : Nat) (A0_0 : Option Addr) (c0_0 : Nat) (l0_0 : List Int) (a0_1 : Int) (A0_2 : Option Addr) (c0_2 : Nat) (l0_2 : List Int) (A0_3 : Option Addr) (c0_3 : Nat) (l0_3 : List Int) (a0_4 : ByteArray) (a0_5 : Bool) (a0_6 : Int) (r : Bool) (w : World) (hr0_0 : Kd.C (Kd.int .u16) w A0_0 l0_0.length l0_0) (hc0_0 : l0_0.length ≤ c0_0) (hr0_2 : Kd.C (Kd.int .u8) w A0_2 l0_2.length l0_2) (hc0_2 : l0_2.length ≤ c0_2) (hr0_3 : Kd.C (Kd.int .u16) w A0_3 l0_3.length l0_3) (hc0_3 : l0_3.length ≤ c0_3) (h : laws_FnAlpineBuilt.f k l0_0 a0_1 l0_2 l0_3 a0_4 a0_5 a0_6 = some r) (hG : GL w) (hr : r = true) :
  Calls Tryd.prog 3 #[.agg #[.slice A0_0 l0_0.length c0_0, .int .u8 a0_1, .slice A0_2 l0_2.length c0_2, .slice A0_3 l0_3.length c0_3, .string a0_4, .bool a0_5, .int .u16 a0_6]] w fun e w' => e = .returned (.bool r) ∧ Below w.heap.size w w' := by
 have HT := Aside0.mk hr
 clear hr
 have HG := Aside0.mk hG
 clear hG
 have hu26 := Tryd.underlying26
 have hu33 := Tryd.underlying33
 have HR0_0 := Aside0.mk hr0_0
 have HC0_0 := Aside0.mk hc0_0
 clear hr0_0 hc0_0
 have HR0_2 := Aside0.mk hr0_2
 have HC0_2 := Aside0.mk hc0_2
 clear hr0_2 hc0_2
 have HR0_3 := Aside0.mk hr0_3
 have HC0_3 := Aside0.mk hc0_3
 clear hr0_3 hc0_3
 have HB := Aside0.mk (Below.refl w.heap.size w)
 have H : ((laws_zzFits1.f l0_0 a0_1 l0_2 l0_3 a0_4 a0_5 a0_6).bind fun t399 => (if t399 = true then ((laws_Package_text.f k l0_0 a0_1 l0_2 l0_3 a0_4 a0_5 a0_6).bind fun bt400 => (if bt400.2.2.2.2.2.2.2.2.2.2.2 = true then ((spec_AlpineTextKnown.f k bt400.1).bind fun t417 => (laws_FnAlpineBuilt.j0 k bt400.1 (!t417) bt400.2.1 bt400.2.2.1 bt400.2.2.2.1 bt400.2.2.2.2.1 bt400.2.2.2.2.2.1 bt400.2.2.2.2.2.2.1 bt400.2.2.2.2.2.2.2.1 bt400.2.2.2.2.2.2.2.2.1 bt400.2.2.2.2.2.2.2.2.2.1 bt400.2.2.2.2.2.2.2.2.2.2.1)) else (laws_FnAlpineBuilt.j0 k bt400.1 true bt400.2.1 bt400.2.2.1 bt400.2.2.2.1 bt400.2.2.2.2.1 bt400.2.2.2.2.2.1 bt400.2.2.2.2.2.2.1 bt400.2.2.2.2.2.2.2.1 bt400.2.2.2.2.2.2.2.2.1 bt400.2.2.2.2.2.2.2.2.2.1 bt400.2.2.2.2.2.2.2.2.2.2.1))) else (some true))) = some r := h
 clear h
 replace H := Option.bind_eq_some_iff.mp H
 obtain ⟨t399, A20, H⟩ := H
 replace H : (if t399 = true then ((laws_Package_text.f k l0_0 a0_1 l0_2 l0_3 a0_4 a0_5 a0_6).bind fun bt400 => (if bt400.2.2.2.2.2.2.2.2.2.2.2 = true then ((spec_AlpineTextKnown.f k bt400.1).bind fun t417 => (laws_FnAlpineBuilt.j0 k bt400.1 (!t417) bt400.2.1 bt400.2.2.1 bt400.2.2.2.1 bt400.2.2.2.2.1 bt400.2.2.2.2.2.1 bt400.2.2.2.2.2.2.1 bt400.2.2.2.2.2.2.2.1 bt400.2.2.2.2.2.2.2.2.1 bt400.2.2.2.2.2.2.2.2.2.1 bt400.2.2.2.2.2.2.2.2.2.2.1)) else (laws_FnAlpineBuilt.j0 k bt400.1 true bt400.2.1 bt400.2.2.1 bt400.2.2.2.1 bt400.2.2.2.2.1 bt400.2.2.2.2.2.1 bt400.2.2.2.2.2.2.1 bt400.2.2.2.2.2.2.2.1 bt400.2.2.2.2.2.2.2.2.1 bt400.2.2.2.2.2.2.2.2.2.1 bt400.2.2.2.2.2.2.2.2.2.2.1))) else (some true)) = some r := H
 have A2 := Aside0.mk A20
 clear A20
 by_cases c3 : t399 = true
 ·subst c3
  have H1 : ((laws_Package_text.f k l0_0 a0_1 l0_2 l0_3 a0_4 a0_5 a0_6).bind fun bt400 => (if bt400.2.2.2.2.2.2.2.2.2.2.2 = true then ((spec_AlpineTextKnown.f k bt400.1).bind fun t417 => (laws_FnAlpineBuilt.j0 k bt400.1 (!t417) bt400.2.1 bt400.2.2.1 bt400.2.2.2.1 bt400.2.2.2.2.1 bt400.2.2.2.2.2.1 bt400.2.2.2.2.2.2.1 bt400.2.2.2.2.2.2.2.1 bt400.2.2.2.2.2.2.2.2.1 bt400.2.2.2.2.2.2.2.2.2.1 bt400.2.2.2.2.2.2.2.2.2.2.1)) else (laws_FnAlpineBuilt.j0 k bt400.1 true bt400.2.1 bt400.2.2.1 bt400.2.2.2.1 bt400.2.2.2.2.1 bt400.2.2.2.2.2.1 bt400.2.2.2.2.2.2.1 bt400.2.2.2.2.2.2.2.1 bt400.2.2.2.2.2.2.2.2.1 bt400.2.2.2.2.2.2.2.2.2.1 bt400.2.2.2.2.2.2.2.2.2.2.1))) = some r := by rw [if_pos rfl] at H; exact H
  clear H
  have H := H1
  clear H1
  replace H := Option.bind_eq_some_iff.mp H
  obtain ⟨⟨t400, t401, t402, t403, t404, t405, t406, t409, t412, t413, t414, t415⟩, A40, H⟩ := H
  replace H : (if t415 = true then ((spec_AlpineTextKnown.f k t400).bind fun t417 => (laws_FnAlpineBuilt.j0 k t400 (!t417) t401 t402 t403 t404 t405 t406 t409 t412 t413 t414)) else (laws_FnAlpineBuilt.j0 k t400 true t401 t402 t403 t404 t405 t406 t409 t412 t413 t414)) = some r := H
  have A4 := Aside0.mk A40
  clear A40
  have HC5 := Aside0.mk H
  clear H
  go_enter Tryd.func3, Tryd.ntmps3
  go_upto_region 4 with (first | ((with_reducible refine gate_dst (N := 1) rfl ?_); refine box_event ?hg (N := 1) ?hd (cs := #[.slice A0_0 l0_0.length c0_0, .int .u8 a0_1, .slice A0_2 l0_2.length c0_2, .slice A0_3 l0_3.length c0_3, .string a0_4, .bool a0_5, .int .u16 a0_6]) (t := 26) ?hr ?_; (case hd => rfl); (case hg => rfl); (case hr => first | (go_simp; done) | (go_simp; rfl)); intro gb398 hg w6 hbox hb; have BK398 := Aside0.mk hbox; have GW398 := Aside0.mk ((by rw [hg]; exact (below_size (by (with_reducible exact HB.out))) : w.heap.size ≤ gb398)); have GE398 := Aside0.mk ((by rw [hg]; exact (below_size (by (with_reducible exact HB.out))) : w.heap.size ≤ gb398)); replace HB := Aside0.mk (below_step (by (with_reducible exact HB.out)) hb); clear hb hbox hg; obtain ⟨hcz7_0, hcz7_1, hcz7_2, hcz7_3, hcz7_4, hcz7_5, hcz7_6, hfz7_0, hfz7_1, hfz7_2, hfz7_3, hfz7_4, hfz7_5, hfz7_6⟩ := cl7 BK398.out) | ((with_reducible refine gate_callee (f := 9) rfl ?_); refine goesL_ (some 11) rfl rfl Tryd.func9 (by kernel_rfl) rfl #[.agg #[.slice A0_0 l0_0.length c0_0, .int .u8 a0_1, .slice A0_2 l0_2.length c0_2, .slice A0_3 l0_3.length c0_3, .string a0_4, .bool a0_5, .int .u16 a0_6]] rfl (by (try simp only [List.map_toArray, List.map_cons, List.map_nil]); first | done | rfl | (simp only [List.length_drop, List.length_take]; rfl)) ?_; (with_reducible refine (laws_zzFits1.calls _ _ l0_0 a0_1 _ _ l0_2 _ _ l0_3 a0_4 a0_5 a0_6 true _ ?side1 ?side2 ?side3 ?side4 ?side5 ?side6 A2.out).mono ?_); (case side1 => repeat (first | exact (Kd.C_below HR0_0.out HB.out) | (with_reducible refine Kd.C_alloc ?_ _) | (with_reducible refine Kd.C_drewN ?_ _) | (with_reducible refine Kd.C_drew ?_))); (case side2 => exact HC0_0.out); (case side3 => repeat (first | exact (Kd.C_below HR0_2.out HB.out) | (with_reducible refine Kd.C_alloc ?_ _) | (with_reducible refine Kd.C_drewN ?_ _) | (with_reducible refine Kd.C_drew ?_))); (case side4 => exact HC0_2.out); (case side5 => repeat (first | exact (Kd.C_below HR0_3.out HB.out) | (with_reducible refine Kd.C_alloc ?_ _) | (with_reducible refine Kd.C_drewN ?_ _) | (with_reducible refine Kd.C_drew ?_))); (case side6 => exact HC0_3.out); rintro e w8 ⟨rfl, hb⟩; refine ⟨_, rfl, ?_⟩; replace BK398 := Aside0.mk (blk_below BK398.out hb); replace HB := Aside0.mk (below_step (by (with_reducible exact HB.out)) hb); (try clear hb); (try clear hb2); (try clear hk); (try clear hi); obtain ⟨hcz9_0, hcz9_1, hcz9_2, hcz9_3, hcz9_4, hcz9_5, hcz9_6, hfz9_0, hfz9_1, hfz9_2, hfz9_3, hfz9_4, hfz9_5, hfz9_6⟩ := cl7 BK398.out) | ((with_reducible refine gate_callee (f := 10) rfl ?_); refine goesL_ (some 15) rfl rfl Tryd.func10 (by kernel_rfl) rfl #[.agg #[.slice A0_0 l0_0.length c0_0, .int .u8 a0_1, .slice A0_2 l0_2.length c0_2, .slice A0_3 l0_3.length c0_3, .string a0_4, .bool a0_5, .int .u16 a0_6]] rfl (by (try simp only [List.map_toArray, List.map_cons, List.map_nil]); first | done | rfl | (simp only [List.length_drop, List.length_take]; rfl)) ?_; (with_reducible refine (laws_Package_text.calls k _ _ l0_0 a0_1 _ _ l0_2 _ _ l0_3 a0_4 a0_5 a0_6 t400 t401 t402 t403 t404 t405 t406 t409 t412 t413 t414 t415 _ ?side1 ?side2 ?side3 ?side4 ?side5 ?side6 A4.out).mono ?_); (case side1 => repeat (first | exact (Kd.C_below HR0_0.out HB.out) | (with_reducible refine Kd.C_alloc ?_ _) | (with_reducible refine Kd.C_drewN ?_ _) | (with_reducible refine Kd.C_drew ?_))); (case side2 => exact HC0_0.out); (case side3 => repeat (first | exact (Kd.C_below HR0_2.out HB.out) | (with_reducible refine Kd.C_alloc ?_ _) | (with_reducible refine Kd.C_drewN ?_ _) | (with_reducible refine Kd.C_drew ?_))); (case side4 => exact HC0_2.out); (case side5 => repeat (first | exact (Kd.C_below HR0_3.out HB.out) | (with_reducible refine Kd.C_alloc ?_ _) | (with_reducible refine Kd.C_drewN ?_ _) | (with_reducible refine Kd.C_drew ?_))); (case side6 => exact HC0_3.out); rintro e w10 ⟨v407, v410, rfl, ho0, ho1, hb⟩; refine ⟨_, rfl, ?_⟩; have HO408 := Aside0.mk (Kd.R_lower ho0 (below_size (by (with_reducible exact HB.out)))); have HO411 := Aside0.mk (Kd.R_lower ho1 (below_size (by (with_reducible exact HB.out)))); replace BK398 := Aside0.mk (blk_below BK398.out hb); replace HB := Aside0.mk (below_step (by (with_reducible exact HB.out)) hb); (try clear hb); (try clear hb2); (try clear hk); (try clear hi); (try clear ho0); (try clear ho1)) | ((with_reducible refine gate_dst (N := 4) rfl ?_); refine box_event ?hg (N := 4) ?hd (cs := #[.string ⟨#[]⟩, .string ⟨#[]⟩, .string ⟨#[]⟩, .string ⟨#[]⟩, .bool false, .slice none 0 0, .slice none 0 0, .bool false, .bool false, .string ⟨#[]⟩]) (t := 33) ?hr ?_; (case hd => rfl); (case hg => rfl); (case hr => first | (go_simp; done) | (go_simp; rfl)); intro gb416 hg w11 hbox hb; have n0_ := Aside0.mk (Kd.R_below (by (with_reducible repeat (first | apply Kd.R_alloc | apply Kd.R_drewN | apply Kd.R_drew)); exact HO408.out) hb); have n1_ := Aside0.mk (Kd.R_below (by (with_reducible repeat (first | apply Kd.R_alloc | apply Kd.R_drewN | apply Kd.R_drew)); exact HO411.out) hb); have n2_ := Aside0.mk (blk_below BK398.out hb); have n3_ := Aside0.mk (below_step (by (with_reducible exact HB.out)) hb); have n4_ := Aside0.mk hbox; have n5_ := Aside0.mk ((by rw [hg]; exact (below_size (by (with_reducible exact HB.out))) : w.heap.size ≤ gb416)); have n6_ := Aside0.mk ((by rw [hg]; exact (below_size (by (with_reducible exact HB.out))) : w.heap.size ≤ gb416)); have n7_ := Aside0.mk ((by rw [hg]; exact Nat.ne_of_lt (blk_lt BK398.out) : gb398 ≠ gb416)); have n8_ := Aside0.mk ((by rw [hg]; exact Nat.ne_of_gt (blk_lt BK398.out) : gb416 ≠ gb398)); clear HO408; clear HO411; clear BK398; clear HB; have HO408 := n0_; have HO411 := n1_; have BK398 := n2_; have HB := n3_; have BK416 := n4_; have GW416 := n5_; have GE416 := n6_; have NB398_416 := n7_; have NB416_398 := n8_; clear n0_ n1_ n2_ n3_ n4_ n5_ n6_ n7_ n8_; clear hb hbox hg; have hnb12 := NB416_398.out; have hnc12 := NB398_416.out; obtain ⟨hcz13_0, hcz13_1, hcz13_2, hcz13_3, hcz13_4, hcz13_5, hcz13_6, hcz13_7, hcz13_8, hcz13_9, hfz13_0, hfz13_1, hfz13_2, hfz13_3, hfz13_4, hfz13_5, hfz13_6, hfz13_7, hfz13_8, hfz13_9⟩ := cl10 BK416.out; obtain ⟨Ao14, co14, eo14⟩ := Kd.R_slice HO408.out; subst eo14; obtain ⟨Ao15, co15, eo15⟩ := Kd.R_slice HO411.out; subst eo15))
  (try simp only [Act.put, List.setIfInBounds_toArray, List.set_cons_zero, List.set_cons_succ])
  go_cut [25] (fun v25 wc => ∃ (kq : Nat) (x25_4 : Bool), v25 = .bool x25_4 ∧ Aside0 (laws_FnAlpineBuilt.j0 kq t400 x25_4 t401 t402 t403 t404 t405 t406 t409 t412 t413 t414 = some r) ∧ Aside0 (kq ≤ k) ∧ Aside0 (Kd.R k54 54 wc w.heap.size (fun _ => True) (.slice Ao14 t406.length co14) t406) ∧ Aside0 (Kd.R k58 58 wc w.heap.size (fun _ => True) (.slice Ao15 t409.length co15) t409) ∧ Aside0 (wc.heap[gb398]? = some (.cells #[(.slice A0_0 l0_0.length c0_0), .int .u8 a0_1, (.slice A0_2 l0_2.length c0_2), (.slice A0_3 l0_3.length c0_3), .string a0_4, .bool a0_5, .int .u16 a0_6] 26 (0, 0))) ∧ Aside0 (wc.heap[gb416]? = some (.cells #[.string t401, .string t402, .string t403, .string t404, .bool t405, (.slice Ao14 t406.length co14), (.slice Ao15 t409.length co15), .bool t412, .bool t413, .string t414] 33 (0, 0))) ∧ Aside0 (Below w.heap.size w wc))
  case first =>
   have H := HC5.out
   clear HC5
   by_cases c16 : t415 = true
   ·subst c16
    have H1 : ((spec_AlpineTextKnown.f k t400).bind fun t417 => (laws_FnAlpineBuilt.j0 k t400 (!t417) t401 t402 t403 t404 t405 t406 t409 t412 t413 t414)) = some r := by rw [if_pos rfl] at H; exact H
    clear H
    have H := H1
    clear H1
    replace H := Option.bind_eq_some_iff.mp H
    obtain ⟨t417, A170, H⟩ := H
    replace H : (laws_FnAlpineBuilt.j0 k t400 (!t417) t401 t402 t403 t404 t405 t406 t409 t412 t413 t414) = some r := H
    have A17 := Aside0.mk A170
    clear A170
    have H' := Aside0.mk H
    clear H
    go_wp2_with ((go_at_call 11; (with_reducible refine (spec_AlpineTextKnown.calls k t400 t417 _ A17.out).mono ?_); rintro e w18 ⟨rfl, hb⟩; replace HO408 := Aside0.mk (Kd.R_below (by (with_reducible repeat (first | apply Kd.R_alloc | apply Kd.R_drewN | apply Kd.R_drew)); exact (Kd.R_mono (farC (farC (farC (farC (farC (farC (farC (farC (farC (farC (Kd.R_types HO408.out BK416.out (by decide)))))))))))) (fun _ h_ => h_.1))) hb); replace HO411 := Aside0.mk (Kd.R_below (by (with_reducible repeat (first | apply Kd.R_alloc | apply Kd.R_drewN | apply Kd.R_drew)); exact (Kd.R_mono (farC (farC (farC (farC (farC (farC (farC (farC (farC (farC (Kd.R_types HO411.out BK416.out (by decide)))))))))))) (fun _ h_ => h_.1))) hb); replace BK398 := Aside0.mk (blk_below (g := gb398) (o := .cells #[.slice A0_0 l0_0.length c0_0, .int .u8 a0_1, .slice A0_2 l0_2.length c0_2, .slice A0_3 l0_3.length c0_3, .string a0_4, .bool a0_5, .int .u16 a0_6] 26 (0, 0)) (by refine blk_far ?_ NB398_416.out _; refine blk_far ?_ NB398_416.out _; refine blk_far ?_ NB398_416.out _; refine blk_far ?_ NB398_416.out _; refine blk_far ?_ NB398_416.out _; refine blk_far ?_ NB398_416.out _; refine blk_far ?_ NB398_416.out _; refine blk_far ?_ NB398_416.out _; refine blk_far ?_ NB398_416.out _; refine blk_far ?_ NB398_416.out _; exact BK398.out) hb); replace BK416 := Aside0.mk (blk_below (g := gb416) (o := .cells #[.string t401, .string t402, .string t403, .string t404, .bool t405, .slice Ao14 t406.length co14, .slice Ao15 t409.length co15, .bool t412, .bool t413, .string t414] 33 (0, 0)) (by exact put10 BK416.out) hb); replace HB := Aside0.mk (below_step (by repeat (first | (with_reducible first | exact HB.out | apply below_alloc | apply pw_below_drewN | apply below_drew1 | refine below_set ?_ GE398.out | refine below_set ?_ GE416.out) | exact HB.out)) hb); (try clear hb); (try clear hb2); (try clear hk); (try clear hi)))
    go_meet
    case rel => exact ⟨_, (!t417), (by rfl), H', ⟨by omega⟩, ⟨by (with_reducible repeat (first | apply Kd.R_alloc | apply Kd.R_drewN | apply Kd.R_drew)); exact HO408.out⟩, ⟨by (with_reducible repeat (first | apply Kd.R_alloc | apply Kd.R_drewN | apply Kd.R_drew)); exact HO411.out⟩, ⟨by exact BK398.out⟩, ⟨by exact BK416.out⟩, ⟨by (with_reducible exact HB.out)⟩⟩
   ·replace c16 := Bool.eq_false_iff.mpr c16
    subst c16
    have H1 : (laws_FnAlpineBuilt.j0 k t400 true t401 t402 t403 t404 t405 t406 t409 t412 t413 t414) = some r := by rw [if_neg (show ¬ (false = true) by decide)] at H; exact H
    clear H
    have H := H1
    clear H1
    have H' := Aside0.mk H
    clear H
    go_wp2
    go_meet
    case rel => exact ⟨_, (true), (by rfl), H', ⟨by omega⟩, ⟨by (with_reducible repeat (first | apply Kd.R_alloc | apply Kd.R_drewN | apply Kd.R_drew)); exact Kd.R_mono (farC (farC (farC (farC (farC (farC (farC (farC (farC (farC (Kd.R_types HO408.out BK416.out (by decide)))))))))))) (fun _ hk => trivial)⟩, ⟨by (with_reducible repeat (first | apply Kd.R_alloc | apply Kd.R_drewN | apply Kd.R_drew)); exact Kd.R_mono (farC (farC (farC (farC (farC (farC (farC (farC (farC (farC (Kd.R_types HO411.out BK416.out (by decide)))))))))))) (fun _ hk => trivial)⟩, ⟨by refine blk_far ?_ NB398_416.out _; refine blk_far ?_ NB398_416.out _; refine blk_far ?_ NB398_416.out _; refine blk_far ?_ NB398_416.out _; refine blk_far ?_ NB398_416.out _; refine blk_far ?_ NB398_416.out _; refine blk_far ?_ NB398_416.out _; refine blk_far ?_ NB398_416.out _; refine blk_far ?_ NB398_416.out _; refine blk_far ?_ NB398_416.out _; exact BK398.out⟩, ⟨by exact put10 BK416.out⟩, ⟨by repeat (first | (with_reducible first | exact HB.out | apply below_alloc | apply pw_below_drewN | apply below_drew1 | refine below_set ?_ GE398.out | refine below_set ?_ GE416.out) | exact HB.out)⟩⟩
  case rest =>
   clear HC5
   clear hcz13_0 hcz13_1 hcz13_2 hcz13_3 hcz13_4 hcz13_5 hcz13_6 hcz13_7 hcz13_8 hcz13_9 hcz7_0 hcz7_1 hcz7_2 hcz7_3 hcz7_4 hcz7_5 hcz7_6 hcz9_0 hcz9_1 hcz9_2 hcz9_3 hcz9_4 hcz9_5 hcz9_6 hfz13_0 hfz13_1 hfz13_2 hfz13_3 hfz13_4 hfz13_5 hfz13_6 hfz13_7 hfz13_8 hfz13_9 hfz7_0 hfz7_1 hfz7_2 hfz7_3 hfz7_4 hfz7_5 hfz7_6 hfz9_0 hfz9_1 hfz9_2 hfz9_3 hfz9_4 hfz9_5 hfz9_6
   obtain ⟨kq, x25_4, rfl, HA, HJ4, HO_417005, HO_417006, BK398, BK416, HB⟩ := hcut
   cases kq with
   | zero => exact absurd HA.out (by simp [laws_FnAlpineBuilt.j0])
   | succ kj4 =>
    have H := HA.out
    clear HA
    simp only [laws_FnAlpineBuilt.j0] at H
    by_cases c19 : x25_4 = true
    ·subst c19
     have H1 : (some true) = some r := by rw [if_pos rfl] at H; exact H
     clear H
     have H := H1
     clear H1
     obtain rfl := Option.some.inj H
     go_wp2
     go_ret
     exact ⟨by rfl, by (with_reducible exact HB.out)⟩
    ·replace c19 := Bool.eq_false_iff.mpr c19
     subst c19
     have H1 : ((impl_AlpineParse.f t400).bind fun bt418 => ((spec_AlpineParse.f kj4 t400).bind fun bt434 => (if bt418.2.2.2.2.2.2.2.2.2.2 = true then (if bt434.2.2.2.2.2.2.2.2.2.2 = true then ((laws_alpine.f kj4 bt418.1 bt418.2.1 bt418.2.2.1 bt418.2.2.2.1 bt418.2.2.2.2.1 bt418.2.2.2.2.2.1 bt418.2.2.2.2.2.2.1 bt418.2.2.2.2.2.2.2.1 bt418.2.2.2.2.2.2.2.2.1 bt418.2.2.2.2.2.2.2.2.2.1 t401 t402 t403 t404 t405 t406 t409 t412 t413 t414).bind fun t450 => (if t450 = true then ((laws_alpine.f kj4 bt434.1 bt434.2.1 bt434.2.2.1 bt434.2.2.2.1 bt434.2.2.2.2.1 bt434.2.2.2.2.2.1 bt434.2.2.2.2.2.2.1 bt434.2.2.2.2.2.2.2.1 bt434.2.2.2.2.2.2.2.2.1 bt434.2.2.2.2.2.2.2.2.2.1 t401 t402 t403 t404 t405 t406 t409 t412 t413 t414).bind fun t451 => (some t451)) else (some false))) else (some false)) else (some false)))) = some r := by rw [if_neg (show ¬ (false = true) by decide)] at H; exact H
     clear H
     have H := H1
     clear H1
     replace H := Option.bind_eq_some_iff.mp H
     obtain ⟨⟨t418, t419, t420, t421, t422, t423, t426, t429, t430, t431, t432⟩, A200, H⟩ := H
     replace H : ((spec_AlpineParse.f kj4 t400).bind fun bt434 => (if t432 = true then (if bt434.2.2.2.2.2.2.2.2.2.2 = true then ((laws_alpine.f kj4 t418 t419 t420 t421 t422 t423 t426 t429 t430 t431 t401 t402 t403 t404 t405 t406 t409 t412 t413 t414).bind fun t450 => (if t450 = true then ((laws_alpine.f kj4 bt434.1 bt434.2.1 bt434.2.2.1 bt434.2.2.2.1 bt434.2.2.2.2.1 bt434.2.2.2.2.2.1 bt434.2.2.2.2.2.2.1 bt434.2.2.2.2.2.2.2.1 bt434.2.2.2.2.2.2.2.2.1 bt434.2.2.2.2.2.2.2.2.2.1 t401 t402 t403 t404 t405 t406 t409 t412 t413 t414).bind fun t451 => (some t451)) else (some false))) else (some false)) else (some false))) = some r := H
     have A20 := Aside0.mk A200
     clear A200
     replace H := Option.bind_eq_some_iff.mp H
     obtain ⟨⟨t434, t435, t436, t437, t438, t439, t442, t445, t446, t447, t448⟩, A210, H⟩ := H
     replace H : (if t432 = true then (if t448 = true then ((laws_alpine.f kj4 t418 t419 t420 t421 t422 t423 t426 t429 t430 t431 t401 t402 t403 t404 t405 t406 t409 t412 t413 t414).bind fun t450 => (if t450 = true then ((laws_alpine.f kj4 t434 t435 t436 t437 t438 t439 t442 t445 t446 t447 t401 t402 t403 t404 t405 t406 t409 t412 t413 t414).bind fun t451 => (some t451)) else (some false))) else (some false)) else (some false)) = some r := H
     have A21 := Aside0.mk A210
     clear A210
     by_cases c22 : t432 = true
     ·subst c22
      have H1 : (if t448 = true then ((laws_alpine.f kj4 t418 t419 t420 t421 t422 t423 t426 t429 t430 t431 t401 t402 t403 t404 t405 t406 t409 t412 t413 t414).bind fun t450 => (if t450 = true then ((laws_alpine.f kj4 t434 t435 t436 t437 t438 t439 t442 t445 t446 t447 t401 t402 t403 t404 t405 t406 t409 t412 t413 t414).bind fun t451 => (some t451)) else (some false))) else (some false)) = some r := by rw [if_pos rfl] at H; exact H
      clear H
      have H := H1
      clear H1
      by_cases c23 : t448 = true
      ·subst c23
       have H1 : ((laws_alpine.f kj4 t418 t419 t420 t421 t422 t423 t426 t429 t430 t431 t401 t402 t403 t404 t405 t406 t409 t412 t413 t414).bind fun t450 => (if t450 = true then ((laws_alpine.f kj4 t434 t435 t436 t437 t438 t439 t442 t445 t446 t447 t401 t402 t403 t404 t405 t406 t409 t412 t413 t414).bind fun t451 => (some t451)) else (some false))) = some r := by rw [if_pos rfl] at H; exact H
       clear H
       have H := H1
       clear H1
       replace H := Option.bind_eq_some_iff.mp H
       obtain ⟨t450, A240, H⟩ := H
       replace H : (if t450 = true then ((laws_alpine.f kj4 t434 t435 t436 t437 t438 t439 t442 t445 t446 t447 t401 t402 t403 t404 t405 t406 t409 t412 t413 t414).bind fun t451 => (some t451)) else (some false)) = some r := H
       have A24 := Aside0.mk A240
       clear A240
       by_cases c25 : t450 = true
       ·subst c25
        have H1 : ((laws_alpine.f kj4 t434 t435 t436 t437 t438 t439 t442 t445 t446 t447 t401 t402 t403 t404 t405 t406 t409 t412 t413 t414).bind fun t451 => (some t451)) = some r := by rw [if_pos rfl] at H; exact H
        clear H
        have H := H1
        clear H1
        replace H := Option.bind_eq_some_iff.mp H
        obtain ⟨t451, A260, H⟩ := H
        replace H : (some t451) = some r := H
        have A26 := Aside0.mk A260
        clear A260
        obtain rfl := Option.some.inj H
        go_wp2_with (first | ((with_reducible refine gate_callee (f := 12) rfl ?_); refine goesL_ (some 28) rfl rfl Tryd.func12 (by kernel_rfl) rfl #[.string t400] rfl (by (try simp only [List.map_toArray, List.map_cons, List.map_nil]); first | done | rfl | (simp only [List.length_drop, List.length_take]; rfl)) ?_; (with_reducible refine (impl_AlpineParse.calls t400 t418 t419 t420 t421 t422 t423 t426 t429 t430 t431 true _ A20.out (by exact GL.at HG.out (by repeat (first | (with_reducible first | exact HB.out | apply below_alloc | apply pw_below_drewN | apply below_drew1) | exact HB.out)))).mono ?_); rintro e w27 ⟨v424, v427, rfl, ho0, ho1, hb⟩; refine ⟨_, rfl, ?_⟩; have n0_ := Aside0.mk (Kd.R_elder' (by (with_reducible repeat (first | apply Kd.R_alloc | apply Kd.R_drewN | apply Kd.R_drew)); exact HO_417005.out) (Kd.R_base ho0) hb); have n1_ := Aside0.mk (Kd.R_elder' (by (with_reducible repeat (first | apply Kd.R_alloc | apply Kd.R_drewN | apply Kd.R_drew)); exact HO_417006.out) (Kd.R_base ho1) hb); have n2_ := Aside0.mk (Kd.R_lower (Kd.R_new' ho0 (Kd.R_lt (by (with_reducible repeat (first | apply Kd.R_alloc | apply Kd.R_drewN | apply Kd.R_drew)); exact HO_417005.out))) (below_size (by (with_reducible exact HB.out)))); have n3_ := Aside0.mk (Kd.R_lower (Kd.R_new' ho1 (Kd.R_lt (by (with_reducible repeat (first | apply Kd.R_alloc | apply Kd.R_drewN | apply Kd.R_drew)); exact HO_417006.out))) (below_size (by (with_reducible exact HB.out)))); have n4_ := Aside0.mk (blk_below BK398.out hb); have n5_ := Aside0.mk (blk_below BK416.out hb); have n6_ := Aside0.mk (below_step (by (with_reducible exact HB.out)) hb); clear HO_417005; clear HO_417006; clear BK398; clear BK416; clear HB; have HO_417005 := n0_; have HO_417006 := n1_; have HO425 := n2_; have HO428 := n3_; have BK398 := n4_; have BK416 := n5_; have HB := n6_; clear n0_ n1_ n2_ n3_ n4_ n5_ n6_; (try clear hb); (try clear hb2); (try clear hk); (try clear hi); (try clear ho0); (try clear ho1)) | ((with_reducible refine gate_dst (N := 6) rfl ?_); refine box_event ?hg (N := 6) ?hd (cs := #[.string ⟨#[]⟩, .string ⟨#[]⟩, .string ⟨#[]⟩, .string ⟨#[]⟩, .bool false, .slice none 0 0, .slice none 0 0, .bool false, .bool false, .string ⟨#[]⟩]) (t := 33) ?hr ?_; (case hd => rfl); (case hg => rfl); (case hr => first | (go_simp; done) | (go_simp; rfl)); intro gb433 hg w28 hbox hb; have n0_ := Aside0.mk (Kd.R_below (by (with_reducible repeat (first | apply Kd.R_alloc | apply Kd.R_drewN | apply Kd.R_drew)); exact HO_417005.out) hb); have n1_ := Aside0.mk (Kd.R_below (by (with_reducible repeat (first | apply Kd.R_alloc | apply Kd.R_drewN | apply Kd.R_drew)); exact HO_417006.out) hb); have n2_ := Aside0.mk (Kd.R_below (by (with_reducible repeat (first | apply Kd.R_alloc | apply Kd.R_drewN | apply Kd.R_drew)); exact HO425.out) hb); have n3_ := Aside0.mk (Kd.R_below (by (with_reducible repeat (first | apply Kd.R_alloc | apply Kd.R_drewN | apply Kd.R_drew)); exact HO428.out) hb); have n4_ := Aside0.mk (blk_below BK398.out hb); have n5_ := Aside0.mk (blk_below BK416.out hb); have n6_ := Aside0.mk (below_step (by (with_reducible exact HB.out)) hb); have n7_ := Aside0.mk hbox; have n8_ := Aside0.mk ((by rw [hg]; exact (below_size (by (with_reducible exact HB.out))) : w.heap.size ≤ gb433)); have n9_ := Aside0.mk ((by rw [hg]; exact (below_size (by (with_reducible exact HB.out))) : w.heap.size ≤ gb433)); have n10_ := Aside0.mk ((by rw [hg]; exact Nat.ne_of_lt (blk_lt BK398.out) : gb398 ≠ gb433)); have n11_ := Aside0.mk ((by rw [hg]; exact Nat.ne_of_gt (blk_lt BK398.out) : gb433 ≠ gb398)); have n12_ := Aside0.mk ((by rw [hg]; exact Nat.ne_of_lt (blk_lt BK416.out) : gb416 ≠ gb433)); have n13_ := Aside0.mk ((by rw [hg]; exact Nat.ne_of_gt (blk_lt BK416.out) : gb433 ≠ gb416)); clear HO_417005; clear HO_417006; clear HO425; clear HO428; clear BK398; clear BK416; clear HB; have HO_417005 := n0_; have HO_417006 := n1_; have HO425 := n2_; have HO428 := n3_; have BK398 := n4_; have BK416 := n5_; have HB := n6_; have BK433 := n7_; have GW433 := n8_; have GE433 := n9_; have NB398_433 := n10_; have NB433_398 := n11_; have NB416_433 := n12_; have NB433_416 := n13_; clear n0_ n1_ n2_ n3_ n4_ n5_ n6_ n7_ n8_ n9_ n10_ n11_ n12_ n13_; clear hb hbox hg; have hnb29 := NB433_398.out; have hnc29 := NB398_433.out; have hnb30 := NB433_416.out; have hnc30 := NB416_433.out; obtain ⟨hcz31_0, hcz31_1, hcz31_2, hcz31_3, hcz31_4, hcz31_5, hcz31_6, hcz31_7, hcz31_8, hcz31_9, hfz31_0, hfz31_1, hfz31_2, hfz31_3, hfz31_4, hfz31_5, hfz31_6, hfz31_7, hfz31_8, hfz31_9⟩ := cl10 BK433.out; obtain ⟨Ao32, co32, eo32⟩ := Kd.R_slice HO425.out; subst eo32; obtain ⟨Ao33, co33, eo33⟩ := Kd.R_slice HO428.out; subst eo33) | ((with_reducible refine gate_callee (f := 13) rfl ?_); refine goesL_ (some 33) rfl rfl Tryd.func13 (by kernel_rfl) rfl #[.string t400] rfl (by (try simp only [List.map_toArray, List.map_cons, List.map_nil]); first | done | rfl | (simp only [List.length_drop, List.length_take]; rfl)) ?_; (with_reducible refine (spec_AlpineParse.calls kj4 t400 t434 t435 t436 t437 t438 t439 t442 t445 t446 t447 true _ A21.out).mono ?_); rintro e w34 ⟨v440, v443, rfl, ho0, ho1, hb⟩; refine ⟨_, rfl, ?_⟩; have n0_ := Aside0.mk (Kd.R_elder' (by (with_reducible repeat (first | apply Kd.R_alloc | apply Kd.R_drewN | apply Kd.R_drew)); exact (Kd.R_mono (farC (farC (farC (farC (farC (farC (farC (farC (farC (farC (Kd.R_types HO_417005.out BK433.out (by decide)))))))))))) (fun _ h_ => h_.1))) (Kd.R_base ho0) hb); have n1_ := Aside0.mk (Kd.R_elder' (by (with_reducible repeat (first | apply Kd.R_alloc | apply Kd.R_drewN | apply Kd.R_drew)); exact (Kd.R_mono (farC (farC (farC (farC (farC (farC (farC (farC (farC (farC (Kd.R_types HO_417006.out BK433.out (by decide)))))))))))) (fun _ h_ => h_.1))) (Kd.R_base ho1) hb); have n2_ := Aside0.mk (Kd.R_elder' (by (with_reducible repeat (first | apply Kd.R_alloc | apply Kd.R_drewN | apply Kd.R_drew)); exact (Kd.R_mono (farC (farC (farC (farC (farC (farC (farC (farC (farC (farC (Kd.R_types HO425.out BK433.out (by decide)))))))))))) (fun _ h_ => h_.1))) (Kd.R_base ho0) hb); have n3_ := Aside0.mk (Kd.R_elder' (by (with_reducible repeat (first | apply Kd.R_alloc | apply Kd.R_drewN | apply Kd.R_drew)); exact (Kd.R_mono (farC (farC (farC (farC (farC (farC (farC (farC (farC (farC (Kd.R_types HO428.out BK433.out (by decide)))))))))))) (fun _ h_ => h_.1))) (Kd.R_base ho1) hb); have n4_ := Aside0.mk (Kd.R_lower (Kd.R_new' (Kd.R_new' ho0 (Kd.R_lt (by (with_reducible repeat (first | apply Kd.R_alloc | apply Kd.R_drewN | apply Kd.R_drew)); exact (Kd.R_mono (farC (farC (farC (farC (farC (farC (farC (farC (farC (farC (Kd.R_types HO_417005.out BK433.out (by decide)))))))))))) (fun _ h_ => h_.1))))) (Kd.R_lt (by (with_reducible repeat (first | apply Kd.R_alloc | apply Kd.R_drewN | apply Kd.R_drew)); exact (Kd.R_mono (farC (farC (farC (farC (farC (farC (farC (farC (farC (farC (Kd.R_types HO425.out BK433.out (by decide)))))))))))) (fun _ h_ => h_.1))))) (below_size (by repeat (first | (with_reducible first | exact HB.out | apply below_alloc | apply pw_below_drewN | apply below_drew1 | refine below_set ?_ GE398.out | refine below_set ?_ GE416.out | refine below_set ?_ GE433.out) | exact HB.out)))); have n5_ := Aside0.mk (Kd.R_lower (Kd.R_new' (Kd.R_new' ho1 (Kd.R_lt (by (with_reducible repeat (first | apply Kd.R_alloc | apply Kd.R_drewN | apply Kd.R_drew)); exact (Kd.R_mono (farC (farC (farC (farC (farC (farC (farC (farC (farC (farC (Kd.R_types HO_417006.out BK433.out (by decide)))))))))))) (fun _ h_ => h_.1))))) (Kd.R_lt (by (with_reducible repeat (first | apply Kd.R_alloc | apply Kd.R_drewN | apply Kd.R_drew)); exact (Kd.R_mono (farC (farC (farC (farC (farC (farC (farC (farC (farC (farC (Kd.R_types HO428.out BK433.out (by decide)))))))))))) (fun _ h_ => h_.1))))) (below_size (by repeat (first | (with_reducible first | exact HB.out | apply below_alloc | apply pw_below_drewN | apply below_drew1 | refine below_set ?_ GE398.out | refine below_set ?_ GE416.out | refine below_set ?_ GE433.out) | exact HB.out)))); have n6_ := Aside0.mk (blk_below (g := gb398) (o := .cells #[.slice A0_0 l0_0.length c0_0, .int .u8 a0_1, .slice A0_2 l0_2.length c0_2, .slice A0_3 l0_3.length c0_3, .string a0_4, .bool a0_5, .int .u16 a0_6] 26 (0, 0)) (by refine blk_far ?_ NB398_433.out _; refine blk_far ?_ NB398_433.out _; refine blk_far ?_ NB398_433.out _; refine blk_far ?_ NB398_433.out _; refine blk_far ?_ NB398_433.out _; refine blk_far ?_ NB398_433.out _; refine blk_far ?_ NB398_433.out _; refine blk_far ?_ NB398_433.out _; refine blk_far ?_ NB398_433.out _; refine blk_far ?_ NB398_433.out _; exact BK398.out) hb); have n7_ := Aside0.mk (blk_below (g := gb416) (o := .cells #[.string t401, .string t402, .string t403, .string t404, .bool t405, .slice Ao14 t406.length co14, .slice Ao15 t409.length co15, .bool t412, .bool t413, .string t414] 33 (0, 0)) (by refine blk_far ?_ NB416_433.out _; refine blk_far ?_ NB416_433.out _; refine blk_far ?_ NB416_433.out _; refine blk_far ?_ NB416_433.out _; refine blk_far ?_ NB416_433.out _; refine blk_far ?_ NB416_433.out _; refine blk_far ?_ NB416_433.out _; refine blk_far ?_ NB416_433.out _; refine blk_far ?_ NB416_433.out _; refine blk_far ?_ NB416_433.out _; exact BK416.out) hb); have n8_ := Aside0.mk (blk_below (g := gb433) (o := .cells #[.string t418, .string t419, .string t420, .string t421, .bool t422, .slice Ao32 t423.length co32, .slice Ao33 t426.length co33, .bool t429, .bool t430, .string t431] 33 (0, 0)) (by exact put10 BK433.out) hb); have n9_ := Aside0.mk (below_step (by repeat (first | (with_reducible first | exact HB.out | apply below_alloc | apply pw_below_drewN | apply below_drew1 | refine below_set ?_ GE398.out | refine below_set ?_ GE416.out | refine below_set ?_ GE433.out) | exact HB.out)) hb); clear HO_417005; clear HO_417006; clear HO425; clear HO428; clear BK398; clear BK416; clear BK433; clear HB; have HO_417005 := n0_; have HO_417006 := n1_; have HO425 := n2_; have HO428 := n3_; have HO441 := n4_; have HO444 := n5_; have BK398 := n6_; have BK416 := n7_; have BK433 := n8_; have HB := n9_; clear n0_ n1_ n2_ n3_ n4_ n5_ n6_ n7_ n8_ n9_; (try clear hb); (try clear hb2); (try clear hk); (try clear hi); (try clear ho0); (try clear ho1)) | ((with_reducible refine gate_dst (N := 8) rfl ?_); refine box_event ?hg (N := 8) ?hd (cs := #[.string ⟨#[]⟩, .string ⟨#[]⟩, .string ⟨#[]⟩, .string ⟨#[]⟩, .bool false, .slice none 0 0, .slice none 0 0, .bool false, .bool false, .string ⟨#[]⟩]) (t := 33) ?hr ?_; (case hd => rfl); (case hg => rfl); (case hr => first | (go_simp; done) | (go_simp; rfl)); intro gb449 hg w35 hbox hb; have n0_ := Aside0.mk (Kd.R_below (by (with_reducible repeat (first | apply Kd.R_alloc | apply Kd.R_drewN | apply Kd.R_drew)); exact HO_417005.out) hb); have n1_ := Aside0.mk (Kd.R_below (by (with_reducible repeat (first | apply Kd.R_alloc | apply Kd.R_drewN | apply Kd.R_drew)); exact HO_417006.out) hb); have n2_ := Aside0.mk (Kd.R_below (by (with_reducible repeat (first | apply Kd.R_alloc | apply Kd.R_drewN | apply Kd.R_drew)); exact HO425.out) hb); have n3_ := Aside0.mk (Kd.R_below (by (with_reducible repeat (first | apply Kd.R_alloc | apply Kd.R_drewN | apply Kd.R_drew)); exact HO428.out) hb); have n4_ := Aside0.mk (Kd.R_below (by (with_reducible repeat (first | apply Kd.R_alloc | apply Kd.R_drewN | apply Kd.R_drew)); exact HO441.out) hb); have n5_ := Aside0.mk (Kd.R_below (by (with_reducible repeat (first | apply Kd.R_alloc | apply Kd.R_drewN | apply Kd.R_drew)); exact HO444.out) hb); have n6_ := Aside0.mk (blk_below BK398.out hb); have n7_ := Aside0.mk (blk_below BK416.out hb); have n8_ := Aside0.mk (blk_below BK433.out hb); have n9_ := Aside0.mk (below_step (by (with_reducible exact HB.out)) hb); have n10_ := Aside0.mk hbox; have n11_ := Aside0.mk ((by rw [hg]; exact (below_size (by (with_reducible exact HB.out))) : w.heap.size ≤ gb449)); have n12_ := Aside0.mk ((by rw [hg]; exact (below_size (by (with_reducible exact HB.out))) : w.heap.size ≤ gb449)); have n13_ := Aside0.mk ((by rw [hg]; exact Nat.ne_of_lt (blk_lt BK398.out) : gb398 ≠ gb449)); have n14_ := Aside0.mk ((by rw [hg]; exact Nat.ne_of_gt (blk_lt BK398.out) : gb449 ≠ gb398)); have n15_ := Aside0.mk ((by rw [hg]; exact Nat.ne_of_lt (blk_lt BK416.out) : gb416 ≠ gb449)); have n16_ := Aside0.mk ((by rw [hg]; exact Nat.ne_of_gt (blk_lt BK416.out) : gb449 ≠ gb416)); have n17_ := Aside0.mk ((by rw [hg]; exact Nat.ne_of_lt (blk_lt BK433.out) : gb433 ≠ gb449)); have n18_ := Aside0.mk ((by rw [hg]; exact Nat.ne_of_gt (blk_lt BK433.out) : gb449 ≠ gb433)); clear HO_417005; clear HO_417006; clear HO425; clear HO428; clear HO441; clear HO444; clear BK398; clear BK416; clear BK433; clear HB; have HO_417005 := n0_; have HO_417006 := n1_; have HO425 := n2_; have HO428 := n3_; have HO441 := n4_; have HO444 := n5_; have BK398 := n6_; have BK416 := n7_; have BK433 := n8_; have HB := n9_; have BK449 := n10_; have GW449 := n11_; have GE449 := n12_; have NB398_449 := n13_; have NB449_398 := n14_; have NB416_449 := n15_; have NB449_416 := n16_; have NB433_449 := n17_; have NB449_433 := n18_; clear n0_ n1_ n2_ n3_ n4_ n5_ n6_ n7_ n8_ n9_ n10_ n11_ n12_ n13_ n14_ n15_ n16_ n17_ n18_; clear hb hbox hg; have hnb36 := NB449_398.out; have hnc36 := NB398_449.out; have hnb37 := NB449_416.out; have hnc37 := NB416_449.out; have hnb38 := NB449_433.out; have hnc38 := NB433_449.out; obtain ⟨hcz39_0, hcz39_1, hcz39_2, hcz39_3, hcz39_4, hcz39_5, hcz39_6, hcz39_7, hcz39_8, hcz39_9, hfz39_0, hfz39_1, hfz39_2, hfz39_3, hfz39_4, hfz39_5, hfz39_6, hfz39_7, hfz39_8, hfz39_9⟩ := cl10 BK449.out; obtain ⟨Ao40, co40, eo40⟩ := Kd.R_slice HO441.out; subst eo40; obtain ⟨Ao41, co41, eo41⟩ := Kd.R_slice HO444.out; subst eo41; obtain ⟨hcz42_0, hcz42_1, hcz42_2, hcz42_3, hcz42_4, hcz42_5, hcz42_6, hcz42_7, hcz42_8, hcz42_9, hfz42_0, hfz42_1, hfz42_2, hfz42_3, hfz42_4, hfz42_5, hfz42_6, hfz42_7, hfz42_8, hfz42_9⟩ := cl10 BK433.out; have hnb43 := NB416_398.out; have hnc43 := NB398_416.out; obtain ⟨hcz44_0, hcz44_1, hcz44_2, hcz44_3, hcz44_4, hcz44_5, hcz44_6, hcz44_7, hcz44_8, hcz44_9, hfz44_0, hfz44_1, hfz44_2, hfz44_3, hfz44_4, hfz44_5, hfz44_6, hfz44_7, hfz44_8, hfz44_9⟩ := cl10 BK416.out) | (go_at_call 14; (with_reducible refine (laws_alpine.calls kj4 t418 t419 t420 t421 t422 _ _ t423 _ _ t426 t429 t430 t431 t401 t402 t403 t404 t405 _ _ t406 _ _ t409 t412 t413 t414 true _ ?side1 ?side2 ?side3 ?side4 ?side5 ?side6 ?side7 ?side8 A24.out).mono ?_); (case side1 => refine (Kd.R_reads' (e := 54) (base := w.heap.size) (ok := fun k_ => ((True ∧ some k_ ≠ (.slice Ao14 t406.length co14 : Value).ownBlock) ∧ some k_ ≠ (.slice Ao40 t439.length co40 : Value).ownBlock)) (n := t423.length) (c := co32) ?_).2.2; exact (by (with_reducible repeat (first | apply Kd.R_alloc | apply Kd.R_drewN | apply Kd.R_drew)); exact (Kd.R_mono (farC (farC (farC (farC (farC (farC (farC (farC (farC (farC (Kd.R_types HO425.out BK449.out (by decide)))))))))))) (fun _ h_ => h_.1)))); (case side2 => exact (Kd.R_reads' HO425.out).2.1); (case side3 => refine (Kd.R_reads' (e := 58) (base := w.heap.size) (ok := fun k_ => ((True ∧ some k_ ≠ (.slice Ao15 t409.length co15 : Value).ownBlock) ∧ some k_ ≠ (.slice Ao41 t442.length co41 : Value).ownBlock)) (n := t426.length) (c := co33) ?_).2.2; exact (by (with_reducible repeat (first | apply Kd.R_alloc | apply Kd.R_drewN | apply Kd.R_drew)); exact (Kd.R_mono (farC (farC (farC (farC (farC (farC (farC (farC (farC (farC (Kd.R_types HO428.out BK449.out (by decide)))))))))))) (fun _ h_ => h_.1)))); (case side4 => exact (Kd.R_reads' HO428.out).2.1); (case side5 => refine (Kd.R_reads' (e := 54) (base := w.heap.size) (ok := fun k_ => ((True ∧ some k_ ≠ (.slice Ao32 t423.length co32 : Value).ownBlock) ∧ some k_ ≠ (.slice Ao40 t439.length co40 : Value).ownBlock)) (n := t406.length) (c := co14) ?_).2.2; exact (by (with_reducible repeat (first | apply Kd.R_alloc | apply Kd.R_drewN | apply Kd.R_drew)); exact (Kd.R_mono (farC (farC (farC (farC (farC (farC (farC (farC (farC (farC (Kd.R_types HO_417005.out BK449.out (by decide)))))))))))) (fun _ h_ => h_.1)))); (case side6 => exact (Kd.R_reads' HO_417005.out).2.1); (case side7 => refine (Kd.R_reads' (e := 58) (base := w.heap.size) (ok := fun k_ => ((True ∧ some k_ ≠ (.slice Ao33 t426.length co33 : Value).ownBlock) ∧ some k_ ≠ (.slice Ao41 t442.length co41 : Value).ownBlock)) (n := t409.length) (c := co15) ?_).2.2; exact (by (with_reducible repeat (first | apply Kd.R_alloc | apply Kd.R_drewN | apply Kd.R_drew)); exact (Kd.R_mono (farC (farC (farC (farC (farC (farC (farC (farC (farC (farC (Kd.R_types HO_417006.out BK449.out (by decide)))))))))))) (fun _ h_ => h_.1)))); (case side8 => exact (Kd.R_reads' HO_417006.out).2.1); rintro e w45 ⟨rfl, hb⟩; replace HO_417005 := Aside0.mk (Kd.R_below (by (with_reducible repeat (first | apply Kd.R_alloc | apply Kd.R_drewN | apply Kd.R_drew)); exact (Kd.R_mono (farC (farC (farC (farC (farC (farC (farC (farC (farC (farC (Kd.R_types HO_417005.out BK449.out (by decide)))))))))))) (fun _ h_ => h_.1))) hb); replace HO_417006 := Aside0.mk (Kd.R_below (by (with_reducible repeat (first | apply Kd.R_alloc | apply Kd.R_drewN | apply Kd.R_drew)); exact (Kd.R_mono (farC (farC (farC (farC (farC (farC (farC (farC (farC (farC (Kd.R_types HO_417006.out BK449.out (by decide)))))))))))) (fun _ h_ => h_.1))) hb); replace HO425 := Aside0.mk (Kd.R_below (by (with_reducible repeat (first | apply Kd.R_alloc | apply Kd.R_drewN | apply Kd.R_drew)); exact (Kd.R_mono (farC (farC (farC (farC (farC (farC (farC (farC (farC (farC (Kd.R_types HO425.out BK449.out (by decide)))))))))))) (fun _ h_ => h_.1))) hb); replace HO428 := Aside0.mk (Kd.R_below (by (with_reducible repeat (first | apply Kd.R_alloc | apply Kd.R_drewN | apply Kd.R_drew)); exact (Kd.R_mono (farC (farC (farC (farC (farC (farC (farC (farC (farC (farC (Kd.R_types HO428.out BK449.out (by decide)))))))))))) (fun _ h_ => h_.1))) hb); replace HO441 := Aside0.mk (Kd.R_below (by (with_reducible repeat (first | apply Kd.R_alloc | apply Kd.R_drewN | apply Kd.R_drew)); exact (Kd.R_mono (farC (farC (farC (farC (farC (farC (farC (farC (farC (farC (Kd.R_types HO441.out BK449.out (by decide)))))))))))) (fun _ h_ => h_.1))) hb); replace HO444 := Aside0.mk (Kd.R_below (by (with_reducible repeat (first | apply Kd.R_alloc | apply Kd.R_drewN | apply Kd.R_drew)); exact (Kd.R_mono (farC (farC (farC (farC (farC (farC (farC (farC (farC (farC (Kd.R_types HO444.out BK449.out (by decide)))))))))))) (fun _ h_ => h_.1))) hb); replace BK398 := Aside0.mk (blk_below (g := gb398) (o := .cells #[.slice A0_0 l0_0.length c0_0, .int .u8 a0_1, .slice A0_2 l0_2.length c0_2, .slice A0_3 l0_3.length c0_3, .string a0_4, .bool a0_5, .int .u16 a0_6] 26 (0, 0)) (by refine blk_far ?_ NB398_449.out _; refine blk_far ?_ NB398_449.out _; refine blk_far ?_ NB398_449.out _; refine blk_far ?_ NB398_449.out _; refine blk_far ?_ NB398_449.out _; refine blk_far ?_ NB398_449.out _; refine blk_far ?_ NB398_449.out _; refine blk_far ?_ NB398_449.out _; refine blk_far ?_ NB398_449.out _; refine blk_far ?_ NB398_449.out _; exact BK398.out) hb); replace BK416 := Aside0.mk (blk_below (g := gb416) (o := .cells #[.string t401, .string t402, .string t403, .string t404, .bool t405, .slice Ao14 t406.length co14, .slice Ao15 t409.length co15, .bool t412, .bool t413, .string t414] 33 (0, 0)) (by refine blk_far ?_ NB416_449.out _; refine blk_far ?_ NB416_449.out _; refine blk_far ?_ NB416_449.out _; refine blk_far ?_ NB416_449.out _; refine blk_far ?_ NB416_449.out _; refine blk_far ?_ NB416_449.out _; refine blk_far ?_ NB416_449.out _; refine blk_far ?_ NB416_449.out _; refine blk_far ?_ NB416_449.out _; refine blk_far ?_ NB416_449.out _; exact BK416.out) hb); replace BK433 := Aside0.mk (blk_below (g := gb433) (o := .cells #[.string t418, .string t419, .string t420, .string t421, .bool t422, .slice Ao32 t423.length co32, .slice Ao33 t426.length co33, .bool t429, .bool t430, .string t431] 33 (0, 0)) (by refine blk_far ?_ NB433_449.out _; refine blk_far ?_ NB433_449.out _; refine blk_far ?_ NB433_449.out _; refine blk_far ?_ NB433_449.out _; refine blk_far ?_ NB433_449.out _; refine blk_far ?_ NB433_449.out _; refine blk_far ?_ NB433_449.out _; refine blk_far ?_ NB433_449.out _; refine blk_far ?_ NB433_449.out _; refine blk_far ?_ NB433_449.out _; exact BK433.out) hb); replace BK449 := Aside0.mk (blk_below (g := gb449) (o := .cells #[.string t434, .string t435, .string t436, .string t437, .bool t438, .slice Ao40 t439.length co40, .slice Ao41 t442.length co41, .bool t445, .bool t446, .string t447] 33 (0, 0)) (by exact put10 BK449.out) hb); replace HB := Aside0.mk (below_step (by repeat (first | (with_reducible first | exact HB.out | apply below_alloc | apply pw_below_drewN | apply below_drew1 | refine below_set ?_ GE398.out | refine below_set ?_ GE416.out | refine below_set ?_ GE433.out | refine below_set ?_ GE449.out) | exact HB.out)) hb); (try clear hb); (try clear hb2); (try clear hk); (try clear hi); obtain ⟨hcz46_0, hcz46_1, hcz46_2, hcz46_3, hcz46_4, hcz46_5, hcz46_6, hcz46_7, hcz46_8, hcz46_9, hfz46_0, hfz46_1, hfz46_2, hfz46_3, hfz46_4, hfz46_5, hfz46_6, hfz46_7, hfz46_8, hfz46_9⟩ := cl10 BK449.out; obtain ⟨hcz47_0, hcz47_1, hcz47_2, hcz47_3, hcz47_4, hcz47_5, hcz47_6, hcz47_7, hcz47_8, hcz47_9, hfz47_0, hfz47_1, hfz47_2, hfz47_3, hfz47_4, hfz47_5, hfz47_6, hfz47_7, hfz47_8, hfz47_9⟩ := cl10 BK416.out) | (go_at_call 14; (with_reducible refine (laws_alpine.calls kj4 t434 t435 t436 t437 t438 _ _ t439 _ _ t442 t445 t446 t447 t401 t402 t403 t404 t405 _ _ t406 _ _ t409 t412 t413 t414 t451 _ ?side1 ?side2 ?side3 ?side4 ?side5 ?side6 ?side7 ?side8 A26.out).mono ?_); (case side1 => repeat (first | exact (Kd.R_reads' HO441.out).2.2 | (with_reducible refine Kd.C_alloc ?_ _) | (with_reducible refine Kd.C_drewN ?_ _) | (with_reducible refine Kd.C_drew ?_))); (case side2 => exact (Kd.R_reads' HO441.out).2.1); (case side3 => repeat (first | exact (Kd.R_reads' HO444.out).2.2 | (with_reducible refine Kd.C_alloc ?_ _) | (with_reducible refine Kd.C_drewN ?_ _) | (with_reducible refine Kd.C_drew ?_))); (case side4 => exact (Kd.R_reads' HO444.out).2.1); (case side5 => repeat (first | exact (Kd.R_reads' HO_417005.out).2.2 | (with_reducible refine Kd.C_alloc ?_ _) | (with_reducible refine Kd.C_drewN ?_ _) | (with_reducible refine Kd.C_drew ?_))); (case side6 => exact (Kd.R_reads' HO_417005.out).2.1); (case side7 => repeat (first | exact (Kd.R_reads' HO_417006.out).2.2 | (with_reducible refine Kd.C_alloc ?_ _) | (with_reducible refine Kd.C_drewN ?_ _) | (with_reducible refine Kd.C_drew ?_))); (case side8 => exact (Kd.R_reads' HO_417006.out).2.1); rintro e w48 ⟨rfl, hb⟩; replace HO_417005 := Aside0.mk (Kd.R_below (by (with_reducible repeat (first | apply Kd.R_alloc | apply Kd.R_drewN | apply Kd.R_drew)); exact HO_417005.out) hb); replace HO_417006 := Aside0.mk (Kd.R_below (by (with_reducible repeat (first | apply Kd.R_alloc | apply Kd.R_drewN | apply Kd.R_drew)); exact HO_417006.out) hb); replace HO425 := Aside0.mk (Kd.R_below (by (with_reducible repeat (first | apply Kd.R_alloc | apply Kd.R_drewN | apply Kd.R_drew)); exact HO425.out) hb); replace HO428 := Aside0.mk (Kd.R_below (by (with_reducible repeat (first | apply Kd.R_alloc | apply Kd.R_drewN | apply Kd.R_drew)); exact HO428.out) hb); replace HO441 := Aside0.mk (Kd.R_below (by (with_reducible repeat (first | apply Kd.R_alloc | apply Kd.R_drewN | apply Kd.R_drew)); exact HO441.out) hb); replace HO444 := Aside0.mk (Kd.R_below (by (with_reducible repeat (first | apply Kd.R_alloc | apply Kd.R_drewN | apply Kd.R_drew)); exact HO444.out) hb); replace BK398 := Aside0.mk (blk_below BK398.out hb); replace BK416 := Aside0.mk (blk_below BK416.out hb); replace BK433 := Aside0.mk (blk_below BK433.out hb); replace BK449 := Aside0.mk (blk_below BK449.out hb); replace HB := Aside0.mk (below_step (by (with_reducible exact HB.out)) hb); (try clear hb); (try clear hb2); (try clear hk); (try clear hi)))
        go_ret
        exact ⟨by rfl, by (with_reducible exact HB.out)⟩
       ·replace c25 := Bool.eq_false_iff.mpr c25
        subst c25
        have H1 : (some false) = some r := by rw [if_neg (show ¬ (false = true) by decide)] at H; exact H
        clear H
        have H := H1
        clear H1
        obtain rfl := Option.some.inj H
        exact absurd HT.out Bool.false_ne_true
      ·replace c23 := Bool.eq_false_iff.mpr c23
       subst c23
       have H1 : (some false) = some r := by rw [if_neg (show ¬ (false = true) by decide)] at H; exact H
       clear H
       have H := H1
       clear H1
       obtain rfl := Option.some.inj H
       exact absurd HT.out Bool.false_ne_true
     ·replace c22 := Bool.eq_false_iff.mpr c22
      subst c22
      have H1 : (some false) = some r := by rw [if_neg (show ¬ (false = true) by decide)] at H; exact H
      clear H
      have H := H1
      clear H1
      obtain rfl := Option.some.inj H
      exact absurd HT.out Bool.false_ne_true
 ·replace c3 := Bool.eq_false_iff.mpr c3
  subst c3
  have H1 : (some true) = some r := by rw [if_neg (show ¬ (false = true) by decide)] at H; exact H
  clear H
  have H := H1
  clear H1
  obtain rfl := Option.some.inj H
  go_enter Tryd.func3, Tryd.ntmps3
  go_wp2_with (first | ((with_reducible refine gate_dst (N := 1) rfl ?_); refine box_event ?hg (N := 1) ?hd (cs := #[.slice A0_0 l0_0.length c0_0, .int .u8 a0_1, .slice A0_2 l0_2.length c0_2, .slice A0_3 l0_3.length c0_3, .string a0_4, .bool a0_5, .int .u16 a0_6]) (t := 26) ?hr ?_; (case hd => rfl); (case hg => rfl); (case hr => first | (go_simp; done) | (go_simp; rfl)); intro gb398 hg w98 hbox hb; have BK398 := Aside0.mk hbox; have GW398 := Aside0.mk ((by rw [hg]; exact (below_size (by (with_reducible exact HB.out))) : w.heap.size ≤ gb398)); have GE398 := Aside0.mk ((by rw [hg]; exact (below_size (by (with_reducible exact HB.out))) : w.heap.size ≤ gb398)); replace HB := Aside0.mk (below_step (by (with_reducible exact HB.out)) hb); clear hb hbox hg; obtain ⟨hcz99_0, hcz99_1, hcz99_2, hcz99_3, hcz99_4, hcz99_5, hcz99_6, hfz99_0, hfz99_1, hfz99_2, hfz99_3, hfz99_4, hfz99_5, hfz99_6⟩ := cl7 BK398.out) | ((with_reducible refine gate_callee (f := 9) rfl ?_); refine goesL_ (some 11) rfl rfl Tryd.func9 (by kernel_rfl) rfl #[.agg #[.slice A0_0 l0_0.length c0_0, .int .u8 a0_1, .slice A0_2 l0_2.length c0_2, .slice A0_3 l0_3.length c0_3, .string a0_4, .bool a0_5, .int .u16 a0_6]] rfl (by (try simp only [List.map_toArray, List.map_cons, List.map_nil]); first | done | rfl | (simp only [List.length_drop, List.length_take]; rfl)) ?_; (with_reducible refine (laws_zzFits1.calls _ _ l0_0 a0_1 _ _ l0_2 _ _ l0_3 a0_4 a0_5 a0_6 false _ ?side1 ?side2 ?side3 ?side4 ?side5 ?side6 A2.out).mono ?_); (case side1 => repeat (first | exact (Kd.C_below HR0_0.out HB.out) | (with_reducible refine Kd.C_alloc ?_ _) | (with_reducible refine Kd.C_drewN ?_ _) | (with_reducible refine Kd.C_drew ?_))); (case side2 => exact HC0_0.out); (case side3 => repeat (first | exact (Kd.C_below HR0_2.out HB.out) | (with_reducible refine Kd.C_alloc ?_ _) | (with_reducible refine Kd.C_drewN ?_ _) | (with_reducible refine Kd.C_drew ?_))); (case side4 => exact HC0_2.out); (case side5 => repeat (first | exact (Kd.C_below HR0_3.out HB.out) | (with_reducible refine Kd.C_alloc ?_ _) | (with_reducible refine Kd.C_drewN ?_ _) | (with_reducible refine Kd.C_drew ?_))); (case side6 => exact HC0_3.out); rintro e w100 ⟨rfl, hb⟩; refine ⟨_, rfl, ?_⟩; replace BK398 := Aside0.mk (blk_below BK398.out hb); replace HB := Aside0.mk (below_step (by (with_reducible exact HB.out)) hb); (try clear hb); (try clear hb2); (try clear hk); (try clear hi)))
  go_ret
  exact ⟨by rfl, by (with_reducible exact HB.out)⟩
def laws_FnAlpineBuilt.Pure : Prop := ∀ (l0_0 : List Int) (a0_1 : Int) (l0_2 : List Int) (l0_3 : List Int) (a0_4 : ByteArray) (a0_5 : Bool) (a0_6 : Int), l0_0.length ≤ maxLen → (∀ x ∈ l0_0, (Lit.int .u16 x).wf = true) → (Lit.int .u8 a0_1).wf = true → l0_2.length ≤ maxLen → (∀ x ∈ l0_2, (Lit.int .u8 x).wf = true) → l0_3.length ≤ maxLen → (∀ x ∈ l0_3, (Lit.int .u16 x).wf = true) → a0_4.size ≤ maxLen → (Lit.int .u16 a0_6).wf = true → ∃ k, laws_FnAlpineBuilt.f k l0_0 a0_1 l0_2 l0_3 a0_4 a0_5 a0_6 = some true
theorem laws_FnAlpineBuilt.walk (P : laws_FnAlpineBuilt.Pure) (a0_0 : Option Addr) (len0_0 cap0_0 : Nat) (z0_0 : List Int) (a0_1 : Int) (a0_2 : Option Addr) (len0_2 cap0_2 : Nat) (z0_2 : List Int) (a0_3 : Option Addr) (len0_3 cap0_3 : Nat) (z0_3 : List Int) (a0_4 : ByteArray) (a0_5 : Bool) (a0_6 : Int) (w : World) (w0_0 : ((a0_0 = none ∧ len0_0 = 0 ∧ cap0_0 = 0 ∧ z0_0 = []) ∨ ∃ x, a0_0 = some x ∧ len0_0 ≤ cap0_0 ∧ cap0_0 ≤ maxLen ∧ z0_0.length = cap0_0 ∧ (∀ i, i < z0_0.length → w.cell? (x.add i) = some (.int .u16 (z0_0.getD i 0))) ∧ ∀ n ∈ z0_0, (Lit.int .u16 n).wf = true)) (w0_1 : (Lit.int .u8 a0_1).wf = true) (w0_2 : ((a0_2 = none ∧ len0_2 = 0 ∧ cap0_2 = 0 ∧ z0_2 = []) ∨ ∃ x, a0_2 = some x ∧ len0_2 ≤ cap0_2 ∧ cap0_2 ≤ maxLen ∧ z0_2.length = cap0_2 ∧ (∀ i, i < z0_2.length → w.cell? (x.add i) = some (.int .u8 (z0_2.getD i 0))) ∧ ∀ n ∈ z0_2, (Lit.int .u8 n).wf = true)) (w0_3 : ((a0_3 = none ∧ len0_3 = 0 ∧ cap0_3 = 0 ∧ z0_3 = []) ∨ ∃ x, a0_3 = some x ∧ len0_3 ≤ cap0_3 ∧ cap0_3 ≤ maxLen ∧ z0_3.length = cap0_3 ∧ (∀ i, i < z0_3.length → w.cell? (x.add i) = some (.int .u16 (z0_3.getD i 0))) ∧ ∀ n ∈ z0_3, (Lit.int .u16 n).wf = true)) (w0_4 : a0_4.size ≤ maxLen) (w0_6 : (Lit.int .u16 a0_6).wf = true) (hG : GL w) :
  Calls Tryd.prog 3 #[.agg #[.slice a0_0 len0_0 cap0_0, .int .u8 a0_1, .slice a0_2 len0_2 cap0_2, .slice a0_3 len0_3 cap0_3, .string a0_4, .bool a0_5, .int .u16 a0_6]] w fun e w' => e = .returned (.bool true) ∧ Below w.heap.size w w' := by
 obtain ⟨l0_0, rfl, hr0_0, hm0_0, hw0_0, hc0_0⟩ := ReadsInt.ofRowC w0_0
 obtain ⟨l0_2, rfl, hr0_2, hm0_2, hw0_2, hc0_2⟩ := ReadsInt.ofRowC w0_2
 obtain ⟨l0_3, rfl, hr0_3, hm0_3, hw0_3, hc0_3⟩ := ReadsInt.ofRowC w0_3
 obtain ⟨k, h⟩ := P l0_0 a0_1 l0_2 l0_3 a0_4 a0_5 a0_6 hm0_0 hw0_0 w0_1 hm0_2 hw0_2 hm0_3 hw0_3 w0_4 w0_6
 refine (laws_FnAlpineBuilt.calls k _ _ l0_0 a0_1 _ _ l0_2 _ _ l0_3 a0_4 a0_5 a0_6 true w (Kd.C_of_reads (d := (0 : Int)) (h1 := fun _ => rfl) hr0_0) hc0_0 (Kd.C_of_reads (d := (0 : Int)) (h1 := fun _ => rfl) hr0_2) hc0_2 (Kd.C_of_reads (d := (0 : Int)) (h1 := fun _ => rfl) hr0_3) hc0_3 h hG rfl).mono ?_
 rintro e w' ⟨rfl, hd⟩
 exact ⟨rfl, hd⟩
end Go.Proofs.YtapaijpglfmfgaaDoor.Q
end
section -- BA
namespace Go.Proofs.YtapaijpglfmfgaaDoor.V
open Go.RowKit Go.Proofs.YtapaijpglfmfgaaDoor.Q Go.Proofs.YtapaijpglfmfgaaDoorG Go.Proofs.YtapaijpglfmfgaaDoorP Go.Proofs.YtapaijpglfmfgaaDoorH Go.Proofs.YtapaijpglfmfgaaDoorB Go.Proofs.YtapaijpglfmfgaaDoorM Go.Proofs.YtapaijpglfmfgaaDoorW.PrintWords Go.Proofs.YtapaijpglfmfgaaDoorW.PrintLast
set_option linter.unusedVariables false
set_option linter.unusedSimpArgs false
theorem rd_nat (l : List Int) (i : Nat) : rd l (i : Int) = l.getD i 0 := by simp [rd]
theorem intOf_l2 (m : List Int) (hm : m.length ≤ 1000000) : ∀ (n k : Nat), m.length - k = n → k ≤ m.length →
  Ev (fun q => spec_intOf.l2 q m (content m.length (m.take k)) (k : Int)) (false, strOfNums m.reverse) := by
 intro n
 induction n with
 | zero =>
  intro k hn hk
  obtain rfl : k = m.length := by omega
  refine Ev.succ ?_
  simp only [spec_intOf.l2]
  refine Ev.neg (fun _ => by first | omega | assumption | nofun) ?_
  refine Ev.eq (Ev.now _) ?_
  rw [List.take_length, content_done _ rfl]
 | succ n ih =>
  intro k hn hk
  have hlt : k < m.length := by omega
  have htl : (m.take k).length = k := by rw [List.length_take]; omega
  have hcl : (content m.length (m.take k)).length = m.length := content_len (by omega)
  refine Ev.succ ?_
  simp only [spec_intOf.l2, rd_nat]
  refine Ev.pos (fun _ => by first | omega | trivial | assumption) ?_
  refine Ev.pos (fun _ => by first | omega | trivial | assumption) ?_
  rw [w64 (i := (m.length : Int) - 1) (by omega) (by omega), w64 (i := (m.length : Int) - 1 - (k : Int)) (by omega) (by omega), w64 (i := (k : Int) + 1) (by omega) (by omega)]
  refine Ev.pos (fun _ => by omega) ?_
  refine Ev.pos (fun _ => by rw [hcl]; omega) ?_
  have e1 : ((m.length : Int) - 1 - (k : Int)).toNat = m.length - (m.take k).length - 1 := by rw [htl]; omega
  rw [e1, content_step _ (by rw [htl]; exact hlt)]
  have e2 : m.take k ++ [m.getD k 0] = m.take (k + 1) := by
   rw [List.take_add_one, List.getElem?_eq_getElem hlt, List.getD_eq_getElem?_getD, List.getElem?_eq_getElem hlt]
   rfl
  rw [e2]
  exact ih (k + 1) (by omega) (by omega)
theorem intOf_l1 (s : ByteArray) (i : Int) {r : Bool × ByteArray} : ∀ (rest done : List Int) (c : Nat), Byt rest → c ≤ 300 → done.length + rest.length ≤ 1000000 →
  Ev (fun q => spec_intOf.l1 q s (done ++ (mul10 rest c).1) i ((mul10 rest c).2 : Int) ((done.length + rest.length : Nat) : Int)) r → Ev (fun q => spec_intOf.l1 q s (done ++ rest) i (c : Int) (done.length : Int)) r
 | [], done, c, _, _, _, h => by simpa [mul10] using h
 | x :: rest, done, c, hb, hc, hl, h => by
  have hx := hb.cons.1
  simp only [List.length_cons] at hl
  refine Ev.succ ?_
  simp only [spec_intOf.l1, rd_nat]
  refine Ev.pos (fun _ => by rw [List.length_append, List.length_cons]; omega) ?_
  refine Ev.pos (fun _ => by omega) ?_
  have hg : (done ++ x :: rest).getD done.length 0 = x := by simp [List.getD_eq_getElem?_getD]
  rw [hg, w64 (i := x) (by omega) (by omega), w64 (i := 10 * x) (by omega) (by omega), w64 (i := (c : Int) + 10 * x) (by omega) (by omega), w64 (i := (done.length : Int) + 1) (by omega) (by omega), Int.toNat_natCast]
  have e0 : (c : Int) + 10 * x = ((c + 10 * x.toNat : Nat) : Int) := by omega
  have e1 : Int.tmod ((c : Int) + 10 * x) 256 % 256 = (((c + 10 * x.toNat) % 256 : Nat) : Int) := by
   rw [e0, Int.tmod_eq_emod_of_nonneg (by omega)]
   omega
  have e2 : wrap64 (Int.tdiv ((c : Int) + 10 * x) 256) = (((c + 10 * x.toNat) / 256 : Nat) : Int) := by
   rw [e0, Int.tdiv_eq_ediv_of_nonneg (by omega), w64 (by omega) (by omega)]
   omega
  rw [e1, e2]
  have e3 : (done ++ x :: rest).set done.length (((c + 10 * x.toNat) % 256 : Nat) : Int) = (done ++ [(((c + 10 * x.toNat) % 256 : Nat) : Int)]) ++ rest := by simp
  rw [e3]
  have ih := intOf_l1 s i (r := r) rest (done ++ [(((c + 10 * x.toNat) % 256 : Nat) : Int)]) ((c + 10 * x.toNat) / 256) hb.cons.2 (by omega) (by simp; omega)
  have e4 : ((done ++ [(((c + 10 * x.toNat) % 256 : Nat) : Int)]).length : Int) = (done.length : Int) + 1 := by simp
  rw [e4] at ih
  refine ih ?_
  simp only [mul10] at h
  have e5 : (((done ++ [(((c + 10 * x.toNat) % 256 : Nat) : Int)]).length + rest.length : Nat) : Int) = ((done.length + (x :: rest).length : Nat) : Int) := by simp; omega
  rw [e5, List.append_assoc]
  exact h
theorem pushD_len (m : List Int) (d : Nat) : (pushD m d).length ≤ m.length + 1 := by
 unfold pushD
 split
 ·simp [mul10_len]
 ·rw [mul10_len]; omega
theorem intOf_l0 (s : ByteArray) (hs : s.size ≤ 200000) (hd : ∀ c ∈ bytesOf s, isD c = true) : ∀ (n i : Nat) (m : List Int), s.size - i = n → i ≤ s.size → m.length ≤ i → Tight m (decL ((bytesOf s).take i)) →
  Ev (fun q => spec_intOf.l0 q s m (i : Int)) (false, magB (decL (bytesOf s))) := by
 intro n
 induction n with
 | zero =>
  intro i m hn hi hm ht
  obtain rfl : i = s.size := by omega
  rw [List.take_of_length_le (by rw [bytesOf_length]; exact Nat.le_refl _)] at ht
  refine Ev.succ ?_
  simp only [spec_intOf.l0]
  refine Ev.neg (fun _ => by first | omega | assumption | nofun) ?_
  refine Ev.pos (fun _ => by omega) ?_
  refine Ev.pos (fun _ => by omega) ?_
  have h := intOf_l2 m (by omega) _ 0 rfl (Nat.zero_le _)
  have e : content m.length (m.take 0) = List.replicate ((m.length : Int)).toNat 0 := by simp [content]
  rw [e] at h
  refine Ev.eq h ?_
  rw [ht.mag]
  rfl
 | succ n ih =>
  intro i m hn hi hm ht
  have hl : i < (bytesOf s).length := by rw [bytesOf_length]; omega
  have hc : isD ((bytesOf s).getD i 0) = true := hd _ (by rw [List.getD_eq_getElem?_getD, List.getElem?_eq_getElem hl]; exact List.getElem_mem hl)
  unfold isD at hc
  have hc2 := of_decide_eq_true hc
  obtain ⟨d, hdd⟩ : ∃ d, d = ((bytesOf s).getD i 0 - 48).toNat := ⟨_, rfl⟩
  refine Ev.succ ?_
  simp only [spec_intOf.l0, bt_nat]
  refine Ev.pos (fun _ => by first | omega | trivial | assumption) ?_
  refine Ev.pos (fun _ => by first | omega | trivial | assumption) ?_
  have e1 : ((bytesOf s).getD i 0 - 48) % 256 = (d : Int) := by omega
  rw [e1]
  have htk : decL ((bytesOf s).take (i + 1)) = 10 * decL ((bytesOf s).take i) + d := by
   rw [List.take_add_one, List.getElem?_eq_getElem hl, hdd, List.getD_eq_getElem?_getD, List.getElem?_eq_getElem hl]
   exact decL_snoc _ _
  have hp : Tight (pushD m d) (decL ((bytesOf s).take (i + 1))) := by rw [htk]; exact push_tight ht (by omega)
  have hcar := mul10_carry m d ht.byt (by omega)
  have hpl := pushD_len m d
  have next := ih (i + 1) (pushD m d) (by omega) (by omega) (by omega) hp
  have h := intOf_l1 s (i : Int) (r := (false, magB (decL (bytesOf s)))) m [] d ht.byt (by omega) (by simp; omega)
  simp only [List.nil_append, List.length_nil, Nat.zero_add] at h
  refine h ?_
  refine Ev.succ ?_
  simp only [spec_intOf.l1]
  refine Ev.neg (fun _ => by rw [mul10_len]; omega) ?_
  rw [w64 (i := (i : Int) + 1) (by omega) (by omega)]
  unfold pushD at next
  by_cases hq : (mul10 m d).2 > 0
  ·rw [if_pos hq] at next
   refine Ev.pos (fun _ => by omega) ?_
   refine Ev.pos (fun _ => by rw [mul10_len]; omega) ?_
   have e2 : ((mul10 m d).2 : Int) % 256 = ((mul10 m d).2 : Int) := by omega
   rw [e2]
   exact next
  ·rw [if_neg hq] at next
   refine Ev.neg (fun _ => by omega) ?_
   exact next
theorem intOf_ev (s : ByteArray) (hs : s.size ≤ 200000) (hd : ∀ c ∈ bytesOf s, isD c = true) : Ev (fun q => spec_intOf.f q s) (false, magB (decL (bytesOf s))) :=
 intOf_l0 s hs hd _ 0 [] rfl (Nat.zero_le _) (Nat.le_refl _) ⟨fun x hx => by simp at hx, rfl, fun h => absurd rfl h⟩
theorem isDigit_eq (c : Int) : E1.spec_isDigit.f c = some (isD c) := by
 unfold E1.spec_isDigit.f isD
 by_cases h : c ≥ 48
 ·rw [if_pos h]; simp; omega
 ·rw [if_neg h]; simp; omega
theorem isDigit2_eq (c : Int) : E2.spec_isDigit.f c = some (isD c) := by
 unfold E2.spec_isDigit.f isD
 by_cases h : c ≥ 48
 ·rw [if_pos h]; simp; omega
 ·rw [if_neg h]; simp; omega
theorem alpHex2_eq (c : Int) : E2.spec_alpHex.f c = some (isX c) := by
 unfold E2.spec_alpHex.f isX
 rw [isDigit2_eq]
 simp only [Option.bind_some]
 cases isD c
 ·rw [if_neg Bool.false_ne_true, Bool.false_or]
  by_cases h : c ≥ 97
  ·rw [if_pos h]; congr 1; rw [decide_eq_decide]; omega
  ·rw [if_neg h]; congr 1; symm; rw [decide_eq_false_iff_not]; omega
 ·rfl
theorem run1_from (s : ByteArray) (hs : s.size ≤ 2000000) : ∀ (n i : Nat), s.size - i = n → i ≤ s.size → Ev (fun k => E1.spec_alpRun.l0 k s (i : Int)) ((i + run isD ((bytesOf s).drop i) : Nat) : Int) := by
 intro n
 induction n with
 | zero =>
  intro i hn hi
  refine Ev.succ ?_
  simp only [E1.spec_alpRun.l0]
  refine Ev.neg (fun _ => by first | omega | assumption | nofun) ?_
  refine Ev.eq (Ev.now _) ?_
  rw [List.drop_of_length_le (by rw [bytesOf_length]; omega), run_nil]
  rfl
 | succ n ih =>
  intro i hn hi
  have hl : i < (bytesOf s).length := by rw [bytesOf_length]; omega
  refine Ev.succ ?_
  simp only [E1.spec_alpRun.l0, bt_nat, isDigit_eq, Option.bind_some]
  refine Ev.pos (fun _ => by first | omega | trivial | assumption) ?_
  refine Ev.pos (fun _ => by first | omega | trivial | assumption) ?_
  rw [drop_get _ _ hl]
  cases hd : isD ((bytesOf s).getD i 0)
  ·refine Ev.neg (fun _ => Bool.false_ne_true) ?_
   refine Ev.eq (Ev.now _) ?_
   rw [run_neg hd]
   rfl
  ·refine Ev.pos (fun _ => rfl) ?_
   rw [w64 (by omega) (by omega), run_pos hd]
   refine Ev.eq (ih (i + 1) (by omega) (by omega)) ?_
   have : i + 1 + run isD ((bytesOf s).drop (i + 1)) = i + (run isD ((bytesOf s).drop (i + 1)) + 1) := by omega
   rw [this]
theorem run1_ev (s : ByteArray) (hs : s.size ≤ 2000000) : Ev (fun k => E1.spec_alpRun.f k s) ((run isD (bytesOf s) : Nat) : Int) := by
 have h := run1_from s hs _ 0 rfl (Nat.zero_le _)
 simpa [E1.spec_alpRun.f] using h
theorem run2_from (s : ByteArray) (hs : s.size ≤ 2000000) : ∀ (n i : Nat), s.size - i = n → i ≤ s.size → Ev (fun k => E2.spec_alpRun.l0 k s (i : Int)) ((i + run isX ((bytesOf s).drop i) : Nat) : Int) := by
 intro n
 induction n with
 | zero =>
  intro i hn hi
  refine Ev.succ ?_
  simp only [E2.spec_alpRun.l0]
  refine Ev.neg (fun _ => by first | omega | assumption | nofun) ?_
  refine Ev.eq (Ev.now _) ?_
  rw [List.drop_of_length_le (by rw [bytesOf_length]; omega), run_nil]
  rfl
 | succ n ih =>
  intro i hn hi
  have hl : i < (bytesOf s).length := by rw [bytesOf_length]; omega
  refine Ev.succ ?_
  simp only [E2.spec_alpRun.l0, bt_nat, alpHex2_eq, Option.bind_some]
  refine Ev.pos (fun _ => by first | omega | trivial | assumption) ?_
  refine Ev.pos (fun _ => by first | omega | trivial | assumption) ?_
  rw [drop_get _ _ hl]
  cases hd : isX ((bytesOf s).getD i 0)
  ·refine Ev.neg (fun _ => Bool.false_ne_true) ?_
   refine Ev.eq (Ev.now _) ?_
   rw [run_neg hd]
   rfl
  ·refine Ev.pos (fun _ => rfl) ?_
   rw [w64 (by omega) (by omega), run_pos hd]
   refine Ev.eq (ih (i + 1) (by omega) (by omega)) ?_
   have : i + 1 + run isX ((bytesOf s).drop (i + 1)) = i + (run isX ((bytesOf s).drop (i + 1)) + 1) := by omega
   rw [this]
theorem run2_ev (s : ByteArray) (hs : s.size ≤ 2000000) : Ev (fun k => E2.spec_alpRun.f k s) ((run isX (bytesOf s) : Nat) : Int) := by
 have h := run2_from s hs _ 0 rfl (Nat.zero_le _)
 simpa [E2.spec_alpRun.f] using h
theorem alpHex_eq (c : Int) : spec_alpHex.f c = some (isX c) := by
 unfold spec_alpHex.f isX
 have h : spec_isDigit.f c = some (isD c) := by
  unfold spec_isDigit.f isD
  by_cases h : c ≥ 48
  ·rw [if_pos h]; simp; omega
  ·rw [if_neg h]; simp; omega
 rw [h]
 simp only [Option.bind_some]
 cases isD c
 ·rw [if_neg Bool.false_ne_true, Bool.false_or]
  by_cases h : c ≥ 97
  ·rw [if_pos h]; congr 1; rw [decide_eq_decide]; omega
  ·rw [if_neg h]; congr 1; symm; rw [decide_eq_false_iff_not]; omega
 ·rfl
def numsFrom (k : Nat) (c : List (List Int)) : List S54 := (c.zipIdx k).map fun p => ⟨strOfNums p.1, ⟨false, magB (decL p.1)⟩, (p.2 : Int)⟩
theorem numsFrom_cons (k : Nat) (d : List Int) (c : List (List Int)) : numsFrom k (d :: c) = ⟨strOfNums d, ⟨false, magB (decL d)⟩, (k : Int)⟩ :: numsFrom (k + 1) c := rfl
theorem str_take (s : ByteArray) (n : Nat) : s.extract 0 n = strOfNums ((bytesOf s).take n) := by rw [← B_take, str_B]
theorem str_drop (s : ByteArray) (n : Nat) : s.extract n s.size = strOfNums ((bytesOf s).drop n) := by rw [← B_drop, str_B]
theorem readNumbers_from : ∀ (n : Nat) (s : ByteArray) (acc : List S54), s.size ≤ n → n ≤ 100000 → acc.length + n ≤ 200000 →
  Ev (fun k => spec_alpReadNumbers.l0 k s acc) (acc ++ numsFrom acc.length (numsP n (bytesOf s)).1, strOfNums (numsP n (bytesOf s)).2) := by
 intro n
 induction n with
 | zero =>
  intro s acc hs hn ha
  have h0 : bytesOf s = [] := (size_nil s).1 (by omega)
  have hr := run1_ev s (by omega)
  rw [h0] at hr ⊢
  refine Ev.succ ?_
  simp only [spec_alpReadNumbers.l0]
  refine Ev.bind hr ?_
  refine Ev.pos (fun _ => rfl) ?_
  refine Ev.eq (Ev.now _) ?_
  have : s = strOfNums [] := by rw [← h0, str_B]
  rw [this]
  simp [numsP, numsFrom]
 | succ n ih =>
  intro s acc hs hn ha
  have hr := run1_ev s (by omega)
  have hrl := run_le isD (bytesOf s)
  rw [bytesOf_length] at hrl
  refine Ev.succ ?_
  simp only [spec_alpReadNumbers.l0]
  refine Ev.bind hr ?_
  simp only [numsP]
  by_cases h0 : run isD (bytesOf s) = 0
  ·rw [if_pos h0]
   refine Ev.pos (fun _ => by omega) ?_
   refine Ev.eq (Ev.now _) ?_
   rw [str_B]
   simp [numsFrom]
  ·rw [if_neg h0]
   refine Ev.neg (fun _ => by omega) ?_
   refine Ev.pos (fun _ => by omega) ?_
   refine Ev.pos (fun _ => by omega) ?_
   rw [Int.toNat_natCast]
   have hdig : ∀ c ∈ (bytesOf s).take (run isD (bytesOf s)), isD c = true := fun c hc => run_mem hc
   have hio := intOf_ev (s.extract 0 (run isD (bytesOf s))) (by rw [B_size, B_take, List.length_take, bytesOf_length]; omega) (by rw [B_take]; exact hdig)
   rw [B_take] at hio
   refine Ev.bind hio ?_
   refine Ev.pos (fun _ => by omega) ?_
   refine Ev.bind0 rfl ?_
   refine Ev.bind0 rfl ?_
   have hb : bytesOf (s.extract (run isD (bytesOf s)) s.size) = (bytesOf s).drop (run isD (bytesOf s)) := B_drop _ _
   obtain ⟨Y, hY⟩ : ∃ Y, Y = s.extract (run isD (bytesOf s)) s.size := ⟨_, rfl⟩
   rw [← hY] at hb ⊢
   have hYs : Y.size ≤ n := by rw [B_size, hb, List.length_drop, bytesOf_length]; omega
   have hYe : Y = strOfNums ((bytesOf s).drop (run isD (bytesOf s))) := by rw [← hb, str_B]
   rw [str_take]
   by_cases h1 : Y.toList = []
   ·have h1b : (bytesOf s).drop (run isD (bytesOf s)) = [] := hb.symm.trans ((toList_nil Y).1 h1)
    refine Ev.pos (fun _ => h1) ?_
    refine Ev.eq (Ev.now _) ?_
    rw [h1b]
    rw [if_neg (by decide)]
    rw [numsFrom_cons, hYe, h1b]
    rfl
   ·have hpos : 0 < Y.size := by
     rw [B_size]
     exact List.length_pos_iff.2 (fun e => h1 ((toList_nil Y).2 e))
    refine Ev.neg (fun _ => h1) ?_
    refine Ev.pos (fun _ => by omega) ?_
    rw [bt_zero, hb]
    by_cases h2 : ((bytesOf s).drop (run isD (bytesOf s))).getD 0 0 = 46
    ·rw [if_pos h2]
     refine Ev.pos (fun _ => h2) ?_
     refine Ev.pos (fun _ => by omega) ?_
     have hb1 : bytesOf (Y.extract 1 Y.size) = (bytesOf s).drop (run isD (bytesOf s) + 1) := by rw [B_drop, hb, List.drop_drop]
     have := ih (Y.extract 1 Y.size) (acc ++ [⟨strOfNums ((bytesOf s).take (run isD (bytesOf s))), ⟨false, magB (decL ((bytesOf s).take (run isD (bytesOf s))))⟩, (acc.length : Int)⟩]) (by rw [B_size, hb1, List.length_drop, bytesOf_length]; omega) (by omega) (by simp; omega)
     rw [hb1] at this
     refine Ev.eq this ?_
     rw [List.append_assoc, List.length_append]
     rfl
    ·rw [if_neg h2]
     refine Ev.neg (fun _ => h2) ?_
     refine Ev.eq (Ev.now _) ?_
     rw [hYe]
     rfl
theorem readNumbers_ev (s : ByteArray) (hs : s.size ≤ 100000) : Ev (fun k => spec_alpReadNumbers.f k s) (numsA (numsP (bytesOf s).length (bytesOf s)).1, strOfNums (rest1 (bytesOf s))) := by
 have h := readNumbers_from (bytesOf s).length s [] (by rw [bytesOf_length]; exact Nat.le_refl _) (by rw [bytesOf_length]; exact hs) (by rw [bytesOf_length]; simp; omega)
 rw [List.nil_append] at h
 exact h
end Go.Proofs.YtapaijpglfmfgaaDoor.V
end
section -- BB
namespace Go.Proofs.YtapaijpglfmfgaaDoor.V
open Go.RowKit Go.Proofs.YtapaijpglfmfgaaDoor.Q Go.Proofs.YtapaijpglfmfgaaDoorG Go.Proofs.YtapaijpglfmfgaaDoorP Go.Proofs.YtapaijpglfmfgaaDoorH Go.Proofs.YtapaijpglfmfgaaDoorB Go.Proofs.YtapaijpglfmfgaaDoorM Go.Proofs.YtapaijpglfmfgaaDoorW.PrintWords Go.Proofs.YtapaijpglfmfgaaDoorW.PrintLast
set_option linter.unusedVariables false
set_option linter.unusedSimpArgs false
theorem rdOf_at (ws : List ByteArray) (j : Nat) (h : j < ws.length) : rdOf ByteArray.empty ws (j : Int) = ws[j] := by
 simp only [rdOf, Int.toNat_natCast, List.getD_eq_getElem?_getD, List.getElem?_eq_getElem h, Option.getD_some]
theorem word_from (s : ByteArray) (hs : s.size ≤ 2000000) (ws : List ByteArray) (hw : ∀ w ∈ ws, w.size ≤ 100 ∧ 1 ≤ w.size) (hl : ws.length ≤ 100) : ∀ (m j : Nat), ws.length - j = m → j ≤ ws.length →
  Ev (fun k => spec_alpWord.l0 k s ws (j : Int)) (strOfNums ((if (bytesOf s).getD 0 0 = 95 then ((ws.drop j).map bytesOf).find? (fun w => pre w ((bytesOf s).drop 1)) else none).getD [])) := by
 intro m
 induction m with
 | zero =>
  intro j hm hj
  obtain rfl : j = ws.length := by omega
  refine Ev.succ ?_
  simp only [spec_alpWord.l0]
  refine Ev.neg (fun _ => by first | omega | assumption | nofun) ?_
  refine Ev.eq (Ev.now _) ?_
  rw [List.drop_length, List.map_nil, List.find?_nil]
  split <;> rfl
 | succ m ih =>
  intro j hm hj
  have hlt : j < ws.length := by omega
  have hd : ws.drop j = ws[j] :: ws.drop (j + 1) := List.drop_eq_getElem_cons hlt
  have next := ih (j + 1) (by omega) (by omega)
  obtain ⟨h100, h1⟩ := hw _ (List.getElem_mem hlt)
  rw [hd, List.map_cons, List.find?_cons]
  obtain ⟨W, hW⟩ : ∃ W, W = ws[j] := ⟨_, rfl⟩
  have hrd := rdOf_at ws j hlt
  rw [← hW] at h100 h1 hrd ⊢
  refine Ev.succ ?_
  simp only [spec_alpWord.l0]
  refine Ev.pos (fun _ => by first | omega | trivial | assumption) ?_
  refine Ev.pos (fun _ => by first | omega | trivial | assumption) ?_
  rw [hrd, w64 (i := (j : Int) + 1) (by omega) (by omega), w64 (i := (W.size : Int) + 1) (by omega) (by omega), bt_zero]
  have hnone : ¬ (s.size > W.size) → pre (bytesOf W) ((bytesOf s).drop 1) = false := fun h => by
   unfold pre
   rw [decide_eq_false_iff_not]
   intro e
   have := congrArg List.length e
   rw [List.length_take, List.length_drop, bytesOf_length, bytesOf_length] at this
   omega
  by_cases hsz : s.size > W.size
  ·refine Ev.pos (fun _ => by omega) ?_
   refine Ev.pos (fun _ => by omega) ?_
   by_cases h95 : (bytesOf s).getD 0 0 = 95
   ·rw [if_pos h95] at next ⊢
    refine Ev.pos (fun _ => h95) ?_
    refine Ev.pos (fun _ => by omega) ?_
    refine Ev.pos (fun _ => by omega) ?_
    have e1 : ((W.size : Int) + 1).toNat = 1 + W.size := by omega
    have e2 : (s.extract 1 ((W.size : Int) + 1).toNat).toList = W.toList ↔ pre (bytesOf W) ((bytesOf s).drop 1) = true := by
     rw [e1, toList_eq_iff, B_extract, Nat.add_sub_cancel_left]
     unfold pre
     rw [decide_eq_true_iff, B_size]
    by_cases hp : pre (bytesOf W) ((bytesOf s).drop 1) = true
    ·rw [hp]
     refine Ev.pos (fun _ => e2.2 hp) ?_
     refine Ev.eq (Ev.now _) ?_
     exact (str_B W).symm
    ·rw [Bool.eq_false_iff.2 hp]
     refine Ev.neg (fun _ e => hp (e2.1 e)) ?_
     exact next
   ·rw [if_neg h95] at next ⊢
    refine Ev.neg (fun _ => h95) ?_
    exact next
  ·refine Ev.neg (fun _ => by omega) ?_
   rw [hnone hsz]
   exact next
theorem word_ev (s : ByteArray) (hs : s.size ≤ 2000000) : Ev (fun k => spec_alpWord.f k s) (strOfNums ((wordAt (bytesOf s)).getD [])) := by
 simp only [spec_alpWord.f]
 refine Ev.bind0 rfl ?_
 have h := word_from s hs sufBs (fun w hw => ⟨sufBs_size w hw, by
  have h1 : bytesOf w ∈ sufWords := by rw [← sufBs_B]; exact List.mem_map_of_mem hw
  rw [B_size]
  exact (sufWords_len h1).1⟩) (by decide) 9 0 rfl (by decide)
 rw [List.drop_zero, sufBs_B] at h
 exact h
theorem sweight_from (x : ByteArray) (ws : List ByteArray) (hl : ws.length ≤ 100) : ∀ (m j : Nat), ws.length - j = m → j ≤ ws.length →
  Ev (fun k => spec_SuffixWeight.l0 k x ws (j : Int)) ((j + ((ws.drop j).map bytesOf).idxOf (bytesOf x) : Nat) : Int) := by
 intro m
 induction m with
 | zero =>
  intro j hm hj
  obtain rfl : j = ws.length := by omega
  refine Ev.succ ?_
  simp only [spec_SuffixWeight.l0]
  refine Ev.neg (fun _ => by first | omega | assumption | nofun) ?_
  refine Ev.eq (Ev.now _) ?_
  rw [List.drop_length]
  rfl
 | succ m ih =>
  intro j hm hj
  have hlt : j < ws.length := by omega
  have hd : ws.drop j = ws[j] :: ws.drop (j + 1) := List.drop_eq_getElem_cons hlt
  refine Ev.succ ?_
  simp only [spec_SuffixWeight.l0]
  refine Ev.pos (fun _ => by first | omega | trivial | assumption) ?_
  refine Ev.pos (fun _ => by first | omega | trivial | assumption) ?_
  rw [rdOf_at ws j hlt, hd, List.map_cons, List.idxOf_cons]
  by_cases h : bytesOf x = bytesOf ws[j]
  ·refine Ev.pos (fun _ => (toList_eq_iff _ _).2 h.symm) ?_
   refine Ev.eq (Ev.now _) ?_
   have : (bytesOf ws[j] == bytesOf x) = true := by rw [beq_iff_eq]; exact h.symm
   rw [this]
   rfl
  ·refine Ev.neg (fun _ e => h ((toList_eq_iff _ _).1 e).symm) ?_
   rw [w64 (i := (j : Int) + 1) (by omega) (by omega)]
   refine Ev.eq (ih (j + 1) (by omega) (by omega)) ?_
   have : (bytesOf ws[j] == bytesOf x) = false := by rw [beq_eq_false_iff_ne]; exact fun e => h e.symm
   rw [this]
   simp only [cond_false]
   omega
theorem sweight_ev (x : ByteArray) : Ev (fun k => spec_SuffixWeight.f k x) (wgt (bytesOf x) : Int) := by
 simp only [spec_SuffixWeight.f]
 have h := sweight_from x wgtBs (by decide) 9 0 rfl (by decide)
 rw [List.drop_zero, wgtBs_B] at h
 refine Ev.eq h ?_
 unfold wgt
 rw [Nat.zero_add]
theorem B_word {w : List Int} (h : w ∈ sufWords) : bytesOf (strOfNums w) = w := B_str (fun c hc => by have := sufWords_asc h c hc; omega)
theorem readSuffixes_from : ∀ (n : Nat) (s : ByteArray) (acc : List S58), s.size ≤ n → n ≤ 100000 → acc.length + n ≤ 200000 →
  Ev (fun k => spec_alpReadSuffixes.l0 k s acc) (acc ++ sufsA (sufsP n (bytesOf s)).1, strOfNums (sufsP n (bytesOf s)).2) := by
 intro n
 induction n with
 | zero =>
  intro s acc hs hn ha
  have h0 : bytesOf s = [] := (size_nil s).1 (by omega)
  have hr := word_ev s (by omega)
  refine Ev.succ ?_
  simp only [spec_alpReadSuffixes.l0]
  refine Ev.bind hr ?_
  have e : wordAt (bytesOf s) = none := by rw [h0]; rfl
  rw [e]
  refine Ev.pos (fun _ => (toList_nil _).2 rfl) ?_
  refine Ev.eq (Ev.now _) ?_
  simp only [sufsP]
  rw [str_B]
  simp [sufsA]
 | succ n ih =>
  intro s acc hs hn ha
  have hr := word_ev s (by omega)
  refine Ev.succ ?_
  simp only [spec_alpReadSuffixes.l0]
  refine Ev.bind hr ?_
  cases hq : wordAt (bytesOf s) with
  | none =>
   rw [sufsP_none hq]
   refine Ev.pos (fun _ => (toList_nil _).2 rfl) ?_
   refine Ev.eq (Ev.now _) ?_
   rw [str_B]
   simp [sufsA]
  | some w =>
   obtain ⟨k1, k2⟩ := wordAt_some hq
   have hlen := sufWords_len k1
   have hbw := B_word k1
   rw [sufsP_some hq]
   have htot := congrArg List.length k2
   simp only [List.length_cons, List.length_append, List.length_drop, bytesOf_length] at htot
   have hWs : (strOfNums w).size = w.length := by rw [B_size, hbw]
   show Ev _ _
   simp only [Option.getD_some]
   refine Ev.neg (fun _ e => by have := (toList_nil _).1 e; rw [hbw] at this; rw [this] at hlen; simp at hlen) ?_
   rw [hWs, w64 (i := (w.length : Int) + 1) (by omega) (by omega)]
   refine Ev.pos (fun _ => by omega) ?_
   refine Ev.pos (fun _ => by omega) ?_
   refine Ev.bind0 rfl ?_
   have e1 : ((w.length : Int) + 1).toNat = 1 + w.length := by omega
   rw [e1]
   have hb : bytesOf (s.extract (1 + w.length) s.size) = (bytesOf s).drop (1 + w.length) := B_drop _ _
   obtain ⟨Y, hY⟩ : ∃ Y, Y = s.extract (1 + w.length) s.size := ⟨_, rfl⟩
   rw [← hY] at hb ⊢
   have hYs : Y.size = s.size - (1 + w.length) := by rw [B_size, hb, List.length_drop, bytesOf_length]
   have hru := run1_ev Y (by omega)
   have hrl := run_le isD (bytesOf Y)
   rw [bytesOf_length] at hrl
   refine Ev.bind hru ?_
   have hsw := sweight_ev (strOfNums w)
   rw [hbw] at hsw
   refine Ev.bind hsw ?_
   refine Ev.pos (fun _ => by omega) ?_
   refine Ev.pos (fun _ => by omega) ?_
   rw [Int.toNat_natCast]
   have hdig : ∀ c ∈ (bytesOf Y).take (run isD (bytesOf Y)), isD c = true := fun c hc => run_mem hc
   have hio := intOf_ev (Y.extract 0 (run isD (bytesOf Y))) (by rw [B_size, B_take, List.length_take, bytesOf_length]; omega) (by rw [B_take]; exact hdig)
   rw [B_take] at hio
   refine Ev.bind hio ?_
   refine Ev.pos (fun _ => by omega) ?_
   have hbz : bytesOf (Y.extract (run isD (bytesOf Y)) Y.size) = (bytesOf Y).drop (run isD (bytesOf Y)) := B_drop _ _
   have := ih (Y.extract (run isD (bytesOf Y)) Y.size) (acc ++ [⟨(wgt w : Int), ⟨false, magB (decL ((bytesOf Y).take (run isD (bytesOf Y))))⟩⟩]) (by rw [B_size, hbz, List.length_drop, bytesOf_length]; omega) (by omega) (by simp; omega)
   rw [hbz, hb] at this
   rw [hb]
   refine Ev.eq this ?_
   rw [List.append_assoc]
   rfl
theorem readSuffixes_ev (s : ByteArray) (hs : s.size ≤ 100000) : Ev (fun k => spec_alpReadSuffixes.f k s) (sufsA (sufsP (bytesOf s).length (bytesOf s)).1, strOfNums (sufsP (bytesOf s).length (bytesOf s)).2) := by
 have h := readSuffixes_from (bytesOf s).length s [] (by rw [bytesOf_length]; exact Nat.le_refl _) (by rw [bytesOf_length]; exact hs) (by rw [bytesOf_length]; simp; omega)
 rw [List.nil_append] at h
 exact h
theorem ascii_from (s : ByteArray) (hs : s.size ≤ 2000000000) : ∀ (n i : Nat), s.size - i = n → i ≤ s.size →
  Ev (fun k => spec_Ascii.l0 k s i) (decide (∀ x ∈ (bytesOf s).drop i, x ≤ 127)) := by
 intro n
 induction n with
 | zero =>
  intro i hn hi
  refine Ev.succ ?_
  simp only [spec_Ascii.l0]
  refine Ev.neg (fun _ => by omega) ?_
  refine Ev.eq (Ev.now _) ?_
  rw [List.drop_of_length_le (by rw [bytesOf_length]; omega)]
  simp
 | succ n ih =>
  intro i hn hi
  have hl : i < (bytesOf s).length := by rw [bytesOf_length]; omega
  refine Ev.succ ?_
  simp only [spec_Ascii.l0]
  refine Ev.pos (fun _ => by omega) ?_
  refine Ev.pos (fun _ => by omega) ?_
  rw [bt_nat, drop_get _ _ hl]
  by_cases h : (bytesOf s).getD i 0 > 127
  ·refine Ev.pos (fun _ => h) ?_
   refine Ev.eq (Ev.now _) ?_
   symm
   simp only [decide_eq_false_iff_not]
   intro hx
   have := hx _ List.mem_cons_self
   omega
  ·refine Ev.neg (fun _ => h) ?_
   rw [w64 (by omega) (by omega)]
   refine Ev.eq (ih (i + 1) (by omega) (by omega)) ?_
   rw [decide_eq_decide]
   simp only [List.mem_cons, forall_eq_or_imp]
   exact ⟨fun hx => ⟨by omega, hx⟩, fun hx => hx.2⟩
theorem ascii_ev (s : ByteArray) (hs : s.size ≤ 2000000000) : Ev (fun k => spec_Ascii.f k s) (decide (∀ x ∈ bytesOf s, x ≤ 127)) := by
 have h := ascii_from s hs _ 0 rfl (Nat.zero_le _)
 simpa [spec_Ascii.f] using h
theorem clear_from (s : ByteArray) (hs : s.size ≤ 2000000) : ∀ (n i : Nat), s.size - i = n → i ≤ s.size → Ev (fun k => spec_AlpineTextKnown.l0 k s (i : Int)) (clearB ((bytesOf s).drop i)) := by
 intro n
 induction n with
 | zero =>
  intro i hn hi
  refine Ev.succ ?_
  simp only [spec_AlpineTextKnown.l0]
  refine Ev.neg (fun _ => by first | omega | assumption | nofun) ?_
  refine Ev.eq (Ev.now _) ?_
  rw [List.drop_of_length_le (by rw [bytesOf_length]; omega)]
  rfl
 | succ n ih =>
  intro i hn hi
  have hl : i < (bytesOf s).length := by rw [bytesOf_length]; omega
  have hb : bytesOf (s.extract i s.size) = (bytesOf s).drop i := B_drop _ _
  have hw := word_ev (s.extract i s.size) (by rw [B_size, hb, List.length_drop, bytesOf_length]; omega)
  rw [hb] at hw
  refine Ev.succ ?_
  simp only [spec_AlpineTextKnown.l0, Int.toNat_natCast]
  refine Ev.pos (fun _ => by first | omega | trivial | assumption) ?_
  refine Ev.pos (fun _ => by first | omega | trivial | assumption) ?_
  refine Ev.pos (fun _ => by first | omega | trivial | assumption) ?_
  refine Ev.bind hw ?_
  rw [w64 (i := (i : Int) + 1) (by omega) (by omega)]
  have e : clearB ((bytesOf s).drop i) = ((wordAt ((bytesOf s).drop i)).isNone && clearB ((bytesOf s).drop (i + 1))) := by
   rw [drop_get _ _ hl]
   rfl
  rw [e]
  cases hq : wordAt ((bytesOf s).drop i) with
  | none =>
   refine Ev.pos (fun _ => (toList_nil _).2 rfl) ?_
   exact ih (i + 1) (by omega) (by omega)
  | some w =>
   have k1 := (wordAt_some hq).1
   have hlen := sufWords_len k1
   refine Ev.neg (fun _ e => by have := (toList_nil _).1 e; rw [show (some w).getD [] = w from rfl, B_word k1] at this; rw [this] at hlen; simp at hlen) ?_
   exact Ev.now _
theorem letter_cases {α : Type} (s : ByteArray) {g : Bool → Nat → Option α} {r : α} (h : Ev (g (isL ((bytesOf s).getD 0 0))) r) : Ev (fun k => if s.toList = ([] : List UInt8) then g false k else if 0 < (s.size : Int) then (if (bt s 0) ≥ 97 then g (decide ((bt s 0) ≤ 122)) k else g false k) else none) r := by
 by_cases h0 : bytesOf s = []
 ·refine Ev.pos (fun _ => (toList_nil s).2 h0) ?_
  rw [h0] at h
  exact h
 ·have hpos : 0 < s.size := by rw [B_size]; exact List.length_pos_iff.2 h0
  refine Ev.neg (fun _ e => h0 ((toList_nil s).1 e)) ?_
  refine Ev.pos (fun _ => by omega) ?_
  rw [bt_zero]
  unfold isL at h
  by_cases h1 : (bytesOf s).getD 0 0 ≥ 97
  ·refine Ev.pos (fun _ => h1) ?_
   have e : decide ((bytesOf s).getD 0 0 ≤ 122) = decide (97 ≤ (bytesOf s).getD 0 0 ∧ (bytesOf s).getD 0 0 ≤ 122) := by rw [decide_eq_decide]; omega
   rw [e]
   exact h
  ·refine Ev.neg (fun _ => h1) ?_
   rw [decide_eq_false (by omega)] at h
   exact h
theorem B_rest {l r : List Int} (hl : ∀ x ∈ l, 0 ≤ x ∧ x ≤ 255) (h : ∃ a, l = a ++ r) : bytesOf (strOfNums r) = r := by
 obtain ⟨a, rfl⟩ := h
 exact B_str (fun c hc => hl c (List.mem_append_right _ hc))
theorem rest1_suffix (l : List Int) : ∃ a, l = a ++ rest1 l := by
 obtain ⟨sub, e, _⟩ := numsP_shape l.length l
 exact ⟨sub, e⟩
theorem rest2_suffix (l : List Int) : ∃ a, l = a ++ rest2 l := by
 obtain ⟨a, e⟩ := rest1_suffix l
 unfold rest2 letterP
 split
 ·exact ⟨a ++ (rest1 l).take 1, by rw [List.append_assoc, List.take_append_drop]; exact e⟩
 ·exact ⟨a, e⟩
theorem sufsP_suffix : ∀ (n : Nat) (l : List Int), ∃ a, l = a ++ (sufsP n l).2
 | 0, l => ⟨[], rfl⟩
 | n + 1, l => by
  cases hq : wordAt l with
  | none => rw [sufsP_none hq]; exact ⟨[], rfl⟩
  | some w =>
   rw [sufsP_some hq]
   obtain ⟨a, e⟩ := sufsP_suffix n ((l.drop (1 + w.length)).drop (run isD (l.drop (1 + w.length))))
   refine ⟨l.take (1 + w.length + run isD (l.drop (1 + w.length))) ++ a, ?_⟩
   simp only
   rw [List.append_assoc, ← e, List.drop_drop, List.take_append_drop]
theorem rest3_suffix (l : List Int) : ∃ a, l = a ++ rest3 l := by
 obtain ⟨a, e⟩ := rest2_suffix l
 obtain ⟨b, e2⟩ := sufsP_suffix (rest2 l).length (rest2 l)
 exact ⟨a ++ b, by rw [List.append_assoc]; unfold rest3; rw [← e2]; exact e⟩
theorem known_ev (s : ByteArray) (hs : s.size ≤ 100000) : Ev (fun k => spec_AlpineTextKnown.f k s) (decide (∀ x ∈ bytesOf s, x ≤ 127) && clearB (rest3 (bytesOf s))) := by
 simp only [spec_AlpineTextKnown.f]
 refine Ev.bind (ascii_ev s (by omega)) ?_
 cases ha : decide (∀ x ∈ bytesOf s, x ≤ 127)
 ·refine Ev.neg (fun _ => Bool.false_ne_true) ?_
  exact Ev.now _
 ·refine Ev.pos (fun _ => rfl) ?_
  rw [Bool.true_and]
  refine Ev.bind (readNumbers_ev s hs) ?_
  have hb1 := B_rest (B_range s) (rest1_suffix (bytesOf s))
  have hl1 := rest1_len (bytesOf s)
  have hz := hs
  rw [B_size] at hz
  refine letter_cases (strOfNums (rest1 (bytesOf s))) (g := fun b k => spec_AlpineTextKnown.j0 k (strOfNums (rest1 (bytesOf s))) b) ?_
  rw [hb1]
  have hj1 : ∀ (t : ByteArray), bytesOf t = rest2 (bytesOf s) → Ev (fun k => spec_AlpineTextKnown.j1 k t) (clearB (rest3 (bytesOf s))) := by
   intro t ht
   have hl2 := rest2_len (bytesOf s)
   have hl3 := rest3_len (bytesOf s)
   refine Ev.succ ?_
   simp only [spec_AlpineTextKnown.j1]
   have h := readSuffixes_ev t (by rw [B_size, ht]; omega)
   rw [ht] at h
   refine Ev.bind h ?_
   have hb3 := B_rest (B_range s) (rest3_suffix (bytesOf s))
   have h2 := clear_from (strOfNums (rest3 (bytesOf s))) (by rw [B_size, hb3]; omega) _ 0 rfl (Nat.zero_le _)
   rw [hb3, List.drop_zero] at h2
   exact h2
  refine Ev.succ ?_
  simp only [spec_AlpineTextKnown.j0]
  cases hc : isL ((rest1 (bytesOf s)).getD 0 0)
  ·refine Ev.neg (fun _ => Bool.false_ne_true) ?_
   refine hj1 _ ?_
   rw [hb1]
   unfold rest2 letterP
   rw [hc]
   rfl
  ·have hne : rest1 (bytesOf s) ≠ [] := by intro e; rw [e] at hc; exact absurd hc (by decide)
   have hpos : 0 < (strOfNums (rest1 (bytesOf s))).size := by rw [B_size, hb1]; exact List.length_pos_iff.2 hne
   refine Ev.pos (fun _ => rfl) ?_
   refine Ev.pos (fun _ => by omega) ?_
   refine hj1 _ ?_
   rw [B_drop, hb1]
   unfold rest2 letterP
   rw [hc]
   rfl
end Go.Proofs.YtapaijpglfmfgaaDoor.V
end
section -- BC
namespace Go.Proofs.YtapaijpglfmfgaaDoor.V
open Go.RowKit Go.Proofs.YtapaijpglfmfgaaDoor.Q Go.Proofs.YtapaijpglfmfgaaDoorG Go.Proofs.YtapaijpglfmfgaaDoorP Go.Proofs.YtapaijpglfmfgaaDoorH Go.Proofs.YtapaijpglfmfgaaDoorB Go.Proofs.YtapaijpglfmfgaaDoorM Go.Proofs.YtapaijpglfmfgaaDoorW.PrintWords Go.Proofs.YtapaijpglfmfgaaDoorW.PrintLast
set_option linter.unusedVariables false
set_option linter.unusedSimpArgs false
theorem p4_ev (x : ByteArray) (hx : x.size ≤ 100000) (o l h : ByteArray) (ns : List S54) (ss : List S58) :
  Ev (fun k => spec_AlpineParse.j3 k x o ⟨#[]⟩ l h false ns ss true false ⟨#[]⟩)
   (o, strOfNums (buildP (bytesOf x)).2.2, l, h, (buildP (bytesOf x)).1, ns, ss, true, false, magB (decL (buildP (bytesOf x)).2.1), true) := by
 have e0 : (⟨#[]⟩ : ByteArray) = magB (decL []) := rfl
 have last : bytesOf x ≠ [45, 114] → (bytesOf x).take 2 ≠ [45, 114] → Ev (fun k => spec_AlpineParse.j4 k x false o ⟨#[]⟩ l h false ns ss true false ⟨#[]⟩)
   (o, strOfNums (buildP (bytesOf x)).2.2, l, h, (buildP (bytesOf x)).1, ns, ss, true, false, magB (decL (buildP (bytesOf x)).2.1), true) := by
  intro _ h2
  refine Ev.succ ?_
  simp only [spec_AlpineParse.j4]
  refine Ev.neg (fun _ => Bool.false_ne_true) ?_
  unfold buildP
  by_cases h0 : bytesOf x = []
  ·refine Ev.pos (fun _ => (toList_nil x).2 h0) ?_
   rw [if_pos h0]
   exact Ev.now _
  ·refine Ev.neg (fun _ e => h0 ((toList_nil x).1 e)) ?_
   rw [if_neg h0, if_neg h2, str_B]
   exact Ev.now _
 refine Ev.succ ?_
 simp only [spec_AlpineParse.j3]
 by_cases h1 : x.size > 1
 ·refine Ev.pos (fun _ => by omega) ?_
  refine Ev.pos (fun _ => by first | trivial | decide) ?_
  refine Ev.pos (fun _ => by omega) ?_
  have e2 : (x.extract 0 2).toList = ([45, 114] : List UInt8) ↔ (bytesOf x).take 2 = [45, 114] := by
   rw [toList_lit, B_take]
   rfl
  by_cases h2 : (bytesOf x).take 2 = [45, 114]
  ·have : ((x.extract 0 2).toList == ([45, 114] : List UInt8)) = true := beq_iff_eq.2 (e2.2 h2)
   rw [this]
   refine Ev.succ ?_
   simp only [spec_AlpineParse.j4]
   refine Ev.pos (fun _ => by first | rfl | trivial) ?_
   refine Ev.pos (fun _ => by omega) ?_
   have hb : bytesOf (x.extract 2 x.size) = (bytesOf x).drop 2 := B_drop _ _
   have hxz := hx
   rw [B_size] at hxz h1
   have hr := run1_ev (x.extract 2 x.size) (by rw [B_size, hb, List.length_drop]; omega)
   have hrl := run_le isD ((bytesOf x).drop 2)
   rw [List.length_drop] at hrl
   rw [hb] at hr
   refine Ev.bind hr ?_
   have hsz := B_size x
   rw [w64 (i := 2 + ((run isD ((bytesOf x).drop 2) : Nat) : Int)) (by omega) (by omega)]
   refine Ev.pos (fun _ => by omega) ?_
   refine Ev.pos (fun _ => by omega) ?_
   have e3 : (2 + ((run isD ((bytesOf x).drop 2) : Nat) : Int)).toNat = 2 + run isD ((bytesOf x).drop 2) := by omega
   rw [e3]
   have hb2 : bytesOf (x.extract 2 (2 + run isD ((bytesOf x).drop 2))) = ((bytesOf x).drop 2).take (run isD ((bytesOf x).drop 2)) := by rw [B_extract, Nat.add_sub_cancel_left]
   have hio := intOf_ev (x.extract 2 (2 + run isD ((bytesOf x).drop 2))) (by rw [B_size, hb2, List.length_take, List.length_drop]; omega) (by rw [hb2]; exact fun c hc => run_mem hc)
   rw [hb2] at hio
   refine Ev.bind hio ?_
   refine Ev.pos (fun _ => by omega) ?_
   unfold buildP
   have h0 : bytesOf x ≠ [] := by intro e; rw [e] at h1; simp at h1
   rw [if_neg h0, if_pos h2]
   refine Ev.eq (Ev.now _) ?_
   rw [str_drop, List.drop_drop]
  ·have : ((x.extract 0 2).toList == ([45, 114] : List UInt8)) = false := by rw [beq_eq_false_iff_ne]; exact fun e => h2 (e2.1 e)
   rw [this]
   exact last (fun e => h2 (by rw [e]; rfl)) h2
 ·refine Ev.neg (fun _ => by omega) ?_
  have hl : (bytesOf x).length ≤ 1 := by rw [bytesOf_length]; omega
  refine last (fun e => by rw [e] at hl; simp at hl) (fun e => ?_)
  have := congrArg List.length e
  rw [List.length_take] at this
  simp at this
  omega
theorem run_head {p : Int → Bool} {l : List Int} (h : l ≠ []) : run p l ≠ 0 ↔ p (l.getD 0 0) = true := by
 cases l with
 | nil => exact absurd rfl h
 | cons c r =>
  show _ ↔ p c = true
  cases hc : p c
  ·rw [run_neg hc]; simp
  ·rw [run_pos hc]; simp
theorem p2_ev (x : ByteArray) (hx : x.size ≤ 100000) (o l : ByteArray) (ns : List S54) :
  Ev (fun k => spec_AlpineParse.j1 k x o ⟨#[]⟩ l ⟨#[]⟩ false ns true false ⟨#[]⟩)
   (o, strOfNums (buildP (hashP (sufsP (bytesOf x).length (bytesOf x)).2).2).2.2, l, strOfNums (hashP (sufsP (bytesOf x).length (bytesOf x)).2).1, (buildP (hashP (sufsP (bytesOf x).length (bytesOf x)).2).2).1, ns,
    sufsA (sufsP (bytesOf x).length (bytesOf x)).1, true, false, magB (decL (buildP (hashP (sufsP (bytesOf x).length (bytesOf x)).2).2).2.1), true) := by
 refine Ev.succ ?_
 simp only [spec_AlpineParse.j1]
 refine Ev.bind (readSuffixes_ev x hx) ?_
 have hbz : bytesOf (strOfNums (sufsP (bytesOf x).length (bytesOf x)).2) = (sufsP (bytesOf x).length (bytesOf x)).2 := B_rest (B_range x) (sufsP_suffix _ _)
 have hlz := sufsP_len (bytesOf x).length (bytesOf x)
 rw [bytesOf_length] at hlz
 obtain ⟨ss, hss⟩ : ∃ ss, ss = sufsA (sufsP (bytesOf x).length (bytesOf x)).1 := ⟨_, rfl⟩
 obtain ⟨q, hq⟩ : ∃ q, q = (sufsP (bytesOf x).length (bytesOf x)).2 := ⟨_, rfl⟩
 rw [← hss]
 simp only [← hq] at hbz hlz ⊢
 rw [bytesOf_length] at hq
 obtain ⟨y, hy⟩ : ∃ y, y = strOfNums q := ⟨_, rfl⟩
 have hlz2 : q.length ≤ x.size := by rw [hq]; exact hlz
 rw [← hy] at hbz ⊢
 have hysz : y.size = q.length := by rw [B_size, hbz]
 have hno : ¬ (q.getD 0 0 = 126 ∧ run isX (q.drop 1) ≠ 0) → Ev (fun k => spec_AlpineParse.j2 k y false o ⟨#[]⟩ l ⟨#[]⟩ false ns ss true false ⟨#[]⟩)
   (o, strOfNums (buildP (hashP q).2).2.2, l, strOfNums (hashP q).1, (buildP (hashP q).2).1, ns, ss, true, false, magB (decL (buildP (hashP q).2).2.1), true) := by
  intro hn
  refine Ev.succ ?_
  simp only [spec_AlpineParse.j2]
  refine Ev.neg (fun _ => Bool.false_ne_true) ?_
  have h := p4_ev y (by omega) o l ⟨#[]⟩ ns ss
  unfold hashP
  rw [if_neg hn, ← hbz]
  exact h
 by_cases h1 : y.size > 1
 ·refine Ev.pos (fun _ => by omega) ?_
  refine Ev.pos (fun _ => by omega) ?_
  rw [bt_zero, hbz]
  by_cases h2 : q.getD 0 0 = 126
  ·refine Ev.pos (fun _ => h2) ?_
   refine Ev.pos (fun _ => by omega) ?_
   have e1 : bt y 1 = (q.drop 1).getD 0 0 := by
    have := bt_nat y 1
    rw [hbz] at this
    rw [show bt y 1 = bt y ((1 : Nat) : Int) from rfl, this]
    simp [List.getD_eq_getElem?_getD, List.getElem?_drop]
   rw [e1, alpHex_eq]
   simp only [Option.bind_some]
   have hne : q.drop 1 ≠ [] := by
    intro e
    have := congrArg List.length e
    rw [List.length_drop] at this
    simp at this
    omega
   cases hc : isX ((q.drop 1).getD 0 0)
   ·exact hno (fun hn => by rw [run_head hne, hc] at hn; exact absurd hn.2 Bool.false_ne_true)
   ·have hrun : run isX (q.drop 1) ≠ 0 := (run_head hne).2 hc
    refine Ev.succ ?_
    simp only [spec_AlpineParse.j2]
    refine Ev.pos (fun _ => by first | rfl | trivial) ?_
    refine Ev.pos (fun _ => by omega) ?_
    have hb : bytesOf (y.extract 1 y.size) = q.drop 1 := by rw [B_drop, hbz]
    have hr := run2_ev (y.extract 1 y.size) (by rw [B_size, hb, List.length_drop]; omega)
    rw [hb] at hr
    have hrl := run_le isX (q.drop 1)
    rw [List.length_drop] at hrl
    refine Ev.bind hr ?_
    rw [w64 (i := 1 + ((run isX (q.drop 1) : Nat) : Int)) (by omega) (by omega)]
    refine Ev.pos (fun _ => by omega) ?_
    refine Ev.pos (fun _ => by omega) ?_
    have e3 : (1 + ((run isX (q.drop 1) : Nat) : Int)).toNat = 1 + run isX (q.drop 1) := by omega
    rw [e3]
    unfold hashP
    rw [if_pos ⟨h2, hrun⟩]
    have hb2 : bytesOf (y.extract (1 + run isX (q.drop 1)) y.size) = q.drop (1 + run isX (q.drop 1)) := by rw [B_drop, hbz]
    have h := p4_ev (y.extract (1 + run isX (q.drop 1)) y.size) (by rw [B_size, hb2, List.length_drop]; omega) o l (y.extract 0 (1 + run isX (q.drop 1))) ns ss
    rw [hb2, str_take, hbz] at h
    rw [str_take, hbz]
    exact h
  ·refine Ev.neg (fun _ => h2) ?_
   exact hno (fun hn => h2 hn.1)
 ·refine Ev.neg (fun _ => by omega) ?_
  refine hno (fun hn => hn.2 ?_)
  have : q.drop 1 = [] := List.drop_of_length_le (by omega)
  rw [this]
  rfl
theorem parse_ev (s : ByteArray) (hs : s.size ≤ 100000) : Ev (fun k => spec_AlpineParse.f k s)
  (s, strOfNums (parseP (bytesOf s)).r, strOfNums (parseP (bytesOf s)).l, strOfNums (parseP (bytesOf s)).h, (parseP (bytesOf s)).i, numsA (parseP (bytesOf s)).c, sufsA (parseP (bytesOf s)).s, true, false, magB (decL (parseP (bytesOf s)).b), true) := by
 simp only [spec_AlpineParse.f]
 refine Ev.bind (readNumbers_ev s hs) ?_
 have hb1 := B_rest (B_range s) (rest1_suffix (bytesOf s))
 have hl1 := rest1_len (bytesOf s)
 rw [bytesOf_length] at hl1
 refine letter_cases (strOfNums (rest1 (bytesOf s))) (g := fun b k => spec_AlpineParse.j0 k (strOfNums (rest1 (bytesOf s))) b s ⟨#[]⟩ ⟨#[]⟩ ⟨#[]⟩ false _ true false ⟨#[]⟩) ?_
 rw [hb1]
 have key : ∀ (t l : ByteArray), bytesOf t = rest2 (bytesOf s) → l = strOfNums (letterP (rest1 (bytesOf s))).1 → Ev (fun k => spec_AlpineParse.j1 k t s ⟨#[]⟩ l ⟨#[]⟩ false (numsA (numsP (bytesOf s).length (bytesOf s)).1) true false ⟨#[]⟩)
   (s, strOfNums (parseP (bytesOf s)).r, strOfNums (parseP (bytesOf s)).l, strOfNums (parseP (bytesOf s)).h, (parseP (bytesOf s)).i, numsA (parseP (bytesOf s)).c, sufsA (parseP (bytesOf s)).s, true, false, magB (decL (parseP (bytesOf s)).b), true) := by
  intro t l ht hl
  have hl2 := rest2_len (bytesOf s)
  rw [bytesOf_length] at hl2
  have h := p2_ev t (by rw [B_size, ht]; omega) s l (numsA (numsP (bytesOf s).length (bytesOf s)).1)
  rw [ht] at h
  rw [hl] at h ⊢
  exact h
 refine Ev.succ ?_
 simp only [spec_AlpineParse.j0]
 cases hc : isL ((rest1 (bytesOf s)).getD 0 0)
 ·refine Ev.neg (fun _ => Bool.false_ne_true) ?_
  refine key _ _ ?_ ?_
  ·rw [hb1]
   unfold rest2 letterP
   rw [hc]
   rfl
  ·unfold letterP
   rw [hc]
   rfl
 ·have hne : rest1 (bytesOf s) ≠ [] := by intro e; rw [e] at hc; exact absurd hc (by decide)
  have hpos : 0 < (strOfNums (rest1 (bytesOf s))).size := by rw [B_size, hb1]; exact List.length_pos_iff.2 hne
  refine Ev.pos (fun _ => by first | rfl | trivial) ?_
  refine Ev.pos (fun _ => by first | trivial | decide) ?_
  refine Ev.pos (fun _ => by omega) ?_
  refine key _ _ ?_ ?_
  ·rw [B_drop, hb1]
   unfold rest2 letterP
   rw [hc]
   rfl
  ·unfold letterP
   rw [hc, str_take, hb1]
   rfl
theorem same_l1 (o r l h : ByteArray) (i : Bool) (ns : List S54) (ss : List S58) (hn1 : ns.length ≤ 200000) (hs1 : ss.length ≤ 200000) (hb ng : Bool) (m : ByteArray) : ∀ (n j : Nat), ss.length - j = n → j ≤ ss.length →
  Ev (fun k => laws_alpine.l1 k (ss.length : Int) (j : Int) o r l h i ns ss hb ng m o r l h i ns ss hb ng m) true := by
 intro n
 induction n with
 | zero =>
  intro j hn hj
  refine Ev.succ ?_
  simp only [laws_alpine.l1]
  refine Ev.neg (fun _ => by omega) ?_
  exact Ev.now _
 | succ n ih =>
  intro j hn hj
  refine Ev.succ ?_
  simp only [laws_alpine.l1]
  refine Ev.pos (fun _ => by omega) ?_
  refine Ev.pos (fun _ => by omega) ?_
  refine Ev.pos (fun _ => by omega) ?_
  refine Ev.pos (fun _ => by omega) ?_
  refine Ev.neg (fun _ => by simp) ?_
  rw [w64 (by omega) (by omega)]
  exact ih (j + 1) (by omega) (by omega)
theorem same_l0 (o r l h : ByteArray) (i : Bool) (ns : List S54) (ss : List S58) (hn1 : ns.length ≤ 200000) (hs1 : ss.length ≤ 200000) (hb ng : Bool) (m : ByteArray) : ∀ (n j : Nat), ns.length - j = n → j ≤ ns.length →
  Ev (fun k => laws_alpine.l0 k (ns.length : Int) (j : Int) o r l h i ns ss hb ng m o r l h i ns ss hb ng m) true := by
 intro n
 induction n with
 | zero =>
  intro j hn hj
  refine Ev.succ ?_
  simp only [laws_alpine.l0]
  refine Ev.neg (fun _ => by omega) ?_
  exact same_l1 o r l h i ns ss hn1 hs1 hb ng m _ 0 rfl (Nat.zero_le _)
 | succ n ih =>
  intro j hn hj
  refine Ev.succ ?_
  simp only [laws_alpine.l0]
  refine Ev.pos (fun _ => by omega) ?_
  refine Ev.pos (fun _ => by omega) ?_
  refine Ev.pos (fun _ => by omega) ?_
  refine Ev.pos (fun _ => by omega) ?_
  refine Ev.neg (fun _ => by simp) ?_
  rw [w64 (by omega) (by omega)]
  exact ih (j + 1) (by omega) (by omega)
theorem same_ev (o r l h : ByteArray) (i : Bool) (ns : List S54) (ss : List S58) (hn1 : ns.length ≤ 200000) (hs1 : ss.length ≤ 200000) (hb ng : Bool) (m : ByteArray) :
  Ev (fun k => laws_alpine.f k o r l h i ns ss hb ng m o r l h i ns ss hb ng m) true := by
 simp only [laws_alpine.f]
 refine Ev.pos (fun _ => by first | rfl | trivial) ?_
 refine Ev.pos (fun _ => by first | rfl | trivial) ?_
 refine Ev.pos (fun _ => by first | rfl | trivial) ?_
 refine Ev.pos (fun _ => by first | rfl | trivial) ?_
 refine Ev.neg (fun _ => by simp) ?_
 refine Ev.neg (fun _ => by simp) ?_
 have e : (!(ng == ng) || !(m.toList == m.toList)) = false := by simp
 rw [e]
 refine Ev.succ ?_
 simp only [laws_alpine.j0]
 refine Ev.neg (fun _ => Bool.false_ne_true) ?_
 refine Ev.pos (fun _ => by first | rfl | trivial) ?_
 have e2 : ((ss.length : Int) != (ss.length : Int)) = false := by simp
 rw [e2]
 refine Ev.succ ?_
 simp only [laws_alpine.j1]
 refine Ev.neg (fun _ => Bool.false_ne_true) ?_
 exact same_l0 o r l h i ns ss hn1 hs1 hb ng m _ 0 rfl (Nat.zero_le _)
theorem numsA_length (c : List (List Int)) : (numsA c).length = c.length := by simp [numsA]
theorem sufsA_length (c : List (List Int × List Int)) : (sufsA c).length = c.length := by simp [sufsA]
end Go.Proofs.YtapaijpglfmfgaaDoor.V
end
section -- BD
namespace Go.Proofs.YtapaijpglfmfgaaDoor.V
open Go.RowKit Go.Proofs.YtapaijpglfmfgaaDoor.Q Go.Proofs.YtapaijpglfmfgaaDoorG Go.Proofs.YtapaijpglfmfgaaDoorP Go.Proofs.YtapaijpglfmfgaaDoorH Go.Proofs.YtapaijpglfmfgaaDoorB Go.Proofs.YtapaijpglfmfgaaDoorM Go.Proofs.YtapaijpglfmfgaaDoorW.PrintWords Go.Proofs.YtapaijpglfmfgaaDoorW.PrintLast
set_option linter.unusedVariables false
set_option linter.unusedSimpArgs false
def decD (n : Nat) : List Int := if n < 10 then [48 + (n : Int)] else decD (n / 10) ++ [48 + ((n % 10 : Nat) : Int)]
theorem decD_small {n : Nat} (h : n < 10) : decD n = [48 + (n : Int)] := by rw [decD, if_pos h]
theorem decD_big {n : Nat} (h : ¬ n < 10) : decD n = decD (n / 10) ++ [48 + ((n % 10 : Nat) : Int)] := by rw [decD, if_neg h]
theorem decD_spec (n : Nat) : decD n ≠ [] ∧ (∀ c ∈ decD n, isD c = true) ∧ decL (decD n) = n := by
 induction n using Nat.strongRecOn with
 | ind n ih =>
  by_cases h : n < 10
  ·rw [decD_small h]
   refine ⟨by simp, fun c hc => ?_, ?_⟩
   ·have e : c = 48 + (n : Int) := by simpa using hc
    rw [e]; unfold isD; apply decide_eq_true; omega
   ·simp [decL]; omega
  ·rw [decD_big h]
   obtain ⟨_, h2, h3⟩ := ih (n / 10) (by omega)
   refine ⟨by simp, fun c hc => ?_, ?_⟩
   ·rcases List.mem_append.1 hc with hc | hc
    ·exact h2 c hc
    ·have e : c = 48 + ((n % 10 : Nat) : Int) := by simpa using hc
     rw [e]; unfold isD; apply decide_eq_true; omega
   ·rw [decL_snoc, h3]; omega
theorem decD_len : ∀ (k n : Nat), n < 10 ^ (k + 1) → (decD n).length ≤ k + 1
 | 0, n, h => by rw [decD_small (by simpa using h)]; simp
 | k + 1, n, h => by
  by_cases h0 : n < 10
  ·rw [decD_small h0]; simp
  ·rw [decD_big h0]
   have := decD_len k (n / 10) (by rw [Nat.pow_succ] at h; omega)
   simp; omega
theorem wrap_u16 {x : Int} (h0 : 0 ≤ x) (h1 : x ≤ 65535) : IntKind.u16.wrap x = x := by
 simp [IntKind.wrap, IntKind.signed, IntKind.bits]
 omega
theorem decimal_from (n : Nat) : n ≤ 65535 → ∀ acc : ByteArray, acc.size + (decD n).length ≤ 1000 → ∃ r, Ev (fun k => laws_decimal.l0 k n acc) r ∧ bytesOf r = decD n ++ bytesOf acc := by
 induction n using Nat.strongRecOn with
 | ind n ih =>
  intro hn acc hacc
  have e1 : Int.tmod (n : Int) 10 = ((n % 10 : Nat) : Int) := by rw [Int.tmod_eq_emod_of_nonneg (by omega)]; omega
  have e2 : Int.tdiv (n : Int) 10 = ((n / 10 : Nat) : Int) := by rw [Int.tdiv_eq_ediv_of_nonneg (by omega)]; omega
  have e3 : IntKind.u16.wrap (48 + ((n % 10 : Nat) : Int)) = 48 + ((n % 10 : Nat) : Int) := wrap_u16 (by omega) (by omega)
  have e4 : IntKind.u16.wrap ((n / 10 : Nat) : Int) = ((n / 10 : Nat) : Int) := wrap_u16 (by omega) (by omega)
  have e5 : wrap32 (48 + ((n % 10 : Nat) : Int)) = 48 + ((n % 10 : Nat) : Int) := w32 (by omega) (by omega)
  have hb : bytesOf (Utf8.encode (48 + ((n % 10 : Nat) : Int))) = [48 + ((n % 10 : Nat) : Int)] := B_encode (by omega) (by omega)
  have hsz : (Utf8.encode (48 + ((n % 10 : Nat) : Int))).size = 1 := by rw [B_size, hb]; rfl
  by_cases h : n < 10
  ·refine ⟨Utf8.encode (48 + ((n % 10 : Nat) : Int)) ++ acc, Ev.succ ?_, ?_⟩
   ·simp only [laws_decimal.l0, e1, e2, e3, e4, e5]
    refine Ev.pos (fun _ => by rw [hsz]; omega) ?_
    refine Ev.pos (fun _ => by omega) ?_
    exact Ev.now _
   ·rw [B_append, hb, decD_small h, Nat.mod_eq_of_lt h]
  ·rw [decD_big h, List.length_append, List.length_singleton] at hacc
   have hs2 : (Utf8.encode (48 + ((n % 10 : Nat) : Int)) ++ acc).size = 1 + acc.size := by rw [ByteArray.size_append, hsz]
   obtain ⟨r, hr, h1⟩ := ih (n / 10) (by omega) (by omega) (Utf8.encode (48 + ((n % 10 : Nat) : Int)) ++ acc) (by omega)
   refine ⟨r, Ev.succ ?_, ?_⟩
   ·simp only [laws_decimal.l0, e1, e2, e3, e4, e5]
    refine Ev.pos (fun _ => by rw [hsz]; omega) ?_
    refine Ev.neg (fun _ => by omega) ?_
    exact hr
   ·rw [h1, B_append, hb, decD_big h, List.append_assoc]
def dec (a : Int) : List Int := decD a.toNat
theorem dec_isD (a : Int) : ∀ c ∈ dec a, isD c = true := (decD_spec _).2.1
theorem dec_ne (a : Int) : dec a ≠ [] := (decD_spec _).1
theorem dec_val (a : Int) : decL (dec a) = a.toNat := (decD_spec _).2.2
def U16 (a : Int) : Prop := 0 ≤ a ∧ a ≤ 65535
theorem u16_of {a : Int} (h : (Lit.int .u16 a).wf = true) : U16 a := by
 unfold U16
 simp [Lit.wf, IntKind.min, IntKind.max, IntKind.signed, IntKind.bits] at h
 omega
theorem dec_len {a : Int} (h : U16 a) : (dec a).length ≤ 5 := by
 obtain ⟨h0, h1⟩ := h
 refine decD_len 4 _ ?_
 have e : (10 : Nat) ^ (4 + 1) = 100000 := by decide
 omega
theorem isD_byte {c : Int} (h : isD c = true) : 0 ≤ c ∧ c ≤ 255 := by
 unfold isD at h
 have := of_decide_eq_true h
 omega
theorem B_digits {l : List Int} (h : ∀ c ∈ l, isD c = true) : bytesOf (strOfNums l) = l := B_str (fun c hc => isD_byte (h c hc))
theorem decimal_ev {a : Int} (h : U16 a) : Ev (fun k => laws_decimal.f k a) (strOfNums (dec a)) := by
 have hl := dec_len h
 obtain ⟨h0, h1⟩ := h
 have e0 : bytesOf (⟨#[]⟩ : ByteArray) = [] := rfl
 obtain ⟨r, hr, hb⟩ := decimal_from a.toNat (by omega) (⟨#[]⟩ : ByteArray) (by
  have e : (⟨#[]⟩ : ByteArray).size = 0 := rfl
  have : (decD a.toNat).length ≤ 5 := hl
  omega)
 rw [e0, List.append_nil] at hb
 have e1 : ((a.toNat : Nat) : Int) = a := by omega
 rw [e1] at hr
 refine Ev.eq hr ?_
 rw [← str_B r, hb]
 rfl
theorem dec_size {a : Int} (h : U16 a) : (strOfNums (dec a)).size ≤ 5 := by rw [B_size, B_digits (dec_isD a)]; exact dec_len h
theorem digit_eq (c : Int) : spec_isDigit.f c = some (isD c) := by
 unfold spec_isDigit.f isD
 by_cases h : c ≥ 48
 ·rw [if_pos h]; simp; omega
 ·rw [if_neg h]; simp; omega
theorem allDigits_from (s : ByteArray) (hs : s.size ≤ 2000000) (hd : ∀ c ∈ bytesOf s, isD c = true) (hp : 0 < s.size) : ∀ (n i : Nat), s.size - i = n → i ≤ s.size → Ev (fun k => spec_allDigits.l0 k s (i : Int)) true := by
 intro n
 induction n with
 | zero =>
  intro i hn hi
  refine Ev.succ ?_
  simp only [spec_allDigits.l0]
  refine Ev.neg (fun _ => by omega) ?_
  refine Ev.eq (Ev.now _) ?_
  exact decide_eq_true (by omega)
 | succ n ih =>
  intro i hn hi
  have hl : i < (bytesOf s).length := by rw [bytesOf_length]; omega
  refine Ev.succ ?_
  simp only [spec_allDigits.l0, bt_nat, digit_eq, Option.bind_some]
  refine Ev.pos (fun _ => by first | trivial | assumption | omega) ?_
  refine Ev.pos (fun _ => by first | trivial | assumption | omega) ?_
  refine Ev.pos (fun _ => hd _ (by rw [List.getD_eq_getElem?_getD, List.getElem?_eq_getElem hl]; exact List.getElem_mem hl)) ?_
  rw [w64 (by omega) (by omega)]
  exact ih (i + 1) (by omega) (by omega)
theorem number_ev (s : ByteArray) (hs : s.size ≤ 200000) (hd : ∀ c ∈ bytesOf s, isD c = true) (hp : 0 < s.size) : Ev (fun k => laws_number.f k s) (false, magB (decL (bytesOf s))) := by
 have hl : 0 < (bytesOf s).length := by rw [bytesOf_length]; exact hp
 have hc : isD ((bytesOf s).getD 0 0) = true := hd _ (by rw [List.getD_eq_getElem?_getD, List.getElem?_eq_getElem hl]; exact List.getElem_mem hl)
 unfold isD at hc
 have hc2 := of_decide_eq_true hc
 simp only [laws_number.f, spec_NumberOf.f, spec_Number.f]
 refine Ev.bind (a := (false, magB (decL (bytesOf s)), true)) ?_ (Ev.now _)
 refine Ev.bind (a := (false, magB (decL (bytesOf s)), true)) ?_ (Ev.now _)
 refine Ev.pos (fun _ => by omega) ?_
 refine Ev.pos (fun _ => by omega) ?_
 rw [bt_zero]
 refine Ev.neg (fun _ => by omega) ?_
 have e : ((bytesOf s).getD 0 0 == 45) = false := by rw [beq_eq_false_iff_ne]; omega
 rw [e]
 refine Ev.succ ?_
 simp only [spec_Number.j0]
 refine Ev.neg (fun _ => Bool.false_ne_true) ?_
 refine Ev.succ ?_
 simp only [spec_Number.j1]
 have h := allDigits_from s (by omega) hd hp _ 0 rfl (Nat.zero_le _)
 refine Ev.bind (a := true) (by simpa [spec_allDigits.f] using h) ?_
 refine Ev.pos (fun _ => by first | rfl | trivial) ?_
 refine Ev.bind (intOf_ev s hs hd) ?_
 refine Ev.neg (fun _ => Bool.false_ne_true) ?_
 exact Ev.now _
theorem number_dec {a : Int} (h : U16 a) : Ev (fun k => laws_number.f k (strOfNums (dec a))) (false, magB a.toNat) := by
 have hs := dec_size h
 have hb := B_digits (dec_isD a)
 have := number_ev (strOfNums (dec a)) (by omega) (by rw [hb]; exact dec_isD a) (by rw [B_size, hb]; exact List.length_pos_iff.2 (dec_ne a))
 rw [hb, dec_val] at this
 exact this
end Go.Proofs.YtapaijpglfmfgaaDoor.V
end
