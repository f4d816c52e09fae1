/- Proved here, for the row of the law FnAlpineRest: contracts of the Go functions that it reaches, each as its theorem 'calls' says, and the words and plain laws that they need (Qx15, Qx16, Qx1, Qx2, Qx3, Qx17, Qx20, Qx18). -/
import Derived.Test.YtapaijpglfmfgaaDoorFnAlpineRestD
set_option linter.unusedVariables false
set_option linter.unusedSimpArgs false
set_option maxHeartbeats 8000000
set_option maxRecDepth 100000
section
namespace Go.Proofs.YtapaijpglfmfgaaDoor.Q
open Go.RowKit YtapaijpglfmfgaaDoorH YtapaijpglfmfgaaDoorG YtapaijpglfmfgaaDoorW.PrintWords YtapaijpglfmfgaaDoorW.PrintLast YtapaijpglfmfgaaDoorW.PrintMore
attribute [local go_sem] zsc zrc zbd zad zic zhc zqc ztc
mutual
def zd.j0 : Nat → ByteArray → Bool → Option (Bool)
 | 0, _, _ => none
 | k + 1, x4, x25 => if x25 = true then (if 1 ≤ (x4.size : Int) then (zd.j1 k (x4.extract 1 x4.size)) else (none)) else (zd.j1 k x4)
def zd.j1 : Nat → ByteArray → Option (Bool)
 | 0, _ => none
 | k + 1, x4 => (zq.f k x4).bind fun bt371 => (zd.l0 k bt371.2 0)
def zd.l0 : Nat → ByteArray → Int → Option (Bool)
 | 0, _, _ => none
 | k + 1, x4, x5 => if x5 < (x4.size : Int) then (if 0 ≤ x5 then (if x5 ≤ (x4.size : Int) then ((zqb.f k (x4.extract (x5 : Int).toNat x4.size)).bind fun t376 => (if t376.toList = ([] : List UInt8) then (zd.l0 k x4 (wrap64 (x5 + 1))) else (some false))) else (none)) else (none)) else (some true)
end
def zd.f (k : Nat) (a0 : ByteArray) : Option (Bool) := (zuc.f k a0).bind fun t365 => (if t365 = true then ((zn.f k a0).bind fun bt366 => (if bt366.2.toList = ([] : List UInt8) then (zd.j0 k bt366.2 false) else (if 0 < (bt366.2.size : Int) then (if (bt bt366.2 0) ≥ 97 then (zd.j0 k bt366.2 (decide ((bt bt366.2 0) ≤ 122))) else (zd.j0 k bt366.2 false)) else (none)))) else (some false))
theorem zd.calls (k : Nat) (a0 : ByteArray) (r : Bool) (w : World) (h : zd.f k a0 = some r) :
  Calls Tryd.prog 11 #[.string a0] w fun e w' => e = .returned (.bool r) ∧ Below w.heap.size w w' := by
 have HB := za.mk (Below.refl w.heap.size w)
 have H : ((zuc.f k a0).bind fun t365 => (if t365 = true then ((zn.f k a0).bind fun bt366 => (if bt366.2.toList = ([] : List UInt8) then (zd.j0 k bt366.2 false) else (if 0 < (bt366.2.size : Int) then (if (bt bt366.2 0) ≥ 97 then (zd.j0 k bt366.2 (decide ((bt bt366.2 0) ≤ 122))) else (zd.j0 k bt366.2 false)) else (none)))) else (some false))) = some r := h
 clear h
 replace H := Option.bind_eq_some_iff.mp H
 obtain ⟨t365, A20, H⟩ := H
 replace H : (if t365 = true then ((zn.f k a0).bind fun bt366 => (if bt366.2.toList = ([] : List UInt8) then (zd.j0 k bt366.2 false) else (if 0 < (bt366.2.size : Int) then (if (bt bt366.2 0) ≥ 97 then (zd.j0 k bt366.2 (decide ((bt bt366.2 0) ≤ 122))) else (zd.j0 k bt366.2 false)) else (none)))) else (some false)) = some r := H
 have A2 := za.mk A20
 clear A20
 by_cases c3 : t365 = true
 ·subst c3
  have H1 : ((zn.f k a0).bind fun bt366 => (if bt366.2.toList = ([] : List UInt8) then (zd.j0 k bt366.2 false) else (if 0 < (bt366.2.size : Int) then (if (bt bt366.2 0) ≥ 97 then (zd.j0 k bt366.2 (decide ((bt bt366.2 0) ≤ 122))) else (zd.j0 k bt366.2 false)) else (none)))) = some r := by rw [if_pos rfl] at H; exact H
  clear H
  have H := H1
  clear H1
  replace H := Option.bind_eq_some_iff.mp H
  obtain ⟨⟨t366, t367⟩, A40, H⟩ := H
  replace H : (if t367.toList = ([] : List UInt8) then (zd.j0 k t367 false) else (if 0 < (t367.size : Int) then (if (bt t367 0) ≥ 97 then (zd.j0 k t367 (decide ((bt t367 0) ≤ 122))) else (zd.j0 k t367 false)) else (none))) = some r := H
  have A4 := za.mk A40
  clear A40
  have HC5 := za.mk H
  clear H
  go_enter Tryd.func11, Tryd.ntmps11
  go_upto_region 4 with (first | ((with_reducible refine zab (f := 25) rfl ?_); refine zjc (some 7) rfl rfl Tryd.func25 (by kernel_rfl) rfl #[.string a0] rfl (by (try simp only [List.map_toArray, List.map_cons, List.map_nil]); first | done | rfl | (simp only [List.length_drop, List.length_take]; rfl)) ?_; (with_reducible refine (zuc.calls k a0 true _ A2.out).mono ?_); rintro e w' ⟨rfl, ⟨nd, rfl⟩⟩; refine ⟨_, rfl, ?_⟩) | ((with_reducible refine zab (f := 26) rfl ?_); refine zjc (some 11) rfl rfl Tryd.func26 (by kernel_rfl) rfl #[.string a0] rfl (by (try simp only [List.map_toArray, List.map_cons, List.map_nil]); first | done | rfl | (simp only [List.length_drop, List.length_take]; rfl)) ?_; (with_reducible refine (zn.calls k a0 t366 t367 _ A4.out).mono ?_); rintro e w6 ⟨v368, rfl, ho0, hb⟩; refine ⟨_, rfl, ?_⟩; have HO369 := za.mk (Kd.R_lower ho0 (zl (by (with_reducible apply ze; with_reducible exact HB.out)))); replace HB := za.mk (zm (by (with_reducible apply ze; with_reducible exact HB.out)) hb); (try clear hb); (try clear hb2); (try clear hk); (try clear hi); (try clear ho0)))
  (try simp only [Act.put, List.setIfInBounds_toArray, List.set_cons_zero, List.set_cons_succ])
  go_cut [25] (fun v25 wc => ∃ (kq : Nat) (x25_4 : Bool), v25 = .bool x25_4 ∧ za (zd.j0 kq t367 x25_4 = some r) ∧ za (kq ≤ k) ∧ za (Below w.heap.size w wc))
  case first =>
   have H := HC5.out
   clear HC5
   by_cases c7 : t367.toList = ([] : List UInt8)
   ·rw [if_pos c7] at H
    have c7b0 : (t367.toList == ([] : List UInt8)) = true := beq_iff_eq.mpr c7
    have c7b1 : (t367.toList != ([] : List UInt8)) = false := bne_eq_false_iff_eq.mpr c7
    try have c7b9 : t367.toList.isEmpty = true := by simpa using c7b0
    clear c7
    (first | rw [c7b0] | (simp only [i64_w, i32_w]; rw [c7b0]) | rw [c7b9] | skip)
    have H' := za.mk H
    clear H
    go_wp2
    go_meet
    case rel => exact ⟨_, (false), (by rfl), H', ⟨by omega⟩, ⟨by (with_reducible exact HB.out)⟩⟩
   ·rw [if_neg c7] at H
    have c7b0 : (t367.toList == ([] : List UInt8)) = false := beq_eq_false_iff_ne.mpr c7
    have c7b1 : (t367.toList != ([] : List UInt8)) = true := bne_iff_ne.mpr c7
    try have c7b9 : t367.toList.isEmpty = false := by simpa using c7b0
    (first | rw [c7b0] | (simp only [i64_w, i32_w]; rw [c7b0]) | rw [c7b9] | skip)
    by_cases c8 : 0 < (t367.size : Int)
    ·rw [if_pos c8] at H
     have c8b0 : decide (0 < (t367.size : Int)) = true := decide_eq_true c8
     have c8b1 : decide (0 < t367.size) = true := decide_eq_true (by omega)
     clear c8
     by_cases c10 : (bt t367 0) ≥ 97
     ·rw [if_pos c10] at H
      have c10b0 : decide (97 ≤ (bt t367 0)) = true := decide_eq_true c10
      clear c10
      have H' := za.mk H
      clear H
      have p9 : 0 ≤ (0 : Int) := (by omega)
      have q9 : 0 < t367.size := (by have : (0 : Int) < (t367.size : Int) := of_decide_eq_true (by (with_reducible assumption)); omega)
      have hx9 : ∀ h : 0 < t367.size, ((t367[0]'h).toNat : Int) = bt t367 0 := bt_at t367 0
      clear p9
      have qi9 : (0 < (t367.size : Int)) = True := eq_true (of_decide_eq_true (by (with_reducible assumption)))
      replace q9 := eq_true q9
      have p11 : 0 ≤ (0 : Int) := (by omega)
      have q11 : 0 < t367.size := (by have : (0 : Int) < (t367.size : Int) := of_decide_eq_true (by (with_reducible assumption)); omega)
      have hx11 : ∀ h : 0 < t367.size, ((t367[0]'h).toNat : Int) = bt t367 0 := bt_at t367 0
      clear p11
      have qi11 : (0 < (t367.size : Int)) = True := eq_true (of_decide_eq_true (by (with_reducible assumption)))
      replace q11 := eq_true q11
      go_wp2
      go_meet
      case rel => exact ⟨_, (decide ((bt t367 0) ≤ 122)), (by rfl), H', ⟨by omega⟩, ⟨by (with_reducible exact HB.out)⟩⟩
     ·rw [if_neg c10] at H
      have c10b0 : decide (97 ≤ (bt t367 0)) = false := decide_eq_false c10
      clear c10
      have H' := za.mk H
      clear H
      have p9 : 0 ≤ (0 : Int) := (by omega)
      have q9 : 0 < t367.size := (by have : (0 : Int) < (t367.size : Int) := of_decide_eq_true (by (with_reducible assumption)); omega)
      have hx9 : ∀ h : 0 < t367.size, ((t367[0]'h).toNat : Int) = bt t367 0 := bt_at t367 0
      clear p9
      have qi9 : (0 < (t367.size : Int)) = True := eq_true (of_decide_eq_true (by (with_reducible assumption)))
      replace q9 := eq_true q9
      go_wp2
      go_meet
      case rel => exact ⟨_, (false), (by rfl), H', ⟨by omega⟩, ⟨by (with_reducible exact HB.out)⟩⟩
    ·rw [if_neg c8] at H
     exact absurd H (by simp)
  case rest =>
   clear HC5
   obtain ⟨kq, x25_4, rfl, HA, HJ4, HB⟩ := hcut
   cases kq with
   | zero => exact absurd HA.out (by simp [zd.j0])
   | succ kj4 =>
    have H := HA.out
    clear HA
    simp only [zd.j0] at H
    have HC12 := za.mk H
    clear H
    go_upto_if 25 with (fail)
    go_cut [4, 25] (fun v4 v25 wc => ∃ (kq : Nat) (x4_11 : ByteArray), v4 = .string x4_11 ∧ za (zd.j1 kq x4_11 = some r) ∧ za (kq ≤ kj4) ∧ za (Below w.heap.size w wc))
    case first =>
     have H := HC12.out
     clear HC12
     by_cases c13 : x25_4 = true
     ·subst c13
      have H1 : (if 1 ≤ (t367.size : Int) then (zd.j1 kj4 (t367.extract 1 t367.size)) else (none)) = some r := by rw [if_pos rfl] at H; exact H
      clear H
      have H := H1
      clear H1
      by_cases c14 : 1 ≤ (t367.size : Int)
      ·rw [if_pos c14] at H
       have c14b0 := eq_true c14
       have c14b1 : decide (1 ≤ (t367.size : Int)) = true := decide_eq_true c14
       clear c14
       obtain ⟨y370, hy370⟩ : ∃ y_ : ByteArray, y_ = (t367.extract 1 t367.size) := ⟨_, rfl⟩
       replace H : (zd.j1 kj4 y370) = some r := by (rw [hy370]; with_reducible exact H)
       have Ny370 := za.mk hy370
       clear hy370
       have H' := za.mk H
       clear H
       go_wp2_with (((with_reducible refine zjb (N := 27) rfl ?_); refine zrd ?hg (N := 27) ?hd (v := .string (t367.extract 1 t367.size)) (v' := .string y370) ?hr (congrArg Value.string Ny370.out.symm) ?_; (case hd => rfl); (case hg => rfl); (case hr => first | (go_simp; done) | (go_simp; rfl))))
       go_meet
       case rel => exact ⟨_, (y370), (by rfl), H', ⟨by have := HJ4.out; first | omega | exact Nat.le_refl _⟩, ⟨by (with_reducible exact HB.out)⟩⟩
      ·rw [if_neg c14] at H
       exact absurd H (by simp)
     ·replace c13 := Bool.eq_false_iff.mpr c13
      subst c13
      have H1 : (zd.j1 kj4 t367) = some r := by rw [if_neg (show ¬ (false = true) by decide)] at H; exact H
      clear H
      have H := H1
      clear H1
      have H' := za.mk H
      clear H
      go_wp2
      go_meet
      case rel => exact ⟨_, (t367), (by rfl), H', ⟨by have := HJ4.out; first | omega | exact Nat.le_refl _⟩, ⟨by (with_reducible exact HB.out)⟩⟩
    case rest =>
     clear HC12
     obtain ⟨kq, x4_11, rfl, HA, HJ11, HB⟩ := hcut
     cases kq with
     | zero => exact absurd HA.out (by simp [zd.j1])
     | succ kj11 =>
      have H := HA.out
      clear HA
      simp only [zd.j1] at H
      replace H := Option.bind_eq_some_iff.mp H
      obtain ⟨⟨t371, t372⟩, A150, H⟩ := H
      replace H : (zd.l0 kj11 t372 0) = some r := H
      have A15 := za.mk A150
      clear A150
      have H' := za.mk H
      clear H
      go_wp2_with (((with_reducible refine zab (f := 27) rfl ?_); refine zjc (some 30) rfl rfl Tryd.func27 (by kernel_rfl) rfl #[.string x4_11] rfl (by (try simp only [List.map_toArray, List.map_cons, List.map_nil]); first | done | rfl | (simp only [List.length_drop, List.length_take]; rfl)) ?_; (with_reducible refine (zq.calls kj11 x4_11 t371 t372 _ A15.out).mono ?_); rintro e w16 ⟨v373, rfl, ho0, hb⟩; refine ⟨_, rfl, ?_⟩; have HO374 := za.mk (Kd.R_lower ho0 (zl (by (with_reducible exact HB.out)))); replace HB := za.mk (zm (by (with_reducible exact HB.out)) hb); (try clear hb); (try clear hb2); (try clear hk); (try clear hi); (try clear ho0)))
      (try simp only [Act.put, List.setIfInBounds_toArray, List.set_cons_zero, List.set_cons_succ])
      go_loopg [5] kj11 (fun kq v5 w' => ∃ (x5_3 : Int), v5 = .int .i64 x5_3 ∧ za (zd.l0 kq t372 x5_3 = some r) ∧ za (kq ≤ kj11) ∧ za (Below w.heap.size w w'))
      case atStart => exact ⟨(0), (by rfl), H', ⟨Nat.le_refl _⟩, ⟨by (with_reducible exact HB.out)⟩⟩
      case round =>
       clear H'
       obtain ⟨x5_3, rfl, HA, HK3, HB⟩ := hrel
       cases gk with
       | zero => exact absurd HA.out (by simp [zd.l0])
       | succ k3 =>
        have H := HA.out
        clear HA
        simp only [zd.l0] at H
        by_cases c17 : x5_3 < (t372.size : Int)
        ·rw [if_pos c17] at H
         have c17b0 : decide (x5_3 < (t372.size : Int)) = true := decide_eq_true c17
         clear c17
         by_cases c18 : 0 ≤ x5_3
         ·rw [if_pos c18] at H
          have c18b0 := eq_true c18
          have c18b1 : decide (0 ≤ x5_3) = true := decide_eq_true c18
          clear c18
          by_cases c19 : x5_3 ≤ (t372.size : Int)
          ·rw [if_pos c19] at H
           have c19b0 := eq_true c19
           have c19b1 : decide (x5_3 ≤ (t372.size : Int)) = true := decide_eq_true c19
           clear c19
           obtain ⟨y375, hy375⟩ : ∃ y_ : ByteArray, y_ = (t372.extract (x5_3 : Int).toNat t372.size) := ⟨_, rfl⟩
           replace H : ((zqb.f k3 y375).bind fun t376 => (if t376.toList = ([] : List UInt8) then (zd.l0 k3 t372 (wrap64 (x5_3 + 1))) else (some false))) = some r := by (rw [hy375]; with_reducible exact H)
           have Ny375 := za.mk hy375
           clear hy375
           replace H := Option.bind_eq_some_iff.mp H
           obtain ⟨t376, A200, H⟩ := H
           replace H : (if t376.toList = ([] : List UInt8) then (zd.l0 k3 t372 (wrap64 (x5_3 + 1))) else (some false)) = some r := H
           have A20 := za.mk A200
           clear A200
           by_cases c21 : t376.toList = ([] : List UInt8)
           ·rw [if_pos c21] at H
            have c21b0 : (t376.toList == ([] : List UInt8)) = true := beq_iff_eq.mpr c21
            have c21b1 : (t376.toList != ([] : List UInt8)) = false := bne_eq_false_iff_eq.mpr c21
            try have c21b9 : t376.toList.isEmpty = true := by simpa using c21b0
            clear c21
            have H' := za.mk H
            clear H
            go_wp2_with (first | ((with_reducible refine zjb (N := 41) rfl ?_); refine zrd ?hg (N := 41) ?hd (v := .string (t372.extract (x5_3 : Int).toNat t372.size)) (v' := .string y375) ?hr (congrArg Value.string Ny375.out.symm) ?_; (case hd => rfl); (case hg => rfl); (case hr => first | (go_simp; done) | (go_simp; rfl))) | ((with_reducible refine zab (f := 28) rfl ?_); refine zjc (some 42) rfl rfl Tryd.func28 (by kernel_rfl) rfl #[.string y375] rfl (by (try simp only [List.map_toArray, List.map_cons, List.map_nil]); first | done | rfl | (simp only [List.length_drop, List.length_take]; rfl)) ?_; (with_reducible refine (zqb.calls k3 y375 t376 _ A20.out).mono ?_); rintro e w22 ⟨rfl, hb⟩; refine ⟨_, rfl, ?_⟩; replace HB := za.mk (zm (by (with_reducible exact HB.out)) hb); (try clear hb); (try clear hb2); (try clear hk); (try clear hi)))
            go_roundg k3
            case measure => have := HJ4.out; have := HJ11.out; have := HK3.out; omega
            case rel => exact ⟨(wrap64 (x5_3 + 1)), (by rfl), H', ⟨by have := HJ4.out; have := HJ11.out; have := HK3.out; omega⟩, ⟨by (with_reducible exact HB.out)⟩⟩
           ·rw [if_neg c21] at H
            have c21b0 : (t376.toList == ([] : List UInt8)) = false := beq_eq_false_iff_ne.mpr c21
            have c21b1 : (t376.toList != ([] : List UInt8)) = true := bne_iff_ne.mpr c21
            try have c21b9 : t376.toList.isEmpty = false := by simpa using c21b0
            obtain rfl := Option.some.inj H
            go_wp2_with (first | ((with_reducible refine zjb (N := 41) rfl ?_); refine zrd ?hg (N := 41) ?hd (v := .string (t372.extract (x5_3 : Int).toNat t372.size)) (v' := .string y375) ?hr (congrArg Value.string Ny375.out.symm) ?_; (case hd => rfl); (case hg => rfl); (case hr => first | (go_simp; done) | (go_simp; rfl))) | ((with_reducible refine zab (f := 28) rfl ?_); refine zjc (some 42) rfl rfl Tryd.func28 (by kernel_rfl) rfl #[.string y375] rfl (by (try simp only [List.map_toArray, List.map_cons, List.map_nil]); first | done | rfl | (simp only [List.length_drop, List.length_take]; rfl)) ?_; (with_reducible refine (zqb.calls k3 y375 t376 _ A20.out).mono ?_); rintro e w23 ⟨rfl, hb⟩; refine ⟨_, rfl, ?_⟩; replace HB := za.mk (zm (by (with_reducible exact HB.out)) hb); (try clear hb); (try clear hb2); (try clear hk); (try clear hi)))
            go_ret
            exact ⟨by rfl, by (with_reducible exact HB.out)⟩
          ·rw [if_neg c19] at H
           exact absurd H (by simp)
         ·rw [if_neg c18] at H
          exact absurd H (by simp)
        ·rw [if_neg c17] at H
         have c17b0 : decide (x5_3 < (t372.size : Int)) = false := decide_eq_false c17
         clear c17
         obtain rfl := Option.some.inj H
         go_wp2
         go_ret
         exact ⟨by rfl, by (with_reducible exact HB.out)⟩
 ·replace c3 := Bool.eq_false_iff.mpr c3
  subst c3
  have H1 : (some false) = some r := by rw [if_neg (show ¬ (false = true) by decide)] at H; exact H
  clear H
  have H := H1
  clear H1
  obtain rfl := Option.some.inj H
  go_enter Tryd.func11, Tryd.ntmps11
  go_wp2_with (((with_reducible refine zab (f := 25) rfl ?_); refine zjc (some 7) rfl rfl Tryd.func25 (by kernel_rfl) rfl #[.string a0] rfl (by (try simp only [List.map_toArray, List.map_cons, List.map_nil]); first | done | rfl | (simp only [List.length_drop, List.length_take]; rfl)) ?_; (with_reducible refine (zuc.calls k a0 false _ A2.out).mono ?_); rintro e w' ⟨rfl, ⟨nd, rfl⟩⟩; refine ⟨_, rfl, ?_⟩))
  go_ret
  exact ⟨by rfl, by (with_reducible apply ze; with_reducible exact HB.out)⟩
def zwc.f (a0 : Int) : Option (Bool) := (zib.f a0).bind fun t377 => (if t377 = true then (some true) else (if a0 ≥ 97 then (some (decide (a0 ≤ 102))) else (some false)))
theorem zwc.calls (a0 : Int) (r : Bool) (w : World) (h : zwc.f a0 = some r) :
  Calls Tryd.prog 32 #[.int .u8 a0] w fun e w' => e = .returned (.bool r) ∧ zt w w' := by
 have H : ((zib.f a0).bind fun t377 => (if t377 = true then (some true) else (if a0 ≥ 97 then (some (decide (a0 ≤ 102))) else (some false)))) = some r := h
 clear h
 replace H := Option.bind_eq_some_iff.mp H
 obtain ⟨t377, A20, H⟩ := H
 replace H : (if t377 = true then (some true) else (if a0 ≥ 97 then (some (decide (a0 ≤ 102))) else (some false))) = some r := H
 have A2 := za.mk A20
 clear A20
 by_cases c3 : t377 = true
 ·subst c3
  have H1 : (some true) = some r := by rw [if_pos rfl] at H; exact H
  clear H
  have H := H1
  clear H1
  obtain rfl := Option.some.inj H
  go_enter Tryd.func32, Tryd.ntmps32
  go_wp2_with (((with_reducible refine zab (f := 34) rfl ?_); refine zjc (some 4) rfl rfl Tryd.func34 (by kernel_rfl) rfl #[.int .u8 a0] rfl (by (try simp only [List.map_toArray, List.map_cons, List.map_nil]); first | done | rfl | (simp only [List.length_drop, List.length_take]; rfl)) ?_; (with_reducible refine (zib.calls a0 true _ A2.out).mono ?_); rintro e w' ⟨rfl, ⟨nd, rfl⟩⟩; refine ⟨_, rfl, ?_⟩))
  go_ret
  exact ⟨by rfl, by repeat (first | exact zt.refl _ | apply zt.step)⟩
 ·replace c3 := Bool.eq_false_iff.mpr c3
  subst c3
  have H1 : (if a0 ≥ 97 then (some (decide (a0 ≤ 102))) else (some false)) = some r := by rw [if_neg (show ¬ (false = true) by decide)] at H; exact H
  clear H
  have H := H1
  clear H1
  by_cases c4 : a0 ≥ 97
  ·rw [if_pos c4] at H
   have c4b0 : decide (97 ≤ a0) = true := decide_eq_true c4
   clear c4
   obtain rfl := Option.some.inj H
   go_enter Tryd.func32, Tryd.ntmps32
   go_wp2_with (((with_reducible refine zab (f := 34) rfl ?_); refine zjc (some 4) rfl rfl Tryd.func34 (by kernel_rfl) rfl #[.int .u8 a0] rfl (by (try simp only [List.map_toArray, List.map_cons, List.map_nil]); first | done | rfl | (simp only [List.length_drop, List.length_take]; rfl)) ?_; (with_reducible refine (zib.calls a0 false _ A2.out).mono ?_); rintro e w' ⟨rfl, ⟨nd, rfl⟩⟩; refine ⟨_, rfl, ?_⟩))
   go_ret
   exact ⟨by rfl, by repeat (first | exact zt.refl _ | apply zt.step)⟩
  ·rw [if_neg c4] at H
   have c4b0 : decide (97 ≤ a0) = false := decide_eq_false c4
   clear c4
   obtain rfl := Option.some.inj H
   go_enter Tryd.func32, Tryd.ntmps32
   go_wp2_with (((with_reducible refine zab (f := 34) rfl ?_); refine zjc (some 4) rfl rfl Tryd.func34 (by kernel_rfl) rfl #[.int .u8 a0] rfl (by (try simp only [List.map_toArray, List.map_cons, List.map_nil]); first | done | rfl | (simp only [List.length_drop, List.length_take]; rfl)) ?_; (with_reducible refine (zib.calls a0 false _ A2.out).mono ?_); rintro e w' ⟨rfl, ⟨nd, rfl⟩⟩; refine ⟨_, rfl, ?_⟩))
   go_ret
   exact ⟨by rfl, by repeat (first | exact zt.refl _ | apply zt.step)⟩
end Go.Proofs.YtapaijpglfmfgaaDoor.Q
end
section
namespace Go.Proofs.YtapaijpglfmfgaaDoor.Q
open Go.RowKit YtapaijpglfmfgaaDoorH YtapaijpglfmfgaaDoorG YtapaijpglfmfgaaDoorW.PrintWords YtapaijpglfmfgaaDoorW.PrintLast YtapaijpglfmfgaaDoorW.PrintMore YtapaijpglfmfgaaDoorC
attribute [local go_sem] zsc zrc zbd zad zic zhc zqc ztc
mutual
def zg.j0 : Nat → ByteArray → Bool → ByteArray → ByteArray → ByteArray → ByteArray → Bool → List (S54) → Bool → Bool → ByteArray → Option (ByteArray × ByteArray × ByteArray × ByteArray × Bool × (List (S54)) × (List (S58)) × Bool × Bool × ByteArray × Bool)
 | 0, _, _, _, _, _, _, _, _, _, _, _ => none
 | k + 1, x0, x26, x379000, x379001, x379002, x379003, x379004, x379005, x379007, x379008, x379009 => if x26 = true then (if 0 ≤ 1 then (if 1 ≤ (x0.size : Int) then (zg.j1 k (x0.extract 1 x0.size) x379000 x379001 (x0.extract 0 1) x379003 x379004 x379005 x379007 x379008 x379009) else (none)) else (none)) else (zg.j1 k x0 x379000 x379001 x379002 x379003 x379004 x379005 x379007 x379008 x379009)
def zg.j1 : Nat → ByteArray → ByteArray → ByteArray → ByteArray → ByteArray → Bool → List (S54) → Bool → Bool → ByteArray → Option (ByteArray × ByteArray × ByteArray × ByteArray × Bool × (List (S54)) × (List (S58)) × Bool × Bool × ByteArray × Bool)
 | 0, _, _, _, _, _, _, _, _, _, _ => none
 | k + 1, x0, x379000, x379001, x379002, x379003, x379004, x379005, x379007, x379008, x379009 => (zq.f k x0).bind fun bt383 => (if (bt383.2.size : Int) > 1 then (if 0 < (bt383.2.size : Int) then (if (bt bt383.2 0) = 126 then (if 1 < (bt383.2.size : Int) then ((zwc.f (bt bt383.2 1)).bind fun t387 => (zg.j2 k bt383.2 t387 x379000 x379001 x379002 x379003 x379004 x379005 bt383.1 x379007 x379008 x379009)) else (none)) else (zg.j2 k bt383.2 false x379000 x379001 x379002 x379003 x379004 x379005 bt383.1 x379007 x379008 x379009)) else (none)) else (zg.j2 k bt383.2 false x379000 x379001 x379002 x379003 x379004 x379005 bt383.1 x379007 x379008 x379009))
def zg.j2 : Nat → ByteArray → Bool → ByteArray → ByteArray → ByteArray → ByteArray → Bool → List (S54) → List (S58) → Bool → Bool → ByteArray → Option (ByteArray × ByteArray × ByteArray × ByteArray × Bool × (List (S54)) × (List (S58)) × Bool × Bool × ByteArray × Bool)
 | 0, _, _, _, _, _, _, _, _, _, _, _, _ => none
 | k + 1, x0, x50, x379000, x379001, x379002, x379003, x379004, x379005, x379006, x379007, x379008, x379009 => if x50 = true then (if 1 ≤ (x0.size : Int) then ((E2.zcb.f k (x0.extract 1 x0.size)).bind fun t388 => (if 0 ≤ (wrap64 (1 + t388)) then (if (wrap64 (1 + t388)) ≤ (x0.size : Int) then (zg.j3 k (x0.extract ((wrap64 (1 + t388)) : Int).toNat x0.size) x379000 x379001 x379002 (x0.extract 0 ((wrap64 (1 + t388)) : Int).toNat) x379004 x379005 x379006 x379007 x379008 x379009) else (none)) else (none))) else (none)) else (zg.j3 k x0 x379000 x379001 x379002 x379003 x379004 x379005 x379006 x379007 x379008 x379009)
def zg.j3 : Nat → ByteArray → ByteArray → ByteArray → ByteArray → ByteArray → Bool → List (S54) → List (S58) → Bool → Bool → ByteArray → Option (ByteArray × ByteArray × ByteArray × ByteArray × Bool × (List (S54)) × (List (S58)) × Bool × Bool × ByteArray × Bool)
 | 0, _, _, _, _, _, _, _, _, _, _, _ => none
 | k + 1, x0, x379000, x379001, x379002, x379003, x379004, x379005, x379006, x379007, x379008, x379009 => if (x0.size : Int) > 1 then (if 0 ≤ 2 then (if 2 ≤ (x0.size : Int) then (zg.j4 k x0 ((x0.extract 0 2).toList == ([45, 114] : List UInt8)) x379000 x379001 x379002 x379003 x379004 x379005 x379006 x379007 x379008 x379009) else (none)) else (none)) else (zg.j4 k x0 false x379000 x379001 x379002 x379003 x379004 x379005 x379006 x379007 x379008 x379009)
def zg.j4 : Nat → ByteArray → Bool → ByteArray → ByteArray → ByteArray → ByteArray → Bool → List (S54) → List (S58) → Bool → Bool → ByteArray → Option (ByteArray × ByteArray × ByteArray × ByteArray × Bool × (List (S54)) × (List (S58)) × Bool × Bool × ByteArray × Bool)
 | 0, _, _, _, _, _, _, _, _, _, _, _, _ => none
 | k + 1, x0, x62, x379000, x379001, x379002, x379003, x379004, x379005, x379006, x379007, x379008, x379009 => if x62 = true then (if 2 ≤ (x0.size : Int) then ((E1.zcb.f k (x0.extract 2 x0.size)).bind fun t389 => (if 2 ≤ (wrap64 (2 + t389)) then (if (wrap64 (2 + t389)) ≤ (x0.size : Int) then ((zbb.f k (x0.extract 2 ((wrap64 (2 + t389)) : Int).toNat)).bind fun bt390 => (if 0 ≤ (wrap64 (2 + t389)) then (some (x379000, x0.extract ((wrap64 (2 + t389)) : Int).toNat x0.size, x379002, x379003, x379004, x379005, x379006, x379007, bt390.1, bt390.2, true)) else (none))) else (none)) else (none))) else (none)) else (if x0.toList = ([] : List UInt8) then (some (x379000, x379001, x379002, x379003, x379004, x379005, x379006, x379007, x379008, x379009, true)) else (some (x379000, x0, x379002, x379003, true, x379005, x379006, x379007, x379008, x379009, true)))
end
def zg.f (k : Nat) (a0 : ByteArray) : Option (ByteArray × ByteArray × ByteArray × ByteArray × Bool × (List (S54)) × (List (S58)) × Bool × Bool × ByteArray × Bool) := (zn.f k a0).bind fun bt379 => (if bt379.2.toList = ([] : List UInt8) then (zg.j0 k bt379.2 false a0 (⟨#[]⟩ : ByteArray) (⟨#[]⟩ : ByteArray) (⟨#[]⟩ : ByteArray) false bt379.1 true false (⟨#[]⟩ : ByteArray)) else (if 0 < (bt379.2.size : Int) then (if (bt bt379.2 0) ≥ 97 then (zg.j0 k bt379.2 (decide ((bt bt379.2 0) ≤ 122)) a0 (⟨#[]⟩ : ByteArray) (⟨#[]⟩ : ByteArray) (⟨#[]⟩ : ByteArray) false bt379.1 true false (⟨#[]⟩ : ByteArray)) else (zg.j0 k bt379.2 false a0 (⟨#[]⟩ : ByteArray) (⟨#[]⟩ : ByteArray) (⟨#[]⟩ : ByteArray) false bt379.1 true false (⟨#[]⟩ : ByteArray))) else (none)))
def zg.T8 : Bool × List (List Nat × List Nat) := (true, [([], []), ([], []), ([0, 1], [0, 1]), ([], []), ([], []), ([3, 4], [3, 4]), ([0, 1, 2], []), ([6, 2, 0, 1, 2], [2, 6]), ([5, 7, 0, 1, 2, 3, 4, 5, 6, 7], [0, 3, 5])])
def zg.B8 : List Nat := [0, 0, 3, 0, 0, 24, 7, 71, 255]
theorem zg.tab8 : rtab .any (opsOf Tryd.f13 8) = zg.T8 := by kernel_rfl
theorem zg.bits8 : zfg zg.T8.2 zg.B8 = true := by kernel_rfl
def zg.T11 : Bool × List (List Nat × List Nat) := (true, [([], []), ([], []), ([1], [1]), ([0, 2], [0, 2]), ([3], [3]), ([], []), ([], []), ([6], [6]), ([5, 7], [5, 7]), ([0, 1, 2, 3, 4], []), ([9, 4, 4, 0, 1, 2, 3, 4], [4, 9]), ([0, 1, 2, 3, 4, 5, 6, 7, 8, 9, 10], []), ([11, 8, 10, 0, 1, 2, 3, 4, 5, 6, 7, 8, 9, 10], [8, 11])])
def zg.B11 : List Nat := [0, 0, 2, 7, 15, 0, 0, 64, 224, 31, 543, 2047, 4095]
theorem zg.tab11 : rtab .any (opsOf Tryd.f13 11) = zg.T11 := by kernel_rfl
theorem zg.bits11 : zfg zg.T11.2 zg.B11 = true := by kernel_rfl
theorem zg.calls (k : Nat) (a0 : ByteArray) (r1 : ByteArray) (r2 : ByteArray) (r3 : ByteArray) (r4 : ByteArray) (r5 : Bool) (r6 : List (S54)) (r7 : List (S58)) (r8 : Bool) (r9 : Bool) (r10 : ByteArray) (r11 : Bool) (w : World) (h : zg.f k a0 = some (r1, r2, r3, r4, r5, r6, r7, r8, r9, r10, r11)) :
  Calls Tryd.prog 13 #[.string a0] w fun e w' => ∃ v5_ v6_ : Value, e = .returned (.tuple #[.agg #[.string r1, .string r2, .string r3, .string r4, .bool r5, v5_, v6_, .bool r8, .bool r9, .string r10], .bool r11]) ∧ Kd.R k54 54 w' w.heap.size (fun _ => True) v5_ r6 ∧ Kd.R k58 58 w' w.heap.size (fun _ => True) v6_ r7 ∧ Below w.heap.size w w' := by
 have hu33 := Tryd.underlying33
 have hu31 := Tryd.underlying31
 have HB := za.mk (Below.refl w.heap.size w)
 have H : ((zn.f k a0).bind fun bt379 => (if bt379.2.toList = ([] : List UInt8) then (zg.j0 k bt379.2 false a0 (⟨#[]⟩ : ByteArray) (⟨#[]⟩ : ByteArray) (⟨#[]⟩ : ByteArray) false bt379.1 true false (⟨#[]⟩ : ByteArray)) else (if 0 < (bt379.2.size : Int) then (if (bt bt379.2 0) ≥ 97 then (zg.j0 k bt379.2 (decide ((bt bt379.2 0) ≤ 122)) a0 (⟨#[]⟩ : ByteArray) (⟨#[]⟩ : ByteArray) (⟨#[]⟩ : ByteArray) false bt379.1 true false (⟨#[]⟩ : ByteArray)) else (zg.j0 k bt379.2 false a0 (⟨#[]⟩ : ByteArray) (⟨#[]⟩ : ByteArray) (⟨#[]⟩ : ByteArray) false bt379.1 true false (⟨#[]⟩ : ByteArray))) else (none)))) = some (r1, r2, r3, r4, r5, r6, r7, r8, r9, r10, r11) := h
 clear h
 replace H := Option.bind_eq_some_iff.mp H
 obtain ⟨⟨t379, t380⟩, A20, H⟩ := H
 replace H : (if t380.toList = ([] : List UInt8) then (zg.j0 k t380 false a0 (⟨#[]⟩ : ByteArray) (⟨#[]⟩ : ByteArray) (⟨#[]⟩ : ByteArray) false t379 true false (⟨#[]⟩ : ByteArray)) else (if 0 < (t380.size : Int) then (if (bt t380 0) ≥ 97 then (zg.j0 k t380 (decide ((bt t380 0) ≤ 122)) a0 (⟨#[]⟩ : ByteArray) (⟨#[]⟩ : ByteArray) (⟨#[]⟩ : ByteArray) false t379 true false (⟨#[]⟩ : ByteArray)) else (zg.j0 k t380 false a0 (⟨#[]⟩ : ByteArray) (⟨#[]⟩ : ByteArray) (⟨#[]⟩ : ByteArray) false t379 true false (⟨#[]⟩ : ByteArray))) else (none))) = some (r1, r2, r3, r4, r5, r6, r7, r8, r9, r10, r11) := H
 have A2 := za.mk A20
 clear A20
 have HC3 := za.mk H
 clear H
 go_enter Tryd.func13, Tryd.ntmps13
 go_upto_region 3 with (first | ((with_reducible refine zjb (N := 2) rfl ?_); refine zec ?hg (N := 2) ?hd (cs := #[.string ⟨#[]⟩, .string ⟨#[]⟩, .string ⟨#[]⟩, .string ⟨#[]⟩, .bool false, .slice none 0 0, .slice none 0 0, .bool false, .bool false, .string ⟨#[]⟩]) (t := 33) ?hr ?_; (case hd => rfl); (case hg => rfl); (case hr => first | (go_simp; done) | (go_simp; rfl)); intro gb378 hg w4 hbox hb; have BK378 := za.mk hbox; have GW378 := za.mk ((by rw [hg]; exact (zl (by (with_reducible exact HB.out))) : w.heap.size ≤ gb378)); have GE378 := za.mk ((by rw [hg]; exact (zl (by (with_reducible exact HB.out))) : w.heap.size ≤ gb378)); replace HB := za.mk (zm (by (with_reducible exact HB.out)) hb); clear hb hbox hg; obtain ⟨hcz5_0, hcz5_1, hcz5_2, hcz5_3, hcz5_4, hcz5_5, hcz5_6, hcz5_7, hcz5_8, hcz5_9, hfz5_0, hfz5_1, hfz5_2, hfz5_3, hfz5_4, hfz5_5, hfz5_6, hfz5_7, hfz5_8, hfz5_9⟩ := cl10 BK378.out) | ((with_reducible refine zab (f := 26) rfl ?_); refine zjc (some 11) rfl rfl Tryd.func26 (by kernel_rfl) rfl #[.string a0] rfl (by (try simp only [List.map_toArray, List.map_cons, List.map_nil]); first | done | rfl | (simp only [List.length_drop, List.length_take]; rfl)) ?_; (with_reducible refine (zn.calls k a0 t379 t380 _ A2.out).mono ?_); rintro e w6 ⟨v381, rfl, ho0, hb⟩; refine ⟨_, rfl, ?_⟩; have HO382 := za.mk (Kd.R_lower ho0 (zl (by (with_reducible refine zi ?_ GE378.out; with_reducible refine zi ?_ GE378.out; with_reducible exact HB.out)))); replace BK378 := za.mk (zk (g := gb378) (o := .cells #[.string a0, .string ⟨#[]⟩, .string ⟨#[]⟩, .string ⟨#[]⟩, .bool false, .slice none 0 0, .slice none 0 0, .bool true, .bool false, .string ⟨#[]⟩] 33 (0, 0)) (by refine zv (cs := #[.string a0, .string ⟨#[]⟩, .string ⟨#[]⟩, .string ⟨#[]⟩, .bool false, .slice none 0 0, .slice none 0 0, .bool false, .bool false, .string ⟨#[]⟩]) ?_ 7 _ rfl; refine zv (cs := #[.string ⟨#[]⟩, .string ⟨#[]⟩, .string ⟨#[]⟩, .string ⟨#[]⟩, .bool false, .slice none 0 0, .slice none 0 0, .bool false, .bool false, .string ⟨#[]⟩]) ?_ 0 _ rfl; exact BK378.out) hb); replace HB := za.mk (zm (by (with_reducible refine zi ?_ GE378.out; with_reducible refine zi ?_ GE378.out; with_reducible exact HB.out)) hb); (try clear hb); (try clear hb2); (try clear hk); (try clear hi); (try clear ho0); obtain ⟨Ao7, co7, eo7⟩ := Kd.R_slice HO382.out; subst eo7; obtain ⟨hcz8_0, hcz8_1, hcz8_2, hcz8_3, hcz8_4, hcz8_5, hcz8_6, hcz8_7, hcz8_8, hcz8_9, hfz8_0, hfz8_1, hfz8_2, hfz8_3, hfz8_4, hfz8_5, hfz8_6, hfz8_7, hfz8_8, hfz8_9⟩ := cl10 BK378.out))
 (try simp only [Act.put, List.setIfInBounds_toArray, List.set_cons_zero, List.set_cons_succ])
 go_cut [26] (fun v26 wc => ∃ (kq : Nat) (x26_2 : Bool), v26 = .bool x26_2 ∧ za (zg.j0 kq t380 x26_2 a0 (⟨#[]⟩ : ByteArray) (⟨#[]⟩ : ByteArray) (⟨#[]⟩ : ByteArray) false t379 true false (⟨#[]⟩ : ByteArray) = some (r1, r2, r3, r4, r5, r6, r7, r8, r9, r10, r11)) ∧ za (kq ≤ k) ∧ za (Kd.R k54 54 wc w.heap.size (fun _ => True) (.slice Ao7 t379.length co7) t379) ∧ za (wc.heap[gb378]? = some (.cells #[.string a0, .string ⟨#[]⟩, .string ⟨#[]⟩, .string ⟨#[]⟩, .bool false, (.slice Ao7 t379.length co7), (.slice none 0 0), .bool true, .bool false, .string ⟨#[]⟩] 33 (0, 0))) ∧ za (Below w.heap.size w wc))
 case first =>
  have H := HC3.out
  clear HC3
  by_cases c9 : t380.toList = ([] : List UInt8)
  ·rw [if_pos c9] at H
   have c9b0 : (t380.toList == ([] : List UInt8)) = true := beq_iff_eq.mpr c9
   have c9b1 : (t380.toList != ([] : List UInt8)) = false := bne_eq_false_iff_eq.mpr c9
   try have c9b9 : t380.toList.isEmpty = true := by simpa using c9b0
   clear c9
   (first | rw [c9b0] | (simp only [i64_w, i32_w]; rw [c9b0]) | rw [c9b9] | skip)
   have H' := za.mk H
   clear H
   go_wp2
   go_meet
   case rel => exact ⟨_, (false), (by rfl), H', ⟨by omega⟩, ⟨by (with_reducible repeat (first | apply Kd.R_alloc | apply Kd.R_drewN | apply Kd.R_drew)); exact Kd.R_mono (farC (Kd.R_types HO382.out BK378.out (by decide))) (fun _ hk => trivial)⟩, ⟨by refine zv (cs := #[.string a0, .string ⟨#[]⟩, .string ⟨#[]⟩, .string ⟨#[]⟩, .bool false, .slice none 0 0, .slice none 0 0, .bool true, .bool false, .string ⟨#[]⟩]) ?_ 5 _ rfl; exact BK378.out⟩, ⟨by (with_reducible refine zi ?_ GE378.out; with_reducible exact HB.out)⟩⟩
  ·rw [if_neg c9] at H
   have c9b0 : (t380.toList == ([] : List UInt8)) = false := beq_eq_false_iff_ne.mpr c9
   have c9b1 : (t380.toList != ([] : List UInt8)) = true := bne_iff_ne.mpr c9
   try have c9b9 : t380.toList.isEmpty = false := by simpa using c9b0
   (first | rw [c9b0] | (simp only [i64_w, i32_w]; rw [c9b0]) | rw [c9b9] | skip)
   by_cases c10 : 0 < (t380.size : Int)
   ·rw [if_pos c10] at H
    have c10b0 : decide (0 < (t380.size : Int)) = true := decide_eq_true c10
    have c10b1 : decide (0 < t380.size) = true := decide_eq_true (by omega)
    clear c10
    by_cases c12 : (bt t380 0) ≥ 97
    ·rw [if_pos c12] at H
     have c12b0 : decide (97 ≤ (bt t380 0)) = true := decide_eq_true c12
     clear c12
     have H' := za.mk H
     clear H
     have p11 : 0 ≤ (0 : Int) := (by omega)
     have q11 : 0 < t380.size := (by have : (0 : Int) < (t380.size : Int) := of_decide_eq_true (by (with_reducible assumption)); omega)
     have hx11 : ∀ h : 0 < t380.size, ((t380[0]'h).toNat : Int) = bt t380 0 := bt_at t380 0
     clear p11
     have qi11 : (0 < (t380.size : Int)) = True := eq_true (of_decide_eq_true (by (with_reducible assumption)))
     replace q11 := eq_true q11
     have p13 : 0 ≤ (0 : Int) := (by omega)
     have q13 : 0 < t380.size := (by have : (0 : Int) < (t380.size : Int) := of_decide_eq_true (by (with_reducible assumption)); omega)
     have hx13 : ∀ h : 0 < t380.size, ((t380[0]'h).toNat : Int) = bt t380 0 := bt_at t380 0
     clear p13
     have qi13 : (0 < (t380.size : Int)) = True := eq_true (of_decide_eq_true (by (with_reducible assumption)))
     replace q13 := eq_true q13
     go_wp2
     go_meet
     case rel => exact ⟨_, (decide ((bt t380 0) ≤ 122)), (by rfl), H', ⟨by omega⟩, ⟨by (with_reducible repeat (first | apply Kd.R_alloc | apply Kd.R_drewN | apply Kd.R_drew)); exact Kd.R_mono (farC (Kd.R_types HO382.out BK378.out (by decide))) (fun _ hk => trivial)⟩, ⟨by refine zv (cs := #[.string a0, .string ⟨#[]⟩, .string ⟨#[]⟩, .string ⟨#[]⟩, .bool false, .slice none 0 0, .slice none 0 0, .bool true, .bool false, .string ⟨#[]⟩]) ?_ 5 _ rfl; exact BK378.out⟩, ⟨by (with_reducible refine zi ?_ GE378.out; with_reducible exact HB.out)⟩⟩
    ·rw [if_neg c12] at H
     have c12b0 : decide (97 ≤ (bt t380 0)) = false := decide_eq_false c12
     clear c12
     have H' := za.mk H
     clear H
     have p11 : 0 ≤ (0 : Int) := (by omega)
     have q11 : 0 < t380.size := (by have : (0 : Int) < (t380.size : Int) := of_decide_eq_true (by (with_reducible assumption)); omega)
     have hx11 : ∀ h : 0 < t380.size, ((t380[0]'h).toNat : Int) = bt t380 0 := bt_at t380 0
     clear p11
     have qi11 : (0 < (t380.size : Int)) = True := eq_true (of_decide_eq_true (by (with_reducible assumption)))
     replace q11 := eq_true q11
     go_wp2
     go_meet
     case rel => exact ⟨_, (false), (by rfl), H', ⟨by omega⟩, ⟨by (with_reducible repeat (first | apply Kd.R_alloc | apply Kd.R_drewN | apply Kd.R_drew)); exact Kd.R_mono (farC (Kd.R_types HO382.out BK378.out (by decide))) (fun _ hk => trivial)⟩, ⟨by refine zv (cs := #[.string a0, .string ⟨#[]⟩, .string ⟨#[]⟩, .string ⟨#[]⟩, .bool false, .slice none 0 0, .slice none 0 0, .bool true, .bool false, .string ⟨#[]⟩]) ?_ 5 _ rfl; exact BK378.out⟩, ⟨by (with_reducible refine zi ?_ GE378.out; with_reducible exact HB.out)⟩⟩
   ·rw [if_neg c10] at H
    exact absurd H (by simp)
 case rest =>
  clear HC3
  clear hcz5_0 hcz5_1 hcz5_2 hcz5_3 hcz5_4 hcz5_5 hcz5_6 hcz5_7 hcz5_8 hcz5_9 hcz8_0 hcz8_1 hcz8_2 hcz8_3 hcz8_4 hcz8_5 hcz8_6 hcz8_7 hcz8_8 hcz8_9 hfz5_0 hfz5_1 hfz5_2 hfz5_3 hfz5_4 hfz5_5 hfz5_6 hfz5_7 hfz5_8 hfz5_9 hfz8_0 hfz8_1 hfz8_2 hfz8_3 hfz8_4 hfz8_5 hfz8_6 hfz8_7 hfz8_8 hfz8_9
  obtain ⟨kq, x26_2, rfl, HA, HJ2, HO_379005, BK378, HB⟩ := hcut
  cases kq with
  | zero => exact absurd HA.out (by simp [zg.j0])
  | succ kj2 =>
   have H := HA.out
   clear HA
   simp only [zg.j0] at H
   have HC14 := za.mk H
   clear H
   go_upto_if 26 with (fail)
   go_cut [0, 26] (fun v0 v26 wc => ∃ (kq : Nat) (x0_13 : ByteArray) (x379002_13 : ByteArray), v0 = .string x0_13 ∧ za (zg.j1 kq x0_13 a0 (⟨#[]⟩ : ByteArray) x379002_13 (⟨#[]⟩ : ByteArray) false t379 true false (⟨#[]⟩ : ByteArray) = some (r1, r2, r3, r4, r5, r6, r7, r8, r9, r10, r11)) ∧ za (kq ≤ kj2) ∧ za (Kd.R k54 54 wc w.heap.size (fun _ => True) (.slice Ao7 t379.length co7) t379) ∧ za (wc.heap[gb378]? = some (.cells #[.string a0, .string ⟨#[]⟩, .string x379002_13, .string ⟨#[]⟩, .bool false, (.slice Ao7 t379.length co7), (.slice none 0 0), .bool true, .bool false, .string ⟨#[]⟩] 33 (0, 0))) ∧ za (Below w.heap.size w wc))
   case first =>
    have H := HC14.out
    clear HC14
    by_cases c15 : x26_2 = true
    ·subst c15
     have H1 : (if 0 ≤ 1 then (if 1 ≤ (t380.size : Int) then (zg.j1 kj2 (t380.extract 1 t380.size) a0 (⟨#[]⟩ : ByteArray) (t380.extract 0 1) (⟨#[]⟩ : ByteArray) false t379 true false (⟨#[]⟩ : ByteArray)) else (none)) else (none)) = some (r1, r2, r3, r4, r5, r6, r7, r8, r9, r10, r11) := by rw [if_pos rfl] at H; exact H
     clear H
     have H := H1
     clear H1
     by_cases c16 : 0 ≤ 1
     ·rw [if_pos c16] at H
      have c16b0 := eq_true c16
      have c16b1 : decide (0 ≤ 1) = true := decide_eq_true c16
      clear c16
      by_cases c17 : 1 ≤ (t380.size : Int)
      ·rw [if_pos c17] at H
       have c17b0 := eq_true c17
       have c17b1 : decide (1 ≤ (t380.size : Int)) = true := decide_eq_true c17
       clear c17
       have c18b0 := eq_true (of_decide_eq_true (by (with_reducible assumption)) : 1 ≤ (t380.size : Int))
       have H' := za.mk H
       clear H
       try go_wp2
       replace HO_379005 := za.mk (Kd.R_drew HO_379005.out)
       replace BK378 := za.mk (zkc BK378.out)
       replace HB := za.mk (zy HB.out)
       refine zsf (n := 7) (S := fun w' => True) (ds := []) #[false, false, false, false, false, false, false] (by kernel_rfl) rfl rfl trivial (fun hHeld => ?_)
       generalize wc.drew = w19 at HO_379005 BK378 HB hHeld ⊢
       refine pure_ (i := 0) (N := some 27) (v := ?_) (a' := ?_) #[true, false, false, false, false, false, false] rfl rfl (by kernel_rfl) (fun _ _ _ h => h) (Or.inl ⟨by rfl, ?_⟩) ?_ ?_
       rotate_left
       ·intro w'
        go_simp
        with_reducible rfl
       rotate_left
       ·simp only [Act.put, List.setIfInBounds_toArray, List.set_cons_zero, List.set_cons_succ, i64_w, i32_w]
        rfl
       refine pure_ (i := 1) (N := some 28) (v := ?_) (a' := ?_) #[true, true, false, false, false, false, false] rfl rfl (by kernel_rfl) (fun _ _ _ h => h) (Or.inl ⟨by rfl, ?_⟩) ?_ ?_
       rotate_left
       ·intro w'
        go_simp
        with_reducible rfl
       rotate_left
       ·simp only [Act.put, List.setIfInBounds_toArray, List.set_cons_zero, List.set_cons_succ, i64_w, i32_w]
        rfl
       refine pure_ (i := 2) (N := some 29) (v := ?_) (a' := ?_) #[true, true, true, false, false, false, false] rfl rfl (by kernel_rfl) (fun _ _ _ h => h) (Or.inl ⟨by rfl, ?_⟩) ?_ ?_
       rotate_left
       ·intro w'
        go_simp
        with_reducible rfl
       rotate_left
       ·simp only [Act.put, List.setIfInBounds_toArray, List.set_cons_zero, List.set_cons_succ, i64_w, i32_w]
        rfl
       refine pure_ (i := 3) (N := some 30) (v := ?_) (a' := ?_) #[true, true, true, true, false, false, false] rfl rfl (by kernel_rfl) (fun _ _ _ h => h) (Or.inl ⟨by rfl, ?_⟩) ?_ ?_
       rotate_left
       ·intro w'
        go_simp
        with_reducible rfl
       rotate_left
       ·simp only [Act.put, List.setIfInBounds_toArray, List.set_cons_zero, List.set_cons_succ, i64_w, i32_w]
        rfl
       refine pure_ (i := 4) (N := some 31) (v := ?_) (a' := ?_) #[true, true, true, true, true, false, false] rfl rfl (by kernel_rfl) (fun _ _ _ h => h) (Or.inl ⟨by rfl, ?_⟩) ?_ ?_
       rotate_left
       ·intro w'
        go_simp
        with_reducible rfl
       rotate_left
       ·simp only [Act.put, List.setIfInBounds_toArray, List.set_cons_zero, List.set_cons_succ, i64_w, i32_w]
        rfl
       refine one_ (i := 5) (N := none) #[true, true, true, true, true, true, false] rfl rfl (by kernel_rfl) (by decide) (fun K hK => ?_)
       have hs20 : w19.cell? ⟨gb378, 2, none⟩ = some (.string ⟨#[]⟩) := (zj BK378.out 2).trans rfl
       have hfs20 := zu BK378.out 2
       refine skip_ (w1 := ?_) (by rfl) rfl ?_ ?_
       rotate_left
       ·go_simp
        rfl
       refine hK.out _ _ trivial (fun hHeld => ?_)
       clear hK K
       refine pure_ (i := 6) (N := some 0) (v := ?_) (a' := ?_) #[true, true, true, true, true, true, true] rfl rfl (by kernel_rfl) (fun _ _ _ h => h) (Or.inl ⟨by rfl, ?_⟩) ?_ ?_
       rotate_left
       ·intro w'
        go_simp
        with_reducible rfl
       rotate_left
       ·simp only [Act.put, List.setIfInBounds_toArray, List.set_cons_zero, List.set_cons_succ, i64_w, i32_w]
        rfl
       refine done_ (by kernel_rfl) ?_
       try go_wp2
       go_meet
       case rel => exact ⟨_, (t380.extract 1 t380.size), (t380.extract 0 1), (by rfl), (by exact H'), ⟨by have := HJ2.out; first | omega | exact Nat.le_refl _⟩, ⟨by (with_reducible repeat (first | apply Kd.R_alloc | apply Kd.R_drewN | apply Kd.R_drew)); exact Kd.R_mono (farC (Kd.R_types HO_379005.out BK378.out (by decide))) (fun _ hk => trivial)⟩, ⟨by refine zv (cs := #[.string a0, .string ⟨#[]⟩, .string ⟨#[]⟩, .string ⟨#[]⟩, .bool false, .slice Ao7 t379.length co7, .slice none 0 0, .bool true, .bool false, .string ⟨#[]⟩]) ?_ 2 _ rfl; exact BK378.out⟩, ⟨by (with_reducible refine zi ?_ GE378.out; with_reducible exact HB.out)⟩⟩
      ·rw [if_neg c17] at H
       exact absurd H (by simp)
     ·rw [if_neg c16] at H
      exact absurd H (by simp)
    ·replace c15 := Bool.eq_false_iff.mpr c15
     subst c15
     have H1 : (zg.j1 kj2 t380 a0 (⟨#[]⟩ : ByteArray) (⟨#[]⟩ : ByteArray) (⟨#[]⟩ : ByteArray) false t379 true false (⟨#[]⟩ : ByteArray)) = some (r1, r2, r3, r4, r5, r6, r7, r8, r9, r10, r11) := by rw [if_neg (show ¬ (false = true) by decide)] at H; exact H
     clear H
     have H := H1
     clear H1
     have H' := za.mk H
     clear H
     go_wp2
     go_meet
     case rel => exact ⟨_, (t380), ((⟨#[]⟩ : ByteArray)), (by rfl), (by exact H'), ⟨by have := HJ2.out; first | omega | exact Nat.le_refl _⟩, ⟨by (with_reducible repeat (first | apply Kd.R_alloc | apply Kd.R_drewN | apply Kd.R_drew)); exact HO_379005.out⟩, ⟨by exact BK378.out⟩, ⟨by (with_reducible exact HB.out)⟩⟩
   case rest =>
    clear HC14
    obtain ⟨kq, x0_13, x379002_13, rfl, HA, HJ13, HO_379005, BK378, HB⟩ := hcut
    cases kq with
    | zero => exact absurd HA.out (by simp [zg.j1])
    | succ kj13 =>
     have H := HA.out
     clear HA
     simp only [zg.j1] at H
     replace H := Option.bind_eq_some_iff.mp H
     obtain ⟨⟨t383, t384⟩, A210, H⟩ := H
     replace H : (if (t384.size : Int) > 1 then (if 0 < (t384.size : Int) then (if (bt t384 0) = 126 then (if 1 < (t384.size : Int) then ((zwc.f (bt t384 1)).bind fun t387 => (zg.j2 kj13 t384 t387 a0 (⟨#[]⟩ : ByteArray) x379002_13 (⟨#[]⟩ : ByteArray) false t379 t383 true false (⟨#[]⟩ : ByteArray))) else (none)) else (zg.j2 kj13 t384 false a0 (⟨#[]⟩ : ByteArray) x379002_13 (⟨#[]⟩ : ByteArray) false t379 t383 true false (⟨#[]⟩ : ByteArray))) else (none)) else (zg.j2 kj13 t384 false a0 (⟨#[]⟩ : ByteArray) x379002_13 (⟨#[]⟩ : ByteArray) false t379 t383 true false (⟨#[]⟩ : ByteArray))) = some (r1, r2, r3, r4, r5, r6, r7, r8, r9, r10, r11) := H
     have A21 := za.mk A210
     clear A210
     have HC22 := za.mk H
     clear H
     go_upto_region 6 with (((with_reducible refine zab (f := 27) rfl ?_); refine zjc (some 34) rfl rfl Tryd.func27 (by kernel_rfl) rfl #[.string x0_13] rfl (by (try simp only [List.map_toArray, List.map_cons, List.map_nil]); first | done | rfl | (simp only [List.length_drop, List.length_take]; rfl)) ?_; (with_reducible refine (zq.calls kj13 x0_13 t383 t384 _ A21.out).mono ?_); rintro e w23 ⟨v385, rfl, ho0, hb⟩; refine ⟨_, rfl, ?_⟩; replace HO_379005 := za.mk (Kd.R_below (by (with_reducible repeat (first | apply Kd.R_alloc | apply Kd.R_drewN | apply Kd.R_drew)); exact HO_379005.out) hb); have HO386 := za.mk (Kd.R_lower ho0 (zl (by (with_reducible exact HB.out)))); replace BK378 := za.mk (zk BK378.out hb); replace HB := za.mk (zm (by (with_reducible exact HB.out)) hb); (try clear hb); (try clear hb2); (try clear hk); (try clear hi); (try clear ho0); obtain ⟨Ao24, co24, eo24⟩ := Kd.R_slice HO386.out; subst eo24; obtain ⟨hcz25_0, hcz25_1, hcz25_2, hcz25_3, hcz25_4, hcz25_5, hcz25_6, hcz25_7, hcz25_8, hcz25_9, hfz25_0, hfz25_1, hfz25_2, hfz25_3, hfz25_4, hfz25_5, hfz25_6, hfz25_7, hfz25_8, hfz25_9⟩ := cl10 BK378.out))
     (try simp only [Act.put, List.setIfInBounds_toArray, List.set_cons_zero, List.set_cons_succ])
     go_cut [50] (fun v50 wc => ∃ (kq : Nat) (x50_21 : Bool), v50 = .bool x50_21 ∧ za (zg.j2 kq t384 x50_21 a0 (⟨#[]⟩ : ByteArray) x379002_13 (⟨#[]⟩ : ByteArray) false t379 t383 true false (⟨#[]⟩ : ByteArray) = some (r1, r2, r3, r4, r5, r6, r7, r8, r9, r10, r11)) ∧ za (kq ≤ kj13) ∧ za (Kd.R k54 54 wc w.heap.size (fun _ => True) (.slice Ao7 t379.length co7) t379) ∧ za (Kd.R k58 58 wc w.heap.size (fun _ => True) (.slice Ao24 t383.length co24) t383) ∧ za (wc.heap[gb378]? = some (.cells #[.string a0, .string ⟨#[]⟩, .string x379002_13, .string ⟨#[]⟩, .bool false, (.slice Ao7 t379.length co7), (.slice Ao24 t383.length co24), .bool true, .bool false, .string ⟨#[]⟩] 33 (0, 0))) ∧ za (Below w.heap.size w wc))
     case first =>
      have H := HC22.out
      clear HC22
      by_cases c26 : (t384.size : Int) > 1
      ·rw [if_pos c26] at H
       have c26b0 : decide (1 < (t384.size : Int)) = true := decide_eq_true c26
       have c26b1 : decide (1 < t384.size) = true := decide_eq_true (by omega)
       clear c26
       (first | rw [c26b0] | (simp only [i64_w, i32_w]; rw [c26b0]) | skip)
       by_cases c27 : 0 < (t384.size : Int)
       ·rw [if_pos c27] at H
        have c27b0 : decide (0 < (t384.size : Int)) = true := decide_eq_true c27
        have c27b1 : decide (0 < t384.size) = true := decide_eq_true (by omega)
        clear c27
        by_cases c29 : (bt t384 0) = 126
        ·rw [if_pos c29] at H
         have c29b0 : ((bt t384 0) == 126) = true := beq_iff_eq.mpr c29
         have c29b1 : ((bt t384 0) != 126) = false := bne_eq_false_iff_eq.mpr c29
         clear c29
         by_cases c30 : 1 < (t384.size : Int)
         ·rw [if_pos c30] at H
          have c30b0 : decide (1 < (t384.size : Int)) = true := decide_eq_true c30
          have c30b1 : decide (1 < t384.size) = true := decide_eq_true (by omega)
          clear c30
          replace H := Option.bind_eq_some_iff.mp H
          obtain ⟨t387, A320, H⟩ := H
          replace H : (zg.j2 kj13 t384 t387 a0 (⟨#[]⟩ : ByteArray) x379002_13 (⟨#[]⟩ : ByteArray) false t379 t383 true false (⟨#[]⟩ : ByteArray)) = some (r1, r2, r3, r4, r5, r6, r7, r8, r9, r10, r11) := H
          have A32 := za.mk A320
          clear A320
          have H' := za.mk H
          clear H
          have p28 : 0 ≤ (0 : Int) := (by omega)
          have q28 : 0 < t384.size := (by have : (0 : Int) < (t384.size : Int) := of_decide_eq_true (by (with_reducible assumption)); omega)
          have hx28 : ∀ h : 0 < t384.size, ((t384[0]'h).toNat : Int) = bt t384 0 := bt_at t384 0
          clear p28
          have qi28 : (0 < (t384.size : Int)) = True := eq_true (of_decide_eq_true (by (with_reducible assumption)))
          replace q28 := eq_true q28
          have p31 : 0 ≤ (1 : Int) := (by omega)
          have q31 : 1 < t384.size := (by have : (1 : Int) < (t384.size : Int) := of_decide_eq_true (by (with_reducible assumption)); omega)
          have hx31 : ∀ h : 1 < t384.size, ((t384[1]'h).toNat : Int) = bt t384 1 := bt_at t384 1
          clear p31
          have qi31 : (1 < (t384.size : Int)) = True := eq_true (of_decide_eq_true (by (with_reducible assumption)))
          replace q31 := eq_true q31
          go_wp2_with ((go_at_call 32; (with_reducible refine (zwc.calls (bt t384 1) t387 _ A32.out).mono ?_); rintro e w' ⟨rfl, ⟨nd, rfl⟩⟩))
          go_meet
          case rel => exact ⟨_, (t387), (by rfl), (by exact H'), ⟨by have := HJ2.out; have := HJ13.out; first | omega | exact Nat.le_refl _⟩, ⟨by (with_reducible repeat (first | apply Kd.R_alloc | apply Kd.R_drewN | apply Kd.R_drew)); exact Kd.R_mono (farC (Kd.R_types HO_379005.out BK378.out (by decide))) (fun _ hk => trivial)⟩, ⟨by (with_reducible repeat (first | apply Kd.R_alloc | apply Kd.R_drewN | apply Kd.R_drew)); exact Kd.R_mono (farC (Kd.R_types HO386.out BK378.out (by decide))) (fun _ hk => trivial)⟩, ⟨by (with_reducible (refine zz ?_ _)); refine zv (cs := #[.string a0, .string ⟨#[]⟩, .string x379002_13, .string ⟨#[]⟩, .bool false, .slice Ao7 t379.length co7, .slice none 0 0, .bool true, .bool false, .string ⟨#[]⟩]) ?_ 6 _ rfl; exact BK378.out⟩, ⟨by (with_reducible apply ze; with_reducible refine zi ?_ GE378.out; with_reducible exact HB.out)⟩⟩
         ·rw [if_neg c30] at H
          exact absurd H (by simp)
        ·rw [if_neg c29] at H
         have c29b0 : ((bt t384 0) == 126) = false := beq_eq_false_iff_ne.mpr c29
         have c29b1 : ((bt t384 0) != 126) = true := bne_iff_ne.mpr c29
         have H' := za.mk H
         clear H
         have p28 : 0 ≤ (0 : Int) := (by omega)
         have q28 : 0 < t384.size := (by have : (0 : Int) < (t384.size : Int) := of_decide_eq_true (by (with_reducible assumption)); omega)
         have hx28 : ∀ h : 0 < t384.size, ((t384[0]'h).toNat : Int) = bt t384 0 := bt_at t384 0
         clear p28
         have qi28 : (0 < (t384.size : Int)) = True := eq_true (of_decide_eq_true (by (with_reducible assumption)))
         replace q28 := eq_true q28
         go_wp2
         go_meet
         case rel => exact ⟨_, (false), (by rfl), (by exact H'), ⟨by have := HJ2.out; have := HJ13.out; first | omega | exact Nat.le_refl _⟩, ⟨by (with_reducible repeat (first | apply Kd.R_alloc | apply Kd.R_drewN | apply Kd.R_drew)); exact Kd.R_mono (farC (Kd.R_types HO_379005.out BK378.out (by decide))) (fun _ hk => trivial)⟩, ⟨by (with_reducible repeat (first | apply Kd.R_alloc | apply Kd.R_drewN | apply Kd.R_drew)); exact Kd.R_mono (farC (Kd.R_types HO386.out BK378.out (by decide))) (fun _ hk => trivial)⟩, ⟨by refine zv (cs := #[.string a0, .string ⟨#[]⟩, .string x379002_13, .string ⟨#[]⟩, .bool false, .slice Ao7 t379.length co7, .slice none 0 0, .bool true, .bool false, .string ⟨#[]⟩]) ?_ 6 _ rfl; exact BK378.out⟩, ⟨by (with_reducible refine zi ?_ GE378.out; with_reducible exact HB.out)⟩⟩
       ·rw [if_neg c27] at H
        exact absurd H (by simp)
      ·rw [if_neg c26] at H
       have c26b0 : decide (1 < (t384.size : Int)) = false := decide_eq_false c26
       have c26b1 : decide (1 < t384.size) = false := decide_eq_false (by omega)
       clear c26
       (first | rw [c26b0] | (simp only [i64_w, i32_w]; rw [c26b0]) | skip)
       have H' := za.mk H
       clear H
       go_wp2
       go_meet
       case rel => exact ⟨_, (false), (by rfl), (by exact H'), ⟨by have := HJ2.out; have := HJ13.out; first | omega | exact Nat.le_refl _⟩, ⟨by (with_reducible repeat (first | apply Kd.R_alloc | apply Kd.R_drewN | apply Kd.R_drew)); exact Kd.R_mono (farC (Kd.R_types HO_379005.out BK378.out (by decide))) (fun _ hk => trivial)⟩, ⟨by (with_reducible repeat (first | apply Kd.R_alloc | apply Kd.R_drewN | apply Kd.R_drew)); exact Kd.R_mono (farC (Kd.R_types HO386.out BK378.out (by decide))) (fun _ hk => trivial)⟩, ⟨by refine zv (cs := #[.string a0, .string ⟨#[]⟩, .string x379002_13, .string ⟨#[]⟩, .bool false, .slice Ao7 t379.length co7, .slice none 0 0, .bool true, .bool false, .string ⟨#[]⟩]) ?_ 6 _ rfl; exact BK378.out⟩, ⟨by (with_reducible refine zi ?_ GE378.out; with_reducible exact HB.out)⟩⟩
     case rest =>
      clear HC22
      clear hcz25_0 hcz25_1 hcz25_2 hcz25_3 hcz25_4 hcz25_5 hcz25_6 hcz25_7 hcz25_8 hcz25_9 hfz25_0 hfz25_1 hfz25_2 hfz25_3 hfz25_4 hfz25_5 hfz25_6 hfz25_7 hfz25_8 hfz25_9
      obtain ⟨kq, x50_21, rfl, HA, HJ21, HO_379005, HO_379006, BK378, HB⟩ := hcut
      cases kq with
      | zero => exact absurd HA.out (by simp [zg.j2])
      | succ kj21 =>
       have H := HA.out
       clear HA
       simp only [zg.j2] at H
       have HC33 := za.mk H
       clear H
       go_upto_if 50 with (fail)
       go_cut [0, 50] (fun v0 v50 wc => ∃ (kq : Nat) (x0_32 : ByteArray) (x379003_32 : ByteArray), v0 = .string x0_32 ∧ za (zg.j3 kq x0_32 a0 (⟨#[]⟩ : ByteArray) x379002_13 x379003_32 false t379 t383 true false (⟨#[]⟩ : ByteArray) = some (r1, r2, r3, r4, r5, r6, r7, r8, r9, r10, r11)) ∧ za (kq ≤ kj21) ∧ za (Kd.R k54 54 wc w.heap.size (fun _ => True) (.slice Ao7 t379.length co7) t379) ∧ za (Kd.R k58 58 wc w.heap.size (fun _ => True) (.slice Ao24 t383.length co24) t383) ∧ za (wc.heap[gb378]? = some (.cells #[.string a0, .string ⟨#[]⟩, .string x379002_13, .string x379003_32, .bool false, (.slice Ao7 t379.length co7), (.slice Ao24 t383.length co24), .bool true, .bool false, .string ⟨#[]⟩] 33 (0, 0))) ∧ za (Below w.heap.size w wc))
       case first =>
        have H := HC33.out
        clear HC33
        by_cases c34 : x50_21 = true
        ·subst c34
         have H1 : (if 1 ≤ (t384.size : Int) then ((E2.zcb.f kj21 (t384.extract 1 t384.size)).bind fun t388 => (if 0 ≤ (wrap64 (1 + t388)) then (if (wrap64 (1 + t388)) ≤ (t384.size : Int) then (zg.j3 kj21 (t384.extract ((wrap64 (1 + t388)) : Int).toNat t384.size) a0 (⟨#[]⟩ : ByteArray) x379002_13 (t384.extract 0 ((wrap64 (1 + t388)) : Int).toNat) false t379 t383 true false (⟨#[]⟩ : ByteArray)) else (none)) else (none))) else (none)) = some (r1, r2, r3, r4, r5, r6, r7, r8, r9, r10, r11) := by rw [if_pos rfl] at H; exact H
         clear H
         have H := H1
         clear H1
         by_cases c35 : 1 ≤ (t384.size : Int)
         ·rw [if_pos c35] at H
          have c35b0 := eq_true c35
          have c35b1 : decide (1 ≤ (t384.size : Int)) = true := decide_eq_true c35
          clear c35
          replace H := Option.bind_eq_some_iff.mp H
          obtain ⟨t388, A360, H⟩ := H
          replace H : (if 0 ≤ (wrap64 (1 + t388)) then (if (wrap64 (1 + t388)) ≤ (t384.size : Int) then (zg.j3 kj21 (t384.extract ((wrap64 (1 + t388)) : Int).toNat t384.size) a0 (⟨#[]⟩ : ByteArray) x379002_13 (t384.extract 0 ((wrap64 (1 + t388)) : Int).toNat) false t379 t383 true false (⟨#[]⟩ : ByteArray)) else (none)) else (none)) = some (r1, r2, r3, r4, r5, r6, r7, r8, r9, r10, r11) := H
          have A36 := za.mk A360
          clear A360
          obtain ⟨ji37, hji37⟩ : ∃ j_ : Int, (wrap64 (1 + t388)) = j_ := ⟨_, rfl⟩
          replace H : (if 0 ≤ (ji37) then (if (ji37) ≤ (t384.size : Int) then (zg.j3 kj21 (t384.extract ((ji37) : Int).toNat t384.size) a0 (⟨#[]⟩ : ByteArray) x379002_13 (t384.extract 0 ((ji37) : Int).toNat) false t379 t383 true false (⟨#[]⟩ : ByteArray)) else (none)) else (none)) = some (r1, r2, r3, r4, r5, r6, r7, r8, r9, r10, r11) := by (rw [hji37] at H; exact H)
          (try rw [hji37] at A36)
          have hji37w : (IntKind.i64.wrap (1 + t388)) = ji37 := (i64_w _).trans hji37
          by_cases c38 : 0 ≤ (ji37)
          ·rw [if_pos c38] at H
           have c38b0 := eq_true c38
           have c38b1 : decide (0 ≤ (ji37)) = true := decide_eq_true c38
           clear c38
           by_cases c39 : (ji37) ≤ (t384.size : Int)
           ·rw [if_pos c39] at H
            have c39b0 := eq_true c39
            have c39b1 : decide ((ji37) ≤ (t384.size : Int)) = true := decide_eq_true c39
            clear c39
            have c40b0 := eq_true (of_decide_eq_true (by (with_reducible assumption)) : 0 ≤ (ji37))
            have c41b0 := eq_true (of_decide_eq_true (by (with_reducible assumption)) : (ji37) ≤ (t384.size : Int))
            have H' := za.mk H
            clear H
            try go_wp2_with (((with_reducible refine zab (f := 33) rfl ?_); refine zjc (some 53) rfl rfl Tryd.func33 (by kernel_rfl) rfl #[.string (t384.extract 1 t384.size), .func (.func 32) #[] #[]] rfl (by (try simp only [List.map_toArray, List.map_cons, List.map_nil]); first | done | rfl | (simp only [List.length_drop, List.length_take]; rfl)) ?_; (with_reducible refine (E2.zcb.calls kj21 (t384.extract 1 t384.size) t388 _ A36.out).mono ?_); rintro e w' ⟨rfl, ⟨nd, rfl⟩⟩; refine ⟨_, rfl, ?_⟩; (try (rw [zsd wc]; generalize hq_ : World.drewN wc _ = wc; have n0_ : za (Kd.R k54 54 wc w.heap.size (fun _ => True) (.slice Ao7 t379.length co7) t379) := ⟨by rw [← hq_]; exact (by (with_reducible repeat (first | apply Kd.R_alloc | apply Kd.R_drewN | apply Kd.R_drew)); exact HO_379005.out)⟩; have n1_ : za (Kd.R k58 58 wc w.heap.size (fun _ => True) (.slice Ao24 t383.length co24) t383) := ⟨by rw [← hq_]; exact (by (with_reducible repeat (first | apply Kd.R_alloc | apply Kd.R_drewN | apply Kd.R_drew)); exact HO_379006.out)⟩; have n2_ : za (wc.heap[gb378]? = some (.cells #[.string a0, .string ⟨#[]⟩, .string x379002_13, .string ⟨#[]⟩, .bool false, .slice Ao7 t379.length co7, .slice Ao24 t383.length co24, .bool true, .bool false, .string ⟨#[]⟩] 33 (0, 0))) := ⟨by rw [← hq_]; exact (by (with_reducible (refine zz ?_ _)); exact BK378.out)⟩; have n3_ : za (Below w.heap.size w wc) := ⟨by rw [← hq_]; exact (by (with_reducible apply ze; with_reducible exact HB.out))⟩; clear HO_379005 HO_379006 BK378 HB hq_; have HO_379005 := n0_; have HO_379006 := n1_; have BK378 := n2_; have HB := n3_; clear n0_ n1_ n2_ n3_))))
            replace HO_379005 := za.mk (Kd.R_drew HO_379005.out)
            replace HO_379006 := za.mk (Kd.R_drew HO_379006.out)
            replace BK378 := za.mk (zkc BK378.out)
            replace HB := za.mk (zy HB.out)
            refine zsf (n := 9) (S := fun w' => True) (ds := []) #[false, false, false, false, false, false, false, false, false] (by kernel_rfl) rfl rfl trivial (fun hHeld => ?_); refine zhf zg.tab8 zg.bits8 (fun HT_ HW_ => ?_)
            generalize wc.drew = w42 at HO_379005 HO_379006 BK378 HB hHeld ⊢
            refine pure_ (i := 0) (N := some 55) (v := ?_) (a' := ?_) #[true, false, false, false, false, false, false, false, false] rfl rfl (zpb HT_.out (by kernel_rfl)) (fun _ _ _ h => h) (Or.inl ⟨by rfl, ?_⟩) ?_ ?_
            rotate_left
            ·intro w'
             go_simp
             with_reducible rfl
            rotate_left
            ·simp only [Act.put, List.setIfInBounds_toArray, List.set_cons_zero, List.set_cons_succ, i64_w, i32_w]
             rfl
            refine pure_ (i := 1) (N := some 56) (v := ?_) (a' := ?_) #[true, true, false, false, false, false, false, false, false] rfl rfl (zpb HT_.out (by kernel_rfl)) (fun _ _ _ h => h) (Or.inl ⟨by rfl, ?_⟩) ?_ ?_
            rotate_left
            ·intro w'
             go_simp
             with_reducible rfl
            rotate_left
            ·simp only [Act.put, List.setIfInBounds_toArray, List.set_cons_zero, List.set_cons_succ, i64_w, i32_w]
             rfl
            refine pure_ (i := 2) (N := some 57) (v := ?_) (a' := ?_) #[true, true, true, false, false, false, false, false, false] rfl rfl (zpb HT_.out (by kernel_rfl)) (fun _ _ _ h => h) (Or.inl ⟨by rfl, ?_⟩) ?_ ?_
            rotate_left
            ·intro w'
             go_simp
             with_reducible rfl
            rotate_left
            ·simp only [Act.put, List.setIfInBounds_toArray, List.set_cons_zero, List.set_cons_succ, i64_w, i32_w]
             rfl
            refine pure_ (i := 3) (N := some 58) (v := ?_) (a' := ?_) #[true, true, true, true, false, false, false, false, false] rfl rfl (zpb HT_.out (by kernel_rfl)) (fun _ _ _ h => h) (Or.inl ⟨by rfl, ?_⟩) ?_ ?_
            rotate_left
            ·intro w'
             go_simp
             with_reducible rfl
            rotate_left
            ·simp only [Act.put, List.setIfInBounds_toArray, List.set_cons_zero, List.set_cons_succ, i64_w, i32_w]
             rfl
            refine pure_ (i := 4) (N := some 59) (v := ?_) (a' := ?_) #[true, true, true, true, true, false, false, false, false] rfl rfl (zpb HT_.out (by kernel_rfl)) (fun _ _ _ h => h) (Or.inl ⟨by rfl, ?_⟩) ?_ ?_
            rotate_left
            ·intro w'
             go_simp
             with_reducible rfl
            rotate_left
            ·simp only [Act.put, List.setIfInBounds_toArray, List.set_cons_zero, List.set_cons_succ, i64_w, i32_w]
             rfl
            refine pure_ (i := 5) (N := some 60) (v := ?_) (a' := ?_) #[true, true, true, true, true, true, false, false, false] rfl rfl (zpb HT_.out (by kernel_rfl)) (fun _ _ _ h => h) (Or.inl ⟨by rfl, ?_⟩) ?_ ?_
            rotate_left
            ·intro w'
             go_simp
             with_reducible rfl
            rotate_left
            ·simp only [Act.put, List.setIfInBounds_toArray, List.set_cons_zero, List.set_cons_succ, i64_w, i32_w]
             rfl
            refine pure_ (i := 6) (N := some 61) (v := ?_) (a' := ?_) #[true, true, true, true, true, true, true, false, false] rfl rfl (zpb HT_.out (by kernel_rfl)) (fun _ _ _ h => h) (Or.inl ⟨by rfl, ?_⟩) ?_ ?_
            rotate_left
            ·intro w'
             go_simp
             with_reducible rfl
            rotate_left
            ·simp only [Act.put, List.setIfInBounds_toArray, List.set_cons_zero, List.set_cons_succ, i64_w, i32_w]
             rfl
            refine one_ (i := 7) (N := none) #[true, true, true, true, true, true, true, true, false] rfl rfl (zpd HT_.out (by kernel_rfl)) (by decide) (fun K hK => ?_)
            have hs43 : w42.cell? ⟨gb378, 3, none⟩ = some (.string ⟨#[]⟩) := (zj BK378.out 3).trans rfl
            have hfs43 := zu BK378.out 3
            refine skip_ (w1 := ?_) (by rfl) rfl ?_ ?_
            rotate_left
            ·go_simp
             rfl
            refine hK.out _ _ trivial (fun hHeld => ?_)
            clear hK K
            refine pure_ (i := 8) (N := some 0) (v := ?_) (a' := ?_) #[true, true, true, true, true, true, true, true, true] rfl rfl (zpb HT_.out (by kernel_rfl)) (fun _ _ _ h => h) (Or.inl ⟨by rfl, ?_⟩) ?_ ?_
            rotate_left
            ·intro w'
             go_simp
             with_reducible rfl
            rotate_left
            ·simp only [Act.put, List.setIfInBounds_toArray, List.set_cons_zero, List.set_cons_succ, i64_w, i32_w]
             rfl
            refine done_ (ztg HT_.out (by kernel_rfl)) ?_
            try go_wp2
            go_meet
            case rel => exact ⟨_, (t384.extract ((ji37) : Int).toNat t384.size), (t384.extract 0 ((ji37) : Int).toNat), (by rfl), (by exact H'), ⟨by have := HJ2.out; have := HJ13.out; have := HJ21.out; first | omega | exact Nat.le_refl _⟩, ⟨by (with_reducible repeat (first | apply Kd.R_alloc | apply Kd.R_drewN | apply Kd.R_drew)); exact Kd.R_mono (farC (Kd.R_types HO_379005.out BK378.out (by decide))) (fun _ hk => trivial)⟩, ⟨by (with_reducible repeat (first | apply Kd.R_alloc | apply Kd.R_drewN | apply Kd.R_drew)); exact Kd.R_mono (farC (Kd.R_types HO_379006.out BK378.out (by decide))) (fun _ hk => trivial)⟩, ⟨by refine zv (cs := #[.string a0, .string ⟨#[]⟩, .string x379002_13, .string ⟨#[]⟩, .bool false, .slice Ao7 t379.length co7, .slice Ao24 t383.length co24, .bool true, .bool false, .string ⟨#[]⟩]) ?_ 3 _ rfl; exact BK378.out⟩, ⟨by (with_reducible refine zi ?_ GE378.out; with_reducible exact HB.out)⟩⟩
           ·rw [if_neg c39] at H
            exact absurd H (by simp)
          ·rw [if_neg c38] at H
           exact absurd H (by simp)
         ·rw [if_neg c35] at H
          exact absurd H (by simp)
        ·replace c34 := Bool.eq_false_iff.mpr c34
         subst c34
         have H1 : (zg.j3 kj21 t384 a0 (⟨#[]⟩ : ByteArray) x379002_13 (⟨#[]⟩ : ByteArray) false t379 t383 true false (⟨#[]⟩ : ByteArray)) = some (r1, r2, r3, r4, r5, r6, r7, r8, r9, r10, r11) := by rw [if_neg (show ¬ (false = true) by decide)] at H; exact H
         clear H
         have H := H1
         clear H1
         have H' := za.mk H
         clear H
         go_wp2
         go_meet
         case rel => exact ⟨_, (t384), ((⟨#[]⟩ : ByteArray)), (by rfl), (by exact H'), ⟨by have := HJ2.out; have := HJ13.out; have := HJ21.out; first | omega | exact Nat.le_refl _⟩, ⟨by (with_reducible repeat (first | apply Kd.R_alloc | apply Kd.R_drewN | apply Kd.R_drew)); exact HO_379005.out⟩, ⟨by (with_reducible repeat (first | apply Kd.R_alloc | apply Kd.R_drewN | apply Kd.R_drew)); exact HO_379006.out⟩, ⟨by exact BK378.out⟩, ⟨by (with_reducible exact HB.out)⟩⟩
       case rest =>
        clear HC33
        obtain ⟨kq, x0_32, x379003_32, rfl, HA, HJ32, HO_379005, HO_379006, BK378, HB⟩ := hcut
        cases kq with
        | zero => exact absurd HA.out (by simp [zg.j3])
        | succ kj32 =>
         have H := HA.out
         clear HA
         simp only [zg.j3] at H
         have HC44 := za.mk H
         clear H
         go_upto_region 9 with (fail)
         go_cut [62] (fun v62 wc => ∃ (kq : Nat) (x62_43 : Bool), v62 = .bool x62_43 ∧ za (zg.j4 kq x0_32 x62_43 a0 (⟨#[]⟩ : ByteArray) x379002_13 x379003_32 false t379 t383 true false (⟨#[]⟩ : ByteArray) = some (r1, r2, r3, r4, r5, r6, r7, r8, r9, r10, r11)) ∧ za (kq ≤ kj32) ∧ za (Kd.R k54 54 wc w.heap.size (fun _ => True) (.slice Ao7 t379.length co7) t379) ∧ za (Kd.R k58 58 wc w.heap.size (fun _ => True) (.slice Ao24 t383.length co24) t383) ∧ za (wc.heap[gb378]? = some (.cells #[.string a0, .string ⟨#[]⟩, .string x379002_13, .string x379003_32, .bool false, (.slice Ao7 t379.length co7), (.slice Ao24 t383.length co24), .bool true, .bool false, .string ⟨#[]⟩] 33 (0, 0))) ∧ za (Below w.heap.size w wc))
         case first =>
          have H := HC44.out
          clear HC44
          by_cases c45 : (x0_32.size : Int) > 1
          ·rw [if_pos c45] at H
           have c45b0 : decide (1 < (x0_32.size : Int)) = true := decide_eq_true c45
           have c45b1 : decide (1 < x0_32.size) = true := decide_eq_true (by omega)
           clear c45
           (first | rw [c45b0] | (simp only [i64_w, i32_w]; rw [c45b0]) | skip)
           by_cases c46 : 0 ≤ 2
           ·rw [if_pos c46] at H
            have c46b0 := eq_true c46
            have c46b1 : decide (0 ≤ 2) = true := decide_eq_true c46
            clear c46
            by_cases c47 : 2 ≤ (x0_32.size : Int)
            ·rw [if_pos c47] at H
             have c47b0 := eq_true c47
             have c47b1 : decide (2 ≤ (x0_32.size : Int)) = true := decide_eq_true c47
             clear c47
             have H' := za.mk H
             clear H
             go_wp2
             go_meet
             case rel => exact ⟨_, (((x0_32.extract 0 2).toList == ([45, 114] : List UInt8))), (by rfl), (by exact H'), ⟨by have := HJ2.out; have := HJ13.out; have := HJ21.out; have := HJ32.out; first | omega | exact Nat.le_refl _⟩, ⟨by (with_reducible repeat (first | apply Kd.R_alloc | apply Kd.R_drewN | apply Kd.R_drew)); exact HO_379005.out⟩, ⟨by (with_reducible repeat (first | apply Kd.R_alloc | apply Kd.R_drewN | apply Kd.R_drew)); exact HO_379006.out⟩, ⟨by exact BK378.out⟩, ⟨by (with_reducible exact HB.out)⟩⟩
            ·rw [if_neg c47] at H
             exact absurd H (by simp)
           ·rw [if_neg c46] at H
            exact absurd H (by simp)
          ·rw [if_neg c45] at H
           have c45b0 : decide (1 < (x0_32.size : Int)) = false := decide_eq_false c45
           have c45b1 : decide (1 < x0_32.size) = false := decide_eq_false (by omega)
           clear c45
           (first | rw [c45b0] | (simp only [i64_w, i32_w]; rw [c45b0]) | skip)
           have H' := za.mk H
           clear H
           go_wp2
           go_meet
           case rel => exact ⟨_, (false), (by rfl), (by exact H'), ⟨by have := HJ2.out; have := HJ13.out; have := HJ21.out; have := HJ32.out; first | omega | exact Nat.le_refl _⟩, ⟨by (with_reducible repeat (first | apply Kd.R_alloc | apply Kd.R_drewN | apply Kd.R_drew)); exact HO_379005.out⟩, ⟨by (with_reducible repeat (first | apply Kd.R_alloc | apply Kd.R_drewN | apply Kd.R_drew)); exact HO_379006.out⟩, ⟨by exact BK378.out⟩, ⟨by (with_reducible exact HB.out)⟩⟩
         case rest =>
          clear HC44
          obtain ⟨kq, x62_43, rfl, HA, HJ43, HO_379005, HO_379006, BK378, HB⟩ := hcut
          cases kq with
          | zero => exact absurd HA.out (by simp [zg.j4])
          | succ kj43 =>
           have H := HA.out
           clear HA
           simp only [zg.j4] at H
           by_cases c48 : x62_43 = true
           ·subst c48
            have H1 : (if 2 ≤ (x0_32.size : Int) then ((E1.zcb.f kj43 (x0_32.extract 2 x0_32.size)).bind fun t389 => (if 2 ≤ (wrap64 (2 + t389)) then (if (wrap64 (2 + t389)) ≤ (x0_32.size : Int) then ((zbb.f kj43 (x0_32.extract 2 ((wrap64 (2 + t389)) : Int).toNat)).bind fun bt390 => (if 0 ≤ (wrap64 (2 + t389)) then (some (a0, x0_32.extract ((wrap64 (2 + t389)) : Int).toNat x0_32.size, x379002_13, x379003_32, false, t379, t383, true, bt390.1, bt390.2, true)) else (none))) else (none)) else (none))) else (none)) = some (r1, r2, r3, r4, r5, r6, r7, r8, r9, r10, r11) := by rw [if_pos rfl] at H; exact H
            clear H
            have H := H1
            clear H1
            by_cases c49 : 2 ≤ (x0_32.size : Int)
            ·rw [if_pos c49] at H
             have c49b0 := eq_true c49
             have c49b1 : decide (2 ≤ (x0_32.size : Int)) = true := decide_eq_true c49
             clear c49
             replace H := Option.bind_eq_some_iff.mp H
             obtain ⟨t389, A500, H⟩ := H
             replace H : (if 2 ≤ (wrap64 (2 + t389)) then (if (wrap64 (2 + t389)) ≤ (x0_32.size : Int) then ((zbb.f kj43 (x0_32.extract 2 ((wrap64 (2 + t389)) : Int).toNat)).bind fun bt390 => (if 0 ≤ (wrap64 (2 + t389)) then (some (a0, x0_32.extract ((wrap64 (2 + t389)) : Int).toNat x0_32.size, x379002_13, x379003_32, false, t379, t383, true, bt390.1, bt390.2, true)) else (none))) else (none)) else (none)) = some (r1, r2, r3, r4, r5, r6, r7, r8, r9, r10, r11) := H
             have A50 := za.mk A500
             clear A500
             by_cases c51 : 2 ≤ (wrap64 (2 + t389))
             ·rw [if_pos c51] at H
              have c51b0 := eq_true c51
              have c51b1 : decide (2 ≤ (wrap64 (2 + t389))) = true := decide_eq_true c51
              by_cases c52 : (wrap64 (2 + t389)) ≤ (x0_32.size : Int)
              ·rw [if_pos c52] at H
               have c52b0 := eq_true c52
               have c52b1 : decide ((wrap64 (2 + t389)) ≤ (x0_32.size : Int)) = true := decide_eq_true c52
               replace H := Option.bind_eq_some_iff.mp H
               obtain ⟨⟨t390, t391⟩, A530, H⟩ := H
               replace H : (if 0 ≤ (wrap64 (2 + t389)) then (some (a0, x0_32.extract ((wrap64 (2 + t389)) : Int).toNat x0_32.size, x379002_13, x379003_32, false, t379, t383, true, t390, t391, true)) else (none)) = some (r1, r2, r3, r4, r5, r6, r7, r8, r9, r10, r11) := H
               have A53 := za.mk A530
               clear A530
               obtain ⟨ji54, hji54⟩ : ∃ j_ : Int, (wrap64 (2 + t389)) = j_ := ⟨_, rfl⟩
               (try rw [hji54] at hji37)
               (try rw [hji54] at hji37w)
               replace H : (if 0 ≤ (ji54) then (some (a0, x0_32.extract ((ji54) : Int).toNat x0_32.size, x379002_13, x379003_32, false, t379, t383, true, t390, t391, true)) else (none)) = some (r1, r2, r3, r4, r5, r6, r7, r8, r9, r10, r11) := by (rw [hji54] at H; exact H)
               (try rw [hji54] at c51b0)
               (try rw [hji54] at c51b1)
               (try rw [hji54] at c51)
               (try rw [hji54] at c52b0)
               (try rw [hji54] at c52b1)
               (try rw [hji54] at c52)
               (try rw [hji54] at A50)
               (try rw [hji54] at A53)
               have hji54w : (IntKind.i64.wrap (2 + t389)) = ji54 := (i64_w _).trans hji54
               by_cases c55 : 0 ≤ (ji54)
               ·rw [if_pos c55] at H
                have c55b0 := eq_true c55
                have c55b1 : decide (0 ≤ (ji54)) = true := decide_eq_true c55
                clear c55
                have c56b0 := eq_true (of_decide_eq_true (by (with_reducible assumption)) : (ji54) ≤ (x0_32.size : Int))
                simp only [Option.some.injEq, Prod.mk.injEq] at H
                obtain ⟨rfl, rfl, rfl, rfl, rfl, rfl, rfl, rfl, rfl, rfl, rfl⟩ := H
                try go_wp2_with (((with_reducible refine zab (f := 33) rfl ?_); refine zjc (some 73) rfl rfl Tryd.func33 (by kernel_rfl) rfl #[.string (x0_32.extract 2 x0_32.size), .func (.func 34) #[] #[]] rfl (by (try simp only [List.map_toArray, List.map_cons, List.map_nil]); first | done | rfl | (simp only [List.length_drop, List.length_take]; rfl)) ?_; (with_reducible refine (E1.zcb.calls kj43 (x0_32.extract 2 x0_32.size) t389 _ A50.out).mono ?_); rintro e w' ⟨rfl, ⟨nd, rfl⟩⟩; refine ⟨_, rfl, ?_⟩; (try (rw [zsd wc]; generalize hq_ : World.drewN wc _ = wc; have n0_ : za (Kd.R k54 54 wc w.heap.size (fun _ => True) (.slice Ao7 t379.length co7) t379) := ⟨by rw [← hq_]; exact (by (with_reducible repeat (first | apply Kd.R_alloc | apply Kd.R_drewN | apply Kd.R_drew)); exact HO_379005.out)⟩; have n1_ : za (Kd.R k58 58 wc w.heap.size (fun _ => True) (.slice Ao24 t383.length co24) t383) := ⟨by rw [← hq_]; exact (by (with_reducible repeat (first | apply Kd.R_alloc | apply Kd.R_drewN | apply Kd.R_drew)); exact HO_379006.out)⟩; have n2_ : za (wc.heap[gb378]? = some (.cells #[.string a0, .string ⟨#[]⟩, .string x379002_13, .string x379003_32, .bool false, .slice Ao7 t379.length co7, .slice Ao24 t383.length co24, .bool true, .bool false, .string ⟨#[]⟩] 33 (0, 0))) := ⟨by rw [← hq_]; exact (by (with_reducible (refine zz ?_ _)); exact BK378.out)⟩; have n3_ : za (Below w.heap.size w wc) := ⟨by rw [← hq_]; exact (by (with_reducible apply ze; with_reducible exact HB.out))⟩; clear HO_379005 HO_379006 BK378 HB hq_; have HO_379005 := n0_; have HO_379006 := n1_; have BK378 := n2_; have HB := n3_; clear n0_ n1_ n2_ n3_))))
                replace HO_379005 := za.mk (Kd.R_drew HO_379005.out)
                replace HO_379006 := za.mk (Kd.R_drew HO_379006.out)
                replace BK378 := za.mk (zkc BK378.out)
                replace HB := za.mk (zy HB.out)
                refine zsf (n := 13) (S := fun w' => True) (ds := []) #[false, false, false, false, false, false, false, false, false, false, false, false, false] (by kernel_rfl) rfl rfl trivial (fun hHeld => ?_); refine zhf zg.tab11 zg.bits11 (fun HT_ HW_ => ?_)
                generalize wc.drew = w57 at HO_379005 HO_379006 BK378 HB hHeld ⊢
                refine pure_ (i := 0) (N := some 74) (v := ?_) (a' := ?_) #[true, false, false, false, false, false, false, false, false, false, false, false, false] rfl rfl (zpb HT_.out (by kernel_rfl)) (fun _ _ _ h => h) (Or.inl ⟨by rfl, ?_⟩) ?_ ?_
                rotate_left
                ·intro w'
                 go_simp
                 with_reducible rfl
                rotate_left
                ·simp only [Act.put, List.setIfInBounds_toArray, List.set_cons_zero, List.set_cons_succ, i64_w, i32_w]
                 rfl
                refine pure_ (i := 1) (N := some 75) (v := ?_) (a' := ?_) #[true, true, false, false, false, false, false, false, false, false, false, false, false] rfl rfl (zpb HT_.out (by kernel_rfl)) (fun _ _ _ h => h) (Or.inl ⟨by rfl, ?_⟩) ?_ ?_
                rotate_left
                ·intro w'
                 go_simp
                 with_reducible rfl
                rotate_left
                ·simp only [Act.put, List.setIfInBounds_toArray, List.set_cons_zero, List.set_cons_succ, i64_w, i32_w]
                 rfl
                refine pure_ (i := 2) (N := some 76) (v := ?_) (a' := ?_) #[true, true, true, false, false, false, false, false, false, false, false, false, false] rfl rfl (zpb HT_.out (by kernel_rfl)) (fun _ _ _ h => h) (Or.inl ⟨by rfl, ?_⟩) ?_ ?_
                rotate_left
                ·intro w'
                 go_simp
                 with_reducible rfl
                rotate_left
                ·simp only [Act.put, List.setIfInBounds_toArray, List.set_cons_zero, List.set_cons_succ, i64_w, i32_w]
                 rfl
                refine pure_ (i := 3) (N := some 77) (v := ?_) (a' := ?_) #[true, true, true, true, false, false, false, false, false, false, false, false, false] rfl rfl (zpb HT_.out (by kernel_rfl)) (fun _ _ _ h => h) (Or.inl ⟨by rfl, ?_⟩) ?_ ?_
                rotate_left
                ·intro w'
                 go_simp
                 with_reducible rfl
                rotate_left
                ·simp only [Act.put, List.setIfInBounds_toArray, List.set_cons_zero, List.set_cons_succ, i64_w, i32_w]
                 rfl
                refine pure_ (i := 5) (N := some 79) (v := ?_) (a' := ?_) #[true, true, true, true, false, true, false, false, false, false, false, false, false] rfl rfl (zpb HT_.out (by kernel_rfl)) (fun _ _ _ h => h) (Or.inl ⟨by rfl, ?_⟩) ?_ ?_
                rotate_left
                ·intro w'
                 go_simp
                 with_reducible rfl
                rotate_left
                ·simp only [Act.put, List.setIfInBounds_toArray, List.set_cons_zero, List.set_cons_succ, i64_w, i32_w]
                 rfl
                refine pure_ (i := 6) (N := some 80) (v := ?_) (a' := ?_) #[true, true, true, true, false, true, true, false, false, false, false, false, false] rfl rfl (zpb HT_.out (by kernel_rfl)) (fun _ _ _ h => h) (Or.inl ⟨by rfl, ?_⟩) ?_ ?_
                rotate_left
                ·intro w'
                 go_simp
                 with_reducible rfl
                rotate_left
                ·simp only [Act.put, List.setIfInBounds_toArray, List.set_cons_zero, List.set_cons_succ, i64_w, i32_w]
                 rfl
                refine pure_ (i := 7) (N := some 81) (v := ?_) (a' := ?_) #[true, true, true, true, false, true, true, true, false, false, false, false, false] rfl rfl (zpb HT_.out (by kernel_rfl)) (fun _ _ _ h => h) (Or.inl ⟨by rfl, ?_⟩) ?_ ?_
                rotate_left
                ·intro w'
                 go_simp
                 with_reducible rfl
                rotate_left
                ·simp only [Act.put, List.setIfInBounds_toArray, List.set_cons_zero, List.set_cons_succ, i64_w, i32_w]
                 rfl
                refine pure_ (i := 8) (N := some 82) (v := ?_) (a' := ?_) #[true, true, true, true, false, true, true, true, true, false, false, false, false] rfl rfl (zpb HT_.out (by kernel_rfl)) (fun _ _ _ h => h) (Or.inl ⟨by rfl, ?_⟩) ?_ ?_
                rotate_left
                ·intro w'
                 go_simp
                 with_reducible rfl
                rotate_left
                ·simp only [Act.put, List.setIfInBounds_toArray, List.set_cons_zero, List.set_cons_succ, i64_w, i32_w]
                 rfl
                refine one_ (i := 4) (N := some 78) #[true, true, true, true, true, true, true, true, true, false, false, false, false] rfl rfl (zpd HT_.out (by kernel_rfl)) (by decide) (fun K hK => ?_)
                refine goes_ Tryd.func35 (by kernel_rfl) rfl #[.string (x0_32.extract 2 ((ji54) : Int).toNat)] (by rfl) rfl rfl (by (try simp only [List.map_toArray, List.map_cons, List.map_nil]); first | done | (simp only [hji54]; rfl) | rfl | (simp only [List.length_drop, List.length_take]; rfl)) ?_
                with_reducible refine (zbb.calls kj43 (x0_32.extract 2 ((ji54) : Int).toNat) t390 t391 _ A53.out).mono ?_
                rintro e w58 ⟨rfl, hb⟩
                refine ⟨_, rfl, ?_⟩
                replace HO_379005 := za.mk (Kd.R_below (by (with_reducible repeat (first | apply Kd.R_alloc | apply Kd.R_drewN | apply Kd.R_drew)); exact HO_379005.out) hb)
                replace HO_379006 := za.mk (Kd.R_below (by (with_reducible repeat (first | apply Kd.R_alloc | apply Kd.R_drewN | apply Kd.R_drew)); exact HO_379006.out) hb)
                replace BK378 := za.mk (zk BK378.out hb)
                replace HB := za.mk (zm (by (with_reducible exact HB.out)) hb)
                (try clear hb)
                (try clear hb2)
                (try clear hk)
                (try clear hi)
                refine hK.out _ _ trivial (fun hHeld => ?_)
                clear hK K
                refine norm_ (a' := ?_) ?_ ?_
                rotate_left
                ·show Act.put _ (some 78) _ = _
                 simp only [Act.put, List.setIfInBounds_toArray, List.set_cons_zero, List.set_cons_succ, i64_w, i32_w]
                 rfl
                refine pure_ (i := 9) (N := some 83) (v := ?_) (a' := ?_) #[true, true, true, true, true, true, true, true, true, true, false, false, false] rfl rfl (zpb HT_.out (by kernel_rfl)) (fun _ _ _ h => h) (Or.inl ⟨by rfl, ?_⟩) ?_ ?_
                rotate_left
                ·intro w'
                 go_simp
                 with_reducible rfl
                rotate_left
                ·simp only [Act.put, List.setIfInBounds_toArray, List.set_cons_zero, List.set_cons_succ, i64_w, i32_w]
                 rfl
                refine one_ (i := 10) (N := none) #[true, true, true, true, true, true, true, true, true, true, true, false, false] rfl rfl (zpd HT_.out (by kernel_rfl)) (by decide) (fun K hK => ?_)
                have hs59 : w58.cell? ⟨gb378, 8, none⟩ = some (.bool false) := (zj BK378.out 8).trans rfl
                have hfs59 := zu BK378.out 8
                have hs60 : w58.cell? ⟨gb378, 9, none⟩ = some (.string ⟨#[]⟩) := (zj BK378.out 9).trans rfl
                have hfs60 := zu BK378.out 9
                refine skip_ (w1 := ?_) (by rfl) rfl ?_ ?_
                rotate_left
                ·go_simp
                 rfl
                refine hK.out _ _ trivial (fun hHeld => ?_)
                clear hK K
                refine pure_ (i := 11) (N := some 84) (v := ?_) (a' := ?_) #[true, true, true, true, true, true, true, true, true, true, true, true, false] rfl rfl (zpb HT_.out (by kernel_rfl)) (fun _ _ _ h => h) (Or.inl ⟨by rfl, ?_⟩) ?_ ?_
                rotate_left
                ·intro w'
                 go_simp
                 with_reducible rfl
                rotate_left
                ·simp only [Act.put, List.setIfInBounds_toArray, List.set_cons_zero, List.set_cons_succ, i64_w, i32_w]
                 rfl
                refine one_ (i := 12) (N := none) #[true, true, true, true, true, true, true, true, true, true, true, true, true] rfl rfl (zpd HT_.out (by kernel_rfl)) (by decide) (fun K hK => ?_)
                have hs61 : w58.cell? ⟨gb378, 1, none⟩ = some (.string ⟨#[]⟩) := (zj BK378.out 1).trans rfl
                have hfs61 := zu BK378.out 1
                refine skip_ (w1 := ?_) (by rfl) rfl ?_ ?_
                rotate_left
                ·go_simp
                 rfl
                refine hK.out _ _ trivial (fun hHeld => ?_)
                clear hK K
                refine done_ (ztg HT_.out (by kernel_rfl)) ?_
                obtain ⟨hcz62_0, hcz62_1, hcz62_2, hcz62_3, hcz62_4, hcz62_5, hcz62_6, hcz62_7, hcz62_8, hcz62_9, hfz62_0, hfz62_1, hfz62_2, hfz62_3, hfz62_4, hfz62_5, hfz62_6, hfz62_7, hfz62_8, hfz62_9⟩ := cl10 BK378.out
                try go_wp2
                refine bodyPost_ret (zze rfl _ _ gb378 33 #[.string a0, .string (x0_32.extract ((ji54) : Int).toNat x0_32.size), .string x379002_13, .string x379003_32, .bool false, .slice Ao7 t379.length co7, .slice Ao24 t383.length co24, .bool true, .bool t390, .string t391] (0, 0) _ rfl (by refine zv (cs := #[.string a0, .string (x0_32.extract ((ji54) : Int).toNat x0_32.size), .string x379002_13, .string x379003_32, .bool false, .slice Ao7 t379.length co7, .slice Ao24 t383.length co24, .bool true, .bool t390, .string t391]) ?_ 9 _ rfl; refine zv (cs := #[.string a0, .string (x0_32.extract ((ji54) : Int).toNat x0_32.size), .string x379002_13, .string x379003_32, .bool false, .slice Ao7 t379.length co7, .slice Ao24 t383.length co24, .bool true, .bool t390, .string t391]) ?_ 8 _ rfl; refine zv (cs := #[.string a0, .string (x0_32.extract ((ji54) : Int).toNat x0_32.size), .string x379002_13, .string x379003_32, .bool false, .slice Ao7 t379.length co7, .slice Ao24 t383.length co24, .bool true, .bool t390, .string t391]) ?_ 7 _ rfl; refine zv (cs := #[.string a0, .string (x0_32.extract ((ji54) : Int).toNat x0_32.size), .string x379002_13, .string x379003_32, .bool false, .slice Ao7 t379.length co7, .slice Ao24 t383.length co24, .bool true, .bool t390, .string t391]) ?_ 6 _ rfl; refine zv (cs := #[.string a0, .string (x0_32.extract ((ji54) : Int).toNat x0_32.size), .string x379002_13, .string x379003_32, .bool false, .slice Ao7 t379.length co7, .slice Ao24 t383.length co24, .bool true, .bool t390, .string t391]) ?_ 5 _ rfl; refine zv (cs := #[.string a0, .string (x0_32.extract ((ji54) : Int).toNat x0_32.size), .string x379002_13, .string x379003_32, .bool false, .slice Ao7 t379.length co7, .slice Ao24 t383.length co24, .bool true, .bool t390, .string t391]) ?_ 4 _ rfl; refine zv (cs := #[.string a0, .string (x0_32.extract ((ji54) : Int).toNat x0_32.size), .string x379002_13, .string x379003_32, .bool false, .slice Ao7 t379.length co7, .slice Ao24 t383.length co24, .bool true, .bool t390, .string t391]) ?_ 3 _ rfl; refine zv (cs := #[.string a0, .string (x0_32.extract ((ji54) : Int).toNat x0_32.size), .string x379002_13, .string x379003_32, .bool false, .slice Ao7 t379.length co7, .slice Ao24 t383.length co24, .bool true, .bool t390, .string t391]) ?_ 2 _ rfl; refine zv (cs := #[.string a0, .string (x0_32.extract ((ji54) : Int).toNat x0_32.size), .string x379002_13, .string x379003_32, .bool false, .slice Ao7 t379.length co7, .slice Ao24 t383.length co24, .bool true, .bool t390, .string t391]) ?_ 1 _ rfl; refine zv (cs := #[.string a0, .string (x0_32.extract ((ji54) : Int).toNat x0_32.size), .string x379002_13, .string x379003_32, .bool false, .slice Ao7 t379.length co7, .slice Ao24 t383.length co24, .bool true, .bool t390, .string t391]) ?_ 0 _ rfl; refine zv (cs := #[.string a0, .string ⟨#[]⟩, .string x379002_13, .string x379003_32, .bool false, .slice Ao7 t379.length co7, .slice Ao24 t383.length co24, .bool true, .bool t390, .string t391]) ?_ 1 _ rfl; refine zv (cs := #[.string a0, .string ⟨#[]⟩, .string x379002_13, .string x379003_32, .bool false, .slice Ao7 t379.length co7, .slice Ao24 t383.length co24, .bool true, .bool t390, .string ⟨#[]⟩]) ?_ 9 _ rfl; refine zv (cs := #[.string a0, .string ⟨#[]⟩, .string x379002_13, .string x379003_32, .bool false, .slice Ao7 t379.length co7, .slice Ao24 t383.length co24, .bool true, .bool false, .string ⟨#[]⟩]) ?_ 8 _ rfl; exact BK378.out) Tryd.underlying33 rfl (by kernel_rfl)) rfl ?_
                exact ⟨_, _, by rfl, by (with_reducible repeat (first | apply Kd.R_alloc | apply Kd.R_drewN | apply Kd.R_drew)); exact Kd.R_mono (farC12 (farC (Kd.R_types HO_379005.out BK378.out (by decide)))) (fun _ hk => trivial), by (with_reducible repeat (first | apply Kd.R_alloc | apply Kd.R_drewN | apply Kd.R_drew)); exact Kd.R_mono (farC12 (farC (Kd.R_types HO_379006.out BK378.out (by decide)))) (fun _ hk => trivial), by repeat (first | (with_reducible first | exact HB.out | apply zo | apply ze | apply zy | refine zi ?_ GE378.out) | exact HB.out)⟩
               ·rw [if_neg c55] at H
                exact absurd H (by simp)
              ·rw [if_neg c52] at H
               exact absurd H (by simp)
             ·rw [if_neg c51] at H
              exact absurd H (by simp)
            ·rw [if_neg c49] at H
             exact absurd H (by simp)
           ·replace c48 := Bool.eq_false_iff.mpr c48
            subst c48
            have H1 : (if x0_32.toList = ([] : List UInt8) then (some (a0, (⟨#[]⟩ : ByteArray), x379002_13, x379003_32, false, t379, t383, true, false, (⟨#[]⟩ : ByteArray), true)) else (some (a0, x0_32, x379002_13, x379003_32, true, t379, t383, true, false, (⟨#[]⟩ : ByteArray), true))) = some (r1, r2, r3, r4, r5, r6, r7, r8, r9, r10, r11) := by rw [if_neg (show ¬ (false = true) by decide)] at H; exact H
            clear H
            have H := H1
            clear H1
            by_cases c63 : x0_32.toList = ([] : List UInt8)
            ·rw [if_pos c63] at H
             have c63b0 : (x0_32.toList == ([] : List UInt8)) = true := beq_iff_eq.mpr c63
             have c63b1 : (x0_32.toList != ([] : List UInt8)) = false := bne_eq_false_iff_eq.mpr c63
             try have c63b9 : x0_32.toList.isEmpty = true := by simpa using c63b0
             clear c63
             simp only [Option.some.injEq, Prod.mk.injEq] at H
             obtain ⟨rfl, rfl, rfl, rfl, rfl, rfl, rfl, rfl, rfl, rfl, rfl⟩ := H
             obtain ⟨hcz64_0, hcz64_1, hcz64_2, hcz64_3, hcz64_4, hcz64_5, hcz64_6, hcz64_7, hcz64_8, hcz64_9, hfz64_0, hfz64_1, hfz64_2, hfz64_3, hfz64_4, hfz64_5, hfz64_6, hfz64_7, hfz64_8, hfz64_9⟩ := cl10 BK378.out
             go_wp2
             refine bodyPost_ret (zze rfl _ _ gb378 33 #[.string a0, .string ⟨#[]⟩, .string x379002_13, .string x379003_32, .bool false, .slice Ao7 t379.length co7, .slice Ao24 t383.length co24, .bool true, .bool false, .string ⟨#[]⟩] (0, 0) _ rfl (by exact put10 BK378.out) Tryd.underlying33 rfl (by kernel_rfl)) rfl ?_
             exact ⟨_, _, by rfl, by (with_reducible repeat (first | apply Kd.R_alloc | apply Kd.R_drewN | apply Kd.R_drew)); exact Kd.R_mono (zgc (Kd.R_types HO_379005.out BK378.out (by decide))) (fun _ hk => trivial), by (with_reducible repeat (first | apply Kd.R_alloc | apply Kd.R_drewN | apply Kd.R_drew)); exact Kd.R_mono (zgc (Kd.R_types HO_379006.out BK378.out (by decide))) (fun _ hk => trivial), by repeat (first | (with_reducible first | exact HB.out | apply zo | apply ze | apply zy | refine zi ?_ GE378.out) | exact HB.out)⟩
            ·rw [if_neg c63] at H
             have c63b0 : (x0_32.toList == ([] : List UInt8)) = false := beq_eq_false_iff_ne.mpr c63
             have c63b1 : (x0_32.toList != ([] : List UInt8)) = true := bne_iff_ne.mpr c63
             try have c63b9 : x0_32.toList.isEmpty = false := by simpa using c63b0
             simp only [Option.some.injEq, Prod.mk.injEq] at H
             obtain ⟨rfl, rfl, rfl, rfl, rfl, rfl, rfl, rfl, rfl, rfl, rfl⟩ := H
             obtain ⟨hcz65_0, hcz65_1, hcz65_2, hcz65_3, hcz65_4, hcz65_5, hcz65_6, hcz65_7, hcz65_8, hcz65_9, hfz65_0, hfz65_1, hfz65_2, hfz65_3, hfz65_4, hfz65_5, hfz65_6, hfz65_7, hfz65_8, hfz65_9⟩ := cl10 BK378.out
             go_wp2
             refine bodyPost_ret (zze rfl _ _ gb378 33 #[.string a0, .string x0_32, .string x379002_13, .string x379003_32, .bool true, .slice Ao7 t379.length co7, .slice Ao24 t383.length co24, .bool true, .bool false, .string ⟨#[]⟩] (0, 0) _ rfl (by refine zv (cs := #[.string a0, .string x0_32, .string x379002_13, .string x379003_32, .bool true, .slice Ao7 t379.length co7, .slice Ao24 t383.length co24, .bool true, .bool false, .string ⟨#[]⟩]) ?_ 9 _ rfl; refine zv (cs := #[.string a0, .string x0_32, .string x379002_13, .string x379003_32, .bool true, .slice Ao7 t379.length co7, .slice Ao24 t383.length co24, .bool true, .bool false, .string ⟨#[]⟩]) ?_ 8 _ rfl; refine zv (cs := #[.string a0, .string x0_32, .string x379002_13, .string x379003_32, .bool true, .slice Ao7 t379.length co7, .slice Ao24 t383.length co24, .bool true, .bool false, .string ⟨#[]⟩]) ?_ 7 _ rfl; refine zv (cs := #[.string a0, .string x0_32, .string x379002_13, .string x379003_32, .bool true, .slice Ao7 t379.length co7, .slice Ao24 t383.length co24, .bool true, .bool false, .string ⟨#[]⟩]) ?_ 6 _ rfl; refine zv (cs := #[.string a0, .string x0_32, .string x379002_13, .string x379003_32, .bool true, .slice Ao7 t379.length co7, .slice Ao24 t383.length co24, .bool true, .bool false, .string ⟨#[]⟩]) ?_ 5 _ rfl; refine zv (cs := #[.string a0, .string x0_32, .string x379002_13, .string x379003_32, .bool true, .slice Ao7 t379.length co7, .slice Ao24 t383.length co24, .bool true, .bool false, .string ⟨#[]⟩]) ?_ 4 _ rfl; refine zv (cs := #[.string a0, .string x0_32, .string x379002_13, .string x379003_32, .bool true, .slice Ao7 t379.length co7, .slice Ao24 t383.length co24, .bool true, .bool false, .string ⟨#[]⟩]) ?_ 3 _ rfl; refine zv (cs := #[.string a0, .string x0_32, .string x379002_13, .string x379003_32, .bool true, .slice Ao7 t379.length co7, .slice Ao24 t383.length co24, .bool true, .bool false, .string ⟨#[]⟩]) ?_ 2 _ rfl; refine zv (cs := #[.string a0, .string x0_32, .string x379002_13, .string x379003_32, .bool true, .slice Ao7 t379.length co7, .slice Ao24 t383.length co24, .bool true, .bool false, .string ⟨#[]⟩]) ?_ 1 _ rfl; refine zv (cs := #[.string a0, .string x0_32, .string x379002_13, .string x379003_32, .bool true, .slice Ao7 t379.length co7, .slice Ao24 t383.length co24, .bool true, .bool false, .string ⟨#[]⟩]) ?_ 0 _ rfl; refine zv (cs := #[.string a0, .string ⟨#[]⟩, .string x379002_13, .string x379003_32, .bool true, .slice Ao7 t379.length co7, .slice Ao24 t383.length co24, .bool true, .bool false, .string ⟨#[]⟩]) ?_ 1 _ rfl; refine zv (cs := #[.string a0, .string ⟨#[]⟩, .string x379002_13, .string x379003_32, .bool false, .slice Ao7 t379.length co7, .slice Ao24 t383.length co24, .bool true, .bool false, .string ⟨#[]⟩]) ?_ 4 _ rfl; exact BK378.out) Tryd.underlying33 rfl (by kernel_rfl)) rfl ?_
             exact ⟨_, _, by rfl, by (with_reducible repeat (first | apply Kd.R_alloc | apply Kd.R_drewN | apply Kd.R_drew)); exact Kd.R_mono (farC12 (Kd.R_types HO_379005.out BK378.out (by decide))) (fun _ hk => trivial), by (with_reducible repeat (first | apply Kd.R_alloc | apply Kd.R_drewN | apply Kd.R_drew)); exact Kd.R_mono (farC12 (Kd.R_types HO_379006.out BK378.out (by decide))) (fun _ hk => trivial), by repeat (first | (with_reducible first | exact HB.out | apply zo | apply ze | apply zy | refine zi ?_ GE378.out) | exact HB.out)⟩
end Go.Proofs.YtapaijpglfmfgaaDoor.Q
end
section
namespace Go.Proofs.YtapaijpglfmfgaaDoor.Q
open Go.RowKit YtapaijpglfmfgaaDoorH YtapaijpglfmfgaaDoorG YtapaijpglfmfgaaDoorW.PrintWords YtapaijpglfmfgaaDoorW.PrintLast YtapaijpglfmfgaaDoorW.PrintMore
attribute [local go_sem] zsc zrc zbd zad zic zhc zqc ztc
theorem eqA31 (d : Nat) (w : World) (x0 y0 : Bool) (x1 y1 : ByteArray) :
  (Op.equalIn (d + 2) 31 (.agg #[.bool x0, .string x1]) (.agg #[.bool y0, .string y1])).run Tryd.prog w = .ok (x0 == y0 && (x1.toList == y1.toList)) w := by
 refine eqA_of Tryd.underlying31 (by kernel_rfl) ?_
 refine eqf_cons (by rfl) (by go_simp; rfl) (by go_simp; rfl) (by go_simp) ?_
 exact eqf_last (by rfl) (by go_simp; rfl) (by go_simp; rfl) (by go_simp)
end Go.Proofs.YtapaijpglfmfgaaDoor.Q
end
section
namespace Go.Proofs.YtapaijpglfmfgaaDoor.Q
open Go.RowKit YtapaijpglfmfgaaDoorH YtapaijpglfmfgaaDoorG YtapaijpglfmfgaaDoorW.PrintWords YtapaijpglfmfgaaDoorW.PrintLast YtapaijpglfmfgaaDoorW.PrintMore
attribute [local go_sem] zsc zrc zbd zad zic zhc zqc ztc
theorem eqA54 (d : Nat) (w : World) (x0 y0 : ByteArray) (x1 y1 : Bool) (x2 y2 : ByteArray) (x3 y3 : Int) :
  (Op.equalIn (d + 3) 54 (.agg #[.string x0, .bool x1, .string x2, .int .i64 x3]) (.agg #[.string y0, .bool y1, .string y2, .int .i64 y3])).run Tryd.prog w = .ok (x0.toList == y0.toList && ((x1 == y1 && (x2.toList == y2.toList)) && (x3 == y3))) w := by
 refine eqA_of Tryd.underlying54 (by kernel_rfl) ?_
 refine eqf_cons (by rfl) (by go_simp; rfl) (by go_simp; rfl) (by go_simp) ?_
 refine eqf_cons (by rfl) (by go_simp) (by go_simp) (eqA31 (d + 0) w _ _ _ _) ?_
 exact eqf_last (by rfl) (by go_simp; rfl) (by go_simp; rfl) (by go_simp)
end Go.Proofs.YtapaijpglfmfgaaDoor.Q
end
section
namespace Go.Proofs.YtapaijpglfmfgaaDoor.Q
open Go.RowKit YtapaijpglfmfgaaDoorH YtapaijpglfmfgaaDoorG YtapaijpglfmfgaaDoorW.PrintWords YtapaijpglfmfgaaDoorW.PrintLast YtapaijpglfmfgaaDoorW.PrintMore
attribute [local go_sem] zsc zrc zbd zad zic zhc zqc ztc
theorem eqA58 (d : Nat) (w : World) (x0 y0 : Int) (x1 y1 : Bool) (x2 y2 : ByteArray) :
  (Op.equalIn (d + 3) 58 (.agg #[.int .i64 x0, .bool x1, .string x2]) (.agg #[.int .i64 y0, .bool y1, .string y2])).run Tryd.prog w = .ok (x0 == y0 && ((x1 == y1 && (x2.toList == y2.toList)))) w := by
 refine eqA_of Tryd.underlying58 (by kernel_rfl) ?_
 refine eqf_cons (by rfl) (by go_simp; rfl) (by go_simp; rfl) (by go_simp) ?_
 exact eqf_last (by rfl) (by go_simp) (by go_simp) (eqA31 (d + 0) w _ _ _ _)
end Go.Proofs.YtapaijpglfmfgaaDoor.Q
end
section
namespace Go.Proofs.YtapaijpglfmfgaaDoor.Q
open Go.RowKit YtapaijpglfmfgaaDoorH YtapaijpglfmfgaaDoorG YtapaijpglfmfgaaDoorW.PrintWords YtapaijpglfmfgaaDoorW.PrintLast YtapaijpglfmfgaaDoorW.PrintMore YtapaijpglfmfgaaDoorC
attribute [local go_sem] zsc zrc zbd zad zic zhc zqc ztc
attribute [local go_sem high] eqA31 eqA54 eqA58
mutual
def zx.j0 : Nat → Bool → ByteArray → ByteArray → ByteArray → ByteArray → Bool → List (S54) → List (S58) → Bool → Bool → ByteArray → ByteArray → ByteArray → ByteArray → ByteArray → Bool → List (S54) → List (S58) → Bool → Bool → ByteArray → Option (Bool)
 | 0, _, _, _, _, _, _, _, _, _, _, _, _, _, _, _, _, _, _, _, _, _ => none
 | k + 1, x53, x393000, x393001, x393002, x393003, x393004, x393005, x393006, x393007, x393008, x393009, x394000, x394001, x394002, x394003, x394004, x394005, x394006, x394007, x394008, x394009 => if x53 = true then (some false) else (if (x393005.length : Int) = (x394005.length : Int) then (zx.j1 k ((x393006.length : Int) != (x394006.length : Int)) x393000 x393001 x393002 x393003 x393004 x393005 x393006 x393007 x393008 x393009 x394000 x394001 x394002 x394003 x394004 x394005 x394006 x394007 x394008 x394009) else (zx.j1 k true x393000 x393001 x393002 x393003 x393004 x393005 x393006 x393007 x393008 x393009 x394000 x394001 x394002 x394003 x394004 x394005 x394006 x394007 x394008 x394009))
def zx.j1 : Nat → Bool → ByteArray → ByteArray → ByteArray → ByteArray → Bool → List (S54) → List (S58) → Bool → Bool → ByteArray → ByteArray → ByteArray → ByteArray → ByteArray → Bool → List (S54) → List (S58) → Bool → Bool → ByteArray → Option (Bool)
 | 0, _, _, _, _, _, _, _, _, _, _, _, _, _, _, _, _, _, _, _, _, _ => none
 | k + 1, x69, x393000, x393001, x393002, x393003, x393004, x393005, x393006, x393007, x393008, x393009, x394000, x394001, x394002, x394003, x394004, x394005, x394006, x394007, x394008, x394009 => if x69 = true then (some false) else (zx.l0 k (x393005.length : Int) 0 x393000 x393001 x393002 x393003 x393004 x393005 x393006 x393007 x393008 x393009 x394000 x394001 x394002 x394003 x394004 x394005 x394006 x394007 x394008 x394009)
def zx.l0 : Nat → Int → Int → ByteArray → ByteArray → ByteArray → ByteArray → Bool → List (S54) → List (S58) → Bool → Bool → ByteArray → ByteArray → ByteArray → ByteArray → ByteArray → Bool → List (S54) → List (S58) → Bool → Bool → ByteArray → Option (Bool)
 | 0, _, _, _, _, _, _, _, _, _, _, _, _, _, _, _, _, _, _, _, _, _, _ => none
 | k + 1, x72, x73, x393000, x393001, x393002, x393003, x393004, x393005, x393006, x393007, x393008, x393009, x394000, x394001, x394002, x394003, x394004, x394005, x394006, x394007, x394008, x394009 => if x73 < x72 then (if 0 ≤ x73 then (if x73 < (x393005.length : Int) then (if x73 < (x394005.length : Int) then (if (!((((zxc x393005 x73).f0).toList) == (((zxc x394005 x73).f0).toList)) || ((!(((zxc x393005 x73).f1.f0) == ((zxc x394005 x73).f1.f0)) || (!((((zxc x393005 x73).f1.f1).toList) == (((zxc x394005 x73).f1.f1).toList)))) || (!(((zxc x393005 x73).f2) == ((zxc x394005 x73).f2))))) = true then (some false) else (zx.l0 k x72 (wrap64 (x73 + 1)) x393000 x393001 x393002 x393003 x393004 x393005 x393006 x393007 x393008 x393009 x394000 x394001 x394002 x394003 x394004 x394005 x394006 x394007 x394008 x394009)) else (none)) else (none)) else (none)) else (zx.l1 k (x393006.length : Int) 0 x393000 x393001 x393002 x393003 x393004 x393005 x393006 x393007 x393008 x393009 x394000 x394001 x394002 x394003 x394004 x394005 x394006 x394007 x394008 x394009)
def zx.l1 : Nat → Int → Int → ByteArray → ByteArray → ByteArray → ByteArray → Bool → List (S54) → List (S58) → Bool → Bool → ByteArray → ByteArray → ByteArray → ByteArray → ByteArray → Bool → List (S54) → List (S58) → Bool → Bool → ByteArray → Option (Bool)
 | 0, _, _, _, _, _, _, _, _, _, _, _, _, _, _, _, _, _, _, _, _, _, _ => none
 | k + 1, x90, x91, x393000, x393001, x393002, x393003, x393004, x393005, x393006, x393007, x393008, x393009, x394000, x394001, x394002, x394003, x394004, x394005, x394006, x394007, x394008, x394009 => if x91 < x90 then (if 0 ≤ x91 then (if x91 < (x393006.length : Int) then (if x91 < (x394006.length : Int) then (if (!(((zkd x393006 x91).f0) == ((zkd x394006 x91).f0)) || ((!(((zkd x393006 x91).f1.f0) == ((zkd x394006 x91).f1.f0)) || (!((((zkd x393006 x91).f1.f1).toList) == (((zkd x394006 x91).f1.f1).toList)))))) = true then (some false) else (zx.l1 k x90 (wrap64 (x91 + 1)) x393000 x393001 x393002 x393003 x393004 x393005 x393006 x393007 x393008 x393009 x394000 x394001 x394002 x394003 x394004 x394005 x394006 x394007 x394008 x394009)) else (none)) else (none)) else (none)) else (some true)
end
def zx.f (k : Nat) (a0_0 : ByteArray) (a0_1 : ByteArray) (a0_2 : ByteArray) (a0_3 : ByteArray) (a0_4 : Bool) (l0_5 : List (S54)) (l0_6 : List (S58)) (a0_7 : Bool) (a0_8 : Bool) (a0_9 : ByteArray) (a1_0 : ByteArray) (a1_1 : ByteArray) (a1_2 : ByteArray) (a1_3 : ByteArray) (a1_4 : Bool) (l1_5 : List (S54)) (l1_6 : List (S58)) (a1_7 : Bool) (a1_8 : Bool) (a1_9 : ByteArray) : Option (Bool) := if a0_0.toList = a1_0.toList then (if a0_1.toList = a1_1.toList then (if a0_2.toList = a1_2.toList then (if a0_3.toList = a1_3.toList then (if (a0_4 != a1_4) = true then (zx.j0 k true a0_0 a0_1 a0_2 a0_3 a0_4 l0_5 l0_6 a0_7 a0_8 a0_9 a1_0 a1_1 a1_2 a1_3 a1_4 l1_5 l1_6 a1_7 a1_8 a1_9) else (if (a0_7 != a1_7) = true then (zx.j0 k true a0_0 a0_1 a0_2 a0_3 a0_4 l0_5 l0_6 a0_7 a0_8 a0_9 a1_0 a1_1 a1_2 a1_3 a1_4 l1_5 l1_6 a1_7 a1_8 a1_9) else (zx.j0 k (!(a0_8 == a1_8) || (!(a0_9.toList == a1_9.toList))) a0_0 a0_1 a0_2 a0_3 a0_4 l0_5 l0_6 a0_7 a0_8 a0_9 a1_0 a1_1 a1_2 a1_3 a1_4 l1_5 l1_6 a1_7 a1_8 a1_9))) else (zx.j0 k true a0_0 a0_1 a0_2 a0_3 a0_4 l0_5 l0_6 a0_7 a0_8 a0_9 a1_0 a1_1 a1_2 a1_3 a1_4 l1_5 l1_6 a1_7 a1_8 a1_9)) else (zx.j0 k true a0_0 a0_1 a0_2 a0_3 a0_4 l0_5 l0_6 a0_7 a0_8 a0_9 a1_0 a1_1 a1_2 a1_3 a1_4 l1_5 l1_6 a1_7 a1_8 a1_9)) else (zx.j0 k true a0_0 a0_1 a0_2 a0_3 a0_4 l0_5 l0_6 a0_7 a0_8 a0_9 a1_0 a1_1 a1_2 a1_3 a1_4 l1_5 l1_6 a1_7 a1_8 a1_9)) else (zx.j0 k true a0_0 a0_1 a0_2 a0_3 a0_4 l0_5 l0_6 a0_7 a0_8 a0_9 a1_0 a1_1 a1_2 a1_3 a1_4 l1_5 l1_6 a1_7 a1_8 a1_9)
theorem zx.calls (k : Nat) (a0_0 : ByteArray) (a0_1 : ByteArray) (a0_2 : ByteArray) (a0_3 : ByteArray) (a0_4 : Bool) (A0_5 : Option Addr) (c0_5 : Nat) (l0_5 : List (S54)) (A0_6 : Option Addr) (c0_6 : Nat) (l0_6 : List (S58)) (a0_7 : Bool) (a0_8 : Bool) (a0_9 : ByteArray) (a1_0 : ByteArray) (a1_1 : ByteArray) (a1_2 : ByteArray) (a1_3 : ByteArray) (a1_4 : Bool) (A1_5 : Option Addr) (c1_5 : Nat) (l1_5 : List (S54)) (A1_6 : Option Addr) (c1_6 : Nat) (l1_6 : List (S58)) (a1_7 : Bool) (a1_8 : Bool) (a1_9 : ByteArray) (r : Bool) (w : World) (hr0_5 : Kd.C k54 w A0_5 l0_5.length l0_5) (hc0_5 : l0_5.length ≤ c0_5) (hr0_6 : Kd.C k58 w A0_6 l0_6.length l0_6) (hc0_6 : l0_6.length ≤ c0_6) (hr1_5 : Kd.C k54 w A1_5 l1_5.length l1_5) (hc1_5 : l1_5.length ≤ c1_5) (hr1_6 : Kd.C k58 w A1_6 l1_6.length l1_6) (hc1_6 : l1_6.length ≤ c1_6) (h : zx.f k a0_0 a0_1 a0_2 a0_3 a0_4 l0_5 l0_6 a0_7 a0_8 a0_9 a1_0 a1_1 a1_2 a1_3 a1_4 l1_5 l1_6 a1_7 a1_8 a1_9 = some r) :
  Calls Tryd.prog 14 #[.agg #[.string a0_0, .string a0_1, .string a0_2, .string a0_3, .bool a0_4, .slice A0_5 l0_5.length c0_5, .slice A0_6 l0_6.length c0_6, .bool a0_7, .bool a0_8, .string a0_9], .agg #[.string a1_0, .string a1_1, .string a1_2, .string a1_3, .bool a1_4, .slice A1_5 l1_5.length c1_5, .slice A1_6 l1_6.length c1_6, .bool a1_7, .bool a1_8, .string a1_9]] w fun e w' => e = .returned (.bool r) ∧ Below w.heap.size w w' := by
 have hu33 := Tryd.underlying33
 have hu31 := Tryd.underlying31
 have hu54 := Tryd.underlying54
 have hu58 := Tryd.underlying58
 have HR0_5 := za.mk hr0_5
 have HC0_5 := za.mk hc0_5
 clear hr0_5 hc0_5
 have HR0_6 := za.mk hr0_6
 have HC0_6 := za.mk hc0_6
 clear hr0_6 hc0_6
 have HR1_5 := za.mk hr1_5
 have HC1_5 := za.mk hc1_5
 clear hr1_5 hc1_5
 have HR1_6 := za.mk hr1_6
 have HC1_6 := za.mk hc1_6
 clear hr1_6 hc1_6
 have HB := za.mk (Below.refl w.heap.size w)
 have H : (if a0_0.toList = a1_0.toList then (if a0_1.toList = a1_1.toList then (if a0_2.toList = a1_2.toList then (if a0_3.toList = a1_3.toList then (if (a0_4 != a1_4) = true then (zx.j0 k true a0_0 a0_1 a0_2 a0_3 a0_4 l0_5 l0_6 a0_7 a0_8 a0_9 a1_0 a1_1 a1_2 a1_3 a1_4 l1_5 l1_6 a1_7 a1_8 a1_9) else (if (a0_7 != a1_7) = true then (zx.j0 k true a0_0 a0_1 a0_2 a0_3 a0_4 l0_5 l0_6 a0_7 a0_8 a0_9 a1_0 a1_1 a1_2 a1_3 a1_4 l1_5 l1_6 a1_7 a1_8 a1_9) else (zx.j0 k (!(a0_8 == a1_8) || (!(a0_9.toList == a1_9.toList))) a0_0 a0_1 a0_2 a0_3 a0_4 l0_5 l0_6 a0_7 a0_8 a0_9 a1_0 a1_1 a1_2 a1_3 a1_4 l1_5 l1_6 a1_7 a1_8 a1_9))) else (zx.j0 k true a0_0 a0_1 a0_2 a0_3 a0_4 l0_5 l0_6 a0_7 a0_8 a0_9 a1_0 a1_1 a1_2 a1_3 a1_4 l1_5 l1_6 a1_7 a1_8 a1_9)) else (zx.j0 k true a0_0 a0_1 a0_2 a0_3 a0_4 l0_5 l0_6 a0_7 a0_8 a0_9 a1_0 a1_1 a1_2 a1_3 a1_4 l1_5 l1_6 a1_7 a1_8 a1_9)) else (zx.j0 k true a0_0 a0_1 a0_2 a0_3 a0_4 l0_5 l0_6 a0_7 a0_8 a0_9 a1_0 a1_1 a1_2 a1_3 a1_4 l1_5 l1_6 a1_7 a1_8 a1_9)) else (zx.j0 k true a0_0 a0_1 a0_2 a0_3 a0_4 l0_5 l0_6 a0_7 a0_8 a0_9 a1_0 a1_1 a1_2 a1_3 a1_4 l1_5 l1_6 a1_7 a1_8 a1_9)) = some r := h
 clear h
 have HC3 := za.mk H
 clear H
 go_enter Tryd.func14, Tryd.ntmps14
 go_upto_region 1 with (first | ((with_reducible refine zjb (N := 2) rfl ?_); (try (refine zyb (by rfl) ?_; dsimp only)); refine zec ?hg (N := 2) ?hd (cs := #[.string a0_0, .string a0_1, .string a0_2, .string a0_3, .bool a0_4, .slice A0_5 l0_5.length c0_5, .slice A0_6 l0_6.length c0_6, .bool a0_7, .bool a0_8, .string a0_9]) (t := 33) ?hr ?_; (case hd => rfl); (case hg => rfl); (case hr => first | (go_simp; done) | (go_simp; rfl)); intro gb392 hg w4 hbox hb; have BK392 := za.mk hbox; have GW392 := za.mk ((by rw [hg]; exact (zl (by (with_reducible exact HB.out))) : w.heap.size ≤ gb392)); have GE392 := za.mk ((by rw [hg]; exact (zl (by (with_reducible exact HB.out))) : w.heap.size ≤ gb392)); replace HB := za.mk (zm (by (with_reducible exact HB.out)) hb); clear hb hbox hg) | ((with_reducible refine zjb (N := 3) rfl ?_); (try (refine zyb (by rfl) ?_; dsimp only)); refine zec ?hg (N := 3) ?hd (cs := #[.string a1_0, .string a1_1, .string a1_2, .string a1_3, .bool a1_4, .slice A1_5 l1_5.length c1_5, .slice A1_6 l1_6.length c1_6, .bool a1_7, .bool a1_8, .string a1_9]) (t := 33) ?hr ?_; (case hd => rfl); (case hg => rfl); (case hr => first | (go_simp; done) | (go_simp; rfl)); intro gb393 hg w5 hbox hb; have n0_ := za.mk (zk BK392.out hb); have n1_ := za.mk (zm (by (with_reducible exact HB.out)) hb); have n2_ := za.mk hbox; have n3_ := za.mk ((by rw [hg]; exact (zl (by (with_reducible exact HB.out))) : w.heap.size ≤ gb393)); have n4_ := za.mk ((by rw [hg]; exact (zl (by (with_reducible exact HB.out))) : w.heap.size ≤ gb393)); have n5_ := za.mk ((by rw [hg]; exact Nat.ne_of_lt (zac BK392.out) : gb392 ≠ gb393)); have n6_ := za.mk ((by rw [hg]; exact Nat.ne_of_gt (zac BK392.out) : gb393 ≠ gb392)); clear BK392; clear HB; have BK392 := n0_; have HB := n1_; have BK393 := n2_; have GW393 := n3_; have GE393 := n4_; have NB392_393 := n5_; have NB393_392 := n6_; clear n0_ n1_ n2_ n3_ n4_ n5_ n6_; clear hb hbox hg))
 repeat (go_quiet (fail); go_upto_region 1 with (fail))
 (try simp only [Act.put, List.setIfInBounds_toArray, List.set_cons_zero, List.set_cons_succ])
 go_cut [53] (fun v53 wc => ∃ (kq : Nat) (x53_2 : Bool), v53 = .bool x53_2 ∧ za (zx.j0 kq x53_2 a0_0 a0_1 a0_2 a0_3 a0_4 l0_5 l0_6 a0_7 a0_8 a0_9 a1_0 a1_1 a1_2 a1_3 a1_4 l1_5 l1_6 a1_7 a1_8 a1_9 = some r) ∧ za (kq ≤ k) ∧ za (wc.heap[gb392]? = some (.cells #[.string a0_0, .string a0_1, .string a0_2, .string a0_3, .bool a0_4, (.slice A0_5 l0_5.length c0_5), (.slice A0_6 l0_6.length c0_6), .bool a0_7, .bool a0_8, .string a0_9] 33 (0, 0))) ∧ za (wc.heap[gb393]? = some (.cells #[.string a1_0, .string a1_1, .string a1_2, .string a1_3, .bool a1_4, (.slice A1_5 l1_5.length c1_5), (.slice A1_6 l1_6.length c1_6), .bool a1_7, .bool a1_8, .string a1_9] 33 (0, 0))) ∧ za (Below w.heap.size w wc))
 case first =>
  have H := HC3.out
  clear HC3
  by_cases c6 : a0_0.toList = a1_0.toList
  ·rw [if_pos c6] at H
   have c6b0 : (a0_0.toList == a1_0.toList) = true := beq_iff_eq.mpr c6
   have c6b1 : (a0_0.toList != a1_0.toList) = false := bne_eq_false_iff_eq.mpr c6
   clear c6
   (first | rw [c6b0] | (simp only [i64_w, i32_w]; rw [c6b0]) | skip)
   by_cases c7 : a0_1.toList = a1_1.toList
   ·rw [if_pos c7] at H
    have c7b0 : (a0_1.toList == a1_1.toList) = true := beq_iff_eq.mpr c7
    have c7b1 : (a0_1.toList != a1_1.toList) = false := bne_eq_false_iff_eq.mpr c7
    clear c7
    by_cases c8 : a0_2.toList = a1_2.toList
    ·rw [if_pos c8] at H
     have c8b0 : (a0_2.toList == a1_2.toList) = true := beq_iff_eq.mpr c8
     have c8b1 : (a0_2.toList != a1_2.toList) = false := bne_eq_false_iff_eq.mpr c8
     clear c8
     by_cases c9 : a0_3.toList = a1_3.toList
     ·rw [if_pos c9] at H
      have c9b0 : (a0_3.toList == a1_3.toList) = true := beq_iff_eq.mpr c9
      have c9b1 : (a0_3.toList != a1_3.toList) = false := bne_eq_false_iff_eq.mpr c9
      clear c9
      by_cases c10 : (a0_4 != a1_4) = true
      ·rw [if_pos c10] at H
       have c10b0 : (a0_4 != a1_4) = true := c10
       (try (have c10b1 : decide (a0_4 = a1_4) = false := by simpa using c10))
       (try (have c10b2 : (a0_4 == a1_4) = false := by simpa using c10))
       (try (have c10b3 : ¬ (a0_4 = a1_4) := by simpa using c10))
       clear c10
       have H' := za.mk H
       clear H
       have hnb11 := NB392_393.out
       have hnc11 := NB393_392.out
       obtain ⟨hcz12_0, hcz12_1, hcz12_2, hcz12_3, hcz12_4, hcz12_5, hcz12_6, hcz12_7, hcz12_8, hcz12_9, _⟩ := cl10 BK392.out
       obtain ⟨hcz13_0, hcz13_1, hcz13_2, hcz13_3, hcz13_4, hcz13_5, hcz13_6, hcz13_7, hcz13_8, hcz13_9, _⟩ := cl10 BK393.out
       go_wp2
       repeat (go_quiet (fail); try go_wp2)
       go_meet
       case rel => exact ⟨_, (true), (by rfl), H', ⟨by omega⟩, ⟨by exact BK392.out⟩, ⟨by exact BK393.out⟩, ⟨by (with_reducible exact HB.out)⟩⟩
      ·rw [if_neg c10] at H
       have c10b0 : (a0_4 != a1_4) = false := by simpa using c10
       (try (have c10b1 : decide (a0_4 = a1_4) = true := by simpa using c10))
       (try (have c10b2 : (a0_4 == a1_4) = true := by simpa using c10))
       clear c10
       by_cases c14 : (a0_7 != a1_7) = true
       ·rw [if_pos c14] at H
        have c14b0 : (a0_7 != a1_7) = true := c14
        (try (have c14b1 : decide (a0_7 = a1_7) = false := by simpa using c14))
        (try (have c14b2 : (a0_7 == a1_7) = false := by simpa using c14))
        (try (have c14b3 : ¬ (a0_7 = a1_7) := by simpa using c14))
        clear c14
        have H' := za.mk H
        clear H
        have hnb15 := NB392_393.out
        have hnc15 := NB393_392.out
        obtain ⟨hcz16_0, hcz16_1, hcz16_2, hcz16_3, hcz16_4, hcz16_5, hcz16_6, hcz16_7, hcz16_8, hcz16_9, _⟩ := cl10 BK392.out
        obtain ⟨hcz17_0, hcz17_1, hcz17_2, hcz17_3, hcz17_4, hcz17_5, hcz17_6, hcz17_7, hcz17_8, hcz17_9, _⟩ := cl10 BK393.out
        go_wp2
        repeat (go_quiet (fail); try go_wp2)
        go_meet
        case rel => exact ⟨_, (true), (by rfl), H', ⟨by omega⟩, ⟨by exact BK392.out⟩, ⟨by exact BK393.out⟩, ⟨by (with_reducible exact HB.out)⟩⟩
       ·rw [if_neg c14] at H
        have c14b0 : (a0_7 != a1_7) = false := by simpa using c14
        (try (have c14b1 : decide (a0_7 = a1_7) = true := by simpa using c14))
        (try (have c14b2 : (a0_7 == a1_7) = true := by simpa using c14))
        clear c14
        have H' := za.mk H
        clear H
        have hnb18 := NB392_393.out
        have hnc18 := NB393_392.out
        obtain ⟨hcz19_0, hcz19_1, hcz19_2, hcz19_3, hcz19_4, hcz19_5, hcz19_6, hcz19_7, hcz19_8, hcz19_9, _⟩ := cl10 BK392.out
        obtain ⟨hcz20_0, hcz20_1, hcz20_2, hcz20_3, hcz20_4, hcz20_5, hcz20_6, hcz20_7, hcz20_8, hcz20_9, _⟩ := cl10 BK393.out
        go_wp2
        repeat (go_quiet (fail); try go_wp2)
        go_meet
        case rel => exact ⟨_, ((!(a0_8 == a1_8) || (!(a0_9.toList == a1_9.toList)))), (by rfl), H', ⟨by omega⟩, ⟨by exact BK392.out⟩, ⟨by exact BK393.out⟩, ⟨by (with_reducible exact HB.out)⟩⟩
     ·rw [if_neg c9] at H
      have c9b0 : (a0_3.toList == a1_3.toList) = false := beq_eq_false_iff_ne.mpr c9
      have c9b1 : (a0_3.toList != a1_3.toList) = true := bne_iff_ne.mpr c9
      have H' := za.mk H
      clear H
      have hnb21 := NB392_393.out
      have hnc21 := NB393_392.out
      obtain ⟨hcz22_0, hcz22_1, hcz22_2, hcz22_3, hcz22_4, hcz22_5, hcz22_6, hcz22_7, hcz22_8, hcz22_9, _⟩ := cl10 BK392.out
      obtain ⟨hcz23_0, hcz23_1, hcz23_2, hcz23_3, hcz23_4, hcz23_5, hcz23_6, hcz23_7, hcz23_8, hcz23_9, _⟩ := cl10 BK393.out
      go_wp2
      repeat (go_quiet (fail); try go_wp2)
      go_meet
      case rel => exact ⟨_, (true), (by rfl), H', ⟨by omega⟩, ⟨by exact BK392.out⟩, ⟨by exact BK393.out⟩, ⟨by (with_reducible exact HB.out)⟩⟩
    ·rw [if_neg c8] at H
     have c8b0 : (a0_2.toList == a1_2.toList) = false := beq_eq_false_iff_ne.mpr c8
     have c8b1 : (a0_2.toList != a1_2.toList) = true := bne_iff_ne.mpr c8
     have H' := za.mk H
     clear H
     have hnb24 := NB392_393.out
     have hnc24 := NB393_392.out
     obtain ⟨hcz25_0, hcz25_1, hcz25_2, hcz25_3, hcz25_4, hcz25_5, hcz25_6, hcz25_7, hcz25_8, hcz25_9, _⟩ := cl10 BK392.out
     obtain ⟨hcz26_0, hcz26_1, hcz26_2, hcz26_3, hcz26_4, hcz26_5, hcz26_6, hcz26_7, hcz26_8, hcz26_9, _⟩ := cl10 BK393.out
     go_wp2
     repeat (go_quiet (fail); try go_wp2)
     go_meet
     case rel => exact ⟨_, (true), (by rfl), H', ⟨by omega⟩, ⟨by exact BK392.out⟩, ⟨by exact BK393.out⟩, ⟨by (with_reducible exact HB.out)⟩⟩
   ·rw [if_neg c7] at H
    have c7b0 : (a0_1.toList == a1_1.toList) = false := beq_eq_false_iff_ne.mpr c7
    have c7b1 : (a0_1.toList != a1_1.toList) = true := bne_iff_ne.mpr c7
    have H' := za.mk H
    clear H
    have hnb27 := NB392_393.out
    have hnc27 := NB393_392.out
    obtain ⟨hcz28_0, hcz28_1, hcz28_2, hcz28_3, hcz28_4, hcz28_5, hcz28_6, hcz28_7, hcz28_8, hcz28_9, _⟩ := cl10 BK392.out
    obtain ⟨hcz29_0, hcz29_1, hcz29_2, hcz29_3, hcz29_4, hcz29_5, hcz29_6, hcz29_7, hcz29_8, hcz29_9, _⟩ := cl10 BK393.out
    go_wp2
    repeat (go_quiet (fail); try go_wp2)
    go_meet
    case rel => exact ⟨_, (true), (by rfl), H', ⟨by omega⟩, ⟨by exact BK392.out⟩, ⟨by exact BK393.out⟩, ⟨by (with_reducible exact HB.out)⟩⟩
  ·rw [if_neg c6] at H
   have c6b0 : (a0_0.toList == a1_0.toList) = false := beq_eq_false_iff_ne.mpr c6
   have c6b1 : (a0_0.toList != a1_0.toList) = true := bne_iff_ne.mpr c6
   (first | rw [c6b0] | (simp only [i64_w, i32_w]; rw [c6b0]) | skip)
   have H' := za.mk H
   clear H
   have hnb30 := NB392_393.out
   have hnc30 := NB393_392.out
   obtain ⟨hcz31_0, hcz31_1, hcz31_2, hcz31_3, hcz31_4, hcz31_5, hcz31_6, hcz31_7, hcz31_8, hcz31_9, _⟩ := cl10 BK392.out
   obtain ⟨hcz32_0, hcz32_1, hcz32_2, hcz32_3, hcz32_4, hcz32_5, hcz32_6, hcz32_7, hcz32_8, hcz32_9, _⟩ := cl10 BK393.out
   go_wp2
   repeat (go_quiet (fail); try go_wp2)
   go_meet
   case rel => exact ⟨_, (true), (by rfl), H', ⟨by omega⟩, ⟨by exact BK392.out⟩, ⟨by exact BK393.out⟩, ⟨by (with_reducible exact HB.out)⟩⟩
 case rest =>
  clear HC3
  obtain ⟨kq, x53_2, rfl, HA, HJ2, BK392, BK393, HB⟩ := hcut
  cases kq with
  | zero => exact absurd HA.out (by simp [zx.j0])
  | succ kj2 =>
   have H := HA.out
   clear HA
   simp only [zx.j0] at H
   by_cases c33 : x53_2 = true
   ·subst c33
    have H1 : (some false) = some r := by rw [if_pos rfl] at H; exact H
    clear H
    have H := H1
    clear H1
    obtain rfl := Option.some.inj H
    go_wp2
    repeat (go_quiet (fail); try go_wp2)
    go_ret
    exact ⟨by rfl, by (with_reducible exact HB.out)⟩
   ·replace c33 := Bool.eq_false_iff.mpr c33
    subst c33
    have H1 : (if (l0_5.length : Int) = (l1_5.length : Int) then (zx.j1 kj2 ((l0_6.length : Int) != (l1_6.length : Int)) a0_0 a0_1 a0_2 a0_3 a0_4 l0_5 l0_6 a0_7 a0_8 a0_9 a1_0 a1_1 a1_2 a1_3 a1_4 l1_5 l1_6 a1_7 a1_8 a1_9) else (zx.j1 kj2 true a0_0 a0_1 a0_2 a0_3 a0_4 l0_5 l0_6 a0_7 a0_8 a0_9 a1_0 a1_1 a1_2 a1_3 a1_4 l1_5 l1_6 a1_7 a1_8 a1_9)) = some r := by rw [if_neg (show ¬ (false = true) by decide)] at H; exact H
    clear H
    have H := H1
    clear H1
    have HC34 := za.mk H
    clear H
    go_upto_region 3 with (fail)
    repeat (go_quiet (fail); go_upto_region 3 with (fail))
    go_cut [69] (fun v69 wc => ∃ (kq : Nat) (x69_33 : Bool), v69 = .bool x69_33 ∧ za (zx.j1 kq x69_33 a0_0 a0_1 a0_2 a0_3 a0_4 l0_5 l0_6 a0_7 a0_8 a0_9 a1_0 a1_1 a1_2 a1_3 a1_4 l1_5 l1_6 a1_7 a1_8 a1_9 = some r) ∧ za (kq ≤ kj2) ∧ za (wc.heap[gb392]? = some (.cells #[.string a0_0, .string a0_1, .string a0_2, .string a0_3, .bool a0_4, (.slice A0_5 l0_5.length c0_5), (.slice A0_6 l0_6.length c0_6), .bool a0_7, .bool a0_8, .string a0_9] 33 (0, 0))) ∧ za (wc.heap[gb393]? = some (.cells #[.string a1_0, .string a1_1, .string a1_2, .string a1_3, .bool a1_4, (.slice A1_5 l1_5.length c1_5), (.slice A1_6 l1_6.length c1_6), .bool a1_7, .bool a1_8, .string a1_9] 33 (0, 0))) ∧ za (Below w.heap.size w wc))
    case first =>
     have H := HC34.out
     clear HC34
     by_cases c35 : (l0_5.length : Int) = (l1_5.length : Int)
     ·rw [if_pos c35] at H
      have c35b0 : ((l0_5.length : Int) == (l1_5.length : Int)) = true := beq_iff_eq.mpr c35
      have c35b1 : ((l0_5.length : Int) != (l1_5.length : Int)) = false := bne_eq_false_iff_eq.mpr c35
      have c35b2 : (l0_5.length == l1_5.length) = true := by (simp at c35 ⊢; omega)
      clear c35
      (first | rw [c35b0] | (simp only [i64_w, i32_w]; rw [c35b0]) | skip)
      have H' := za.mk H
      clear H
      have hnb36 := NB392_393.out
      have hnc36 := NB393_392.out
      obtain ⟨hcz37_0, hcz37_1, hcz37_2, hcz37_3, hcz37_4, hcz37_5, hcz37_6, hcz37_7, hcz37_8, hcz37_9, _⟩ := cl10 BK392.out
      obtain ⟨hcz38_0, hcz38_1, hcz38_2, hcz38_3, hcz38_4, hcz38_5, hcz38_6, hcz38_7, hcz38_8, hcz38_9, _⟩ := cl10 BK393.out
      go_wp2
      repeat (go_quiet (fail); try go_wp2)
      go_meet
      case rel => exact ⟨_, (((l0_6.length : Int) != (l1_6.length : Int))), (by rfl), H', ⟨by have := HJ2.out; first | omega | exact Nat.le_refl _⟩, ⟨by exact BK392.out⟩, ⟨by exact BK393.out⟩, ⟨by (with_reducible exact HB.out)⟩⟩
     ·rw [if_neg c35] at H
      have c35b0 : ((l0_5.length : Int) == (l1_5.length : Int)) = false := beq_eq_false_iff_ne.mpr c35
      have c35b1 : ((l0_5.length : Int) != (l1_5.length : Int)) = true := bne_iff_ne.mpr c35
      have c35b2 : (l0_5.length == l1_5.length) = false := by (simp at c35 ⊢; omega)
      (first | rw [c35b0] | (simp only [i64_w, i32_w]; rw [c35b0]) | skip)
      have H' := za.mk H
      clear H
      have hnb39 := NB392_393.out
      have hnc39 := NB393_392.out
      obtain ⟨hcz40_0, hcz40_1, hcz40_2, hcz40_3, hcz40_4, hcz40_5, hcz40_6, hcz40_7, hcz40_8, hcz40_9, _⟩ := cl10 BK392.out
      obtain ⟨hcz41_0, hcz41_1, hcz41_2, hcz41_3, hcz41_4, hcz41_5, hcz41_6, hcz41_7, hcz41_8, hcz41_9, _⟩ := cl10 BK393.out
      go_wp2
      repeat (go_quiet (fail); try go_wp2)
      go_meet
      case rel => exact ⟨_, (true), (by rfl), H', ⟨by have := HJ2.out; first | omega | exact Nat.le_refl _⟩, ⟨by exact BK392.out⟩, ⟨by exact BK393.out⟩, ⟨by (with_reducible exact HB.out)⟩⟩
    case rest =>
     clear HC34
     obtain ⟨kq, x69_33, rfl, HA, HJ33, BK392, BK393, HB⟩ := hcut
     cases kq with
     | zero => exact absurd HA.out (by simp [zx.j1])
     | succ kj33 =>
      have H := HA.out
      clear HA
      simp only [zx.j1] at H
      by_cases c42 : x69_33 = true
      ·subst c42
       have H1 : (some false) = some r := by rw [if_pos rfl] at H; exact H
       clear H
       have H := H1
       clear H1
       obtain rfl := Option.some.inj H
       go_wp2
       repeat (go_quiet (fail); try go_wp2)
       go_ret
       exact ⟨by rfl, by (with_reducible exact HB.out)⟩
      ·replace c42 := Bool.eq_false_iff.mpr c42
       subst c42
       have H1 : (zx.l0 kj33 (l0_5.length : Int) 0 a0_0 a0_1 a0_2 a0_3 a0_4 l0_5 l0_6 a0_7 a0_8 a0_9 a1_0 a1_1 a1_2 a1_3 a1_4 l1_5 l1_6 a1_7 a1_8 a1_9) = some r := by rw [if_neg (show ¬ (false = true) by decide)] at H; exact H
       clear H
       have H := H1
       clear H1
       have H' := za.mk H
       clear H
       have hnb43 := NB392_393.out
       have hnc43 := NB393_392.out
       obtain ⟨hcz44_0, hcz44_1, hcz44_2, hcz44_3, hcz44_4, hcz44_5, hcz44_6, hcz44_7, hcz44_8, hcz44_9, _⟩ := cl10 BK392.out
       go_wp2
       repeat (go_quiet (fail); try go_wp2)
       (try simp only [Act.put, List.setIfInBounds_toArray, List.set_cons_zero, List.set_cons_succ])
       go_loopg [73] kj33 (fun kq v73 w' => ∃ (x73_3 : Int), v73 = .int .i64 x73_3 ∧ za (zx.l0 kq (l0_5.length : Int) x73_3 a0_0 a0_1 a0_2 a0_3 a0_4 l0_5 l0_6 a0_7 a0_8 a0_9 a1_0 a1_1 a1_2 a1_3 a1_4 l1_5 l1_6 a1_7 a1_8 a1_9 = some r) ∧ za (kq ≤ kj33) ∧ za (w'.heap[gb392]? = some (.cells #[.string a0_0, .string a0_1, .string a0_2, .string a0_3, .bool a0_4, (.slice A0_5 l0_5.length c0_5), (.slice A0_6 l0_6.length c0_6), .bool a0_7, .bool a0_8, .string a0_9] 33 (0, 0))) ∧ za (w'.heap[gb393]? = some (.cells #[.string a1_0, .string a1_1, .string a1_2, .string a1_3, .bool a1_4, (.slice A1_5 l1_5.length c1_5), (.slice A1_6 l1_6.length c1_6), .bool a1_7, .bool a1_8, .string a1_9] 33 (0, 0))) ∧ za (Below w.heap.size w w'))
       case atStart => exact ⟨(0), (by rfl), H', ⟨Nat.le_refl _⟩, ⟨by exact BK392.out⟩, ⟨by exact BK393.out⟩, ⟨by (with_reducible exact HB.out)⟩⟩
       case round =>
        clear H'
        clear hcz44_0 hcz44_1 hcz44_2 hcz44_3 hcz44_4 hcz44_5 hcz44_6 hcz44_7 hcz44_8 hcz44_9
        obtain ⟨x73_3, rfl, HA, HK3, BK392, BK393, HB⟩ := hrel
        cases gk with
        | zero => exact absurd HA.out (by simp [zx.l0])
        | succ k3 =>
         have H := HA.out
         clear HA
         simp only [zx.l0] at H
         by_cases c45 : x73_3 < (l0_5.length : Int)
         ·rw [if_pos c45] at H
          have c45b0 : decide (x73_3 < (l0_5.length : Int)) = true := decide_eq_true c45
          clear c45
          by_cases c46 : 0 ≤ x73_3
          ·rw [if_pos c46] at H
           have c46b0 : decide (0 ≤ x73_3) = true := decide_eq_true c46
           clear c46
           by_cases c47 : x73_3 < (l0_5.length : Int)
           ·rw [if_pos c47] at H
            have c47b0 : decide (x73_3 < (l0_5.length : Int)) = true := decide_eq_true c47
            clear c47
            by_cases c48 : x73_3 < (l1_5.length : Int)
            ·rw [if_pos c48] at H
             have c48b0 : decide (x73_3 < (l1_5.length : Int)) = true := decide_eq_true c48
             clear c48
             by_cases c49 : (!((((zxc l0_5 x73_3).f0).toList) == (((zxc l1_5 x73_3).f0).toList)) || ((!(((zxc l0_5 x73_3).f1.f0) == ((zxc l1_5 x73_3).f1.f0)) || (!((((zxc l0_5 x73_3).f1.f1).toList) == (((zxc l1_5 x73_3).f1.f1).toList)))) || (!(((zxc l0_5 x73_3).f2) == ((zxc l1_5 x73_3).f2))))) = true
             ·rw [if_pos c49] at H
              have c49b0 : (!((((zxc l0_5 x73_3).f0).toList) == (((zxc l1_5 x73_3).f0).toList)) || ((!(((zxc l0_5 x73_3).f1.f0) == ((zxc l1_5 x73_3).f1.f0)) || (!((((zxc l0_5 x73_3).f1.f1).toList) == (((zxc l1_5 x73_3).f1.f1).toList)))) || (!(((zxc l0_5 x73_3).f2) == ((zxc l1_5 x73_3).f2))))) = true := c49
              clear c49
              obtain rfl := Option.some.inj H
              have hnb50 := NB392_393.out
              have hnc50 := NB393_392.out
              obtain ⟨hcz51_0, hcz51_1, hcz51_2, hcz51_3, hcz51_4, hcz51_5, hcz51_6, hcz51_7, hcz51_8, hcz51_9, _⟩ := cl10 BK392.out
              have p394 : 0 ≤ (x73_3 : Int) := of_decide_eq_true (by (with_reducible assumption))
              have q394 : x73_3 < (l0_5.length : Int) := of_decide_eq_true (by (with_reducible assumption))
              obtain ⟨ad394, e394, hx394_0, hx394_1, hx394_2, hx394_3⟩ := at_T54 HR0_5.out x73_3 p394 q394
              cases e394
              replace hx394_0 := (HB.out.cell (World.block_lt_of_cell? w _ hx394_0)).trans hx394_0
              replace hx394_1 := (HB.out.cell (World.block_lt_of_cell? w _ hx394_1)).trans hx394_1
              replace hx394_2 := (HB.out.cell (World.block_lt_of_cell? w _ hx394_2)).trans hx394_2
              replace hx394_3 := (HB.out.cell (World.block_lt_of_cell? w _ hx394_3)).trans hx394_3
              replace p394 := eq_true p394
              replace q394 := eq_true q394
              obtain ⟨hcz52_0, hcz52_1, hcz52_2, hcz52_3, hcz52_4, hcz52_5, hcz52_6, hcz52_7, hcz52_8, hcz52_9, _⟩ := cl10 BK393.out
              have p395 : 0 ≤ (x73_3 : Int) := of_decide_eq_true (by (with_reducible assumption))
              have q395 : x73_3 < (l1_5.length : Int) := of_decide_eq_true (by (with_reducible assumption))
              obtain ⟨ad395, e395, hx395_0, hx395_1, hx395_2, hx395_3⟩ := at_T54 HR1_5.out x73_3 p395 q395
              cases e395
              replace hx395_0 := (HB.out.cell (World.block_lt_of_cell? w _ hx395_0)).trans hx395_0
              replace hx395_1 := (HB.out.cell (World.block_lt_of_cell? w _ hx395_1)).trans hx395_1
              replace hx395_2 := (HB.out.cell (World.block_lt_of_cell? w _ hx395_2)).trans hx395_2
              replace hx395_3 := (HB.out.cell (World.block_lt_of_cell? w _ hx395_3)).trans hx395_3
              replace p395 := eq_true p395
              replace q395 := eq_true q395
              go_wp2
              repeat (go_quiet (fail); try go_wp2)
              go_ret
              exact ⟨by rfl, by (with_reducible apply ze; with_reducible exact HB.out)⟩
             ·rw [if_neg c49] at H
              have c49b0 : (!((((zxc l0_5 x73_3).f0).toList) == (((zxc l1_5 x73_3).f0).toList)) || ((!(((zxc l0_5 x73_3).f1.f0) == ((zxc l1_5 x73_3).f1.f0)) || (!((((zxc l0_5 x73_3).f1.f1).toList) == (((zxc l1_5 x73_3).f1.f1).toList)))) || (!(((zxc l0_5 x73_3).f2) == ((zxc l1_5 x73_3).f2))))) = false := by simpa using c49
              clear c49
              have H' := za.mk H
              clear H
              have hnb53 := NB392_393.out
              have hnc53 := NB393_392.out
              obtain ⟨hcz54_0, hcz54_1, hcz54_2, hcz54_3, hcz54_4, hcz54_5, hcz54_6, hcz54_7, hcz54_8, hcz54_9, _⟩ := cl10 BK392.out
              have p394 : 0 ≤ (x73_3 : Int) := of_decide_eq_true (by (with_reducible assumption))
              have q394 : x73_3 < (l0_5.length : Int) := of_decide_eq_true (by (with_reducible assumption))
              obtain ⟨ad394, e394, hx394_0, hx394_1, hx394_2, hx394_3⟩ := at_T54 HR0_5.out x73_3 p394 q394
              cases e394
              replace hx394_0 := (HB.out.cell (World.block_lt_of_cell? w _ hx394_0)).trans hx394_0
              replace hx394_1 := (HB.out.cell (World.block_lt_of_cell? w _ hx394_1)).trans hx394_1
              replace hx394_2 := (HB.out.cell (World.block_lt_of_cell? w _ hx394_2)).trans hx394_2
              replace hx394_3 := (HB.out.cell (World.block_lt_of_cell? w _ hx394_3)).trans hx394_3
              replace p394 := eq_true p394
              replace q394 := eq_true q394
              obtain ⟨hcz55_0, hcz55_1, hcz55_2, hcz55_3, hcz55_4, hcz55_5, hcz55_6, hcz55_7, hcz55_8, hcz55_9, _⟩ := cl10 BK393.out
              have p395 : 0 ≤ (x73_3 : Int) := of_decide_eq_true (by (with_reducible assumption))
              have q395 : x73_3 < (l1_5.length : Int) := of_decide_eq_true (by (with_reducible assumption))
              obtain ⟨ad395, e395, hx395_0, hx395_1, hx395_2, hx395_3⟩ := at_T54 HR1_5.out x73_3 p395 q395
              cases e395
              replace hx395_0 := (HB.out.cell (World.block_lt_of_cell? w _ hx395_0)).trans hx395_0
              replace hx395_1 := (HB.out.cell (World.block_lt_of_cell? w _ hx395_1)).trans hx395_1
              replace hx395_2 := (HB.out.cell (World.block_lt_of_cell? w _ hx395_2)).trans hx395_2
              replace hx395_3 := (HB.out.cell (World.block_lt_of_cell? w _ hx395_3)).trans hx395_3
              replace p395 := eq_true p395
              replace q395 := eq_true q395
              go_wp2
              repeat (go_quiet (fail); try go_wp2)
              go_roundg k3
              case measure => have := HJ2.out; have := HJ33.out; have := HK3.out; omega
              case rel => exact ⟨(wrap64 (x73_3 + 1)), (by rfl), H', ⟨by have := HJ2.out; have := HJ33.out; have := HK3.out; omega⟩, ⟨by (with_reducible (refine zz ?_ _)); exact BK392.out⟩, ⟨by (with_reducible (refine zz ?_ _)); exact BK393.out⟩, ⟨by (with_reducible apply ze; with_reducible exact HB.out)⟩⟩
            ·rw [if_neg c48] at H
             exact absurd H (by simp)
           ·rw [if_neg c47] at H
            exact absurd H (by simp)
          ·rw [if_neg c46] at H
           exact absurd H (by simp)
         ·rw [if_neg c45] at H
          have c45b0 : decide (x73_3 < (l0_5.length : Int)) = false := decide_eq_false c45
          clear c45
          have H' := za.mk H
          clear H
          have hnb56 := NB392_393.out
          have hnc56 := NB393_392.out
          obtain ⟨hcz57_0, hcz57_1, hcz57_2, hcz57_3, hcz57_4, hcz57_5, hcz57_6, hcz57_7, hcz57_8, hcz57_9, _⟩ := cl10 BK392.out
          go_wp2
          repeat (go_quiet (fail); try go_wp2)
          (try simp only [Act.put, List.setIfInBounds_toArray, List.set_cons_zero, List.set_cons_succ])
          go_loopg [91] k3 (fun kq v91 w' => ∃ (x91_4 : Int), v91 = .int .i64 x91_4 ∧ za (zx.l1 kq (l0_6.length : Int) x91_4 a0_0 a0_1 a0_2 a0_3 a0_4 l0_5 l0_6 a0_7 a0_8 a0_9 a1_0 a1_1 a1_2 a1_3 a1_4 l1_5 l1_6 a1_7 a1_8 a1_9 = some r) ∧ za (kq ≤ k3) ∧ za (w'.heap[gb392]? = some (.cells #[.string a0_0, .string a0_1, .string a0_2, .string a0_3, .bool a0_4, (.slice A0_5 l0_5.length c0_5), (.slice A0_6 l0_6.length c0_6), .bool a0_7, .bool a0_8, .string a0_9] 33 (0, 0))) ∧ za (w'.heap[gb393]? = some (.cells #[.string a1_0, .string a1_1, .string a1_2, .string a1_3, .bool a1_4, (.slice A1_5 l1_5.length c1_5), (.slice A1_6 l1_6.length c1_6), .bool a1_7, .bool a1_8, .string a1_9] 33 (0, 0))) ∧ za (Below w.heap.size w w'))
          case atStart => exact ⟨(0), (by rfl), H', ⟨Nat.le_refl _⟩, ⟨by exact BK392.out⟩, ⟨by exact BK393.out⟩, ⟨by (with_reducible exact HB.out)⟩⟩
          case round =>
           clear H'
           clear c45b0 hcz57_0 hcz57_1 hcz57_2 hcz57_3 hcz57_4 hcz57_5 hcz57_6 hcz57_7 hcz57_8 hcz57_9
           obtain ⟨x91_4, rfl, HA, HK4, BK392, BK393, HB⟩ := hrel
           cases gk with
           | zero => exact absurd HA.out (by simp [zx.l1])
           | succ k4 =>
            have H := HA.out
            clear HA
            simp only [zx.l1] at H
            by_cases c58 : x91_4 < (l0_6.length : Int)
            ·rw [if_pos c58] at H
             have c58b0 : decide (x91_4 < (l0_6.length : Int)) = true := decide_eq_true c58
             clear c58
             by_cases c59 : 0 ≤ x91_4
             ·rw [if_pos c59] at H
              have c59b0 : decide (0 ≤ x91_4) = true := decide_eq_true c59
              clear c59
              by_cases c60 : x91_4 < (l0_6.length : Int)
              ·rw [if_pos c60] at H
               have c60b0 : decide (x91_4 < (l0_6.length : Int)) = true := decide_eq_true c60
               clear c60
               by_cases c61 : x91_4 < (l1_6.length : Int)
               ·rw [if_pos c61] at H
                have c61b0 : decide (x91_4 < (l1_6.length : Int)) = true := decide_eq_true c61
                clear c61
                by_cases c62 : (!(((zkd l0_6 x91_4).f0) == ((zkd l1_6 x91_4).f0)) || ((!(((zkd l0_6 x91_4).f1.f0) == ((zkd l1_6 x91_4).f1.f0)) || (!((((zkd l0_6 x91_4).f1.f1).toList) == (((zkd l1_6 x91_4).f1.f1).toList)))))) = true
                ·rw [if_pos c62] at H
                 have c62b0 : (!(((zkd l0_6 x91_4).f0) == ((zkd l1_6 x91_4).f0)) || ((!(((zkd l0_6 x91_4).f1.f0) == ((zkd l1_6 x91_4).f1.f0)) || (!((((zkd l0_6 x91_4).f1.f1).toList) == (((zkd l1_6 x91_4).f1.f1).toList)))))) = true := c62
                 clear c62
                 obtain rfl := Option.some.inj H
                 have hnb63 := NB392_393.out
                 have hnc63 := NB393_392.out
                 obtain ⟨hcz64_0, hcz64_1, hcz64_2, hcz64_3, hcz64_4, hcz64_5, hcz64_6, hcz64_7, hcz64_8, hcz64_9, _⟩ := cl10 BK392.out
                 have p396 : 0 ≤ (x91_4 : Int) := of_decide_eq_true (by (with_reducible assumption))
                 have q396 : x91_4 < (l0_6.length : Int) := of_decide_eq_true (by (with_reducible assumption))
                 obtain ⟨ad396, e396, hx396_0, hx396_1, hx396_2⟩ := at_T58 HR0_6.out x91_4 p396 q396
                 cases e396
                 replace hx396_0 := (HB.out.cell (World.block_lt_of_cell? w _ hx396_0)).trans hx396_0
                 replace hx396_1 := (HB.out.cell (World.block_lt_of_cell? w _ hx396_1)).trans hx396_1
                 replace hx396_2 := (HB.out.cell (World.block_lt_of_cell? w _ hx396_2)).trans hx396_2
                 replace p396 := eq_true p396
                 replace q396 := eq_true q396
                 obtain ⟨hcz65_0, hcz65_1, hcz65_2, hcz65_3, hcz65_4, hcz65_5, hcz65_6, hcz65_7, hcz65_8, hcz65_9, _⟩ := cl10 BK393.out
                 have p397 : 0 ≤ (x91_4 : Int) := of_decide_eq_true (by (with_reducible assumption))
                 have q397 : x91_4 < (l1_6.length : Int) := of_decide_eq_true (by (with_reducible assumption))
                 obtain ⟨ad397, e397, hx397_0, hx397_1, hx397_2⟩ := at_T58 HR1_6.out x91_4 p397 q397
                 cases e397
                 replace hx397_0 := (HB.out.cell (World.block_lt_of_cell? w _ hx397_0)).trans hx397_0
                 replace hx397_1 := (HB.out.cell (World.block_lt_of_cell? w _ hx397_1)).trans hx397_1
                 replace hx397_2 := (HB.out.cell (World.block_lt_of_cell? w _ hx397_2)).trans hx397_2
                 replace p397 := eq_true p397
                 replace q397 := eq_true q397
                 go_wp2
                 repeat (go_quiet (fail); try go_wp2)
                 go_ret
                 exact ⟨by rfl, by (with_reducible apply ze; with_reducible exact HB.out)⟩
                ·rw [if_neg c62] at H
                 have c62b0 : (!(((zkd l0_6 x91_4).f0) == ((zkd l1_6 x91_4).f0)) || ((!(((zkd l0_6 x91_4).f1.f0) == ((zkd l1_6 x91_4).f1.f0)) || (!((((zkd l0_6 x91_4).f1.f1).toList) == (((zkd l1_6 x91_4).f1.f1).toList)))))) = false := by simpa using c62
                 clear c62
                 have H' := za.mk H
                 clear H
                 have hnb66 := NB392_393.out
                 have hnc66 := NB393_392.out
                 obtain ⟨hcz67_0, hcz67_1, hcz67_2, hcz67_3, hcz67_4, hcz67_5, hcz67_6, hcz67_7, hcz67_8, hcz67_9, _⟩ := cl10 BK392.out
                 have p396 : 0 ≤ (x91_4 : Int) := of_decide_eq_true (by (with_reducible assumption))
                 have q396 : x91_4 < (l0_6.length : Int) := of_decide_eq_true (by (with_reducible assumption))
                 obtain ⟨ad396, e396, hx396_0, hx396_1, hx396_2⟩ := at_T58 HR0_6.out x91_4 p396 q396
                 cases e396
                 replace hx396_0 := (HB.out.cell (World.block_lt_of_cell? w _ hx396_0)).trans hx396_0
                 replace hx396_1 := (HB.out.cell (World.block_lt_of_cell? w _ hx396_1)).trans hx396_1
                 replace hx396_2 := (HB.out.cell (World.block_lt_of_cell? w _ hx396_2)).trans hx396_2
                 replace p396 := eq_true p396
                 replace q396 := eq_true q396
                 obtain ⟨hcz68_0, hcz68_1, hcz68_2, hcz68_3, hcz68_4, hcz68_5, hcz68_6, hcz68_7, hcz68_8, hcz68_9, _⟩ := cl10 BK393.out
                 have p397 : 0 ≤ (x91_4 : Int) := of_decide_eq_true (by (with_reducible assumption))
                 have q397 : x91_4 < (l1_6.length : Int) := of_decide_eq_true (by (with_reducible assumption))
                 obtain ⟨ad397, e397, hx397_0, hx397_1, hx397_2⟩ := at_T58 HR1_6.out x91_4 p397 q397
                 cases e397
                 replace hx397_0 := (HB.out.cell (World.block_lt_of_cell? w _ hx397_0)).trans hx397_0
                 replace hx397_1 := (HB.out.cell (World.block_lt_of_cell? w _ hx397_1)).trans hx397_1
                 replace hx397_2 := (HB.out.cell (World.block_lt_of_cell? w _ hx397_2)).trans hx397_2
                 replace p397 := eq_true p397
                 replace q397 := eq_true q397
                 go_wp2
                 repeat (go_quiet (fail); try go_wp2)
                 go_roundg k4
                 case measure => have := HJ2.out; have := HJ33.out; have := HK3.out; have := HK4.out; omega
                 case rel => exact ⟨(wrap64 (x91_4 + 1)), (by rfl), H', ⟨by have := HJ2.out; have := HJ33.out; have := HK3.out; have := HK4.out; omega⟩, ⟨by (with_reducible (refine zz ?_ _)); exact BK392.out⟩, ⟨by (with_reducible (refine zz ?_ _)); exact BK393.out⟩, ⟨by (with_reducible apply ze; with_reducible exact HB.out)⟩⟩
               ·rw [if_neg c61] at H
                exact absurd H (by simp)
              ·rw [if_neg c60] at H
               exact absurd H (by simp)
             ·rw [if_neg c59] at H
              exact absurd H (by simp)
            ·rw [if_neg c58] at H
             have c58b0 : decide (x91_4 < (l0_6.length : Int)) = false := decide_eq_false c58
             clear c58
             obtain rfl := Option.some.inj H
             go_wp2
             repeat (go_quiet (fail); try go_wp2)
             go_ret
             exact ⟨by rfl, by (with_reducible exact HB.out)⟩
end Go.Proofs.YtapaijpglfmfgaaDoor.Q
end
section
namespace Go.Proofs.YtapaijpglfmfgaaDoor.Q
open Go.RowKit YtapaijpglfmfgaaDoorH YtapaijpglfmfgaaDoorG YtapaijpglfmfgaaDoorW.PrintWords YtapaijpglfmfgaaDoorW.PrintLast YtapaijpglfmfgaaDoorW.PrintMore YtapaijpglfmfgaaDoorC
attribute [local go_sem] zsc zrc zbd zad zic zhc zqc ztc
def zbc.l0 : Nat → List ByteArray → List ByteArray → Int → Int → Option (Bool)
 | 0, _, _, _, _ => none
 | k + 1, x0, x5, x6, x7 => if x7 < x6 then (if 0 ≤ x7 then (if x7 < (x5.length : Int) then (if ((rdOf ByteArray.empty x5 x7).size : Int) > 1200 then (some false) else (zbc.l0 k x0 x5 x6 (wrap64 (x7 + 1)))) else (none)) else (none)) else (some (decide ((x0.length : Int) ≤ 60)))
def zbc.f (k : Nat) (l0 : List ByteArray) : Option (Bool) := zbc.l0 k l0 l0 (l0.length : Int) 0
theorem zbc.calls (k : Nat) (A0 : Option Addr) (c0 : Nat) (l0 : List ByteArray) (r : Bool) (w : World) (hr0 : Kd.C Kd.string w A0 l0.length l0) (hc0 : l0.length ≤ c0) (h : zbc.f k l0 = some r) :
  Calls Tryd.prog 15 #[.slice A0 l0.length c0] w fun e w' => e = .returned (.bool r) ∧ zt w w' := by
 have HR0 := za.mk hr0
 have HC0 := za.mk hc0
 clear hr0 hc0
 have H : (zbc.l0 k l0 l0 (l0.length : Int) 0) = some r := h
 clear h
 have H' := za.mk H
 clear H
 go_enter Tryd.func15, Tryd.ntmps15
 go_wp2
 (try simp only [Act.put, List.setIfInBounds_toArray, List.set_cons_zero, List.set_cons_succ])
 go_loopg [7] k (fun kq v7 w' => ∃ (x7_1 : Int), v7 = .int .i64 x7_1 ∧ za (zbc.l0 kq l0 l0 (l0.length : Int) x7_1 = some r) ∧ za (kq ≤ k) ∧ zt w w')
 case atStart => exact ⟨(0), (by rfl), H', ⟨Nat.le_refl _⟩, by repeat (first | exact zt.refl _ | apply zt.step)⟩
 case round =>
  clear H'
  obtain ⟨x7_1, rfl, HA, HK1, ⟨m1, rfl⟩⟩ := hrel
  cases gk with
  | zero => exact absurd HA.out (by simp [zbc.l0])
  | succ k1 =>
   have H := HA.out
   clear HA
   simp only [zbc.l0] at H
   by_cases c2 : x7_1 < (l0.length : Int)
   ·rw [if_pos c2] at H
    have c2b0 : decide (x7_1 < (l0.length : Int)) = true := decide_eq_true c2
    clear c2
    by_cases c3 : 0 ≤ x7_1
    ·rw [if_pos c3] at H
     have c3b0 : decide (0 ≤ x7_1) = true := decide_eq_true c3
     clear c3
     by_cases c4 : x7_1 < (l0.length : Int)
     ·rw [if_pos c4] at H
      have c4b0 : decide (x7_1 < (l0.length : Int)) = true := decide_eq_true c4
      clear c4
      by_cases c5 : ((rdOf ByteArray.empty l0 x7_1).size : Int) > 1200
      ·rw [if_pos c5] at H
       have c5b0 : decide (1200 < ((rdOf ByteArray.empty l0 x7_1).size : Int)) = true := decide_eq_true c5
       have c5b1 : decide (1200 < (rdOf ByteArray.empty l0 x7_1).size) = true := decide_eq_true (by omega)
       clear c5
       obtain rfl := Option.some.inj H
       have p452 : 0 ≤ (x7_1 : Int) := of_decide_eq_true (by (with_reducible assumption))
       have q452 : x7_1 < (l0.length : Int) := of_decide_eq_true (by (with_reducible assumption))
       obtain ⟨ad452, e452, hx452_0⟩ := Kd.at_string HR0.out x7_1 p452 q452
       cases e452
       replace p452 := eq_true p452
       replace q452 := eq_true q452
       go_wp2
       go_ret
       exact ⟨by rfl, by repeat (first | exact zt.refl _ | apply zt.step)⟩
      ·rw [if_neg c5] at H
       have c5b0 : decide (1200 < ((rdOf ByteArray.empty l0 x7_1).size : Int)) = false := decide_eq_false c5
       have c5b1 : decide (1200 < (rdOf ByteArray.empty l0 x7_1).size) = false := decide_eq_false (by omega)
       clear c5
       have H' := za.mk H
       clear H
       have p452 : 0 ≤ (x7_1 : Int) := of_decide_eq_true (by (with_reducible assumption))
       have q452 : x7_1 < (l0.length : Int) := of_decide_eq_true (by (with_reducible assumption))
       obtain ⟨ad452, e452, hx452_0⟩ := Kd.at_string HR0.out x7_1 p452 q452
       cases e452
       replace p452 := eq_true p452
       replace q452 := eq_true q452
       go_wp2
       go_roundg k1
       case measure => have := HK1.out; omega
       case rel => exact ⟨(wrap64 (x7_1 + 1)), (by rfl), H', ⟨by have := HK1.out; omega⟩, by repeat (first | exact zt.refl _ | apply zt.step)⟩
     ·rw [if_neg c4] at H
      exact absurd H (by simp)
    ·rw [if_neg c3] at H
     exact absurd H (by simp)
   ·rw [if_neg c2] at H
    have c2b0 : decide (x7_1 < (l0.length : Int)) = false := decide_eq_false c2
    clear c2
    obtain rfl := Option.some.inj H
    go_wp2
    go_ret
    exact ⟨by rfl, by repeat (first | exact zt.refl _ | apply zt.step)⟩
def zgd.j0 : Nat → ByteArray → Bool → Option (Bool)
 | 0, _, _ => none
 | k + 1, x0, x18 => if x18 = true then (some true) else ((znc.f x0).bind fun bt458 => ((zg.f k x0).bind fun bt474 => (if (bt458.2.2.2.2.2.2.2.2.2.2 == bt474.2.2.2.2.2.2.2.2.2.2) = true then ((zx.f k bt458.1 bt458.2.1 bt458.2.2.1 bt458.2.2.2.1 bt458.2.2.2.2.1 bt458.2.2.2.2.2.1 bt458.2.2.2.2.2.2.1 bt458.2.2.2.2.2.2.2.1 bt458.2.2.2.2.2.2.2.2.1 bt458.2.2.2.2.2.2.2.2.2.1 bt474.1 bt474.2.1 bt474.2.2.1 bt474.2.2.2.1 bt474.2.2.2.2.1 bt474.2.2.2.2.2.1 bt474.2.2.2.2.2.2.1 bt474.2.2.2.2.2.2.2.1 bt474.2.2.2.2.2.2.2.2.1 bt474.2.2.2.2.2.2.2.2.2.1).bind fun t490 => (some t490)) else (some false))))
def zgd.f (k : Nat) (a0 : ByteArray) : Option (Bool) := if (a0.size : Int) > 2147483647 then (some true) else ((zbc.f k (([a0] : List ByteArray))).bind fun t456 => (if t456 = true then ((zd.f k a0).bind fun t457 => (zgd.j0 k a0 (!t457))) else (zgd.j0 k a0 true)))
def zgd.Pure : Prop := ∀ (a0 : ByteArray), a0.size ≤ 140737488351232 → ∃ k, zgd.f k a0 = some true
end Go.Proofs.YtapaijpglfmfgaaDoor.Q
end
section
namespace Go.Proofs.YtapaijpglfmfgaaDoor.Q
open Go.RowKit YtapaijpglfmfgaaDoorH YtapaijpglfmfgaaDoorG YtapaijpglfmfgaaDoorW.PrintWords YtapaijpglfmfgaaDoorW.PrintLast YtapaijpglfmfgaaDoorW.PrintMore YtapaijpglfmfgaaDoorC
attribute [local go_sem] zsc zrc zbd zad zic zhc zqc ztc
def zfd.j0 : Nat → ByteArray → Bool → ByteArray → ByteArray → ByteArray → ByteArray → Bool → List (S54) → List (S58) → Bool → Bool → ByteArray → Option (Bool)
 | 0, _, _, _, _, _, _, _, _, _, _, _, _ => none
 | k + 1, x3, x25, x417000, x417001, x417002, x417003, x417004, x417005, x417006, x417007, x417008, x417009 => if x25 = true then (some true) else ((znc.f x3).bind fun bt418 => ((zg.f k x3).bind fun bt434 => (if bt418.2.2.2.2.2.2.2.2.2.2 = true then (if bt434.2.2.2.2.2.2.2.2.2.2 = true then ((zx.f k bt418.1 bt418.2.1 bt418.2.2.1 bt418.2.2.2.1 bt418.2.2.2.2.1 bt418.2.2.2.2.2.1 bt418.2.2.2.2.2.2.1 bt418.2.2.2.2.2.2.2.1 bt418.2.2.2.2.2.2.2.2.1 bt418.2.2.2.2.2.2.2.2.2.1 x417000 x417001 x417002 x417003 x417004 x417005 x417006 x417007 x417008 x417009).bind fun t450 => (if t450 = true then ((zx.f k bt434.1 bt434.2.1 bt434.2.2.1 bt434.2.2.2.1 bt434.2.2.2.2.1 bt434.2.2.2.2.2.1 bt434.2.2.2.2.2.2.1 bt434.2.2.2.2.2.2.2.1 bt434.2.2.2.2.2.2.2.2.1 bt434.2.2.2.2.2.2.2.2.2.1 x417000 x417001 x417002 x417003 x417004 x417005 x417006 x417007 x417008 x417009).bind fun t451 => (some t451)) else (some false))) else (some false)) else (some false))))
def zfd.f (k : Nat) (l0_0 : List Int) (a0_1 : Int) (l0_2 : List Int) (l0_3 : List Int) (a0_4 : ByteArray) (a0_5 : Bool) (a0_6 : Int) : Option (Bool) := (zhd.f l0_0 a0_1 l0_2 l0_3 a0_4 a0_5 a0_6).bind fun t399 => (if t399 = true then ((zb.f k l0_0 a0_1 l0_2 l0_3 a0_4 a0_5 a0_6).bind fun bt400 => (if bt400.2.2.2.2.2.2.2.2.2.2.2 = true then ((zd.f k bt400.1).bind fun t417 => (zfd.j0 k bt400.1 (!t417) bt400.2.1 bt400.2.2.1 bt400.2.2.2.1 bt400.2.2.2.2.1 bt400.2.2.2.2.2.1 bt400.2.2.2.2.2.2.1 bt400.2.2.2.2.2.2.2.1 bt400.2.2.2.2.2.2.2.2.1 bt400.2.2.2.2.2.2.2.2.2.1 bt400.2.2.2.2.2.2.2.2.2.2.1)) else (zfd.j0 k bt400.1 true bt400.2.1 bt400.2.2.1 bt400.2.2.2.1 bt400.2.2.2.2.1 bt400.2.2.2.2.2.1 bt400.2.2.2.2.2.2.1 bt400.2.2.2.2.2.2.2.1 bt400.2.2.2.2.2.2.2.2.1 bt400.2.2.2.2.2.2.2.2.2.1 bt400.2.2.2.2.2.2.2.2.2.2.1))) else (some true))
def zfd.Pure : Prop := ∀ (l0_0 : List Int) (a0_1 : Int) (l0_2 : List Int) (l0_3 : List Int) (a0_4 : ByteArray) (a0_5 : Bool) (a0_6 : Int), l0_0.length ≤ maxLen → (∀ x ∈ l0_0, (Lit.int .u16 x).wf = true) → (Lit.int .u8 a0_1).wf = true → l0_2.length ≤ maxLen → (∀ x ∈ l0_2, (Lit.int .u8 x).wf = true) → l0_3.length ≤ maxLen → (∀ x ∈ l0_3, (Lit.int .u16 x).wf = true) → a0_4.size ≤ maxLen → (Lit.int .u16 a0_6).wf = true → ∃ k, zfd.f k l0_0 a0_1 l0_2 l0_3 a0_4 a0_5 a0_6 = some true
mutual
def zlb.l0 : Nat → List ByteArray → Int → Int → Option (Bool)
 | 0, _, _, _ => none
 | k + 1, x6, x7, x8 => if x8 < x7 then (if 0 ≤ x8 then (if x8 < (x6.length : Int) then (zlb.l1 k (rdOf ByteArray.empty x6 x8) 0 x6 x7 x8) else (none)) else (none)) else (some true)
def zlb.l1 : Nat → ByteArray → Int → List ByteArray → Int → Int → Option (Bool)
 | 0, _, _, _, _, _ => none
 | k + 1, x4, x5, x6, x7, x8 => if x5 < (x4.size : Int) then (if 0 ≤ x5 then (if (bt x4 x5) > 127 then (some false) else (zlb.l1 k x4 (wrap64 (x5 + 1)) x6 x7 x8)) else (none)) else (zlb.l0 k x6 x7 (wrap64 (x8 + 1)))
end
def zlb.f (k : Nat) (l0 : List ByteArray) : Option (Bool) := zlb.l0 k l0 (l0.length : Int) 0
theorem zlb.calls (k : Nat) (A0 : Option Addr) (c0 : Nat) (l0 : List ByteArray) (r : Bool) (w : World) (hr0 : Kd.C Kd.string w A0 l0.length l0) (hc0 : l0.length ≤ c0) (h : zlb.f k l0 = some r) :
  Calls Tryd.prog 16 #[.slice A0 l0.length c0] w fun e w' => e = .returned (.bool r) ∧ zt w w' := by
 have HR0 := za.mk hr0
 have HC0 := za.mk hc0
 clear hr0 hc0
 have H : (zlb.l0 k l0 (l0.length : Int) 0) = some r := h
 clear h
 have H' := za.mk H
 clear H
 go_enter Tryd.func16, Tryd.ntmps16
 go_wp2
 (try simp only [Act.put, List.setIfInBounds_toArray, List.set_cons_zero, List.set_cons_succ])
 go_loopg [8] k (fun kq v8 w' => ∃ (x8_1 : Int), v8 = .int .i64 x8_1 ∧ za (zlb.l0 kq l0 (l0.length : Int) x8_1 = some r) ∧ za (kq ≤ k) ∧ zt w w')
 case atStart => exact ⟨(0), (by rfl), H', ⟨Nat.le_refl _⟩, by repeat (first | exact zt.refl _ | apply zt.step)⟩
 case round =>
  clear H'
  obtain ⟨x8_1, rfl, HA, HK1, ⟨m1, rfl⟩⟩ := hrel
  cases gk with
  | zero => exact absurd HA.out (by simp [zlb.l0])
  | succ k1 =>
   have H := HA.out
   clear HA
   simp only [zlb.l0] at H
   by_cases c2 : x8_1 < (l0.length : Int)
   ·rw [if_pos c2] at H
    have c2b0 : decide (x8_1 < (l0.length : Int)) = true := decide_eq_true c2
    clear c2
    by_cases c3 : 0 ≤ x8_1
    ·rw [if_pos c3] at H
     have c3b0 : decide (0 ≤ x8_1) = true := decide_eq_true c3
     clear c3
     by_cases c4 : x8_1 < (l0.length : Int)
     ·rw [if_pos c4] at H
      have c4b0 : decide (x8_1 < (l0.length : Int)) = true := decide_eq_true c4
      clear c4
      have H' := za.mk H
      clear H
      have p491 : 0 ≤ (x8_1 : Int) := of_decide_eq_true (by (with_reducible assumption))
      have q491 : x8_1 < (l0.length : Int) := of_decide_eq_true (by (with_reducible assumption))
      obtain ⟨ad491, e491, hx491_0⟩ := Kd.at_string HR0.out x8_1 p491 q491
      cases e491
      replace p491 := eq_true p491
      replace q491 := eq_true q491
      go_wp2
      (try simp only [Act.put, List.setIfInBounds_toArray, List.set_cons_zero, List.set_cons_succ])
      go_loopg [5] k1 (fun kq v5 w' => ∃ (x5_2 : Int), v5 = .int .i64 x5_2 ∧ za (zlb.l1 kq (rdOf ByteArray.empty l0 x8_1) x5_2 l0 (l0.length : Int) x8_1 = some r) ∧ za (kq ≤ k1) ∧ zt w w')
      case atStart => exact ⟨(0), (by rfl), H', ⟨Nat.le_refl _⟩, by repeat (first | exact zt.refl _ | apply zt.step)⟩
      case round =>
       clear H'
       clear c2b0 c3b0 c4b0 hx491_0 p491 q491
       obtain ⟨x5_2, rfl, HA, HK2, ⟨m2, rfl⟩⟩ := hrel
       cases gk with
       | zero => exact absurd HA.out (by simp [zlb.l1])
       | succ k2 =>
        have H := HA.out
        clear HA
        simp only [zlb.l1] at H
        by_cases c5 : x5_2 < ((rdOf ByteArray.empty l0 x8_1).size : Int)
        ·rw [if_pos c5] at H
         have c5b0 : decide (x5_2 < ((rdOf ByteArray.empty l0 x8_1).size : Int)) = true := decide_eq_true c5
         clear c5
         by_cases c6 : 0 ≤ x5_2
         ·rw [if_pos c6] at H
          have c6b0 : decide (0 ≤ x5_2) = true := decide_eq_true c6
          clear c6
          by_cases c8 : (bt (rdOf ByteArray.empty l0 x8_1) x5_2) > 127
          ·rw [if_pos c8] at H
           have c8b0 : decide (127 < (bt (rdOf ByteArray.empty l0 x8_1) x5_2)) = true := decide_eq_true c8
           clear c8
           obtain rfl := Option.some.inj H
           have p7 : 0 ≤ (x5_2 : Int) := of_decide_eq_true (by (with_reducible assumption))
           have q7 : x5_2 < ((rdOf ByteArray.empty l0 x8_1).size : Int) := of_decide_eq_true (by (with_reducible assumption))
           have hx7 := bt_at (rdOf ByteArray.empty l0 x8_1) x5_2
           replace p7 := eq_true p7
           replace q7 := eq_true q7
           go_wp2
           go_ret
           exact ⟨by rfl, by repeat (first | exact zt.refl _ | apply zt.step)⟩
          ·rw [if_neg c8] at H
           have c8b0 : decide (127 < (bt (rdOf ByteArray.empty l0 x8_1) x5_2)) = false := decide_eq_false c8
           clear c8
           have H' := za.mk H
           clear H
           have p7 : 0 ≤ (x5_2 : Int) := of_decide_eq_true (by (with_reducible assumption))
           have q7 : x5_2 < ((rdOf ByteArray.empty l0 x8_1).size : Int) := of_decide_eq_true (by (with_reducible assumption))
           have hx7 := bt_at (rdOf ByteArray.empty l0 x8_1) x5_2
           replace p7 := eq_true p7
           replace q7 := eq_true q7
           go_wp2
           go_roundg k2
           case measure => have := HK1.out; have := HK2.out; omega
           case rel => exact ⟨(wrap64 (x5_2 + 1)), (by rfl), H', ⟨by have := HK1.out; have := HK2.out; omega⟩, by repeat (first | exact zt.refl _ | apply zt.step)⟩
         ·rw [if_neg c6] at H
          exact absurd H (by simp)
        ·rw [if_neg c5] at H
         have c5b0 : decide (x5_2 < ((rdOf ByteArray.empty l0 x8_1).size : Int)) = false := decide_eq_false c5
         clear c5
         have H' := za.mk H
         clear H
         go_wp2
         go_roundg k2
         case measure => have := HK1.out; have := HK2.out; omega
         case rel => exact ⟨(wrap64 (x8_1 + 1)), (by rfl), H', ⟨by have := HK1.out; have := HK2.out; omega⟩, by repeat (first | exact zt.refl _ | apply zt.step)⟩
     ·rw [if_neg c4] at H
      exact absurd H (by simp)
    ·rw [if_neg c3] at H
     exact absurd H (by simp)
   ·rw [if_neg c2] at H
    have c2b0 : decide (x8_1 < (l0.length : Int)) = false := decide_eq_false c2
    clear c2
    obtain rfl := Option.some.inj H
    go_wp2
    go_ret
    exact ⟨by rfl, by repeat (first | exact zt.refl _ | apply zt.step)⟩
end Go.Proofs.YtapaijpglfmfgaaDoor.Q
end
