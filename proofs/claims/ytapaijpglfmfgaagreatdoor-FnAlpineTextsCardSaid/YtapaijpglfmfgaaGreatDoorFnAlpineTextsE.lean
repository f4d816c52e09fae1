/- Proved here, for the row of the law FnAlpineTexts: contracts of the Go functions that it reaches, each as its theorem 'calls' says, and the words and plain laws that they need (Qx10, Qx11, Qx12, Qx13, Qx14, Qx15, Qx16). -/
import Derived.Test.YtapaijpglfmfgaaGreatDoorFnAlpineTextsD
set_option linter.unusedVariables false
set_option linter.unusedSimpArgs false
set_option maxHeartbeats 8000000
set_option maxRecDepth 100000
section
namespace Go.Proofs.YtapaijpglfmfgaaGreatDoor.Q
open Go.RowKit YtapaijpglfmfgaaGreatDoorH YtapaijpglfmfgaaGreatDoorG YtapaijpglfmfgaaGreatDoorW.PrintWords YtapaijpglfmfgaaGreatDoorW.PrintLast YtapaijpglfmfgaaGreatDoorW.PrintMore YtapaijpglfmfgaaGreatDoorC
attribute [local go_sem] zfd zjd ztd zud zsc ztc zgd zkd
mutual
def zk.j0 : Nat → ByteArray → Bool → Option (Bool)
 | 0, _, _ => none
 | k + 1, x4, x25 => if x25 = true then (if 1 ≤ (x4.size : Int) then (zk.j1 k (x4.extract 1 x4.size)) else (none)) else (zk.j1 k x4)
def zk.j1 : Nat → ByteArray → Option (Bool)
 | 0, _ => none
 | k + 1, x4 => (zu.f k x4).bind fun bt223 => (zk.l0 k bt223.2 0)
def zk.l0 : Nat → ByteArray → Int → Option (Bool)
 | 0, _, _ => none
 | k + 1, x4, x5 => if x5 < (x4.size : Int) then (if 0 ≤ x5 then (if x5 ≤ (x4.size : Int) then ((zac.f k (x4.extract (x5 : Int).toNat x4.size)).bind fun t228 => (if t228.toList = ([] : List UInt8) then (zk.l0 k x4 (wrap64 (x5 + 1))) else (some false))) else (none)) else (none)) else (some true)
end
def zk.f (k : Nat) (a0 : ByteArray) : Option (Bool) := (zxc.f k a0).bind fun t217 => (if t217 = true then ((zp.f k a0).bind fun bt218 => (if bt218.2.toList = ([] : List UInt8) then (zk.j0 k bt218.2 false) else (if 0 < (bt218.2.size : Int) then (if (bt bt218.2 0) ≥ 97 then (zk.j0 k bt218.2 (decide ((bt bt218.2 0) ≤ 122))) else (zk.j0 k bt218.2 false)) else (none)))) else (some false))
theorem zk.calls (k : Nat) (a0 : ByteArray) (r : Bool) (w : World) (h : zk.f k a0 = some r) :
  Calls Tryz.prog 8 #[.string a0] w fun e w' => e = .returned (.bool r) ∧ Below w.heap.size w w' := by
 have HB := za.mk (Below.refl w.heap.size w)
 have H : ((zxc.f k a0).bind fun t217 => (if t217 = true then ((zp.f k a0).bind fun bt218 => (if bt218.2.toList = ([] : List UInt8) then (zk.j0 k bt218.2 false) else (if 0 < (bt218.2.size : Int) then (if (bt bt218.2 0) ≥ 97 then (zk.j0 k bt218.2 (decide ((bt bt218.2 0) ≤ 122))) else (zk.j0 k bt218.2 false)) else (none)))) else (some false))) = some r := h
 clear h
 replace H := Option.bind_eq_some_iff.mp H
 obtain ⟨t217, A20, H⟩ := H
 replace H : (if t217 = true then ((zp.f k a0).bind fun bt218 => (if bt218.2.toList = ([] : List UInt8) then (zk.j0 k bt218.2 false) else (if 0 < (bt218.2.size : Int) then (if (bt bt218.2 0) ≥ 97 then (zk.j0 k bt218.2 (decide ((bt bt218.2 0) ≤ 122))) else (zk.j0 k bt218.2 false)) else (none)))) else (some false)) = some r := H
 have A2 := za.mk A20
 clear A20
 by_cases c3 : t217 = true
 ·subst c3
  have H1 : ((zp.f k a0).bind fun bt218 => (if bt218.2.toList = ([] : List UInt8) then (zk.j0 k bt218.2 false) else (if 0 < (bt218.2.size : Int) then (if (bt bt218.2 0) ≥ 97 then (zk.j0 k bt218.2 (decide ((bt bt218.2 0) ≤ 122))) else (zk.j0 k bt218.2 false)) else (none)))) = some r := by rw [if_pos rfl] at H; exact H
  clear H
  have H := H1
  clear H1
  replace H := Option.bind_eq_some_iff.mp H
  obtain ⟨⟨t218, t219⟩, A40, H⟩ := H
  replace H : (if t219.toList = ([] : List UInt8) then (zk.j0 k t219 false) else (if 0 < (t219.size : Int) then (if (bt t219 0) ≥ 97 then (zk.j0 k t219 (decide ((bt t219 0) ≤ 122))) else (zk.j0 k t219 false)) else (none))) = some r := H
  have A4 := za.mk A40
  clear A40
  have HC5 := za.mk H
  clear H
  go_enter Tryz.func8, Tryz.ntmps8
  go_upto_region 4 with (first | ((with_reducible refine zw (f := 24) rfl ?_); refine goesA (some 7) Tryz.func24 #[.string a0] ?_; (with_reducible refine (zxc.calls k a0 true _ A2.out).mono ?_); rintro e w' ⟨rfl, ⟨nd, rfl⟩⟩; refine ⟨_, rfl, ?_⟩) | ((with_reducible refine zw (f := 25) rfl ?_); refine goesA (some 11) Tryz.func25 #[.string a0] ?_; (with_reducible refine (zp.calls k a0 t218 t219 _ A4.out).mono ?_); rintro e w6 ⟨v220, rfl, ho0, hb⟩; refine ⟨_, rfl, ?_⟩; have HO221 := za.mk (Kd.R_lower ho0 (zm (by (with_reducible apply zd; with_reducible exact HB.out)))); replace HB := BS HB hb; (try clear hb); (try clear hb2); (try clear hk); (try clear hi); (try clear ho0)))
  (try simp only [Act.put, List.setIfInBounds_toArray, List.set_cons_zero, List.set_cons_succ])
  go_cut [25] (fun v25 wc => ∃ (kq : Nat) (x25_4 : Bool), v25 = .bool x25_4 ∧ za (zk.j0 kq t219 x25_4 = some r) ∧ za (kq ≤ k) ∧ za (Below w.heap.size w wc))
  case first =>
   have H := HC5.out
   clear HC5
   by_cases c7 : t219.toList = ([] : List UInt8)
   ·rw [if_pos c7] at H
    have c7b0 : (t219.toList == ([] : List UInt8)) = true := beq_iff_eq.mpr c7
    have c7b1 : (t219.toList != ([] : List UInt8)) = false := bne_eq_false_iff_eq.mpr c7
    try have c7b9 : t219.toList.isEmpty = true := by simpa using c7b0
    clear c7
    (first | rw [c7b0] | (simp only [i64_w, i32_w]; rw [c7b0]) | rw [c7b9] | skip)
    have H' := za.mk H
    clear H
    go_wp2
    go_meet
    case rel => exact ⟨_, (false), (by rfl), H', ⟨by omega⟩, ⟨by (with_reducible exact HB.out)⟩⟩
   ·rw [if_neg c7] at H
    have c7b0 : (t219.toList == ([] : List UInt8)) = false := beq_eq_false_iff_ne.mpr c7
    have c7b1 : (t219.toList != ([] : List UInt8)) = true := bne_iff_ne.mpr c7
    try have c7b9 : t219.toList.isEmpty = false := by simpa using c7b0
    (first | rw [c7b0] | (simp only [i64_w, i32_w]; rw [c7b0]) | rw [c7b9] | skip)
    by_cases c8 : 0 < (t219.size : Int)
    ·rw [if_pos c8] at H
     have c8b0 : decide (0 < (t219.size : Int)) = true := decide_eq_true c8
     have c8b1 : decide (0 < t219.size) = true := decide_eq_true (by omega)
     clear c8
     by_cases c10 : (bt t219 0) ≥ 97
     ·rw [if_pos c10] at H
      have c10b0 : decide (97 ≤ (bt t219 0)) = true := decide_eq_true c10
      clear c10
      have H' := za.mk H
      clear H
      have p9 : 0 ≤ (0 : Int) := (by omega)
      have q9 : 0 < t219.size := (by have : (0 : Int) < (t219.size : Int) := of_decide_eq_true (by (with_reducible assumption)); omega)
      have hx9 : ∀ h : 0 < t219.size, ((t219[0]'h).toNat : Int) = bt t219 0 := bt_at t219 0
      clear p9
      have qi9 : (0 < (t219.size : Int)) = True := eq_true (of_decide_eq_true (by (with_reducible assumption)))
      replace q9 := eq_true q9
      have p11 : 0 ≤ (0 : Int) := (by omega)
      have q11 : 0 < t219.size := (by have : (0 : Int) < (t219.size : Int) := of_decide_eq_true (by (with_reducible assumption)); omega)
      have hx11 : ∀ h : 0 < t219.size, ((t219[0]'h).toNat : Int) = bt t219 0 := bt_at t219 0
      clear p11
      have qi11 : (0 < (t219.size : Int)) = True := eq_true (of_decide_eq_true (by (with_reducible assumption)))
      replace q11 := eq_true q11
      go_wp2
      go_meet
      case rel => exact ⟨_, (decide ((bt t219 0) ≤ 122)), (by rfl), H', ⟨by omega⟩, ⟨by (with_reducible exact HB.out)⟩⟩
     ·rw [if_neg c10] at H
      have c10b0 : decide (97 ≤ (bt t219 0)) = false := decide_eq_false c10
      clear c10
      have H' := za.mk H
      clear H
      have p9 : 0 ≤ (0 : Int) := (by omega)
      have q9 : 0 < t219.size := (by have : (0 : Int) < (t219.size : Int) := of_decide_eq_true (by (with_reducible assumption)); omega)
      have hx9 : ∀ h : 0 < t219.size, ((t219[0]'h).toNat : Int) = bt t219 0 := bt_at t219 0
      clear p9
      have qi9 : (0 < (t219.size : Int)) = True := eq_true (of_decide_eq_true (by (with_reducible assumption)))
      replace q9 := eq_true q9
      go_wp2
      go_meet
      case rel => exact ⟨_, (false), (by rfl), H', ⟨by omega⟩, ⟨by (with_reducible exact HB.out)⟩⟩
    ·rw [if_neg c8] at H
     exact absurd H (by simp)
  case rest =>
   clear HC5
   obtain ⟨kq, x25_4, rfl, HA, HJ4, HB⟩ := hcut
   cases kq with
   | zero => exact absurd HA.out (by simp [zk.j0])
   | succ kj4 =>
    have H := HA.out
    clear HA
    simp only [zk.j0] at H
    have HC12 := za.mk H
    clear H
    go_upto_if 25 with (fail)
    go_cut [4, 25] (fun v4 v25 wc => ∃ (kq : Nat) (x4_11 : ByteArray), v4 = .string x4_11 ∧ za (zk.j1 kq x4_11 = some r) ∧ za (kq ≤ kj4) ∧ za (Below w.heap.size w wc))
    case first =>
     have H := HC12.out
     clear HC12
     by_cases c13 : x25_4 = true
     ·subst c13
      have H1 : (if 1 ≤ (t219.size : Int) then (zk.j1 kj4 (t219.extract 1 t219.size)) else (none)) = some r := by rw [if_pos rfl] at H; exact H
      clear H
      have H := H1
      clear H1
      by_cases c14 : 1 ≤ (t219.size : Int)
      ·rw [if_pos c14] at H
       have c14b0 := eq_true c14
       have c14b1 : decide (1 ≤ (t219.size : Int)) = true := decide_eq_true c14
       clear c14
       obtain ⟨y222, hy222⟩ : ∃ y_ : ByteArray, y_ = (t219.extract 1 t219.size) := ⟨_, rfl⟩
       replace H : (zk.j1 kj4 y222) = some r := by (rw [hy222]; with_reducible exact H)
       have Ny222 := za.mk hy222
       clear hy222
       have H' := za.mk H
       clear H
       go_wp2_with (((with_reducible refine znb (N := 27) rfl ?_); refine zce ?hg (N := 27) ?hd (v := .string (t219.extract 1 t219.size)) (v' := .string y222) ?hr (congrArg Value.string Ny222.out.symm) ?_; (case hd => rfl); (case hg => rfl); (case hr => first | (go_simp; done) | (go_simp; rfl))))
       go_meet
       case rel => exact ⟨_, (y222), (by rfl), H', ⟨by have := HJ4.out; first | omega | exact Nat.le_refl _⟩, ⟨by (with_reducible exact HB.out)⟩⟩
      ·rw [if_neg c14] at H
       exact absurd H (by simp)
     ·replace c13 := Bool.eq_false_iff.mpr c13
      subst c13
      have H1 : (zk.j1 kj4 t219) = some r := by rw [if_neg (show ¬ (false = true) by decide)] at H; exact H
      clear H
      have H := H1
      clear H1
      have H' := za.mk H
      clear H
      go_wp2
      go_meet
      case rel => exact ⟨_, (t219), (by rfl), H', ⟨by have := HJ4.out; first | omega | exact Nat.le_refl _⟩, ⟨by (with_reducible exact HB.out)⟩⟩
    case rest =>
     clear HC12
     obtain ⟨kq, x4_11, rfl, HA, HJ11, HB⟩ := hcut
     cases kq with
     | zero => exact absurd HA.out (by simp [zk.j1])
     | succ kj11 =>
      have H := HA.out
      clear HA
      simp only [zk.j1] at H
      replace H := Option.bind_eq_some_iff.mp H
      obtain ⟨⟨t223, t224⟩, A150, H⟩ := H
      replace H : (zk.l0 kj11 t224 0) = some r := H
      have A15 := za.mk A150
      clear A150
      have H' := za.mk H
      clear H
      go_wp2_with (((with_reducible refine zw (f := 26) rfl ?_); refine goesA (some 30) Tryz.func26 #[.string x4_11] ?_; (with_reducible refine (zu.calls kj11 x4_11 t223 t224 _ A15.out).mono ?_); rintro e w16 ⟨v225, rfl, ho0, hb⟩; refine ⟨_, rfl, ?_⟩; have HO226 := za.mk (Kd.R_lower ho0 (zm (by (with_reducible exact HB.out)))); replace HB := BS HB hb; (try clear hb); (try clear hb2); (try clear hk); (try clear hi); (try clear ho0)))
      (try simp only [Act.put, List.setIfInBounds_toArray, List.set_cons_zero, List.set_cons_succ])
      go_loopg [5] kj11 (fun kq v5 w' => ∃ (x5_3 : Int), v5 = .int .i64 x5_3 ∧ za (zk.l0 kq t224 x5_3 = some r) ∧ za (kq ≤ kj11) ∧ za (Below w.heap.size w w'))
      case atStart => exact ⟨(0), (by rfl), H', ⟨Nat.le_refl _⟩, ⟨by (with_reducible exact HB.out)⟩⟩
      case round =>
       clear H'
       obtain ⟨x5_3, rfl, HA, HK3, HB⟩ := hrel
       cases gk with
       | zero => exact absurd HA.out (by simp [zk.l0])
       | succ k3 =>
        have H := HA.out
        clear HA
        simp only [zk.l0] at H
        by_cases c17 : x5_3 < (t224.size : Int)
        ·rw [if_pos c17] at H
         have c17b0 : decide (x5_3 < (t224.size : Int)) = true := decide_eq_true c17
         clear c17
         by_cases c18 : 0 ≤ x5_3
         ·rw [if_pos c18] at H
          have c18b0 := eq_true c18
          have c18b1 : decide (0 ≤ x5_3) = true := decide_eq_true c18
          clear c18
          by_cases c19 : x5_3 ≤ (t224.size : Int)
          ·rw [if_pos c19] at H
           have c19b0 := eq_true c19
           have c19b1 : decide (x5_3 ≤ (t224.size : Int)) = true := decide_eq_true c19
           clear c19
           obtain ⟨y227, hy227⟩ : ∃ y_ : ByteArray, y_ = (t224.extract (x5_3 : Int).toNat t224.size) := ⟨_, rfl⟩
           replace H : ((zac.f k3 y227).bind fun t228 => (if t228.toList = ([] : List UInt8) then (zk.l0 k3 t224 (wrap64 (x5_3 + 1))) else (some false))) = some r := by (rw [hy227]; with_reducible exact H)
           have Ny227 := za.mk hy227
           clear hy227
           replace H := Option.bind_eq_some_iff.mp H
           obtain ⟨t228, A200, H⟩ := H
           replace H : (if t228.toList = ([] : List UInt8) then (zk.l0 k3 t224 (wrap64 (x5_3 + 1))) else (some false)) = some r := H
           have A20 := za.mk A200
           clear A200
           by_cases c21 : t228.toList = ([] : List UInt8)
           ·rw [if_pos c21] at H
            have c21b0 : (t228.toList == ([] : List UInt8)) = true := beq_iff_eq.mpr c21
            have c21b1 : (t228.toList != ([] : List UInt8)) = false := bne_eq_false_iff_eq.mpr c21
            try have c21b9 : t228.toList.isEmpty = true := by simpa using c21b0
            clear c21
            have H' := za.mk H
            clear H
            go_wp2_with (first | ((with_reducible refine znb (N := 41) rfl ?_); refine zce ?hg (N := 41) ?hd (v := .string (t224.extract (x5_3 : Int).toNat t224.size)) (v' := .string y227) ?hr (congrArg Value.string Ny227.out.symm) ?_; (case hd => rfl); (case hg => rfl); (case hr => first | (go_simp; done) | (go_simp; rfl))) | ((with_reducible refine zw (f := 27) rfl ?_); refine goesA (some 42) Tryz.func27 #[.string y227] ?_; (with_reducible refine (zac.calls k3 y227 t228 _ A20.out).mono ?_); rintro e w22 ⟨rfl, hb⟩; refine ⟨_, rfl, ?_⟩; replace HB := BS HB hb; (try clear hb); (try clear hb2); (try clear hk); (try clear hi)))
            go_roundg k3
            case measure => have := HJ4.out; have := HJ11.out; have := HK3.out; omega
            case rel => exact ⟨(wrap64 (x5_3 + 1)), (by rfl), H', ⟨by have := HJ4.out; have := HJ11.out; have := HK3.out; omega⟩, ⟨by (with_reducible exact HB.out)⟩⟩
           ·rw [if_neg c21] at H
            have c21b0 : (t228.toList == ([] : List UInt8)) = false := beq_eq_false_iff_ne.mpr c21
            have c21b1 : (t228.toList != ([] : List UInt8)) = true := bne_iff_ne.mpr c21
            try have c21b9 : t228.toList.isEmpty = false := by simpa using c21b0
            obtain rfl := Option.some.inj H
            go_wp2_with (first | ((with_reducible refine znb (N := 41) rfl ?_); refine zce ?hg (N := 41) ?hd (v := .string (t224.extract (x5_3 : Int).toNat t224.size)) (v' := .string y227) ?hr (congrArg Value.string Ny227.out.symm) ?_; (case hd => rfl); (case hg => rfl); (case hr => first | (go_simp; done) | (go_simp; rfl))) | ((with_reducible refine zw (f := 27) rfl ?_); refine goesA (some 42) Tryz.func27 #[.string y227] ?_; (with_reducible refine (zac.calls k3 y227 t228 _ A20.out).mono ?_); rintro e w23 ⟨rfl, hb⟩; refine ⟨_, rfl, ?_⟩; replace HB := BS HB hb; (try clear hb); (try clear hb2); (try clear hk); (try clear hi)))
            go_ret
            exact ⟨by rfl, by (with_reducible exact HB.out)⟩
          ·rw [if_neg c19] at H
           exact absurd H (by simp)
         ·rw [if_neg c18] at H
          exact absurd H (by simp)
        ·rw [if_neg c17] at H
         have c17b0 : decide (x5_3 < (t224.size : Int)) = false := decide_eq_false c17
         clear c17
         obtain rfl := Option.some.inj H
         go_wp2
         go_ret
         exact ⟨by rfl, by (with_reducible exact HB.out)⟩
 ·replace c3 := Bool.eq_false_iff.mpr c3
  subst c3
  have H1 : (some false) = some r := by rw [if_neg (show ¬ (false = true) by decide)] at H; exact H
  clear H
  have H := H1
  clear H1
  obtain rfl := Option.some.inj H
  go_enter Tryz.func8, Tryz.ntmps8
  go_wp2_with (((with_reducible refine zw (f := 24) rfl ?_); refine goesA (some 7) Tryz.func24 #[.string a0] ?_; (with_reducible refine (zxc.calls k a0 false _ A2.out).mono ?_); rintro e w' ⟨rfl, ⟨nd, rfl⟩⟩; refine ⟨_, rfl, ?_⟩))
  go_ret
  exact ⟨by rfl, by (with_reducible apply zd; with_reducible exact HB.out)⟩
def zpb.l0 : Nat → List (S52) → Int → Option (Bool)
 | 0, _, _ => none
 | k + 1, x0, x3 => if x3 < (x0.length : Int) then (if 0 ≤ x3 then (if ((zwd x0 x3).f0).toList = ([] : List UInt8) then (some false) else (zpb.l0 k x0 (wrap64 (x3 + 1)))) else (none)) else (some true)
def zpb.f (k : Nat) (l0 : List (S52)) : Option (Bool) := zpb.l0 k l0 0
theorem zpb.calls (k : Nat) (A0 : Option Addr) (c0 : Nat) (l0 : List (S52)) (r : Bool) (w : World) (hr0 : Kd.C k52 w A0 l0.length l0) (hc0 : l0.length ≤ c0) (h : zpb.f k l0 = some r) :
  Calls Tryz.prog 28 #[.slice A0 l0.length c0] w fun e w' => e = .returned (.bool r) ∧ zn w w' := by
 have HR0 := za.mk hr0
 have HC0 := za.mk hc0
 clear hr0 hc0
 have H : (zpb.l0 k l0 0) = some r := h
 clear h
 have H' := za.mk H
 clear H
 go_enter Tryz.func28, Tryz.ntmps28
 go_wp2
 (try simp only [Act.put, List.setIfInBounds_toArray, List.set_cons_zero, List.set_cons_succ])
 go_loopg [3] k (fun kq v3 w' => ∃ (x3_1 : Int), v3 = .int .i64 x3_1 ∧ za (zpb.l0 kq l0 x3_1 = some r) ∧ za (kq ≤ k) ∧ zn w w')
 case atStart => exact ⟨(0), (by rfl), H', ⟨Nat.le_refl _⟩, by repeat (first | exact zn.refl _ | apply zn.step)⟩
 case round =>
  clear H'
  obtain ⟨x3_1, rfl, HA, HK1, ⟨m1, rfl⟩⟩ := hrel
  cases gk with
  | zero => exact absurd HA.out (by simp [zpb.l0])
  | succ k1 =>
   have H := HA.out
   clear HA
   simp only [zpb.l0] at H
   by_cases c2 : x3_1 < (l0.length : Int)
   ·rw [if_pos c2] at H
    have c2b0 : decide (x3_1 < (l0.length : Int)) = true := decide_eq_true c2
    clear c2
    by_cases c3 : 0 ≤ x3_1
    ·rw [if_pos c3] at H
     have c3b0 : decide (0 ≤ x3_1) = true := decide_eq_true c3
     clear c3
     by_cases c4 : ((zwd l0 x3_1).f0).toList = ([] : List UInt8)
     ·rw [if_pos c4] at H
      have c4b0 : (((zwd l0 x3_1).f0).toList == ([] : List UInt8)) = true := beq_iff_eq.mpr c4
      have c4b1 : (((zwd l0 x3_1).f0).toList != ([] : List UInt8)) = false := bne_eq_false_iff_eq.mpr c4
      clear c4
      obtain rfl := Option.some.inj H
      have p229 : 0 ≤ (x3_1 : Int) := of_decide_eq_true (by (with_reducible assumption))
      have q229 : x3_1 < (l0.length : Int) := of_decide_eq_true (by (with_reducible assumption))
      obtain ⟨ad229, e229, hx229_0, hx229_1, hx229_2, hx229_3⟩ := at_T52 HR0.out x3_1 p229 q229
      cases e229
      replace p229 := eq_true p229
      replace q229 := eq_true q229
      go_wp2
      go_ret
      exact ⟨by rfl, by repeat (first | exact zn.refl _ | apply zn.step)⟩
     ·rw [if_neg c4] at H
      have c4b0 : (((zwd l0 x3_1).f0).toList == ([] : List UInt8)) = false := beq_eq_false_iff_ne.mpr c4
      have c4b1 : (((zwd l0 x3_1).f0).toList != ([] : List UInt8)) = true := bne_iff_ne.mpr c4
      have H' := za.mk H
      clear H
      have p229 : 0 ≤ (x3_1 : Int) := of_decide_eq_true (by (with_reducible assumption))
      have q229 : x3_1 < (l0.length : Int) := of_decide_eq_true (by (with_reducible assumption))
      obtain ⟨ad229, e229, hx229_0, hx229_1, hx229_2, hx229_3⟩ := at_T52 HR0.out x3_1 p229 q229
      cases e229
      replace p229 := eq_true p229
      replace q229 := eq_true q229
      go_wp2
      go_roundg k1
      case measure => have := HK1.out; omega
      case rel => exact ⟨(wrap64 (x3_1 + 1)), (by rfl), H', ⟨by have := HK1.out; omega⟩, by repeat (first | exact zn.refl _ | apply zn.step)⟩
    ·rw [if_neg c3] at H
     exact absurd H (by simp)
   ·rw [if_neg c2] at H
    have c2b0 : decide (x3_1 < (l0.length : Int)) = false := decide_eq_false c2
    clear c2
    obtain rfl := Option.some.inj H
    go_wp2
    go_ret
    exact ⟨by rfl, by repeat (first | exact zn.refl _ | apply zn.step)⟩
def zdb.l0 : Nat → List (S56) → Int → Option (Bool)
 | 0, _, _ => none
 | k + 1, x0, x5 => if x5 < (x0.length : Int) then (if 0 ≤ x5 then (if ((zhd x0 x5).f0) = 4 then (some false) else (if ((zhd x0 x5).f0) = 5 then (some false) else (zdb.l0 k x0 (wrap64 (x5 + 1))))) else (none)) else (some true)
def zdb.f (k : Nat) (l0 : List (S56)) (a1 : Int) : Option (Bool) := zdb.l0 k l0 a1
theorem zdb.calls (k : Nat) (A0 : Option Addr) (c0 : Nat) (l0 : List (S56)) (a1 : Int) (r : Bool) (w : World) (hr0 : Kd.C k56 w A0 l0.length l0) (hc0 : l0.length ≤ c0) (h : zdb.f k l0 a1 = some r) :
  Calls Tryz.prog 29 #[.slice A0 l0.length c0, .int .i64 a1] w fun e w' => e = .returned (.bool r) ∧ zn w w' := by
 have HR0 := za.mk hr0
 have HC0 := za.mk hc0
 clear hr0 hc0
 have H : (zdb.l0 k l0 a1) = some r := h
 clear h
 have H' := za.mk H
 clear H
 go_enter Tryz.func29, Tryz.ntmps29
 go_wp2
 (try simp only [Act.put, List.setIfInBounds_toArray, List.set_cons_zero, List.set_cons_succ])
 go_loopg [5] k (fun kq v5 w' => ∃ (x5_1 : Int), v5 = .int .i64 x5_1 ∧ za (zdb.l0 kq l0 x5_1 = some r) ∧ za (kq ≤ k) ∧ zn w w')
 case atStart => exact ⟨(a1), (by rfl), H', ⟨Nat.le_refl _⟩, by repeat (first | exact zn.refl _ | apply zn.step)⟩
 case round =>
  clear H'
  obtain ⟨x5_1, rfl, HA, HK1, ⟨m1, rfl⟩⟩ := hrel
  cases gk with
  | zero => exact absurd HA.out (by simp [zdb.l0])
  | succ k1 =>
   have H := HA.out
   clear HA
   simp only [zdb.l0] at H
   by_cases c3 : x5_1 < (l0.length : Int)
   ·rw [if_pos c3] at H
    have c3b0 : decide (x5_1 < (l0.length : Int)) = true := decide_eq_true c3
    clear c3
    by_cases c4 : 0 ≤ x5_1
    ·rw [if_pos c4] at H
     have c4b0 : decide (0 ≤ x5_1) = true := decide_eq_true c4
     clear c4
     by_cases c5 : ((zhd l0 x5_1).f0) = 4
     ·rw [if_pos c5] at H
      have c5b0 : (((zhd l0 x5_1).f0) == 4) = true := beq_iff_eq.mpr c5
      have c5b1 : (((zhd l0 x5_1).f0) != 4) = false := bne_eq_false_iff_eq.mpr c5
      clear c5
      obtain rfl := Option.some.inj H
      have p230 : 0 ≤ (x5_1 : Int) := of_decide_eq_true (by (with_reducible assumption))
      have q230 : x5_1 < (l0.length : Int) := of_decide_eq_true (by (with_reducible assumption))
      obtain ⟨ad230, e230, hx230_0, hx230_1, hx230_2⟩ := at_T56 HR0.out x5_1 p230 q230
      cases e230
      replace p230 := eq_true p230
      replace q230 := eq_true q230
      go_wp2
      go_ret
      exact ⟨by rfl, by repeat (first | exact zn.refl _ | apply zn.step)⟩
     ·rw [if_neg c5] at H
      have c5b0 : (((zhd l0 x5_1).f0) == 4) = false := beq_eq_false_iff_ne.mpr c5
      have c5b1 : (((zhd l0 x5_1).f0) != 4) = true := bne_iff_ne.mpr c5
      by_cases c6 : ((zhd l0 x5_1).f0) = 5
      ·rw [if_pos c6] at H
       have c6b0 : (((zhd l0 x5_1).f0) == 5) = true := beq_iff_eq.mpr c6
       have c6b1 : (((zhd l0 x5_1).f0) != 5) = false := bne_eq_false_iff_eq.mpr c6
       clear c6
       obtain rfl := Option.some.inj H
       have p230 : 0 ≤ (x5_1 : Int) := of_decide_eq_true (by (with_reducible assumption))
       have q230 : x5_1 < (l0.length : Int) := of_decide_eq_true (by (with_reducible assumption))
       obtain ⟨ad230, e230, hx230_0, hx230_1, hx230_2⟩ := at_T56 HR0.out x5_1 p230 q230
       cases e230
       replace p230 := eq_true p230
       replace q230 := eq_true q230
       have p231 : 0 ≤ (x5_1 : Int) := of_decide_eq_true (by (with_reducible assumption))
       have q231 : x5_1 < (l0.length : Int) := of_decide_eq_true (by (with_reducible assumption))
       obtain ⟨ad231, e231, hx231_0, hx231_1, hx231_2⟩ := at_T56 HR0.out x5_1 p231 q231
       obtain rfl : ad230 = ad231 := (by injection e231)
       replace p231 := eq_true p231
       replace q231 := eq_true q231
       go_wp2
       go_ret
       exact ⟨by rfl, by repeat (first | exact zn.refl _ | apply zn.step)⟩
      ·rw [if_neg c6] at H
       have c6b0 : (((zhd l0 x5_1).f0) == 5) = false := beq_eq_false_iff_ne.mpr c6
       have c6b1 : (((zhd l0 x5_1).f0) != 5) = true := bne_iff_ne.mpr c6
       have H' := za.mk H
       clear H
       have p230 : 0 ≤ (x5_1 : Int) := of_decide_eq_true (by (with_reducible assumption))
       have q230 : x5_1 < (l0.length : Int) := of_decide_eq_true (by (with_reducible assumption))
       obtain ⟨ad230, e230, hx230_0, hx230_1, hx230_2⟩ := at_T56 HR0.out x5_1 p230 q230
       cases e230
       replace p230 := eq_true p230
       replace q230 := eq_true q230
       have p231 : 0 ≤ (x5_1 : Int) := of_decide_eq_true (by (with_reducible assumption))
       have q231 : x5_1 < (l0.length : Int) := of_decide_eq_true (by (with_reducible assumption))
       obtain ⟨ad231, e231, hx231_0, hx231_1, hx231_2⟩ := at_T56 HR0.out x5_1 p231 q231
       obtain rfl : ad230 = ad231 := (by injection e231)
       replace p231 := eq_true p231
       replace q231 := eq_true q231
       go_wp2
       go_roundg k1
       case measure => have := HK1.out; omega
       case rel => exact ⟨(wrap64 (x5_1 + 1)), (by rfl), H', ⟨by have := HK1.out; omega⟩, by repeat (first | exact zn.refl _ | apply zn.step)⟩
    ·rw [if_neg c4] at H
     exact absurd H (by simp)
   ·rw [if_neg c3] at H
    have c3b0 : decide (x5_1 < (l0.length : Int)) = false := decide_eq_false c3
    clear c3
    obtain rfl := Option.some.inj H
    go_wp2
    go_ret
    exact ⟨by rfl, by repeat (first | exact zn.refl _ | apply zn.step)⟩
def znc.f (k : Nat) (a0_0 : ByteArray) (a0_1 : ByteArray) (a0_2 : ByteArray) (a0_3 : ByteArray) (a0_4 : Bool) (l0_5 : List (S52)) (l0_6 : List (S56)) (a0_7 : Bool) (a0_8 : Bool) (a0_9 : ByteArray) (a1_0 : ByteArray) (a1_1 : ByteArray) (a1_2 : ByteArray) (a1_3 : ByteArray) (a1_4 : Bool) (l1_5 : List (S52)) (l1_6 : List (S56)) (a1_7 : Bool) (a1_8 : Bool) (a1_9 : ByteArray) : Option (Bool) := if (a0_4 == a1_4) = true then ((zpb.f k l0_5).bind fun t234 => (if t234 = true then ((zpb.f k l1_5).bind fun t235 => (if t235 = true then ((zdb.f k l0_6 (l1_6.length : Int)).bind fun t236 => (if t236 = true then ((zdb.f k l1_6 (l0_6.length : Int)).bind fun t237 => (some t237)) else (some false))) else (some false))) else (some false))) else (some false)
theorem znc.calls (k : Nat) (a0_0 : ByteArray) (a0_1 : ByteArray) (a0_2 : ByteArray) (a0_3 : ByteArray) (a0_4 : Bool) (A0_5 : Option Addr) (c0_5 : Nat) (l0_5 : List (S52)) (A0_6 : Option Addr) (c0_6 : Nat) (l0_6 : List (S56)) (a0_7 : Bool) (a0_8 : Bool) (a0_9 : ByteArray) (a1_0 : ByteArray) (a1_1 : ByteArray) (a1_2 : ByteArray) (a1_3 : ByteArray) (a1_4 : Bool) (A1_5 : Option Addr) (c1_5 : Nat) (l1_5 : List (S52)) (A1_6 : Option Addr) (c1_6 : Nat) (l1_6 : List (S56)) (a1_7 : Bool) (a1_8 : Bool) (a1_9 : ByteArray) (r : Bool) (w : World) (hr0_5 : Kd.C k52 w A0_5 l0_5.length l0_5) (hc0_5 : l0_5.length ≤ c0_5) (hr0_6 : Kd.C k56 w A0_6 l0_6.length l0_6) (hc0_6 : l0_6.length ≤ c0_6) (hr1_5 : Kd.C k52 w A1_5 l1_5.length l1_5) (hc1_5 : l1_5.length ≤ c1_5) (hr1_6 : Kd.C k56 w A1_6 l1_6.length l1_6) (hc1_6 : l1_6.length ≤ c1_6) (h : znc.f k a0_0 a0_1 a0_2 a0_3 a0_4 l0_5 l0_6 a0_7 a0_8 a0_9 a1_0 a1_1 a1_2 a1_3 a1_4 l1_5 l1_6 a1_7 a1_8 a1_9 = some r) :
  Calls Tryz.prog 9 #[.agg #[.string a0_0, .string a0_1, .string a0_2, .string a0_3, .bool a0_4, .slice A0_5 l0_5.length c0_5, .slice A0_6 l0_6.length c0_6, .bool a0_7, .bool a0_8, .string a0_9], .agg #[.string a1_0, .string a1_1, .string a1_2, .string a1_3, .bool a1_4, .slice A1_5 l1_5.length c1_5, .slice A1_6 l1_6.length c1_6, .bool a1_7, .bool a1_8, .string a1_9]] w fun e w' => e = .returned (.bool r) ∧ Below w.heap.size w w' := by
 have hu33 := Tryz.underlying33
 have HR0_5 := za.mk hr0_5
 have HC0_5 := za.mk hc0_5
 clear hr0_5 hc0_5
 have HR0_6 := za.mk hr0_6
 have HC0_6 := za.mk hc0_6
 clear hr0_6 hc0_6
 have HR1_5 := za.mk hr1_5
 have HC1_5 := za.mk hc1_5
 clear hr1_5 hc1_5
 have HR1_6 := za.mk hr1_6
 have HC1_6 := za.mk hc1_6
 clear hr1_6 hc1_6
 have HB := za.mk (Below.refl w.heap.size w)
 have H : (if (a0_4 == a1_4) = true then ((zpb.f k l0_5).bind fun t234 => (if t234 = true then ((zpb.f k l1_5).bind fun t235 => (if t235 = true then ((zdb.f k l0_6 (l1_6.length : Int)).bind fun t236 => (if t236 = true then ((zdb.f k l1_6 (l0_6.length : Int)).bind fun t237 => (some t237)) else (some false))) else (some false))) else (some false))) else (some false)) = some r := h
 clear h
 by_cases c3 : (a0_4 == a1_4) = true
 ·rw [if_pos c3] at H
  have c3b0 : (a0_4 == a1_4) = true := c3
  (try (have c3b1 : decide (a0_4 = a1_4) = true := by simpa using c3))
  (try (have c3b2 : (a0_4 == a1_4) = true := by simpa using c3))
  clear c3
  replace H := Option.bind_eq_some_iff.mp H
  obtain ⟨t234, A40, H⟩ := H
  replace H : (if t234 = true then ((zpb.f k l1_5).bind fun t235 => (if t235 = true then ((zdb.f k l0_6 (l1_6.length : Int)).bind fun t236 => (if t236 = true then ((zdb.f k l1_6 (l0_6.length : Int)).bind fun t237 => (some t237)) else (some false))) else (some false))) else (some false)) = some r := H
  have A4 := za.mk A40
  clear A40
  by_cases c5 : t234 = true
  ·subst c5
   have H1 : ((zpb.f k l1_5).bind fun t235 => (if t235 = true then ((zdb.f k l0_6 (l1_6.length : Int)).bind fun t236 => (if t236 = true then ((zdb.f k l1_6 (l0_6.length : Int)).bind fun t237 => (some t237)) else (some false))) else (some false))) = some r := by rw [if_pos rfl] at H; exact H
   clear H
   have H := H1
   clear H1
   replace H := Option.bind_eq_some_iff.mp H
   obtain ⟨t235, A60, H⟩ := H
   replace H : (if t235 = true then ((zdb.f k l0_6 (l1_6.length : Int)).bind fun t236 => (if t236 = true then ((zdb.f k l1_6 (l0_6.length : Int)).bind fun t237 => (some t237)) else (some false))) else (some false)) = some r := H
   have A6 := za.mk A60
   clear A60
   by_cases c7 : t235 = true
   ·subst c7
    have H1 : ((zdb.f k l0_6 (l1_6.length : Int)).bind fun t236 => (if t236 = true then ((zdb.f k l1_6 (l0_6.length : Int)).bind fun t237 => (some t237)) else (some false))) = some r := by rw [if_pos rfl] at H; exact H
    clear H
    have H := H1
    clear H1
    replace H := Option.bind_eq_some_iff.mp H
    obtain ⟨t236, A80, H⟩ := H
    replace H : (if t236 = true then ((zdb.f k l1_6 (l0_6.length : Int)).bind fun t237 => (some t237)) else (some false)) = some r := H
    have A8 := za.mk A80
    clear A80
    by_cases c9 : t236 = true
    ·subst c9
     have H1 : ((zdb.f k l1_6 (l0_6.length : Int)).bind fun t237 => (some t237)) = some r := by rw [if_pos rfl] at H; exact H
     clear H
     have H := H1
     clear H1
     replace H := Option.bind_eq_some_iff.mp H
     obtain ⟨t237, A100, H⟩ := H
     replace H : (some t237) = some r := H
     have A10 := za.mk A100
     clear A100
     obtain rfl := Option.some.inj H
     go_enter Tryz.func9, Tryz.ntmps9
     go_wp2_with (first | ((with_reducible refine znb (N := 2) rfl ?_); (try (refine zjc (by rfl) ?_; dsimp only)); refine zzb ?hg (N := 2) ?hd (cs := #[.string a0_0, .string a0_1, .string a0_2, .string a0_3, .bool a0_4, .slice A0_5 l0_5.length c0_5, .slice A0_6 l0_6.length c0_6, .bool a0_7, .bool a0_8, .string a0_9]) (t := 33) ?hr ?_; (case hd => rfl); (case hg => rfl); (case hr => first | (go_simp; done) | (go_simp; rfl)); intro gb232 hg w11 hbox hb; have BK232 := za.mk hbox; have GW232 := za.mk ((by rw [hg]; exact (zm (by (with_reducible exact HB.out))) : w.heap.size ≤ gb232)); have GE232 := za.mk ((by rw [hg]; exact (zm (by (with_reducible exact HB.out))) : w.heap.size ≤ gb232)); replace HB := BS HB hb; clear hb hbox hg) | ((with_reducible refine znb (N := 3) rfl ?_); (try (refine zjc (by rfl) ?_; dsimp only)); refine zzb ?hg (N := 3) ?hd (cs := #[.string a1_0, .string a1_1, .string a1_2, .string a1_3, .bool a1_4, .slice A1_5 l1_5.length c1_5, .slice A1_6 l1_6.length c1_6, .bool a1_7, .bool a1_8, .string a1_9]) (t := 33) ?hr ?_; (case hd => rfl); (case hg => rfl); (case hr => first | (go_simp; done) | (go_simp; rfl)); intro gb233 hg w12 hbox hb; have n0_ := za.mk (zc BK232.out hb); have n1_ := za.mk (zib (by (with_reducible exact HB.out)) hb); have n2_ := za.mk hbox; have n3_ := za.mk ((by rw [hg]; exact (zm (by (with_reducible exact HB.out))) : w.heap.size ≤ gb233)); have n4_ := za.mk ((by rw [hg]; exact (zm (by (with_reducible exact HB.out))) : w.heap.size ≤ gb233)); have n5_ := za.mk ((by rw [hg]; exact Nat.ne_of_lt (zyb BK232.out) : gb232 ≠ gb233)); have n6_ := za.mk ((by rw [hg]; exact Nat.ne_of_gt (zyb BK232.out) : gb233 ≠ gb232)); clear BK232; clear HB; have BK232 := n0_; have HB := n1_; have BK233 := n2_; have GW233 := n3_; have GE233 := n4_; have NB232_233 := n5_; have NB233_232 := n6_; clear n0_ n1_ n2_ n3_ n4_ n5_ n6_; clear hb hbox hg; have hnb13 := NB232_233.out; have hnc13 := NB233_232.out; obtain ⟨z14_0, z14_1, z14_2, z14_3, z14_4, z14_5, z14_6, z14_7, z14_8, z14_9, _⟩ := cl10 BK232.out; obtain ⟨z15_0, z15_1, z15_2, z15_3, z15_4, z15_5, z15_6, z15_7, z15_8, z15_9, _⟩ := cl10 BK233.out) | (go_at_call 28; (with_reducible refine (zpb.calls k _ _ l0_5 true _ ?side1 ?side2 A4.out).mono ?_); (case side1 => repeat (first | exact (Kd.C_below HR0_5.out HB.out) | (with_reducible refine Kd.C_alloc ?_ _) | (with_reducible refine Kd.C_drewN ?_ _) | (with_reducible refine Kd.C_drew ?_))); (case side2 => exact HC0_5.out); rintro e w' ⟨rfl, ⟨nd, rfl⟩⟩) | (go_at_call 28; (with_reducible refine (zpb.calls k _ _ l1_5 true _ ?side1 ?side2 A6.out).mono ?_); (case side1 => repeat (first | exact (Kd.C_below HR1_5.out (by (with_reducible apply zd; with_reducible exact HB.out))) | (with_reducible refine Kd.C_alloc ?_ _) | (with_reducible refine Kd.C_drewN ?_ _) | (with_reducible refine Kd.C_drew ?_))); (case side2 => exact HC1_5.out); rintro e w' ⟨rfl, ⟨nd, rfl⟩⟩) | (go_at_call 29; (with_reducible refine (zdb.calls k _ _ l0_6 (l1_6.length : Int) true _ ?side1 ?side2 A8.out).mono ?_); (case side1 => repeat (first | exact (Kd.C_below HR0_6.out (by (with_reducible apply zd; with_reducible exact HB.out))) | (with_reducible refine Kd.C_alloc ?_ _) | (with_reducible refine Kd.C_drewN ?_ _) | (with_reducible refine Kd.C_drew ?_))); (case side2 => exact HC0_6.out); rintro e w' ⟨rfl, ⟨nd, rfl⟩⟩) | (go_at_call 29; (with_reducible refine (zdb.calls k _ _ l1_6 (l0_6.length : Int) t237 _ ?side1 ?side2 A10.out).mono ?_); (case side1 => repeat (first | exact (Kd.C_below HR1_6.out (by (with_reducible apply zd; with_reducible exact HB.out))) | (with_reducible refine Kd.C_alloc ?_ _) | (with_reducible refine Kd.C_drewN ?_ _) | (with_reducible refine Kd.C_drew ?_))); (case side2 => exact HC1_6.out); rintro e w' ⟨rfl, ⟨nd, rfl⟩⟩))
     go_ret
     exact ⟨by rfl, by (with_reducible apply zd; with_reducible exact HB.out)⟩
    ·replace c9 := Bool.eq_false_iff.mpr c9
     subst c9
     have H1 : (some false) = some r := by rw [if_neg (show ¬ (false = true) by decide)] at H; exact H
     clear H
     have H := H1
     clear H1
     obtain rfl := Option.some.inj H
     go_enter Tryz.func9, Tryz.ntmps9
     go_wp2_with (first | ((with_reducible refine znb (N := 2) rfl ?_); (try (refine zjc (by rfl) ?_; dsimp only)); refine zzb ?hg (N := 2) ?hd (cs := #[.string a0_0, .string a0_1, .string a0_2, .string a0_3, .bool a0_4, .slice A0_5 l0_5.length c0_5, .slice A0_6 l0_6.length c0_6, .bool a0_7, .bool a0_8, .string a0_9]) (t := 33) ?hr ?_; (case hd => rfl); (case hg => rfl); (case hr => first | (go_simp; done) | (go_simp; rfl)); intro gb232 hg w16 hbox hb; have BK232 := za.mk hbox; have GW232 := za.mk ((by rw [hg]; exact (zm (by (with_reducible exact HB.out))) : w.heap.size ≤ gb232)); have GE232 := za.mk ((by rw [hg]; exact (zm (by (with_reducible exact HB.out))) : w.heap.size ≤ gb232)); replace HB := BS HB hb; clear hb hbox hg) | ((with_reducible refine znb (N := 3) rfl ?_); (try (refine zjc (by rfl) ?_; dsimp only)); refine zzb ?hg (N := 3) ?hd (cs := #[.string a1_0, .string a1_1, .string a1_2, .string a1_3, .bool a1_4, .slice A1_5 l1_5.length c1_5, .slice A1_6 l1_6.length c1_6, .bool a1_7, .bool a1_8, .string a1_9]) (t := 33) ?hr ?_; (case hd => rfl); (case hg => rfl); (case hr => first | (go_simp; done) | (go_simp; rfl)); intro gb233 hg w17 hbox hb; have n0_ := za.mk (zc BK232.out hb); have n1_ := za.mk (zib (by (with_reducible exact HB.out)) hb); have n2_ := za.mk hbox; have n3_ := za.mk ((by rw [hg]; exact (zm (by (with_reducible exact HB.out))) : w.heap.size ≤ gb233)); have n4_ := za.mk ((by rw [hg]; exact (zm (by (with_reducible exact HB.out))) : w.heap.size ≤ gb233)); have n5_ := za.mk ((by rw [hg]; exact Nat.ne_of_lt (zyb BK232.out) : gb232 ≠ gb233)); have n6_ := za.mk ((by rw [hg]; exact Nat.ne_of_gt (zyb BK232.out) : gb233 ≠ gb232)); clear BK232; clear HB; have BK232 := n0_; have HB := n1_; have BK233 := n2_; have GW233 := n3_; have GE233 := n4_; have NB232_233 := n5_; have NB233_232 := n6_; clear n0_ n1_ n2_ n3_ n4_ n5_ n6_; clear hb hbox hg; have hnb18 := NB232_233.out; have hnc18 := NB233_232.out; obtain ⟨z19_0, z19_1, z19_2, z19_3, z19_4, z19_5, z19_6, z19_7, z19_8, z19_9, _⟩ := cl10 BK232.out; obtain ⟨z20_0, z20_1, z20_2, z20_3, z20_4, z20_5, z20_6, z20_7, z20_8, z20_9, _⟩ := cl10 BK233.out) | (go_at_call 28; (with_reducible refine (zpb.calls k _ _ l0_5 true _ ?side1 ?side2 A4.out).mono ?_); (case side1 => repeat (first | exact (Kd.C_below HR0_5.out HB.out) | (with_reducible refine Kd.C_alloc ?_ _) | (with_reducible refine Kd.C_drewN ?_ _) | (with_reducible refine Kd.C_drew ?_))); (case side2 => exact HC0_5.out); rintro e w' ⟨rfl, ⟨nd, rfl⟩⟩) | (go_at_call 28; (with_reducible refine (zpb.calls k _ _ l1_5 true _ ?side1 ?side2 A6.out).mono ?_); (case side1 => repeat (first | exact (Kd.C_below HR1_5.out (by (with_reducible apply zd; with_reducible exact HB.out))) | (with_reducible refine Kd.C_alloc ?_ _) | (with_reducible refine Kd.C_drewN ?_ _) | (with_reducible refine Kd.C_drew ?_))); (case side2 => exact HC1_5.out); rintro e w' ⟨rfl, ⟨nd, rfl⟩⟩) | (go_at_call 29; (with_reducible refine (zdb.calls k _ _ l0_6 (l1_6.length : Int) false _ ?side1 ?side2 A8.out).mono ?_); (case side1 => repeat (first | exact (Kd.C_below HR0_6.out (by (with_reducible apply zd; with_reducible exact HB.out))) | (with_reducible refine Kd.C_alloc ?_ _) | (with_reducible refine Kd.C_drewN ?_ _) | (with_reducible refine Kd.C_drew ?_))); (case side2 => exact HC0_6.out); rintro e w' ⟨rfl, ⟨nd, rfl⟩⟩))
     go_ret
     exact ⟨by rfl, by (with_reducible apply zd; with_reducible exact HB.out)⟩
   ·replace c7 := Bool.eq_false_iff.mpr c7
    subst c7
    have H1 : (some false) = some r := by rw [if_neg (show ¬ (false = true) by decide)] at H; exact H
    clear H
    have H := H1
    clear H1
    obtain rfl := Option.some.inj H
    go_enter Tryz.func9, Tryz.ntmps9
    go_wp2_with (first | ((with_reducible refine znb (N := 2) rfl ?_); (try (refine zjc (by rfl) ?_; dsimp only)); refine zzb ?hg (N := 2) ?hd (cs := #[.string a0_0, .string a0_1, .string a0_2, .string a0_3, .bool a0_4, .slice A0_5 l0_5.length c0_5, .slice A0_6 l0_6.length c0_6, .bool a0_7, .bool a0_8, .string a0_9]) (t := 33) ?hr ?_; (case hd => rfl); (case hg => rfl); (case hr => first | (go_simp; done) | (go_simp; rfl)); intro gb232 hg w21 hbox hb; have BK232 := za.mk hbox; have GW232 := za.mk ((by rw [hg]; exact (zm (by (with_reducible exact HB.out))) : w.heap.size ≤ gb232)); have GE232 := za.mk ((by rw [hg]; exact (zm (by (with_reducible exact HB.out))) : w.heap.size ≤ gb232)); replace HB := BS HB hb; clear hb hbox hg) | ((with_reducible refine znb (N := 3) rfl ?_); (try (refine zjc (by rfl) ?_; dsimp only)); refine zzb ?hg (N := 3) ?hd (cs := #[.string a1_0, .string a1_1, .string a1_2, .string a1_3, .bool a1_4, .slice A1_5 l1_5.length c1_5, .slice A1_6 l1_6.length c1_6, .bool a1_7, .bool a1_8, .string a1_9]) (t := 33) ?hr ?_; (case hd => rfl); (case hg => rfl); (case hr => first | (go_simp; done) | (go_simp; rfl)); intro gb233 hg w22 hbox hb; have n0_ := za.mk (zc BK232.out hb); have n1_ := za.mk (zib (by (with_reducible exact HB.out)) hb); have n2_ := za.mk hbox; have n3_ := za.mk ((by rw [hg]; exact (zm (by (with_reducible exact HB.out))) : w.heap.size ≤ gb233)); have n4_ := za.mk ((by rw [hg]; exact (zm (by (with_reducible exact HB.out))) : w.heap.size ≤ gb233)); have n5_ := za.mk ((by rw [hg]; exact Nat.ne_of_lt (zyb BK232.out) : gb232 ≠ gb233)); have n6_ := za.mk ((by rw [hg]; exact Nat.ne_of_gt (zyb BK232.out) : gb233 ≠ gb232)); clear BK232; clear HB; have BK232 := n0_; have HB := n1_; have BK233 := n2_; have GW233 := n3_; have GE233 := n4_; have NB232_233 := n5_; have NB233_232 := n6_; clear n0_ n1_ n2_ n3_ n4_ n5_ n6_; clear hb hbox hg; have hnb23 := NB232_233.out; have hnc23 := NB233_232.out; obtain ⟨z24_0, z24_1, z24_2, z24_3, z24_4, z24_5, z24_6, z24_7, z24_8, z24_9, _⟩ := cl10 BK232.out; obtain ⟨z25_0, z25_1, z25_2, z25_3, z25_4, z25_5, z25_6, z25_7, z25_8, z25_9, _⟩ := cl10 BK233.out) | (go_at_call 28; (with_reducible refine (zpb.calls k _ _ l0_5 true _ ?side1 ?side2 A4.out).mono ?_); (case side1 => repeat (first | exact (Kd.C_below HR0_5.out HB.out) | (with_reducible refine Kd.C_alloc ?_ _) | (with_reducible refine Kd.C_drewN ?_ _) | (with_reducible refine Kd.C_drew ?_))); (case side2 => exact HC0_5.out); rintro e w' ⟨rfl, ⟨nd, rfl⟩⟩) | (go_at_call 28; (with_reducible refine (zpb.calls k _ _ l1_5 false _ ?side1 ?side2 A6.out).mono ?_); (case side1 => repeat (first | exact (Kd.C_below HR1_5.out (by (with_reducible apply zd; with_reducible exact HB.out))) | (with_reducible refine Kd.C_alloc ?_ _) | (with_reducible refine Kd.C_drewN ?_ _) | (with_reducible refine Kd.C_drew ?_))); (case side2 => exact HC1_5.out); rintro e w' ⟨rfl, ⟨nd, rfl⟩⟩))
    go_ret
    exact ⟨by rfl, by (with_reducible apply zd; with_reducible exact HB.out)⟩
  ·replace c5 := Bool.eq_false_iff.mpr c5
   subst c5
   have H1 : (some false) = some r := by rw [if_neg (show ¬ (false = true) by decide)] at H; exact H
   clear H
   have H := H1
   clear H1
   obtain rfl := Option.some.inj H
   go_enter Tryz.func9, Tryz.ntmps9
   go_wp2_with (first | ((with_reducible refine znb (N := 2) rfl ?_); (try (refine zjc (by rfl) ?_; dsimp only)); refine zzb ?hg (N := 2) ?hd (cs := #[.string a0_0, .string a0_1, .string a0_2, .string a0_3, .bool a0_4, .slice A0_5 l0_5.length c0_5, .slice A0_6 l0_6.length c0_6, .bool a0_7, .bool a0_8, .string a0_9]) (t := 33) ?hr ?_; (case hd => rfl); (case hg => rfl); (case hr => first | (go_simp; done) | (go_simp; rfl)); intro gb232 hg w26 hbox hb; have BK232 := za.mk hbox; have GW232 := za.mk ((by rw [hg]; exact (zm (by (with_reducible exact HB.out))) : w.heap.size ≤ gb232)); have GE232 := za.mk ((by rw [hg]; exact (zm (by (with_reducible exact HB.out))) : w.heap.size ≤ gb232)); replace HB := BS HB hb; clear hb hbox hg) | ((with_reducible refine znb (N := 3) rfl ?_); (try (refine zjc (by rfl) ?_; dsimp only)); refine zzb ?hg (N := 3) ?hd (cs := #[.string a1_0, .string a1_1, .string a1_2, .string a1_3, .bool a1_4, .slice A1_5 l1_5.length c1_5, .slice A1_6 l1_6.length c1_6, .bool a1_7, .bool a1_8, .string a1_9]) (t := 33) ?hr ?_; (case hd => rfl); (case hg => rfl); (case hr => first | (go_simp; done) | (go_simp; rfl)); intro gb233 hg w27 hbox hb; have n0_ := za.mk (zc BK232.out hb); have n1_ := za.mk (zib (by (with_reducible exact HB.out)) hb); have n2_ := za.mk hbox; have n3_ := za.mk ((by rw [hg]; exact (zm (by (with_reducible exact HB.out))) : w.heap.size ≤ gb233)); have n4_ := za.mk ((by rw [hg]; exact (zm (by (with_reducible exact HB.out))) : w.heap.size ≤ gb233)); have n5_ := za.mk ((by rw [hg]; exact Nat.ne_of_lt (zyb BK232.out) : gb232 ≠ gb233)); have n6_ := za.mk ((by rw [hg]; exact Nat.ne_of_gt (zyb BK232.out) : gb233 ≠ gb232)); clear BK232; clear HB; have BK232 := n0_; have HB := n1_; have BK233 := n2_; have GW233 := n3_; have GE233 := n4_; have NB232_233 := n5_; have NB233_232 := n6_; clear n0_ n1_ n2_ n3_ n4_ n5_ n6_; clear hb hbox hg; have hnb28 := NB232_233.out; have hnc28 := NB233_232.out; obtain ⟨z29_0, z29_1, z29_2, z29_3, z29_4, z29_5, z29_6, z29_7, z29_8, z29_9, _⟩ := cl10 BK232.out; obtain ⟨z30_0, z30_1, z30_2, z30_3, z30_4, z30_5, z30_6, z30_7, z30_8, z30_9, _⟩ := cl10 BK233.out) | (go_at_call 28; (with_reducible refine (zpb.calls k _ _ l0_5 false _ ?side1 ?side2 A4.out).mono ?_); (case side1 => repeat (first | exact (Kd.C_below HR0_5.out HB.out) | (with_reducible refine Kd.C_alloc ?_ _) | (with_reducible refine Kd.C_drewN ?_ _) | (with_reducible refine Kd.C_drew ?_))); (case side2 => exact HC0_5.out); rintro e w' ⟨rfl, ⟨nd, rfl⟩⟩))
   go_ret
   exact ⟨by rfl, by (with_reducible apply zd; with_reducible exact HB.out)⟩
 ·rw [if_neg c3] at H
  have c3b0 : (a0_4 == a1_4) = false := by simpa using c3
  (try (have c3b1 : decide (a0_4 = a1_4) = false := by simpa using c3))
  (try (have c3b2 : (a0_4 == a1_4) = false := by simpa using c3))
  (try (have c3b3 : ¬ (a0_4 = a1_4) := by simpa using c3))
  clear c3
  obtain rfl := Option.some.inj H
  go_enter Tryz.func9, Tryz.ntmps9
  go_wp2_with (first | ((with_reducible refine znb (N := 2) rfl ?_); (try (refine zjc (by rfl) ?_; dsimp only)); refine zzb ?hg (N := 2) ?hd (cs := #[.string a0_0, .string a0_1, .string a0_2, .string a0_3, .bool a0_4, .slice A0_5 l0_5.length c0_5, .slice A0_6 l0_6.length c0_6, .bool a0_7, .bool a0_8, .string a0_9]) (t := 33) ?hr ?_; (case hd => rfl); (case hg => rfl); (case hr => first | (go_simp; done) | (go_simp; rfl)); intro gb232 hg w31 hbox hb; have BK232 := za.mk hbox; have GW232 := za.mk ((by rw [hg]; exact (zm (by (with_reducible exact HB.out))) : w.heap.size ≤ gb232)); have GE232 := za.mk ((by rw [hg]; exact (zm (by (with_reducible exact HB.out))) : w.heap.size ≤ gb232)); replace HB := BS HB hb; clear hb hbox hg) | ((with_reducible refine znb (N := 3) rfl ?_); (try (refine zjc (by rfl) ?_; dsimp only)); refine zzb ?hg (N := 3) ?hd (cs := #[.string a1_0, .string a1_1, .string a1_2, .string a1_3, .bool a1_4, .slice A1_5 l1_5.length c1_5, .slice A1_6 l1_6.length c1_6, .bool a1_7, .bool a1_8, .string a1_9]) (t := 33) ?hr ?_; (case hd => rfl); (case hg => rfl); (case hr => first | (go_simp; done) | (go_simp; rfl)); intro gb233 hg w32 hbox hb; have n0_ := za.mk (zc BK232.out hb); have n1_ := za.mk (zib (by (with_reducible exact HB.out)) hb); have n2_ := za.mk hbox; have n3_ := za.mk ((by rw [hg]; exact (zm (by (with_reducible exact HB.out))) : w.heap.size ≤ gb233)); have n4_ := za.mk ((by rw [hg]; exact (zm (by (with_reducible exact HB.out))) : w.heap.size ≤ gb233)); have n5_ := za.mk ((by rw [hg]; exact Nat.ne_of_lt (zyb BK232.out) : gb232 ≠ gb233)); have n6_ := za.mk ((by rw [hg]; exact Nat.ne_of_gt (zyb BK232.out) : gb233 ≠ gb232)); clear BK232; clear HB; have BK232 := n0_; have HB := n1_; have BK233 := n2_; have GW233 := n3_; have GE233 := n4_; have NB232_233 := n5_; have NB233_232 := n6_; clear n0_ n1_ n2_ n3_ n4_ n5_ n6_; clear hb hbox hg; have hnb33 := NB232_233.out; have hnc33 := NB233_232.out; obtain ⟨z34_0, z34_1, z34_2, z34_3, z34_4, z34_5, z34_6, z34_7, z34_8, z34_9, _⟩ := cl10 BK232.out; obtain ⟨z35_0, z35_1, z35_2, z35_3, z35_4, z35_5, z35_6, z35_7, z35_8, z35_9, _⟩ := cl10 BK233.out))
  go_ret
  exact ⟨by rfl, by (with_reducible exact HB.out)⟩
end Go.Proofs.YtapaijpglfmfgaaGreatDoor.Q
end
section
namespace Go.Proofs.YtapaijpglfmfgaaGreatDoor.Q
open Go.RowKit YtapaijpglfmfgaaGreatDoorH YtapaijpglfmfgaaGreatDoorG YtapaijpglfmfgaaGreatDoorW.PrintWords YtapaijpglfmfgaaGreatDoorW.PrintLast YtapaijpglfmfgaaGreatDoorW.PrintMore YtapaijpglfmfgaaGreatDoorC
attribute [local go_sem] zfd zjd ztd zud zsc ztc zgd zkd
def zdd.f (a0 : ByteArray) (a1 : ByteArray) : Option (Int) := if (Op.bytesLess a0.toList a1.toList) = true then (some (-1)) else (if (Op.bytesLess a1.toList a0.toList) = true then (some 1) else (some 0))
theorem zdd.calls (a0 : ByteArray) (a1 : ByteArray) (r : Int) (w : World) (h : zdd.f a0 a1 = some r) :
  Calls Tryz.prog 32 #[.string a0, .string a1] w fun e w' => e = .returned (.int .i64 r) ∧ zn w w' := by
 have H : (if (Op.bytesLess a0.toList a1.toList) = true then (some (-1)) else (if (Op.bytesLess a1.toList a0.toList) = true then (some 1) else (some 0))) = some r := h
 clear h
 by_cases c3 : (Op.bytesLess a0.toList a1.toList) = true
 ·rw [if_pos c3] at H
  have c3b0 : (Op.bytesLess a0.toList a1.toList) = true := c3
  clear c3
  obtain rfl := Option.some.inj H
  have hgt_ := fun W_ : World => zki (P := Tryz.prog) W_ 9 a0 a1
  go_enter Tryz.func32, Tryz.ntmps32
  go_wp2
  go_ret
  exact ⟨by rfl, by repeat (first | exact zn.refl _ | apply zn.step)⟩
 ·rw [if_neg c3] at H
  have c3b0 : (Op.bytesLess a0.toList a1.toList) = false := by simpa using c3
  clear c3
  by_cases c4 : (Op.bytesLess a1.toList a0.toList) = true
  ·rw [if_pos c4] at H
   have c4b0 : (Op.bytesLess a1.toList a0.toList) = true := c4
   clear c4
   obtain rfl := Option.some.inj H
   have hgt_ := fun W_ : World => zki (P := Tryz.prog) W_ 9 a0 a1
   go_enter Tryz.func32, Tryz.ntmps32
   go_wp2
   go_ret
   exact ⟨by rfl, by repeat (first | exact zn.refl _ | apply zn.step)⟩
  ·rw [if_neg c4] at H
   have c4b0 : (Op.bytesLess a1.toList a0.toList) = false := by simpa using c4
   clear c4
   obtain rfl := Option.some.inj H
   have hgt_ := fun W_ : World => zki (P := Tryz.prog) W_ 9 a0 a1
   go_enter Tryz.func32, Tryz.ntmps32
   go_wp2
   go_ret
   exact ⟨by rfl, by repeat (first | exact zn.refl _ | apply zn.step)⟩
def zzc.f (a0 : Int) (a1 : Int) : Option (Int) := if a0 < a1 then (some (-1)) else (if a0 > a1 then (some 1) else (some 0))
theorem zzc.calls (a0 : Int) (a1 : Int) (r : Int) (w : World) (h : zzc.f a0 a1 = some r) :
  Calls Tryz.prog 55 #[.int .i64 a0, .int .i64 a1] w fun e w' => e = .returned (.int .i64 r) ∧ zn w w' := by
 have H : (if a0 < a1 then (some (-1)) else (if a0 > a1 then (some 1) else (some 0))) = some r := h
 clear h
 by_cases c3 : a0 < a1
 ·rw [if_pos c3] at H
  have c3b0 : decide (a0 < a1) = true := decide_eq_true c3
  clear c3
  obtain rfl := Option.some.inj H
  go_enter Tryz.func55, Tryz.ntmps55
  go_wp2
  go_ret
  exact ⟨by rfl, by repeat (first | exact zn.refl _ | apply zn.step)⟩
 ·rw [if_neg c3] at H
  have c3b0 : decide (a0 < a1) = false := decide_eq_false c3
  clear c3
  by_cases c4 : a0 > a1
  ·rw [if_pos c4] at H
   have c4b0 : decide (a1 < a0) = true := decide_eq_true c4
   clear c4
   obtain rfl := Option.some.inj H
   go_enter Tryz.func55, Tryz.ntmps55
   go_wp2
   go_ret
   exact ⟨by rfl, by repeat (first | exact zn.refl _ | apply zn.step)⟩
  ·rw [if_neg c4] at H
   have c4b0 : decide (a1 < a0) = false := decide_eq_false c4
   clear c4
   obtain rfl := Option.some.inj H
   go_enter Tryz.func55, Tryz.ntmps55
   go_wp2
   go_ret
   exact ⟨by rfl, by repeat (first | exact zn.refl _ | apply zn.step)⟩
def zkc.l0 : Nat → Bool → ByteArray → Option (Bool × ByteArray)
 | 0, _, _ => none
 | k + 1, x239000, x239001 => if (x239001.size : Int) > 0 then (if 0 < (x239001.size : Int) then (if (bt x239001 0) = 0 then (if 1 ≤ (x239001.size : Int) then (zkc.l0 k x239000 (x239001.extract 1 x239001.size)) else (none)) else (if x239000 = true then (some ((x239001.toList != ([] : List UInt8)), x239001)) else (some (false, x239001)))) else (none)) else (if x239000 = true then (some ((x239001.toList != ([] : List UInt8)), x239001)) else (some (false, x239001)))
def zkc.f (k : Nat) (a0_0 : Bool) (a0_1 : ByteArray) : Option (Bool × ByteArray) := zkc.l0 k a0_0 a0_1
theorem zkc.calls (k : Nat) (a0_0 : Bool) (a0_1 : ByteArray) (r1 : Bool) (r2 : ByteArray) (w : World) (h : zkc.f k a0_0 a0_1 = some (r1, r2)) :
  Calls Tryz.prog 56 #[.agg #[.bool a0_0, .string a0_1]] w fun e w' => e = .returned (.agg #[.bool r1, .string r2]) ∧ Below w.heap.size w w' := by
 have hu31 := Tryz.underlying31
 have HB := za.mk (Below.refl w.heap.size w)
 have H : (zkc.l0 k a0_0 a0_1) = some (r1, r2) := h
 clear h
 have H' := za.mk H
 clear H
 go_enter Tryz.func56, Tryz.ntmps56
 go_wp2_with (first | ((with_reducible refine znb (N := 1) rfl ?_); refine zzb ?hg (N := 1) ?hd (cs := #[.bool a0_0, .string a0_1]) (t := 31) ?hr ?_; (case hd => rfl); (case hg => rfl); (case hr => first | (go_simp; done) | (go_simp; rfl)); intro gb238 hg w2 hbox hb; have BK238 := za.mk hbox; have GW238 := za.mk ((by rw [hg]; exact (zm (by (with_reducible exact HB.out))) : w.heap.size ≤ gb238)); have GE238 := za.mk ((by rw [hg]; exact (zm (by (with_reducible exact HB.out))) : w.heap.size ≤ gb238)); replace HB := BS HB hb; clear hb hbox hg) | ((with_reducible refine znb (N := 2) rfl ?_); refine zzb ?hg (N := 2) ?hd (cs := #[.bool false, .string ⟨#[]⟩]) (t := 31) ?hr ?_; (case hd => rfl); (case hg => rfl); (case hr => first | (go_simp; done) | (go_simp; rfl)); intro gb239 hg w3 hbox hb; have n0_ := za.mk (zc BK238.out hb); have n1_ := za.mk (zib (by (with_reducible exact HB.out)) hb); have n2_ := za.mk hbox; have n3_ := za.mk ((by rw [hg]; exact (zm (by (with_reducible exact HB.out))) : w.heap.size ≤ gb239)); have n4_ := za.mk ((by rw [hg]; exact (zm (by (with_reducible exact HB.out))) : w.heap.size ≤ gb239)); have n5_ := za.mk ((by rw [hg]; exact Nat.ne_of_lt (zyb BK238.out) : gb238 ≠ gb239)); have n6_ := za.mk ((by rw [hg]; exact Nat.ne_of_gt (zyb BK238.out) : gb239 ≠ gb238)); clear BK238; clear HB; have BK238 := n0_; have HB := n1_; have BK239 := n2_; have GW239 := n3_; have GE239 := n4_; have NB238_239 := n5_; have NB239_238 := n6_; clear n0_ n1_ n2_ n3_ n4_ n5_ n6_; clear hb hbox hg))
 (try simp only [Act.put, List.setIfInBounds_toArray, List.set_cons_zero, List.set_cons_succ])
 go_loopg [] k (fun kq w' => ∃ (x239001_1 : ByteArray), za (zkc.l0 kq a0_0 x239001_1 = some (r1, r2)) ∧ za (kq ≤ k) ∧ za (w'.heap[gb238]? = some (.cells #[.bool a0_0, .string x239001_1] 31 (0, 0))) ∧ za (w'.heap[gb239]? = some (.cells #[.bool false, .string ⟨#[]⟩] 31 (0, 0))) ∧ za (Below w.heap.size w w'))
 case atStart => exact ⟨(a0_1), H', ⟨Nat.le_refl _⟩, ⟨by exact BK238.out⟩, ⟨by exact BK239.out⟩, ⟨by (with_reducible exact HB.out)⟩⟩
 case round =>
  clear H'
  obtain ⟨x239001_1, HA, HK1, BK238, BK239, HB⟩ := hrel
  cases gk with
  | zero => exact absurd HA.out (by simp [zkc.l0])
  | succ k1 =>
   have H := HA.out
   clear HA
   simp only [zkc.l0] at H
   by_cases c4 : (x239001_1.size : Int) > 0
   ·rw [if_pos c4] at H
    have c4b0 : decide (0 < (x239001_1.size : Int)) = true := decide_eq_true c4
    have c4b1 : decide (0 < x239001_1.size) = true := decide_eq_true (by omega)
    clear c4
    by_cases c5 : 0 < (x239001_1.size : Int)
    ·rw [if_pos c5] at H
     have c5b0 : decide (0 < (x239001_1.size : Int)) = true := decide_eq_true c5
     have c5b1 : decide (0 < x239001_1.size) = true := decide_eq_true (by omega)
     clear c5
     by_cases c7 : (bt x239001_1 0) = 0
     ·rw [if_pos c7] at H
      have c7b0 : ((bt x239001_1 0) == 0) = true := beq_iff_eq.mpr c7
      have c7b1 : ((bt x239001_1 0) != 0) = false := bne_eq_false_iff_eq.mpr c7
      clear c7
      by_cases c8 : 1 ≤ (x239001_1.size : Int)
      ·rw [if_pos c8] at H
       have c8b0 := eq_true c8
       have c8b1 : decide (1 ≤ (x239001_1.size : Int)) = true := decide_eq_true c8
       clear c8
       have H' := za.mk H
       clear H
       have hnb9 := NB238_239.out
       have hnc9 := NB239_238.out
       obtain ⟨z10_0, z10_1, y10_0, y10_1⟩ := cl2 BK238.out
       have p6 : 0 ≤ (0 : Int) := (by omega)
       have q6 : 0 < x239001_1.size := (by have : (0 : Int) < (x239001_1.size : Int) := of_decide_eq_true (by (with_reducible assumption)); omega)
       have hx6 : ∀ h : 0 < x239001_1.size, ((x239001_1[0]'h).toNat : Int) = bt x239001_1 0 := bt_at x239001_1 0
       clear p6
       have qi6 : (0 < (x239001_1.size : Int)) = True := eq_true (of_decide_eq_true (by (with_reducible assumption)))
       replace q6 := eq_true q6
       go_wp2
       go_roundg k1
       case measure => have := HK1.out; omega
       case rel => exact ⟨(x239001_1.extract 1 x239001_1.size), H', ⟨by have := HK1.out; omega⟩, ⟨by refine zq (cs := #[.bool a0_0, .string x239001_1]) ?_ 1 _ rfl; exact BK238.out⟩, ⟨by refine zwb ?_ NB239_238.out _; exact BK239.out⟩, ⟨by (with_reducible refine zl ?_ GE238.out; with_reducible exact HB.out)⟩⟩
      ·rw [if_neg c8] at H
       exact absurd H (by simp)
     ·rw [if_neg c7] at H
      have c7b0 : ((bt x239001_1 0) == 0) = false := beq_eq_false_iff_ne.mpr c7
      have c7b1 : ((bt x239001_1 0) != 0) = true := bne_iff_ne.mpr c7
      by_cases c11 : a0_0 = true
      ·subst c11
       have H1 : (some ((x239001_1.toList != ([] : List UInt8)), x239001_1)) = some (r1, r2) := by rw [if_pos rfl] at H; exact H
       clear H
       have H := H1
       clear H1
       simp only [Option.some.injEq, Prod.mk.injEq] at H
       obtain ⟨rfl, rfl⟩ := H
       have hnb12 := NB238_239.out
       have hnc12 := NB239_238.out
       obtain ⟨z13_0, z13_1, y13_0, y13_1⟩ := cl2 BK238.out
       have p6 : 0 ≤ (0 : Int) := (by omega)
       have q6 : 0 < x239001_1.size := (by have : (0 : Int) < (x239001_1.size : Int) := of_decide_eq_true (by (with_reducible assumption)); omega)
       have hx6 : ∀ h : 0 < x239001_1.size, ((x239001_1[0]'h).toNat : Int) = bt x239001_1 0 := bt_at x239001_1 0
       clear p6
       have qi6 : (0 < (x239001_1.size : Int)) = True := eq_true (of_decide_eq_true (by (with_reducible assumption)))
       replace q6 := eq_true q6
       obtain ⟨z14_0, z14_1, y14_0, y14_1⟩ := cl2 BK239.out
       go_wp2
       refine bodyPost_ret (results_cell_row rfl _ _ gb239 31 #[.bool (x239001_1.toList != ([] : List UInt8)), .string x239001_1] (0, 0) _ rfl (by refine zq (cs := #[.bool (x239001_1.toList != ([] : List UInt8)), .string ⟨#[]⟩]) ?_ 1 _ (by rfl); refine zq (cs := #[.bool false, .string ⟨#[]⟩]) ?_ 0 _ (by (simp [zxg]; done)); refine zwb ?_ NB239_238.out _; exact BK239.out) Tryz.underlying31 rfl (by kernel_rfl)) rfl ?_
       exact ⟨by rfl, by (with_reducible refine zl ?_ GE239.out; with_reducible refine zl ?_ GE239.out; with_reducible refine zl ?_ GE238.out; with_reducible exact HB.out)⟩
      ·replace c11 := Bool.eq_false_iff.mpr c11
       subst c11
       have H1 : (some (false, x239001_1)) = some (r1, r2) := by rw [if_neg (show ¬ (false = true) by decide)] at H; exact H
       clear H
       have H := H1
       clear H1
       simp only [Option.some.injEq, Prod.mk.injEq] at H
       obtain ⟨rfl, rfl⟩ := H
       have hnb15 := NB238_239.out
       have hnc15 := NB239_238.out
       obtain ⟨z16_0, z16_1, y16_0, y16_1⟩ := cl2 BK238.out
       have p6 : 0 ≤ (0 : Int) := (by omega)
       have q6 : 0 < x239001_1.size := (by have : (0 : Int) < (x239001_1.size : Int) := of_decide_eq_true (by (with_reducible assumption)); omega)
       have hx6 : ∀ h : 0 < x239001_1.size, ((x239001_1[0]'h).toNat : Int) = bt x239001_1 0 := bt_at x239001_1 0
       clear p6
       have qi6 : (0 < (x239001_1.size : Int)) = True := eq_true (of_decide_eq_true (by (with_reducible assumption)))
       replace q6 := eq_true q6
       obtain ⟨z17_0, z17_1, y17_0, y17_1⟩ := cl2 BK239.out
       go_wp2
       refine bodyPost_ret (results_cell_row rfl _ _ gb239 31 #[.bool false, .string x239001_1] (0, 0) _ rfl (by refine zq (cs := #[.bool false, .string ⟨#[]⟩]) ?_ 1 _ rfl; refine zq (cs := #[.bool false, .string ⟨#[]⟩]) ?_ 0 _ rfl; refine zwb ?_ NB239_238.out _; exact BK239.out) Tryz.underlying31 rfl (by kernel_rfl)) rfl ?_
       exact ⟨by rfl, by (with_reducible refine zl ?_ GE239.out; with_reducible refine zl ?_ GE239.out; with_reducible refine zl ?_ GE238.out; with_reducible exact HB.out)⟩
    ·rw [if_neg c5] at H
     exact absurd H (by simp)
   ·rw [if_neg c4] at H
    have c4b0 : decide (0 < (x239001_1.size : Int)) = false := decide_eq_false c4
    have c4b1 : decide (0 < x239001_1.size) = false := decide_eq_false (by omega)
    clear c4
    by_cases c18 : a0_0 = true
    ·subst c18
     have H1 : (some ((x239001_1.toList != ([] : List UInt8)), x239001_1)) = some (r1, r2) := by rw [if_pos rfl] at H; exact H
     clear H
     have H := H1
     clear H1
     simp only [Option.some.injEq, Prod.mk.injEq] at H
     obtain ⟨rfl, rfl⟩ := H
     have hnb19 := NB238_239.out
     have hnc19 := NB239_238.out
     obtain ⟨z20_0, z20_1, y20_0, y20_1⟩ := cl2 BK238.out
     obtain ⟨z21_0, z21_1, y21_0, y21_1⟩ := cl2 BK239.out
     go_wp2
     refine bodyPost_ret (results_cell_row rfl _ _ gb239 31 #[.bool (x239001_1.toList != ([] : List UInt8)), .string x239001_1] (0, 0) _ rfl (by refine zq (cs := #[.bool (x239001_1.toList != ([] : List UInt8)), .string ⟨#[]⟩]) ?_ 1 _ (by rfl); refine zq (cs := #[.bool false, .string ⟨#[]⟩]) ?_ 0 _ (by (simp [zxg]; done)); refine zwb ?_ NB239_238.out _; exact BK239.out) Tryz.underlying31 rfl (by kernel_rfl)) rfl ?_
     exact ⟨by rfl, by (with_reducible refine zl ?_ GE239.out; with_reducible refine zl ?_ GE239.out; with_reducible refine zl ?_ GE238.out; with_reducible exact HB.out)⟩
    ·replace c18 := Bool.eq_false_iff.mpr c18
     subst c18
     have H1 : (some (false, x239001_1)) = some (r1, r2) := by rw [if_neg (show ¬ (false = true) by decide)] at H; exact H
     clear H
     have H := H1
     clear H1
     simp only [Option.some.injEq, Prod.mk.injEq] at H
     obtain ⟨rfl, rfl⟩ := H
     have hnb22 := NB238_239.out
     have hnc22 := NB239_238.out
     obtain ⟨z23_0, z23_1, y23_0, y23_1⟩ := cl2 BK238.out
     obtain ⟨z24_0, z24_1, y24_0, y24_1⟩ := cl2 BK239.out
     go_wp2
     refine bodyPost_ret (results_cell_row rfl _ _ gb239 31 #[.bool false, .string x239001_1] (0, 0) _ rfl (by refine zq (cs := #[.bool false, .string ⟨#[]⟩]) ?_ 1 _ rfl; refine zq (cs := #[.bool false, .string ⟨#[]⟩]) ?_ 0 _ rfl; refine zwb ?_ NB239_238.out _; exact BK239.out) Tryz.underlying31 rfl (by kernel_rfl)) rfl ?_
     exact ⟨by rfl, by (with_reducible refine zl ?_ GE239.out; with_reducible refine zl ?_ GE239.out; with_reducible refine zl ?_ GE238.out; with_reducible exact HB.out)⟩
mutual
def zx.j2 : Nat → Bool → ByteArray → Bool → ByteArray → Option (Int)
 | 0, _, _, _, _ => none
 | k + 1, x241000, x241001, x242000, x242001 => if (x241001.size : Int) = (x242001.size : Int) then ((zdd.f x241001 x242001).bind fun t246 => (some t246)) else ((zzc.f (x241001.size : Int) (x242001.size : Int)).bind fun t247 => (some t247))
def zx.j0 : Nat → Bool → Bool → ByteArray → Bool → ByteArray → Option (Int)
 | 0, _, _, _, _, _ => none
 | k + 1, x9, x241000, x241001, x242000, x242001 => if x9 = true then (some (-1)) else (if x241000 = true then (zx.j1 k false x241000 x241001 x242000 x242001) else (zx.j1 k x242000 x241000 x241001 x242000 x242001))
def zx.j1 : Nat → Bool → Bool → ByteArray → Bool → ByteArray → Option (Int)
 | 0, _, _, _, _, _ => none
 | k + 1, x17, x241000, x241001, x242000, x242001 => if x17 = true then (some 1) else (if x241000 = true then (zx.j2 k x242000 x242001 x241000 x241001) else (zx.j2 k x241000 x241001 x242000 x242001))
end
def zx.f (k : Nat) (a0_0 : Bool) (a0_1 : ByteArray) (a1_0 : Bool) (a1_1 : ByteArray) : Option (Int) := (zkc.f k a0_0 a0_1).bind fun bt242 => ((zkc.f k a1_0 a1_1).bind fun bt244 => (if bt242.1 = true then (zx.j0 k (!bt244.1) bt242.1 bt242.2 bt244.1 bt244.2) else (zx.j0 k false bt242.1 bt242.2 bt244.1 bt244.2)))
theorem zx.calls (k : Nat) (a0_0 : Bool) (a0_1 : ByteArray) (a1_0 : Bool) (a1_1 : ByteArray) (r : Int) (w : World) (h : zx.f k a0_0 a0_1 a1_0 a1_1 = some r) :
  Calls Tryz.prog 35 #[.agg #[.bool a0_0, .string a0_1], .agg #[.bool a1_0, .string a1_1]] w fun e w' => e = .returned (.int .i64 r) ∧ Below w.heap.size w w' := by
 have hu31 := Tryz.underlying31
 have HB := za.mk (Below.refl w.heap.size w)
 have H : ((zkc.f k a0_0 a0_1).bind fun bt242 => ((zkc.f k a1_0 a1_1).bind fun bt244 => (if bt242.1 = true then (zx.j0 k (!bt244.1) bt242.1 bt242.2 bt244.1 bt244.2) else (zx.j0 k false bt242.1 bt242.2 bt244.1 bt244.2)))) = some r := h
 clear h
 replace H := Option.bind_eq_some_iff.mp H
 obtain ⟨⟨t242, t243⟩, A30, H⟩ := H
 replace H : ((zkc.f k a1_0 a1_1).bind fun bt244 => (if t242 = true then (zx.j0 k (!bt244.1) t242 t243 bt244.1 bt244.2) else (zx.j0 k false t242 t243 bt244.1 bt244.2))) = some r := H
 have A3 := za.mk A30
 clear A30
 replace H := Option.bind_eq_some_iff.mp H
 obtain ⟨⟨t244, t245⟩, A40, H⟩ := H
 replace H : (if t242 = true then (zx.j0 k (!t244) t242 t243 t244 t245) else (zx.j0 k false t242 t243 t244 t245)) = some r := H
 have A4 := za.mk A40
 clear A40
 have HC5 := za.mk H
 clear H
 go_enter Tryz.func35, Tryz.ntmps35
 try go_wp2_with (first | ((with_reducible refine znb (N := 2) rfl ?_); refine zzb ?hg (N := 2) ?hd (cs := #[.bool a0_0, .string a0_1]) (t := 31) ?hr ?_; (case hd => rfl); (case hg => rfl); (case hr => first | (go_simp; done) | (go_simp; rfl)); intro gb240 hg w6 hbox hb; have BK240 := za.mk hbox; have GW240 := za.mk ((by rw [hg]; exact (zm (by (with_reducible exact HB.out))) : w.heap.size ≤ gb240)); have GE240 := za.mk ((by rw [hg]; exact (zm (by (with_reducible exact HB.out))) : w.heap.size ≤ gb240)); replace HB := BS HB hb; clear hb hbox hg) | ((with_reducible refine znb (N := 3) rfl ?_); refine zzb ?hg (N := 3) ?hd (cs := #[.bool a1_0, .string a1_1]) (t := 31) ?hr ?_; (case hd => rfl); (case hg => rfl); (case hr => first | (go_simp; done) | (go_simp; rfl)); intro gb241 hg w7 hbox hb; have n0_ := za.mk (zc BK240.out hb); have n1_ := za.mk (zib (by (with_reducible exact HB.out)) hb); have n2_ := za.mk hbox; have n3_ := za.mk ((by rw [hg]; exact (zm (by (with_reducible exact HB.out))) : w.heap.size ≤ gb241)); have n4_ := za.mk ((by rw [hg]; exact (zm (by (with_reducible exact HB.out))) : w.heap.size ≤ gb241)); have n5_ := za.mk ((by rw [hg]; exact Nat.ne_of_lt (zyb BK240.out) : gb240 ≠ gb241)); have n6_ := za.mk ((by rw [hg]; exact Nat.ne_of_gt (zyb BK240.out) : gb241 ≠ gb240)); clear BK240; clear HB; have BK240 := n0_; have HB := n1_; have BK241 := n2_; have GW241 := n3_; have GE241 := n4_; have NB240_241 := n5_; have NB241_240 := n6_; clear n0_ n1_ n2_ n3_ n4_ n5_ n6_; clear hb hbox hg))
 replace BK240 := za.mk (zub BK240.out)
 replace BK241 := za.mk (zub BK241.out)
 replace HB := za.mk (zab HB.out)
 refine zuf (n := 6) (S := fun w' => w'.cell? ⟨gb240, 0, none⟩ = some (.bool a0_0) ∧ w'.cell? ⟨gb240, 1, none⟩ = some (.string a0_1) ∧ w'.cell? ⟨gb241, 0, none⟩ = some (.bool a1_0) ∧ w'.cell? ⟨gb241, 1, none⟩ = some (.string a1_1)) (ds := [4, 5]) #[false, false, false, false, false, false] (by kernel_rfl) rfl rfl ⟨(zb BK240.out 0).trans rfl, (zb BK240.out 1).trans rfl, (zb BK241.out 0).trans rfl, (zb BK241.out 1).trans rfl⟩ (fun hHeld => ?_)
 generalize w7.drew = w8 at BK240 BK241 HB hHeld ⊢
 refine take_ (i := 0) (N := some 5) (v := ?_) (a' := ?_) #[true, false, false, false, false, false] rfl rfl (by kernel_rfl) (fun _ _ _ h => h) (Or.inl ⟨by rfl, ?_⟩) hHeld ?_ ?_
 rotate_left
 ·rintro w' ⟨s0, s1, s2, s3⟩
  go_simp
  with_reducible rfl
 rotate_left
 ·simp only [Act.put, List.setIfInBounds_toArray, List.set_cons_zero, List.set_cons_succ, i64_w, i32_w]
  rfl
 refine take_ (i := 2) (N := some 7) (v := ?_) (a' := ?_) #[true, false, true, false, false, false] rfl rfl (by kernel_rfl) (fun _ _ _ h => h) (Or.inl ⟨by rfl, ?_⟩) hHeld ?_ ?_
 rotate_left
 ·rintro w' ⟨s0, s1, s2, s3⟩
  go_simp
  with_reducible rfl
 rotate_left
 ·simp only [Act.put, List.setIfInBounds_toArray, List.set_cons_zero, List.set_cons_succ, i64_w, i32_w]
  rfl
 refine one_ (i := 1) (N := some 6) #[true, true, true, false, false, false] rfl rfl (by kernel_rfl) (by decide) (fun K hK => ?_)
 refine goes_ Tryz.func56 (by kernel_rfl) rfl #[.agg #[.bool a0_0, .string a0_1]] (by rfl) rfl rfl (by (try simp only [List.map_toArray, List.map_cons, List.map_nil]); first | done | rfl | (simp only [List.length_drop, List.length_take]; rfl)) ?_
 with_reducible refine (zkc.calls k a0_0 a0_1 t242 t243 _ A3.out).mono ?_
 rintro e w9 ⟨rfl, hb⟩
 refine ⟨_, rfl, ?_⟩
 replace BK240 := za.mk (zc BK240.out hb)
 replace BK241 := za.mk (zc BK241.out hb)
 replace HB := BS HB hb
 (try clear hb)
 (try clear hb2)
 (try clear hk)
 (try clear hi)
 refine hK.out _ _ ⟨(zb BK240.out 0).trans rfl, (zb BK240.out 1).trans rfl, (zb BK241.out 0).trans rfl, (zb BK241.out 1).trans rfl⟩ (fun hHeld => ?_)
 clear hK K
 refine norm_ (a' := ?_) ?_ ?_
 rotate_left
 ·show Act.put _ (some 6) _ = _
  simp only [Act.put, List.setIfInBounds_toArray, List.set_cons_zero, List.set_cons_succ, i64_w, i32_w]
  rfl
 refine one_ (i := 3) (N := some 8) #[true, true, true, true, false, false] rfl rfl (by kernel_rfl) (by decide) (fun K hK => ?_)
 refine goes_ Tryz.func56 (by kernel_rfl) rfl #[.agg #[.bool a1_0, .string a1_1]] (by rfl) rfl rfl (by (try simp only [List.map_toArray, List.map_cons, List.map_nil]); first | done | rfl | (simp only [List.length_drop, List.length_take]; rfl)) ?_
 with_reducible refine (zkc.calls k a1_0 a1_1 t244 t245 _ A4.out).mono ?_
 rintro e w10 ⟨rfl, hb⟩
 refine ⟨_, rfl, ?_⟩
 replace BK240 := za.mk (zc BK240.out hb)
 replace BK241 := za.mk (zc BK241.out hb)
 replace HB := BS HB hb
 (try clear hb)
 (try clear hb2)
 (try clear hk)
 (try clear hi)
 refine hK.out _ _ ⟨(zb BK240.out 0).trans rfl, (zb BK240.out 1).trans rfl, (zb BK241.out 0).trans rfl, (zb BK241.out 1).trans rfl⟩ (fun hHeld => ?_)
 clear hK K
 refine norm_ (a' := ?_) ?_ ?_
 rotate_left
 ·show Act.put _ (some 8) _ = _
  simp only [Act.put, List.setIfInBounds_toArray, List.set_cons_zero, List.set_cons_succ, i64_w, i32_w]
  rfl
 refine last_ (i := 4) (N := none) #[true, true, true, true, true, false] rfl rfl (by kernel_rfl) (by decide) (fun K hK => ?_)
 have hs11 : w10.cell? ⟨gb240, 0, none⟩ = some (.bool a0_0) := (zb BK240.out 0).trans rfl
 have hfs11 := zz BK240.out 0
 have hns11_1 := NB241_240.out
 have hms11_1 := NB240_241.out
 have hs12 : w10.cell? ⟨gb240, 1, none⟩ = some (.string a0_1) := (zb BK240.out 1).trans rfl
 have hfs12 := zz BK240.out 1
 have hns12_1 := NB241_240.out
 have hms12_1 := NB240_241.out
 refine skip_ (w1 := ?_) (by rfl) rfl ?_ ?_
 rotate_left
 ·go_simp
  rfl
 refine hK.out _ _ ?_
 clear hK K
 refine last_ (i := 5) (N := none) #[true, true, true, true, true, true] rfl rfl (by kernel_rfl) (by decide) (fun K hK => ?_)
 have hs13 : w10.cell? ⟨gb241, 0, none⟩ = some (.bool a1_0) := (zb BK241.out 0).trans rfl
 have hfs13 := zz BK241.out 0
 have hns13_0 := NB240_241.out
 have hms13_0 := NB241_240.out
 have hs14 : w10.cell? ⟨gb241, 1, none⟩ = some (.string a1_1) := (zb BK241.out 1).trans rfl
 have hfs14 := zz BK241.out 1
 have hns14_0 := NB240_241.out
 have hms14_0 := NB241_240.out
 refine skip_ (w1 := ?_) (by rfl) rfl ?_ ?_
 rotate_left
 ·go_simp
  rfl
 refine hK.out _ _ ?_
 clear hK K
 refine done_ (by kernel_rfl) ?_
 go_upto_block 0 with (fail)
 go_cut [] (fun wc => ∃ (kq : Nat) (x241000_4 : Bool) (x241001_4 : ByteArray) (x242000_4 : Bool) (x242001_4 : ByteArray), za (zx.j2 kq x241000_4 x241001_4 x242000_4 x242001_4 = some r) ∧ za (kq ≤ k) ∧ za (wc.heap[gb240]? = some (.cells #[.bool x241000_4, .string x241001_4] 31 (0, 0))) ∧ za (wc.heap[gb241]? = some (.cells #[.bool x242000_4, .string x242001_4] 31 (0, 0))) ∧ za (Below w.heap.size w wc))
 case first =>
  have H := HC5.out
  clear HC5
  have HC15 := za.mk H
  clear H
  go_upto_region 2 with (fail)
  go_cut [9] (fun v9 wc => ∃ (kq : Nat) (x9_14 : Bool), v9 = .bool x9_14 ∧ za (zx.j0 kq x9_14 t242 t243 t244 t245 = some r) ∧ za (kq ≤ k) ∧ za (wc.heap[gb240]? = some (.cells #[.bool t242, .string t243] 31 (0, 0))) ∧ za (wc.heap[gb241]? = some (.cells #[.bool t244, .string t245] 31 (0, 0))) ∧ za (Below w.heap.size w wc))
  case first =>
   have H := HC15.out
   clear HC15
   by_cases c16 : t242 = true
   ·subst c16
    have H1 : (zx.j0 k (!t244) true t243 t244 t245) = some r := by rw [if_pos rfl] at H; exact H
    clear H
    have H := H1
    clear H1
    have H' := za.mk H
    clear H
    have hnb17 := NB240_241.out
    have hnc17 := NB241_240.out
    obtain ⟨z18_0, z18_1, y18_0, y18_1⟩ := cl2 BK240.out
    obtain ⟨z19_0, z19_1, y19_0, y19_1⟩ := cl2 BK241.out
    go_wp2
    go_meet
    case rel => exact ⟨_, (!t244), (by rfl), H', ⟨by omega⟩, ⟨by refine zwb ?_ NB240_241.out _; refine zwb ?_ NB240_241.out _; exact put2 BK240.out⟩, ⟨by refine zq (cs := #[.bool t244, .string a1_1]) ?_ 1 _ rfl; refine zq (cs := #[.bool a1_0, .string a1_1]) ?_ 0 _ rfl; refine zwb ?_ NB241_240.out _; refine zwb ?_ NB241_240.out _; exact BK241.out⟩, ⟨by repeat (first | (with_reducible first | exact HB.out | apply zj | apply zd | apply zab | refine zl ?_ GE240.out | refine zl ?_ GE241.out) | exact HB.out)⟩⟩
   ·replace c16 := Bool.eq_false_iff.mpr c16
    subst c16
    have H1 : (zx.j0 k false false t243 t244 t245) = some r := by rw [if_neg (show ¬ (false = true) by decide)] at H; exact H
    clear H
    have H := H1
    clear H1
    have H' := za.mk H
    clear H
    have hnb20 := NB240_241.out
    have hnc20 := NB241_240.out
    obtain ⟨z21_0, z21_1, y21_0, y21_1⟩ := cl2 BK240.out
    go_wp2
    go_meet
    case rel => exact ⟨_, (false), (by rfl), H', ⟨by omega⟩, ⟨by refine zwb ?_ NB240_241.out _; refine zwb ?_ NB240_241.out _; exact put2 BK240.out⟩, ⟨by refine zq (cs := #[.bool t244, .string a1_1]) ?_ 1 _ rfl; refine zq (cs := #[.bool a1_0, .string a1_1]) ?_ 0 _ rfl; refine zwb ?_ NB241_240.out _; refine zwb ?_ NB241_240.out _; exact BK241.out⟩, ⟨by repeat (first | (with_reducible first | exact HB.out | apply zj | apply zd | apply zab | refine zl ?_ GE240.out | refine zl ?_ GE241.out) | exact HB.out)⟩⟩
  case rest =>
   clear HC15
   obtain ⟨kq, x9_14, rfl, HA, HJ14, BK240, BK241, HB⟩ := hcut
   cases kq with
   | zero => exact absurd HA.out (by simp [zx.j0])
   | succ kj14 =>
    have H := HA.out
    clear HA
    simp only [zx.j0] at H
    by_cases c22 : x9_14 = true
    ·subst c22
     have H1 : (some (-1)) = some r := by rw [if_pos rfl] at H; exact H
     clear H
     have H := H1
     clear H1
     obtain rfl := Option.some.inj H
     go_wp2
     go_ret
     exact ⟨by rfl, by (with_reducible exact HB.out)⟩
    ·replace c22 := Bool.eq_false_iff.mpr c22
     subst c22
     have H1 : (if t242 = true then (zx.j1 kj14 false t242 t243 t244 t245) else (zx.j1 kj14 t244 t242 t243 t244 t245)) = some r := by rw [if_neg (show ¬ (false = true) by decide)] at H; exact H
     clear H
     have H := H1
     clear H1
     have HC23 := za.mk H
     clear H
     go_upto_region 4 with (fail)
     go_cut [17] (fun v17 wc => ∃ (kq : Nat) (x17_22 : Bool), v17 = .bool x17_22 ∧ za (zx.j1 kq x17_22 t242 t243 t244 t245 = some r) ∧ za (kq ≤ kj14) ∧ za (wc.heap[gb240]? = some (.cells #[.bool t242, .string t243] 31 (0, 0))) ∧ za (wc.heap[gb241]? = some (.cells #[.bool t244, .string t245] 31 (0, 0))) ∧ za (Below w.heap.size w wc))
     case first =>
      have H := HC23.out
      clear HC23
      by_cases c24 : t242 = true
      ·subst c24
       have H1 : (zx.j1 kj14 false true t243 t244 t245) = some r := by rw [if_pos rfl] at H; exact H
       clear H
       have H := H1
       clear H1
       have H' := za.mk H
       clear H
       have hnb25 := NB240_241.out
       have hnc25 := NB241_240.out
       obtain ⟨z26_0, z26_1, y26_0, y26_1⟩ := cl2 BK240.out
       go_wp2
       go_meet
       case rel => exact ⟨_, (false), (by rfl), H', ⟨by have := HJ14.out; first | omega | exact Nat.le_refl _⟩, ⟨by exact BK240.out⟩, ⟨by exact BK241.out⟩, ⟨by (with_reducible exact HB.out)⟩⟩
      ·replace c24 := Bool.eq_false_iff.mpr c24
       subst c24
       have H1 : (zx.j1 kj14 t244 false t243 t244 t245) = some r := by rw [if_neg (show ¬ (false = true) by decide)] at H; exact H
       clear H
       have H := H1
       clear H1
       have H' := za.mk H
       clear H
       have hnb27 := NB240_241.out
       have hnc27 := NB241_240.out
       obtain ⟨z28_0, z28_1, y28_0, y28_1⟩ := cl2 BK240.out
       obtain ⟨z29_0, z29_1, y29_0, y29_1⟩ := cl2 BK241.out
       go_wp2
       go_meet
       case rel => exact ⟨_, (t244), (by rfl), H', ⟨by have := HJ14.out; first | omega | exact Nat.le_refl _⟩, ⟨by exact BK240.out⟩, ⟨by exact BK241.out⟩, ⟨by (with_reducible exact HB.out)⟩⟩
     case rest =>
      clear HC23
      obtain ⟨kq, x17_22, rfl, HA, HJ22, BK240, BK241, HB⟩ := hcut
      cases kq with
      | zero => exact absurd HA.out (by simp [zx.j1])
      | succ kj22 =>
       have H := HA.out
       clear HA
       simp only [zx.j1] at H
       by_cases c30 : x17_22 = true
       ·subst c30
        have H1 : (some 1) = some r := by rw [if_pos rfl] at H; exact H
        clear H
        have H := H1
        clear H1
        obtain rfl := Option.some.inj H
        go_wp2
        go_ret
        exact ⟨by rfl, by (with_reducible exact HB.out)⟩
       ·replace c30 := Bool.eq_false_iff.mpr c30
        subst c30
        have H1 : (if t242 = true then (zx.j2 kj22 t244 t245 t242 t243) else (zx.j2 kj22 t242 t243 t244 t245)) = some r := by rw [if_neg (show ¬ (false = true) by decide)] at H; exact H
        clear H
        have H := H1
        clear H1
        by_cases c31 : t242 = true
        ·subst c31
         have H1 : (zx.j2 kj22 t244 t245 true t243) = some r := by rw [if_pos rfl] at H; exact H
         clear H
         have H := H1
         clear H1
         have H' := za.mk H
         clear H
         have hnb32 := NB240_241.out
         have hnc32 := NB241_240.out
         obtain ⟨z33_0, z33_1, y33_0, y33_1⟩ := cl2 BK240.out
         obtain ⟨z34_0, z34_1, y34_0, y34_1⟩ := cl2 BK241.out
         go_wp2
         go_meet
         case rel => exact ⟨_, (t244), (t245), (true), (t243), H', ⟨by have := HJ14.out; have := HJ22.out; first | omega | exact Nat.le_refl _⟩, ⟨by refine zwb ?_ NB240_241.out _; refine zwb ?_ NB240_241.out _; exact put2 BK240.out⟩, ⟨by refine zq (cs := #[.bool true, .string t245]) ?_ 1 _ rfl; refine zq (cs := #[.bool t244, .string t245]) ?_ 0 _ rfl; refine zwb ?_ NB241_240.out _; refine zwb ?_ NB241_240.out _; exact BK241.out⟩, ⟨by repeat (first | (with_reducible first | exact HB.out | apply zj | apply zd | apply zab | refine zl ?_ GE240.out | refine zl ?_ GE241.out) | exact HB.out)⟩⟩
        ·replace c31 := Bool.eq_false_iff.mpr c31
         subst c31
         have H1 : (zx.j2 kj22 false t243 t244 t245) = some r := by rw [if_neg (show ¬ (false = true) by decide)] at H; exact H
         clear H
         have H := H1
         clear H1
         have H' := za.mk H
         clear H
         have hnb35 := NB240_241.out
         have hnc35 := NB241_240.out
         obtain ⟨z36_0, z36_1, y36_0, y36_1⟩ := cl2 BK240.out
         go_wp2
         go_meet
         case rel => exact ⟨_, (false), (t243), (t244), (t245), H', ⟨by have := HJ14.out; have := HJ22.out; first | omega | exact Nat.le_refl _⟩, ⟨by exact BK240.out⟩, ⟨by exact BK241.out⟩, ⟨by (with_reducible exact HB.out)⟩⟩
 case rest =>
  clear HC5
  obtain ⟨kq, x241000_4, x241001_4, x242000_4, x242001_4, HA, HJ4, BK240, BK241, HB⟩ := hcut
  cases kq with
  | zero => exact absurd HA.out (by simp [zx.j2])
  | succ kj4 =>
   have H := HA.out
   clear HA
   simp only [zx.j2] at H
   by_cases c37 : (x241001_4.size : Int) = (x242001_4.size : Int)
   ·rw [if_pos c37] at H
    have c37b0 : ((x241001_4.size : Int) == (x242001_4.size : Int)) = true := beq_iff_eq.mpr c37
    have c37b1 : ((x241001_4.size : Int) != (x242001_4.size : Int)) = false := bne_eq_false_iff_eq.mpr c37
    have c37b2 : (x241001_4.size == x242001_4.size) = true := by (simp at c37 ⊢; omega)
    clear c37
    replace H := Option.bind_eq_some_iff.mp H
    obtain ⟨t246, A380, H⟩ := H
    replace H : (some t246) = some r := H
    have A38 := za.mk A380
    clear A380
    obtain rfl := Option.some.inj H
    have hnb39 := NB240_241.out
    have hnc39 := NB241_240.out
    obtain ⟨z40_0, z40_1, y40_0, y40_1⟩ := cl2 BK240.out
    obtain ⟨z41_0, z41_1, y41_0, y41_1⟩ := cl2 BK241.out
    go_wp2_with (((with_reducible refine zw (f := 32) rfl ?_); refine goesA (some 48) Tryz.func32 #[.string x241001_4, .string x242001_4] ?_; (with_reducible refine (zdd.calls x241001_4 x242001_4 t246 _ A38.out).mono ?_); rintro e w' ⟨rfl, ⟨nd, rfl⟩⟩; refine ⟨_, rfl, ?_⟩))
    go_ret
    exact ⟨by rfl, by (with_reducible apply zd; with_reducible exact HB.out)⟩
   ·rw [if_neg c37] at H
    have c37b0 : ((x241001_4.size : Int) == (x242001_4.size : Int)) = false := beq_eq_false_iff_ne.mpr c37
    have c37b1 : ((x241001_4.size : Int) != (x242001_4.size : Int)) = true := bne_iff_ne.mpr c37
    have c37b2 : (x241001_4.size == x242001_4.size) = false := by (simp at c37 ⊢; omega)
    replace H := Option.bind_eq_some_iff.mp H
    obtain ⟨t247, A420, H⟩ := H
    replace H : (some t247) = some r := H
    have A42 := za.mk A420
    clear A420
    obtain rfl := Option.some.inj H
    have hnb43 := NB240_241.out
    have hnc43 := NB241_240.out
    obtain ⟨z44_0, z44_1, y44_0, y44_1⟩ := cl2 BK240.out
    obtain ⟨z45_0, z45_1, y45_0, y45_1⟩ := cl2 BK241.out
    go_wp2_with (((with_reducible refine zw (f := 55) rfl ?_); refine goesA (some 43) Tryz.func55 #[.int .i64 (x241001_4.size : Int), .int .i64 (x242001_4.size : Int)] ?_; (with_reducible refine (zzc.calls (x241001_4.size : Int) (x242001_4.size : Int) t247 _ A42.out).mono ?_); rintro e w' ⟨rfl, ⟨nd, rfl⟩⟩; refine ⟨_, rfl, ?_⟩))
    go_ret
    exact ⟨by rfl, by (with_reducible apply zd; with_reducible exact HB.out)⟩
def zad.f (l0 : List (S52)) (a1 : Int) : Option (ByteArray × Bool × ByteArray × Int) := if a1 < (l0.length : Int) then (if 0 ≤ a1 then (some ((zwd l0 a1).f0, (zwd l0 a1).f1.f0, (zwd l0 a1).f1.f1, (zwd l0 a1).f2)) else (none)) else (some ((⟨#[48]⟩ : ByteArray), false, (⟨#[]⟩ : ByteArray), 0))
theorem zad.calls (A0 : Option Addr) (c0 : Nat) (l0 : List (S52)) (a1 : Int) (r1 : ByteArray) (r2 : Bool) (r3 : ByteArray) (r4 : Int) (w : World) (hr0 : Kd.C k52 w A0 l0.length l0) (hc0 : l0.length ≤ c0) (h : zad.f l0 a1 = some (r1, r2, r3, r4)) :
  Calls Tryz.prog 54 #[.slice A0 l0.length c0, .int .i64 a1] w fun e w' => e = .returned (.agg #[.string r1, .bool r2, .string r3, .int .i64 r4]) ∧ Below w.heap.size w w' := by
 have hu52 := Tryz.underlying52
 have HR0 := za.mk hr0
 have HC0 := za.mk hc0
 clear hr0 hc0
 have HB := za.mk (Below.refl w.heap.size w)
 have H : (if a1 < (l0.length : Int) then (if 0 ≤ a1 then (some ((zwd l0 a1).f0, (zwd l0 a1).f1.f0, (zwd l0 a1).f1.f1, (zwd l0 a1).f2)) else (none)) else (some ((⟨#[48]⟩ : ByteArray), false, (⟨#[]⟩ : ByteArray), 0))) = some (r1, r2, r3, r4) := h
 clear h
 by_cases c3 : a1 < (l0.length : Int)
 ·rw [if_pos c3] at H
  have c3b0 : decide (a1 < (l0.length : Int)) = true := decide_eq_true c3
  clear c3
  by_cases c4 : 0 ≤ a1
  ·rw [if_pos c4] at H
   have c4b0 : decide (0 ≤ a1) = true := decide_eq_true c4
   clear c4
   simp only [Option.some.injEq, Prod.mk.injEq] at H
   obtain ⟨rfl, rfl, rfl, rfl⟩ := H
   go_enter Tryz.func54, Tryz.ntmps54
   go_wp2_with (((with_reducible refine znb (N := 4) rfl ?_); refine zzb ?hg (N := 4) ?hd (cs := #[.string ⟨#[]⟩, .bool false, .string ⟨#[]⟩, .int .i64 0]) (t := 52) ?hr ?_; (case hd => rfl); (case hg => rfl); (case hr => first | (go_simp; done) | (go_simp; rfl)); intro gb248 hg w5 hbox hb; have BK248 := za.mk hbox; have GW248 := za.mk ((by rw [hg]; exact (zm (by (with_reducible exact HB.out))) : w.heap.size ≤ gb248)); have GE248 := za.mk ((by rw [hg]; exact (zm (by (with_reducible exact HB.out))) : w.heap.size ≤ gb248)); replace HB := BS HB hb; clear hb hbox hg; have p249 : 0 ≤ (a1 : Int) := of_decide_eq_true (by (with_reducible assumption)); have q249 : a1 < (l0.length : Int) := of_decide_eq_true (by (with_reducible assumption)); obtain ⟨ad249, e249, hx249_0, hx249_1, hx249_2, hx249_3⟩ := at_T52 HR0.out a1 p249 q249; cases e249; replace hx249_0 := (HB.out.cell (World.block_lt_of_cell? w _ hx249_0)).trans hx249_0; replace hx249_1 := (HB.out.cell (World.block_lt_of_cell? w _ hx249_1)).trans hx249_1; replace hx249_2 := (HB.out.cell (World.block_lt_of_cell? w _ hx249_2)).trans hx249_2; replace hx249_3 := (HB.out.cell (World.block_lt_of_cell? w _ hx249_3)).trans hx249_3; replace p249 := eq_true p249; replace q249 := eq_true q249; obtain ⟨z6_0, z6_1, z6_2, z6_3, y6_0, y6_1, y6_2, y6_3⟩ := cl4 BK248.out))
   refine bodyPost_ret (results_cell_row rfl _ _ gb248 52 #[.string ((zwd l0 a1).f0), .bool ((zwd l0 a1).f1.f0), .string ((zwd l0 a1).f1.f1), .int .i64 ((zwd l0 a1).f2)] (0, 0) _ rfl (by exact put4 BK248.out) Tryz.underlying52 rfl (by kernel_rfl)) rfl ?_
   exact ⟨by rfl, by repeat (first | (with_reducible first | exact HB.out | apply zj | apply zd | apply zab | refine zl ?_ GE248.out) | exact HB.out)⟩
  ·rw [if_neg c4] at H
   exact absurd H (by simp)
 ·rw [if_neg c3] at H
  have c3b0 : decide (a1 < (l0.length : Int)) = false := decide_eq_false c3
  clear c3
  simp only [Option.some.injEq, Prod.mk.injEq] at H
  obtain ⟨rfl, rfl, rfl, rfl⟩ := H
  go_enter Tryz.func54, Tryz.ntmps54
  go_wp2_with (((with_reducible refine znb (N := 4) rfl ?_); refine zzb ?hg (N := 4) ?hd (cs := #[.string ⟨#[]⟩, .bool false, .string ⟨#[]⟩, .int .i64 0]) (t := 52) ?hr ?_; (case hd => rfl); (case hg => rfl); (case hr => first | (go_simp; done) | (go_simp; rfl)); intro gb248 hg w7 hbox hb; have BK248 := za.mk hbox; have GW248 := za.mk ((by rw [hg]; exact (zm (by (with_reducible exact HB.out))) : w.heap.size ≤ gb248)); have GE248 := za.mk ((by rw [hg]; exact (zm (by (with_reducible exact HB.out))) : w.heap.size ≤ gb248)); replace HB := BS HB hb; clear hb hbox hg; obtain ⟨z8_0, z8_1, z8_2, z8_3, y8_0, y8_1, y8_2, y8_3⟩ := cl4 BK248.out))
  refine bodyPost_ret (results_cell_row rfl _ _ gb248 52 #[.string (⟨#[48]⟩ : ByteArray), .bool false, .string ⟨#[]⟩, .int .i64 0] (0, 0) _ rfl (by exact put4 BK248.out) Tryz.underlying52 rfl (by kernel_rfl)) rfl ?_
  exact ⟨by rfl, by repeat (first | (with_reducible first | exact HB.out | apply zj | apply zd | apply zab | refine zl ?_ GE248.out) | exact HB.out)⟩
end Go.Proofs.YtapaijpglfmfgaaGreatDoor.Q
end
section
namespace Go.Proofs.YtapaijpglfmfgaaGreatDoor.Q
open Go.RowKit YtapaijpglfmfgaaGreatDoorH YtapaijpglfmfgaaGreatDoorG YtapaijpglfmfgaaGreatDoorW.PrintWords YtapaijpglfmfgaaGreatDoorW.PrintLast YtapaijpglfmfgaaGreatDoorW.PrintMore YtapaijpglfmfgaaGreatDoorC
attribute [local go_sem] zfd zjd ztd zud zsc ztc zgd zkd
mutual
def zo.l0 : Nat → List (S52) → List (S52) → Int → Option (Int)
 | 0, _, _, _ => none
 | k + 1, x0, x1, x5 => if x5 < (x0.length : Int) then (zo.j1 k x0 x1 x5 true) else (zo.j1 k x0 x1 x5 (decide (x5 < (x1.length : Int))))
def zo.j1 : Nat → List (S52) → List (S52) → Int → Bool → Option (Int)
 | 0, _, _, _, _ => none
 | k + 1, x0, x1, x5, x18 => if x18 = true then ((zad.f x0 x5).bind fun bt250 => ((zad.f x1 x5).bind fun bt254 => ((zx.f k bt250.2.1 bt250.2.2.1 bt254.2.1 bt254.2.2.1).bind fun t260 => (if bt250.2.2.2 = 0 then (zo.j2 k x0 x1 x5 t260 false bt250.1 bt250.2.1 bt250.2.2.1 bt250.2.2.2 bt254.1 bt254.2.1 bt254.2.2.1 bt254.2.2.2) else (if bt254.2.2.2 = 0 then (zo.j2 k x0 x1 x5 t260 false bt250.1 bt250.2.1 bt250.2.2.1 bt250.2.2.2 bt254.1 bt254.2.1 bt254.2.2.1 bt254.2.2.2) else (if 0 < (bt250.1.size : Int) then (if (bt bt250.1 0) = 48 then (zo.j2 k x0 x1 x5 t260 true bt250.1 bt250.2.1 bt250.2.2.1 bt250.2.2.2 bt254.1 bt254.2.1 bt254.2.2.1 bt254.2.2.2) else (if 0 < (bt254.1.size : Int) then (zo.j2 k x0 x1 x5 t260 ((bt bt254.1 0) == 48) bt250.1 bt250.2.1 bt250.2.2.1 bt250.2.2.2 bt254.1 bt254.2.1 bt254.2.2.1 bt254.2.2.2) else (none))) else (none))))))) else (some 0)
def zo.j2 : Nat → List (S52) → List (S52) → Int → Int → Bool → ByteArray → Bool → ByteArray → Int → ByteArray → Bool → ByteArray → Int → Option (Int)
 | 0, _, _, _, _, _, _, _, _, _, _, _, _, _ => none
 | k + 1, x0, x1, x5, x8, x51, x259000, x259001, x259002, x259003, x260000, x260001, x260002, x260003 => if x51 = true then ((zdd.f x259000 x260000).bind fun t261 => (if t261 = 0 then (zo.l0 k x0 x1 (wrap64 (x5 + 1))) else (some t261))) else (if x8 = 0 then (zo.l0 k x0 x1 (wrap64 (x5 + 1))) else (some x8))
end
def zo.f (k : Nat) (l0 : List (S52)) (l1 : List (S52)) : Option (Int) := zo.l0 k l0 l1 0
theorem zo.calls (k : Nat) (A0 : Option Addr) (c0 : Nat) (l0 : List (S52)) (A1 : Option Addr) (c1 : Nat) (l1 : List (S52)) (r : Int) (w : World) (hr0 : Kd.C k52 w A0 l0.length l0) (hc0 : l0.length ≤ c0) (hr1 : Kd.C k52 w A1 l1.length l1) (hc1 : l1.length ≤ c1) (h : zo.f k l0 l1 = some r) :
  Calls Tryz.prog 33 #[.slice A0 l0.length c0, .slice A1 l1.length c1] w fun e w' => e = .returned (.int .i64 r) ∧ Below w.heap.size w w' := by
 have hu52 := Tryz.underlying52
 have hu31 := Tryz.underlying31
 have HR0 := za.mk hr0
 have HC0 := za.mk hc0
 clear hr0 hc0
 have HR1 := za.mk hr1
 have HC1 := za.mk hc1
 clear hr1 hc1
 have HB := za.mk (Below.refl w.heap.size w)
 have H : (zo.l0 k l0 l1 0) = some r := h
 clear h
 have H' := za.mk H
 clear H
 go_enter Tryz.func33, Tryz.ntmps33
 go_wp2
 (try simp only [Act.put, List.setIfInBounds_toArray, List.set_cons_zero, List.set_cons_succ])
 go_loopg [5] k (fun kq v5 w' => ∃ (x5_1 : Int), v5 = .int .i64 x5_1 ∧ za (zo.l0 kq l0 l1 x5_1 = some r) ∧ za (kq ≤ k) ∧ za (Below w.heap.size w w'))
 case atStart => exact ⟨(0), (by rfl), H', ⟨Nat.le_refl _⟩, ⟨by (with_reducible exact HB.out)⟩⟩
 case round =>
  clear H'
  obtain ⟨x5_1, rfl, HA, HK1, HB⟩ := hrel
  cases gk with
  | zero => exact absurd HA.out (by simp [zo.l0])
  | succ k1 =>
   have H := HA.out
   clear HA
   simp only [zo.l0] at H
   have HC3 := za.mk H
   clear H
   go_upto_region 2 with (fail)
   go_cut [18] (fun v18 wc => ∃ (kq : Nat) (x18_2 : Bool), v18 = .bool x18_2 ∧ za (zo.j1 kq l0 l1 x5_1 x18_2 = some r) ∧ za (kq ≤ k1) ∧ za (Below w.heap.size w wc))
   case first =>
    have H := HC3.out
    clear HC3
    by_cases c4 : x5_1 < (l0.length : Int)
    ·rw [if_pos c4] at H
     have c4b0 : decide (x5_1 < (l0.length : Int)) = true := decide_eq_true c4
     clear c4
     (first | rw [c4b0] | (simp only [i64_w, i32_w]; rw [c4b0]) | skip)
     have H' := za.mk H
     clear H
     go_wp2
     go_meet
     case rel => exact ⟨_, (true), (by rfl), H', ⟨by have := HK1.out; first | omega | exact Nat.le_refl _⟩, ⟨by (with_reducible exact HB.out)⟩⟩
    ·rw [if_neg c4] at H
     have c4b0 : decide (x5_1 < (l0.length : Int)) = false := decide_eq_false c4
     clear c4
     (first | rw [c4b0] | (simp only [i64_w, i32_w]; rw [c4b0]) | skip)
     have H' := za.mk H
     clear H
     go_wp2
     go_meet
     case rel => exact ⟨_, (decide (x5_1 < (l1.length : Int))), (by rfl), H', ⟨by have := HK1.out; first | omega | exact Nat.le_refl _⟩, ⟨by (with_reducible exact HB.out)⟩⟩
   case rest =>
    clear HC3
    obtain ⟨kq, x18_2, rfl, HA, HJ2, HB⟩ := hcut
    cases kq with
    | zero => exact absurd HA.out (by simp [zo.j1])
    | succ kj2 =>
     have H := HA.out
     clear HA
     simp only [zo.j1] at H
     by_cases c5 : x18_2 = true
     ·subst c5
      have H1 : ((zad.f l0 x5_1).bind fun bt250 => ((zad.f l1 x5_1).bind fun bt254 => ((zx.f kj2 bt250.2.1 bt250.2.2.1 bt254.2.1 bt254.2.2.1).bind fun t260 => (if bt250.2.2.2 = 0 then (zo.j2 kj2 l0 l1 x5_1 t260 false bt250.1 bt250.2.1 bt250.2.2.1 bt250.2.2.2 bt254.1 bt254.2.1 bt254.2.2.1 bt254.2.2.2) else (if bt254.2.2.2 = 0 then (zo.j2 kj2 l0 l1 x5_1 t260 false bt250.1 bt250.2.1 bt250.2.2.1 bt250.2.2.2 bt254.1 bt254.2.1 bt254.2.2.1 bt254.2.2.2) else (if 0 < (bt250.1.size : Int) then (if (bt bt250.1 0) = 48 then (zo.j2 kj2 l0 l1 x5_1 t260 true bt250.1 bt250.2.1 bt250.2.2.1 bt250.2.2.2 bt254.1 bt254.2.1 bt254.2.2.1 bt254.2.2.2) else (if 0 < (bt254.1.size : Int) then (zo.j2 kj2 l0 l1 x5_1 t260 ((bt bt254.1 0) == 48) bt250.1 bt250.2.1 bt250.2.2.1 bt250.2.2.2 bt254.1 bt254.2.1 bt254.2.2.1 bt254.2.2.2) else (none))) else (none))))))) = some r := by rw [if_pos rfl] at H; exact H
      clear H
      have H := H1
      clear H1
      replace H := Option.bind_eq_some_iff.mp H
      obtain ⟨⟨t250, t251, t252, t253⟩, A60, H⟩ := H
      replace H : ((zad.f l1 x5_1).bind fun bt254 => ((zx.f kj2 t251 t252 bt254.2.1 bt254.2.2.1).bind fun t260 => (if t253 = 0 then (zo.j2 kj2 l0 l1 x5_1 t260 false t250 t251 t252 t253 bt254.1 bt254.2.1 bt254.2.2.1 bt254.2.2.2) else (if bt254.2.2.2 = 0 then (zo.j2 kj2 l0 l1 x5_1 t260 false t250 t251 t252 t253 bt254.1 bt254.2.1 bt254.2.2.1 bt254.2.2.2) else (if 0 < (t250.size : Int) then (if (bt t250 0) = 48 then (zo.j2 kj2 l0 l1 x5_1 t260 true t250 t251 t252 t253 bt254.1 bt254.2.1 bt254.2.2.1 bt254.2.2.2) else (if 0 < (bt254.1.size : Int) then (zo.j2 kj2 l0 l1 x5_1 t260 ((bt bt254.1 0) == 48) t250 t251 t252 t253 bt254.1 bt254.2.1 bt254.2.2.1 bt254.2.2.2) else (none))) else (none)))))) = some r := H
      have A6 := za.mk A60
      clear A60
      replace H := Option.bind_eq_some_iff.mp H
      obtain ⟨⟨t254, t255, t256, t257⟩, A70, H⟩ := H
      replace H : ((zx.f kj2 t251 t252 t255 t256).bind fun t260 => (if t253 = 0 then (zo.j2 kj2 l0 l1 x5_1 t260 false t250 t251 t252 t253 t254 t255 t256 t257) else (if t257 = 0 then (zo.j2 kj2 l0 l1 x5_1 t260 false t250 t251 t252 t253 t254 t255 t256 t257) else (if 0 < (t250.size : Int) then (if (bt t250 0) = 48 then (zo.j2 kj2 l0 l1 x5_1 t260 true t250 t251 t252 t253 t254 t255 t256 t257) else (if 0 < (t254.size : Int) then (zo.j2 kj2 l0 l1 x5_1 t260 ((bt t254 0) == 48) t250 t251 t252 t253 t254 t255 t256 t257) else (none))) else (none))))) = some r := H
      have A7 := za.mk A70
      clear A70
      replace H := Option.bind_eq_some_iff.mp H
      obtain ⟨t260, A80, H⟩ := H
      replace H : (if t253 = 0 then (zo.j2 kj2 l0 l1 x5_1 t260 false t250 t251 t252 t253 t254 t255 t256 t257) else (if t257 = 0 then (zo.j2 kj2 l0 l1 x5_1 t260 false t250 t251 t252 t253 t254 t255 t256 t257) else (if 0 < (t250.size : Int) then (if (bt t250 0) = 48 then (zo.j2 kj2 l0 l1 x5_1 t260 true t250 t251 t252 t253 t254 t255 t256 t257) else (if 0 < (t254.size : Int) then (zo.j2 kj2 l0 l1 x5_1 t260 ((bt t254 0) == 48) t250 t251 t252 t253 t254 t255 t256 t257) else (none))) else (none)))) = some r := H
      have A8 := za.mk A80
      clear A80
      have HC9 := za.mk H
      clear H
      go_upto_region 6 with (first | ((with_reducible refine zw (f := 54) rfl ?_); refine goesA (some 23) Tryz.func54 #[.slice A0 l0.length c0, .int .i64 x5_1] ?_; (with_reducible refine (zad.calls _ _ l0 x5_1 t250 t251 t252 t253 _ ?side1 ?side2 A6.out).mono ?_); (case side1 => repeat (first | exact (Kd.C_below HR0.out HB.out) | (with_reducible refine Kd.C_alloc ?_ _) | (with_reducible refine Kd.C_drewN ?_ _) | (with_reducible refine Kd.C_drew ?_))); (case side2 => exact HC0.out); rintro e w10 ⟨rfl, hb⟩; refine ⟨_, rfl, ?_⟩; replace HB := BS HB hb; (try clear hb); (try clear hb2); (try clear hk); (try clear hi)) | ((with_reducible refine zw (f := 54) rfl ?_); refine goesA (some 26) Tryz.func54 #[.slice A1 l1.length c1, .int .i64 x5_1] ?_; (with_reducible refine (zad.calls _ _ l1 x5_1 t254 t255 t256 t257 _ ?side1 ?side2 A7.out).mono ?_); (case side1 => repeat (first | exact (Kd.C_below HR1.out HB.out) | (with_reducible refine Kd.C_alloc ?_ _) | (with_reducible refine Kd.C_drewN ?_ _) | (with_reducible refine Kd.C_drew ?_))); (case side2 => exact HC1.out); rintro e w11 ⟨rfl, hb⟩; refine ⟨_, rfl, ?_⟩; replace HB := BS HB hb; (try clear hb); (try clear hb2); (try clear hk); (try clear hi)) | ((with_reducible refine znb (N := 6) rfl ?_); (try (refine zjc (by rfl) ?_; dsimp only)); refine zzb ?hg (N := 6) ?hd (cs := #[.string ⟨#[]⟩, .bool false, .string ⟨#[]⟩, .int .i64 0]) (t := 52) ?hr ?_; (case hd => rfl); (case hg => rfl); (case hr => first | (go_simp; done) | (go_simp; rfl)); intro gb258 hg w12 hbox hb; have BK258 := za.mk hbox; have GW258 := za.mk ((by rw [hg]; exact (zm (by (with_reducible exact HB.out))) : w.heap.size ≤ gb258)); have GE258 := za.mk ((by rw [hg]; exact (zm (by (with_reducible exact HB.out))) : w.heap.size ≤ gb258)); replace HB := BS HB hb; clear hb hbox hg) | ((with_reducible refine znb (N := 7) rfl ?_); (try (refine zjc (by rfl) ?_; dsimp only)); refine zzb ?hg (N := 7) ?hd (cs := #[.string ⟨#[]⟩, .bool false, .string ⟨#[]⟩, .int .i64 0]) (t := 52) ?hr ?_; (case hd => rfl); (case hg => rfl); (case hr => first | (go_simp; done) | (go_simp; rfl)); intro gb259 hg w13 hbox hb; have n0_ := za.mk (zc BK258.out hb); have n1_ := za.mk (zib (by (with_reducible exact HB.out)) hb); have n2_ := za.mk hbox; have n3_ := za.mk ((by rw [hg]; exact (zm (by (with_reducible exact HB.out))) : w.heap.size ≤ gb259)); have n4_ := za.mk ((by rw [hg]; exact (zm (by (with_reducible exact HB.out))) : w.heap.size ≤ gb259)); have n5_ := za.mk ((by rw [hg]; exact Nat.ne_of_lt (zyb BK258.out) : gb258 ≠ gb259)); have n6_ := za.mk ((by rw [hg]; exact Nat.ne_of_gt (zyb BK258.out) : gb259 ≠ gb258)); clear BK258; clear HB; have BK258 := n0_; have HB := n1_; have BK259 := n2_; have GW259 := n3_; have GE259 := n4_; have NB258_259 := n5_; have NB259_258 := n6_; clear n0_ n1_ n2_ n3_ n4_ n5_ n6_; clear hb hbox hg; have hnb14 := NB258_259.out; have hnc14 := NB259_258.out; obtain ⟨z15_0, z15_1, z15_2, z15_3, y15_0, y15_1, y15_2, y15_3⟩ := cl4 BK258.out; obtain ⟨z16_0, z16_1, z16_2, z16_3, y16_0, y16_1, y16_2, y16_3⟩ := cl4 BK259.out) | ((with_reducible refine zw (f := 35) rfl ?_); refine goesA (some 31) Tryz.func35 #[.agg #[.bool t251, .string t252], .agg #[.bool t255, .string t256]] ?_; (with_reducible refine (zx.calls kj2 t251 t252 t255 t256 t260 _ A8.out).mono ?_); rintro e w17 ⟨rfl, hb⟩; refine ⟨_, rfl, ?_⟩; replace BK258 := za.mk (zc (g := gb258) (o := .cells #[.string t250, .bool t251, .string t252, .int .i64 t253] 52 (0, 0)) (by (iterate 4 refine zwb ?_ NB258_259.out _); exact put4 BK258.out) hb); replace BK259 := za.mk (zc (g := gb259) (o := .cells #[.string t254, .bool t255, .string t256, .int .i64 t257] 52 (0, 0)) (by refine zq (cs := #[.string t254, .bool t255, .string t256, .int .i64 0]) ?_ 3 _ rfl; refine zq (cs := #[.string t254, .bool t255, .string ⟨#[]⟩, .int .i64 0]) ?_ 2 _ rfl; refine zq (cs := #[.string t254, .bool false, .string ⟨#[]⟩, .int .i64 0]) ?_ 1 _ rfl; refine zq (cs := #[.string ⟨#[]⟩, .bool false, .string ⟨#[]⟩, .int .i64 0]) ?_ 0 _ rfl; (iterate 4 refine zwb ?_ NB259_258.out _); exact BK259.out) hb); replace HB := za.mk (zib (by repeat (first | (with_reducible first | exact HB.out | apply zj | apply zd | apply zab | refine zl ?_ GE258.out | refine zl ?_ GE259.out) | exact HB.out)) hb); (try clear hb); (try clear hb2); (try clear hk); (try clear hi)))
      (try simp only [Act.put, List.setIfInBounds_toArray, List.set_cons_zero, List.set_cons_succ])
      go_cut [51] (fun v51 wc => ∃ (kq : Nat) (x51_8 : Bool), v51 = .bool x51_8 ∧ za (zo.j2 kq l0 l1 x5_1 t260 x51_8 t250 t251 t252 t253 t254 t255 t256 t257 = some r) ∧ za (kq ≤ kj2) ∧ za (wc.heap[gb258]? = some (.cells #[.string t250, .bool t251, .string t252, .int .i64 t253] 52 (0, 0))) ∧ za (wc.heap[gb259]? = some (.cells #[.string t254, .bool t255, .string t256, .int .i64 t257] 52 (0, 0))) ∧ za (Below w.heap.size w wc))
      case first =>
       have H := HC9.out
       clear HC9
       by_cases c18 : t253 = 0
       ·rw [if_pos c18] at H
        have c18b0 : (t253 == 0) = true := beq_iff_eq.mpr c18
        have c18b1 : (t253 != 0) = false := bne_eq_false_iff_eq.mpr c18
        clear c18
        (first | rw [c18b0] | (simp only [i64_w, i32_w]; rw [c18b0]) | skip)
        have H' := za.mk H
        clear H
        have hnb19 := NB258_259.out
        have hnc19 := NB259_258.out
        obtain ⟨z20_0, z20_1, z20_2, z20_3, y20_0, y20_1, y20_2, y20_3⟩ := cl4 BK258.out
        go_wp2
        go_meet
        case rel => exact ⟨_, (false), (by rfl), H', ⟨by have := HK1.out; have := HJ2.out; first | omega | exact Nat.le_refl _⟩, ⟨by exact BK258.out⟩, ⟨by exact BK259.out⟩, ⟨by (with_reducible exact HB.out)⟩⟩
       ·rw [if_neg c18] at H
        have c18b0 : (t253 == 0) = false := beq_eq_false_iff_ne.mpr c18
        have c18b1 : (t253 != 0) = true := bne_iff_ne.mpr c18
        (first | rw [c18b0] | (simp only [i64_w, i32_w]; rw [c18b0]) | skip)
        by_cases c21 : t257 = 0
        ·rw [if_pos c21] at H
         have c21b0 : (t257 == 0) = true := beq_iff_eq.mpr c21
         have c21b1 : (t257 != 0) = false := bne_eq_false_iff_eq.mpr c21
         clear c21
         have H' := za.mk H
         clear H
         have hnb22 := NB258_259.out
         have hnc22 := NB259_258.out
         obtain ⟨z23_0, z23_1, z23_2, z23_3, y23_0, y23_1, y23_2, y23_3⟩ := cl4 BK258.out
         obtain ⟨z24_0, z24_1, z24_2, z24_3, y24_0, y24_1, y24_2, y24_3⟩ := cl4 BK259.out
         go_wp2
         go_meet
         case rel => exact ⟨_, (false), (by rfl), H', ⟨by have := HK1.out; have := HJ2.out; first | omega | exact Nat.le_refl _⟩, ⟨by exact BK258.out⟩, ⟨by exact BK259.out⟩, ⟨by (with_reducible exact HB.out)⟩⟩
        ·rw [if_neg c21] at H
         have c21b0 : (t257 == 0) = false := beq_eq_false_iff_ne.mpr c21
         have c21b1 : (t257 != 0) = true := bne_iff_ne.mpr c21
         by_cases c25 : 0 < (t250.size : Int)
         ·rw [if_pos c25] at H
          have c25b0 : decide (0 < (t250.size : Int)) = true := decide_eq_true c25
          have c25b1 : decide (0 < t250.size) = true := decide_eq_true (by omega)
          clear c25
          by_cases c27 : (bt t250 0) = 48
          ·rw [if_pos c27] at H
           have c27b0 : ((bt t250 0) == 48) = true := beq_iff_eq.mpr c27
           have c27b1 : ((bt t250 0) != 48) = false := bne_eq_false_iff_eq.mpr c27
           clear c27
           have H' := za.mk H
           clear H
           have hnb28 := NB258_259.out
           have hnc28 := NB259_258.out
           obtain ⟨z29_0, z29_1, z29_2, z29_3, y29_0, y29_1, y29_2, y29_3⟩ := cl4 BK258.out
           obtain ⟨z30_0, z30_1, z30_2, z30_3, y30_0, y30_1, y30_2, y30_3⟩ := cl4 BK259.out
           have p26 : 0 ≤ (0 : Int) := (by omega)
           have q26 : 0 < t250.size := (by have : (0 : Int) < (t250.size : Int) := of_decide_eq_true (by (with_reducible assumption)); omega)
           have hx26 : ∀ h : 0 < t250.size, ((t250[0]'h).toNat : Int) = bt t250 0 := bt_at t250 0
           clear p26
           have qi26 : (0 < (t250.size : Int)) = True := eq_true (of_decide_eq_true (by (with_reducible assumption)))
           replace q26 := eq_true q26
           go_wp2
           go_meet
           case rel => exact ⟨_, (true), (by rfl), H', ⟨by have := HK1.out; have := HJ2.out; first | omega | exact Nat.le_refl _⟩, ⟨by exact BK258.out⟩, ⟨by exact BK259.out⟩, ⟨by (with_reducible exact HB.out)⟩⟩
          ·rw [if_neg c27] at H
           have c27b0 : ((bt t250 0) == 48) = false := beq_eq_false_iff_ne.mpr c27
           have c27b1 : ((bt t250 0) != 48) = true := bne_iff_ne.mpr c27
           by_cases c31 : 0 < (t254.size : Int)
           ·rw [if_pos c31] at H
            have c31b0 : decide (0 < (t254.size : Int)) = true := decide_eq_true c31
            have c31b1 : decide (0 < t254.size) = true := decide_eq_true (by omega)
            clear c31
            have H' := za.mk H
            clear H
            have hnb33 := NB258_259.out
            have hnc33 := NB259_258.out
            obtain ⟨z34_0, z34_1, z34_2, z34_3, y34_0, y34_1, y34_2, y34_3⟩ := cl4 BK258.out
            obtain ⟨z35_0, z35_1, z35_2, z35_3, y35_0, y35_1, y35_2, y35_3⟩ := cl4 BK259.out
            have p26 : 0 ≤ (0 : Int) := (by omega)
            have q26 : 0 < t250.size := (by have : (0 : Int) < (t250.size : Int) := of_decide_eq_true (by (with_reducible assumption)); omega)
            have hx26 : ∀ h : 0 < t250.size, ((t250[0]'h).toNat : Int) = bt t250 0 := bt_at t250 0
            clear p26
            have qi26 : (0 < (t250.size : Int)) = True := eq_true (of_decide_eq_true (by (with_reducible assumption)))
            replace q26 := eq_true q26
            have p32 : 0 ≤ (0 : Int) := (by omega)
            have q32 : 0 < t254.size := (by have : (0 : Int) < (t254.size : Int) := of_decide_eq_true (by (with_reducible assumption)); omega)
            have hx32 : ∀ h : 0 < t254.size, ((t254[0]'h).toNat : Int) = bt t254 0 := bt_at t254 0
            clear p32
            have qi32 : (0 < (t254.size : Int)) = True := eq_true (of_decide_eq_true (by (with_reducible assumption)))
            replace q32 := eq_true q32
            go_wp2
            go_meet
            case rel => exact ⟨_, (((bt t254 0) == 48)), (by rfl), H', ⟨by have := HK1.out; have := HJ2.out; first | omega | exact Nat.le_refl _⟩, ⟨by exact BK258.out⟩, ⟨by exact BK259.out⟩, ⟨by (with_reducible exact HB.out)⟩⟩
           ·rw [if_neg c31] at H
            exact absurd H (by simp)
         ·rw [if_neg c25] at H
          exact absurd H (by simp)
      case rest =>
       clear HC9
       clear z15_0 z15_1 z15_2 z15_3 z16_0 z16_1 z16_2 z16_3 y15_0 y15_1 y15_2 y15_3 y16_0 y16_1 y16_2 y16_3
       obtain ⟨kq, x51_8, rfl, HA, HJ8, BK258, BK259, HB⟩ := hcut
       cases kq with
       | zero => exact absurd HA.out (by simp [zo.j2])
       | succ kj8 =>
        have H := HA.out
        clear HA
        simp only [zo.j2] at H
        by_cases c36 : x51_8 = true
        ·subst c36
         have H1 : ((zdd.f t250 t254).bind fun t261 => (if t261 = 0 then (zo.l0 kj8 l0 l1 (wrap64 (x5_1 + 1))) else (some t261))) = some r := by rw [if_pos rfl] at H; exact H
         clear H
         have H := H1
         clear H1
         replace H := Option.bind_eq_some_iff.mp H
         obtain ⟨t261, A370, H⟩ := H
         replace H : (if t261 = 0 then (zo.l0 kj8 l0 l1 (wrap64 (x5_1 + 1))) else (some t261)) = some r := H
         have A37 := za.mk A370
         clear A370
         by_cases c38 : t261 = 0
         ·rw [if_pos c38] at H
          have c38b0 : (t261 == 0) = true := beq_iff_eq.mpr c38
          have c38b1 : (t261 != 0) = false := bne_eq_false_iff_eq.mpr c38
          clear c38
          have H' := za.mk H
          clear H
          have hnb39 := NB258_259.out
          have hnc39 := NB259_258.out
          obtain ⟨z40_0, z40_1, z40_2, z40_3, y40_0, y40_1, y40_2, y40_3⟩ := cl4 BK258.out
          obtain ⟨z41_0, z41_1, z41_2, z41_3, y41_0, y41_1, y41_2, y41_3⟩ := cl4 BK259.out
          go_wp2_with (((with_reducible refine zw (f := 32) rfl ?_); refine goesA (some 56) Tryz.func32 #[.string t250, .string t254] ?_; (with_reducible refine (zdd.calls t250 t254 t261 _ A37.out).mono ?_); rintro e w' ⟨rfl, ⟨nd, rfl⟩⟩; refine ⟨_, rfl, ?_⟩))
          go_roundg kj8
          case measure => have := HK1.out; have := HJ2.out; have := HJ8.out; omega
          case rel => exact ⟨(wrap64 (x5_1 + 1)), (by rfl), H', ⟨by have := HK1.out; have := HJ2.out; have := HJ8.out; omega⟩, ⟨by (with_reducible apply zd; with_reducible exact HB.out)⟩⟩
         ·rw [if_neg c38] at H
          have c38b0 : (t261 == 0) = false := beq_eq_false_iff_ne.mpr c38
          have c38b1 : (t261 != 0) = true := bne_iff_ne.mpr c38
          obtain rfl := Option.some.inj H
          have hnb42 := NB258_259.out
          have hnc42 := NB259_258.out
          obtain ⟨z43_0, z43_1, z43_2, z43_3, y43_0, y43_1, y43_2, y43_3⟩ := cl4 BK258.out
          obtain ⟨z44_0, z44_1, z44_2, z44_3, y44_0, y44_1, y44_2, y44_3⟩ := cl4 BK259.out
          go_wp2_with (((with_reducible refine zw (f := 32) rfl ?_); refine goesA (some 56) Tryz.func32 #[.string t250, .string t254] ?_; (with_reducible refine (zdd.calls t250 t254 t261 _ A37.out).mono ?_); rintro e w' ⟨rfl, ⟨nd, rfl⟩⟩; refine ⟨_, rfl, ?_⟩))
          go_ret
          exact ⟨by rfl, by (with_reducible apply zd; with_reducible exact HB.out)⟩
        ·replace c36 := Bool.eq_false_iff.mpr c36
         subst c36
         have H1 : (if t260 = 0 then (zo.l0 kj8 l0 l1 (wrap64 (x5_1 + 1))) else (some t260)) = some r := by rw [if_neg (show ¬ (false = true) by decide)] at H; exact H
         clear H
         have H := H1
         clear H1
         by_cases c45 : t260 = 0
         ·rw [if_pos c45] at H
          have c45b0 : (t260 == 0) = true := beq_iff_eq.mpr c45
          have c45b1 : (t260 != 0) = false := bne_eq_false_iff_eq.mpr c45
          clear c45
          have H' := za.mk H
          clear H
          go_wp2
          go_roundg kj8
          case measure => have := HK1.out; have := HJ2.out; have := HJ8.out; omega
          case rel => exact ⟨(wrap64 (x5_1 + 1)), (by rfl), H', ⟨by have := HK1.out; have := HJ2.out; have := HJ8.out; omega⟩, ⟨by (with_reducible exact HB.out)⟩⟩
         ·rw [if_neg c45] at H
          have c45b0 : (t260 == 0) = false := beq_eq_false_iff_ne.mpr c45
          have c45b1 : (t260 != 0) = true := bne_iff_ne.mpr c45
          obtain rfl := Option.some.inj H
          go_wp2
          go_ret
          exact ⟨by rfl, by (with_reducible exact HB.out)⟩
     ·replace c5 := Bool.eq_false_iff.mpr c5
      subst c5
      have H1 : (some 0) = some r := by rw [if_neg (show ¬ (false = true) by decide)] at H; exact H
      clear H
      have H := H1
      clear H1
      obtain rfl := Option.some.inj H
      go_wp2
      go_ret
      exact ⟨by rfl, by (with_reducible exact HB.out)⟩
end Go.Proofs.YtapaijpglfmfgaaGreatDoor.Q
end
section
namespace Go.Proofs.YtapaijpglfmfgaaGreatDoor.Q
open Go.RowKit YtapaijpglfmfgaaGreatDoorH YtapaijpglfmfgaaGreatDoorG YtapaijpglfmfgaaGreatDoorW.PrintWords YtapaijpglfmfgaaGreatDoorW.PrintLast YtapaijpglfmfgaaGreatDoorW.PrintMore YtapaijpglfmfgaaGreatDoorC
attribute [local go_sem] zfd zjd ztd zud zsc ztc zgd zkd
mutual
def zt.l0 : Nat → List (S56) → List (S56) → Int → Option (Int)
 | 0, _, _, _ => none
 | k + 1, x0, x1, x5 => if x5 < (x0.length : Int) then (zt.j1 k x0 x1 x5 true) else (zt.j1 k x0 x1 x5 (decide (x5 < (x1.length : Int))))
def zt.j1 : Nat → List (S56) → List (S56) → Int → Bool → Option (Int)
 | 0, _, _, _, _ => none
 | k + 1, x0, x1, x5, x18 => if x18 = true then (if x5 < (x0.length : Int) then (if 0 ≤ x5 then (zt.j2 k x0 x1 x5 ((zhd x0 x5).f0) ((zhd x0 x5).f1.f0) ((zhd x0 x5).f1.f1) 4 false (⟨#[]⟩ : ByteArray)) else (none)) else (zt.j2 k x0 x1 x5 4 false (⟨#[]⟩ : ByteArray) 4 false (⟨#[]⟩ : ByteArray))) else (some 0)
def zt.j2 : Nat → List (S56) → List (S56) → Int → Int → Bool → ByteArray → Int → Bool → ByteArray → Option (Int)
 | 0, _, _, _, _, _, _, _, _, _ => none
 | k + 1, x0, x1, x5, x263000, x263001, x263002, x264000, x264001, x264002 => if x5 < (x1.length : Int) then (if 0 ≤ x5 then (zt.j3 k x0 x1 x5 x263000 x263001 x263002 ((zhd x1 x5).f0) ((zhd x1 x5).f1.f0) ((zhd x1 x5).f1.f1)) else (none)) else (zt.j3 k x0 x1 x5 x263000 x263001 x263002 x264000 x264001 x264002)
def zt.j3 : Nat → List (S56) → List (S56) → Int → Int → Bool → ByteArray → Int → Bool → ByteArray → Option (Int)
 | 0, _, _, _, _, _, _, _, _, _ => none
 | k + 1, x0, x1, x5, x263000, x263001, x263002, x264000, x264001, x264002 => (zzc.f x263000 x264000).bind fun t266 => (if t266 = 0 then ((zx.f k x263001 x263002 x264001 x264002).bind fun t267 => (if t267 = 0 then (zt.l0 k x0 x1 (wrap64 (x5 + 1))) else (some t267))) else (some t266))
end
def zt.f (k : Nat) (l0 : List (S56)) (l1 : List (S56)) : Option (Int) := zt.l0 k l0 l1 0
theorem zt.calls (k : Nat) (A0 : Option Addr) (c0 : Nat) (l0 : List (S56)) (A1 : Option Addr) (c1 : Nat) (l1 : List (S56)) (r : Int) (w : World) (hr0 : Kd.C k56 w A0 l0.length l0) (hc0 : l0.length ≤ c0) (hr1 : Kd.C k56 w A1 l1.length l1) (hc1 : l1.length ≤ c1) (h : zt.f k l0 l1 = some r) :
  Calls Tryz.prog 34 #[.slice A0 l0.length c0, .slice A1 l1.length c1] w fun e w' => e = .returned (.int .i64 r) ∧ Below w.heap.size w w' := by
 have hu56 := Tryz.underlying56
 have hu31 := Tryz.underlying31
 have HR0 := za.mk hr0
 have HC0 := za.mk hc0
 clear hr0 hc0
 have HR1 := za.mk hr1
 have HC1 := za.mk hc1
 clear hr1 hc1
 have HB := za.mk (Below.refl w.heap.size w)
 have H : (zt.l0 k l0 l1 0) = some r := h
 clear h
 have H' := za.mk H
 clear H
 go_enter Tryz.func34, Tryz.ntmps34
 go_wp2
 (try simp only [Act.put, List.setIfInBounds_toArray, List.set_cons_zero, List.set_cons_succ])
 go_loopg [5] k (fun kq v5 w' => ∃ (x5_1 : Int), v5 = .int .i64 x5_1 ∧ za (zt.l0 kq l0 l1 x5_1 = some r) ∧ za (kq ≤ k) ∧ za (Below w.heap.size w w'))
 case atStart => exact ⟨(0), (by rfl), H', ⟨Nat.le_refl _⟩, ⟨by (with_reducible exact HB.out)⟩⟩
 case round =>
  clear H'
  obtain ⟨x5_1, rfl, HA, HK1, HB⟩ := hrel
  cases gk with
  | zero => exact absurd HA.out (by simp [zt.l0])
  | succ k1 =>
   have H := HA.out
   clear HA
   simp only [zt.l0] at H
   have HC3 := za.mk H
   clear H
   go_upto_region 2 with (fail)
   go_cut [18] (fun v18 wc => ∃ (kq : Nat) (x18_2 : Bool), v18 = .bool x18_2 ∧ za (zt.j1 kq l0 l1 x5_1 x18_2 = some r) ∧ za (kq ≤ k1) ∧ za (Below w.heap.size w wc))
   case first =>
    have H := HC3.out
    clear HC3
    by_cases c4 : x5_1 < (l0.length : Int)
    ·rw [if_pos c4] at H
     have c4b0 : decide (x5_1 < (l0.length : Int)) = true := decide_eq_true c4
     clear c4
     (first | rw [c4b0] | (simp only [i64_w, i32_w]; rw [c4b0]) | skip)
     have H' := za.mk H
     clear H
     go_wp2
     go_meet
     case rel => exact ⟨_, (true), (by rfl), H', ⟨by have := HK1.out; first | omega | exact Nat.le_refl _⟩, ⟨by (with_reducible exact HB.out)⟩⟩
    ·rw [if_neg c4] at H
     have c4b0 : decide (x5_1 < (l0.length : Int)) = false := decide_eq_false c4
     clear c4
     (first | rw [c4b0] | (simp only [i64_w, i32_w]; rw [c4b0]) | skip)
     have H' := za.mk H
     clear H
     go_wp2
     go_meet
     case rel => exact ⟨_, (decide (x5_1 < (l1.length : Int))), (by rfl), H', ⟨by have := HK1.out; first | omega | exact Nat.le_refl _⟩, ⟨by (with_reducible exact HB.out)⟩⟩
   case rest =>
    clear HC3
    obtain ⟨kq, x18_2, rfl, HA, HJ2, HB⟩ := hcut
    cases kq with
    | zero => exact absurd HA.out (by simp [zt.j1])
    | succ kj2 =>
     have H := HA.out
     clear HA
     simp only [zt.j1] at H
     by_cases c5 : x18_2 = true
     ·subst c5
      have H1 : (if x5_1 < (l0.length : Int) then (if 0 ≤ x5_1 then (zt.j2 kj2 l0 l1 x5_1 ((zhd l0 x5_1).f0) ((zhd l0 x5_1).f1.f0) ((zhd l0 x5_1).f1.f1) 4 false (⟨#[]⟩ : ByteArray)) else (none)) else (zt.j2 kj2 l0 l1 x5_1 4 false (⟨#[]⟩ : ByteArray) 4 false (⟨#[]⟩ : ByteArray))) = some r := by rw [if_pos rfl] at H; exact H
      clear H
      have H := H1
      clear H1
      have HC6 := za.mk H
      clear H
      go_upto_if 26 with (first | ((with_reducible refine znb (N := 6) rfl ?_); (try (refine zjc (by rfl) ?_; dsimp only)); refine zzb ?hg (N := 6) ?hd (cs := #[.int .i64 0, .bool false, .string ⟨#[]⟩]) (t := 56) ?hr ?_; (case hd => rfl); (case hg => rfl); (case hr => first | (go_simp; done) | (go_simp; rfl)); intro gb262 hg w7 hbox hb; have BK262 := za.mk hbox; have GW262 := za.mk ((by rw [hg]; exact (zm (by (with_reducible exact HB.out))) : w.heap.size ≤ gb262)); have GE262 := za.mk ((by rw [hg]; exact (zm (by (with_reducible exact HB.out))) : w.heap.size ≤ gb262)); replace HB := BS HB hb; clear hb hbox hg) | ((with_reducible refine znb (N := 7) rfl ?_); (try (refine zjc (by rfl) ?_; dsimp only)); refine zzb ?hg (N := 7) ?hd (cs := #[.int .i64 0, .bool false, .string ⟨#[]⟩]) (t := 56) ?hr ?_; (case hd => rfl); (case hg => rfl); (case hr => first | (go_simp; done) | (go_simp; rfl)); intro gb263 hg w8 hbox hb; have n0_ := za.mk (zc BK262.out hb); have n1_ := za.mk (zib (by (with_reducible exact HB.out)) hb); have n2_ := za.mk hbox; have n3_ := za.mk ((by rw [hg]; exact (zm (by (with_reducible exact HB.out))) : w.heap.size ≤ gb263)); have n4_ := za.mk ((by rw [hg]; exact (zm (by (with_reducible exact HB.out))) : w.heap.size ≤ gb263)); have n5_ := za.mk ((by rw [hg]; exact Nat.ne_of_lt (zyb BK262.out) : gb262 ≠ gb263)); have n6_ := za.mk ((by rw [hg]; exact Nat.ne_of_gt (zyb BK262.out) : gb263 ≠ gb262)); clear BK262; clear HB; have BK262 := n0_; have HB := n1_; have BK263 := n2_; have GW263 := n3_; have GE263 := n4_; have NB262_263 := n5_; have NB263_262 := n6_; clear n0_ n1_ n2_ n3_ n4_ n5_ n6_; clear hb hbox hg; have hnb9 := NB262_263.out; have hnc9 := NB263_262.out; obtain ⟨z10_0, z10_1, z10_2, y10_0, y10_1, y10_2⟩ := cl3 BK262.out; obtain ⟨z11_0, z11_1, z11_2, y11_0, y11_1, y11_2⟩ := cl3 BK263.out))
      (try simp only [Act.put, List.setIfInBounds_toArray, List.set_cons_zero, List.set_cons_succ])
      go_cut [26] (fun v26 wc => ∃ (kq : Nat) (x263000_5 : Int) (x263001_5 : Bool) (x263002_5 : ByteArray), za (zt.j2 kq l0 l1 x5_1 x263000_5 x263001_5 x263002_5 4 false (⟨#[]⟩ : ByteArray) = some r) ∧ za (kq ≤ kj2) ∧ za (wc.heap[gb262]? = some (.cells #[.int .i64 x263000_5, .bool x263001_5, .string x263002_5] 56 (0, 0))) ∧ za (wc.heap[gb263]? = some (.cells #[.int .i64 4, .bool false, .string ⟨#[]⟩] 56 (0, 0))) ∧ za (Below w.heap.size w wc))
      case first =>
       have H := HC6.out
       clear HC6
       by_cases c12 : x5_1 < (l0.length : Int)
       ·rw [if_pos c12] at H
        have c12b0 : decide (x5_1 < (l0.length : Int)) = true := decide_eq_true c12
        clear c12
        (first | rw [c12b0] | (simp only [i64_w, i32_w]; rw [c12b0]) | skip)
        by_cases c13 : 0 ≤ x5_1
        ·rw [if_pos c13] at H
         have c13b0 : decide (0 ≤ x5_1) = true := decide_eq_true c13
         clear c13
         have H' := za.mk H
         clear H
         have p264 : 0 ≤ (x5_1 : Int) := of_decide_eq_true (by (with_reducible assumption))
         have q264 : x5_1 < (l0.length : Int) := of_decide_eq_true (by (with_reducible assumption))
         obtain ⟨ad264, e264, hx264_0, hx264_1, hx264_2⟩ := at_T56 HR0.out x5_1 p264 q264
         cases e264
         have hn264_0 : ad264.block ≠ gb262 := Nat.ne_of_lt (Nat.lt_of_lt_of_le (by have := World.block_lt_of_cell? _ _ hx264_0; first | rwa [add_block] at this | exact this) GW262.out)
         have hn264_1 : ad264.block ≠ gb262 := Nat.ne_of_lt (Nat.lt_of_lt_of_le (by have := World.block_lt_of_cell? _ _ hx264_0; first | rwa [add_block] at this | exact this) GW262.out)
         have hn264_2 : ad264.block ≠ gb262 := Nat.ne_of_lt (Nat.lt_of_lt_of_le (by have := World.block_lt_of_cell? _ _ hx264_0; first | rwa [add_block] at this | exact this) GW262.out)
         have hn264_3 : ad264.block ≠ gb263 := Nat.ne_of_lt (Nat.lt_of_lt_of_le (by have := World.block_lt_of_cell? _ _ hx264_0; first | rwa [add_block] at this | exact this) GW263.out)
         have hn264_4 : ad264.block ≠ gb263 := Nat.ne_of_lt (Nat.lt_of_lt_of_le (by have := World.block_lt_of_cell? _ _ hx264_0; first | rwa [add_block] at this | exact this) GW263.out)
         have hn264_5 : ad264.block ≠ gb263 := Nat.ne_of_lt (Nat.lt_of_lt_of_le (by have := World.block_lt_of_cell? _ _ hx264_0; first | rwa [add_block] at this | exact this) GW263.out)
         replace hx264_0 := (HB.out.cell (World.block_lt_of_cell? w _ hx264_0)).trans hx264_0
         replace hx264_1 := (HB.out.cell (World.block_lt_of_cell? w _ hx264_1)).trans hx264_1
         replace hx264_2 := (HB.out.cell (World.block_lt_of_cell? w _ hx264_2)).trans hx264_2
         replace hx264_0 := (cell_far (p := ⟨gb262, 0, none⟩) (by (rw [add_block]; exact hn264_0)) (.int .i64 4)).trans hx264_0
         replace hx264_1 := (cell_far (p := ⟨gb262, 0, none⟩) (by (rw [add_block]; exact hn264_0)) (.int .i64 4)).trans hx264_1
         replace hx264_2 := (cell_far (p := ⟨gb262, 0, none⟩) (by (rw [add_block]; exact hn264_0)) (.int .i64 4)).trans hx264_2
         replace hx264_0 := (cell_far (p := ⟨gb262, 1, none⟩) (by (rw [add_block]; exact hn264_1)) (.bool false)).trans hx264_0
         replace hx264_1 := (cell_far (p := ⟨gb262, 1, none⟩) (by (rw [add_block]; exact hn264_1)) (.bool false)).trans hx264_1
         replace hx264_2 := (cell_far (p := ⟨gb262, 1, none⟩) (by (rw [add_block]; exact hn264_1)) (.bool false)).trans hx264_2
         replace hx264_0 := (cell_far (p := ⟨gb262, 2, none⟩) (by (rw [add_block]; exact hn264_2)) (.string ⟨#[]⟩)).trans hx264_0
         replace hx264_1 := (cell_far (p := ⟨gb262, 2, none⟩) (by (rw [add_block]; exact hn264_2)) (.string ⟨#[]⟩)).trans hx264_1
         replace hx264_2 := (cell_far (p := ⟨gb262, 2, none⟩) (by (rw [add_block]; exact hn264_2)) (.string ⟨#[]⟩)).trans hx264_2
         replace hx264_0 := (cell_far (p := ⟨gb263, 0, none⟩) (by (rw [add_block]; exact hn264_3)) (.int .i64 4)).trans hx264_0
         replace hx264_1 := (cell_far (p := ⟨gb263, 0, none⟩) (by (rw [add_block]; exact hn264_3)) (.int .i64 4)).trans hx264_1
         replace hx264_2 := (cell_far (p := ⟨gb263, 0, none⟩) (by (rw [add_block]; exact hn264_3)) (.int .i64 4)).trans hx264_2
         replace hx264_0 := (cell_far (p := ⟨gb263, 1, none⟩) (by (rw [add_block]; exact hn264_4)) (.bool false)).trans hx264_0
         replace hx264_1 := (cell_far (p := ⟨gb263, 1, none⟩) (by (rw [add_block]; exact hn264_4)) (.bool false)).trans hx264_1
         replace hx264_2 := (cell_far (p := ⟨gb263, 1, none⟩) (by (rw [add_block]; exact hn264_4)) (.bool false)).trans hx264_2
         replace hx264_0 := (cell_far (p := ⟨gb263, 2, none⟩) (by (rw [add_block]; exact hn264_5)) (.string ⟨#[]⟩)).trans hx264_0
         replace hx264_1 := (cell_far (p := ⟨gb263, 2, none⟩) (by (rw [add_block]; exact hn264_5)) (.string ⟨#[]⟩)).trans hx264_1
         replace hx264_2 := (cell_far (p := ⟨gb263, 2, none⟩) (by (rw [add_block]; exact hn264_5)) (.string ⟨#[]⟩)).trans hx264_2
         clear hn264_0
         clear hn264_1
         clear hn264_2
         clear hn264_3
         clear hn264_4
         clear hn264_5
         replace p264 := eq_true p264
         replace q264 := eq_true q264
         have hnb14 := NB262_263.out
         have hnc14 := NB263_262.out
         obtain ⟨z15_0, z15_1, z15_2, y15_0, y15_1, y15_2⟩ := cl3 BK262.out
         go_wp2
         go_meet
         case rel => exact ⟨_, ((zhd l0 x5_1).f0), ((zhd l0 x5_1).f1.f0), ((zhd l0 x5_1).f1.f1), H', ⟨by have := HK1.out; have := HJ2.out; first | omega | exact Nat.le_refl _⟩, ⟨by refine zq (cs := #[.int .i64 ((zhd l0 x5_1).f0), .bool ((zhd l0 x5_1).f1.f0), .string ⟨#[]⟩]) ?_ 2 _ rfl; refine zq (cs := #[.int .i64 ((zhd l0 x5_1).f0), .bool false, .string ⟨#[]⟩]) ?_ 1 _ rfl; refine zq (cs := #[.int .i64 4, .bool false, .string ⟨#[]⟩]) ?_ 0 _ rfl; (iterate 3 refine zwb ?_ NB262_263.out _); exact put3 BK262.out⟩, ⟨by (iterate 3 refine zwb ?_ NB263_262.out _); refine zq (cs := #[.int .i64 4, .bool false, .string ⟨#[]⟩]) ?_ 2 _ rfl; refine zq (cs := #[.int .i64 4, .bool false, .string ⟨#[]⟩]) ?_ 1 _ rfl; refine zq (cs := #[.int .i64 0, .bool false, .string ⟨#[]⟩]) ?_ 0 _ rfl; (iterate 3 refine zwb ?_ NB263_262.out _); exact BK263.out⟩, ⟨by repeat (first | (with_reducible first | exact HB.out | apply zj | apply zd | apply zab | refine zl ?_ GE262.out | refine zl ?_ GE263.out) | exact HB.out)⟩⟩
        ·rw [if_neg c13] at H
         exact absurd H (by simp)
       ·rw [if_neg c12] at H
        have c12b0 : decide (x5_1 < (l0.length : Int)) = false := decide_eq_false c12
        clear c12
        (first | rw [c12b0] | (simp only [i64_w, i32_w]; rw [c12b0]) | skip)
        have H' := za.mk H
        clear H
        go_wp2
        go_meet
        case rel => exact ⟨_, (4), (false), ((⟨#[]⟩ : ByteArray)), H', ⟨by have := HK1.out; have := HJ2.out; first | omega | exact Nat.le_refl _⟩, ⟨by (iterate 3 refine zwb ?_ NB262_263.out _); exact put3 BK262.out⟩, ⟨by refine zq (cs := #[.int .i64 4, .bool false, .string ⟨#[]⟩]) ?_ 2 _ rfl; refine zq (cs := #[.int .i64 4, .bool false, .string ⟨#[]⟩]) ?_ 1 _ rfl; refine zq (cs := #[.int .i64 0, .bool false, .string ⟨#[]⟩]) ?_ 0 _ rfl; (iterate 3 refine zwb ?_ NB263_262.out _); exact BK263.out⟩, ⟨by repeat (first | (with_reducible first | exact HB.out | apply zj | apply zd | apply zab | refine zl ?_ GE262.out | refine zl ?_ GE263.out) | exact HB.out)⟩⟩
      case rest =>
       clear HC6
       clear z10_0 z10_1 z10_2 z11_0 z11_1 z11_2 y10_0 y10_1 y10_2 y11_0 y11_1 y11_2
       obtain ⟨kq, x263000_5, x263001_5, x263002_5, HA, HJ5, BK262, BK263, HB⟩ := hcut
       cases kq with
       | zero => exact absurd HA.out (by simp [zt.j2])
       | succ kj5 =>
        have H := HA.out
        clear HA
        simp only [zt.j2] at H
        have HC16 := za.mk H
        clear H
        go_upto_if 34 with (fail)
        go_cut [34] (fun v34 wc => ∃ (kq : Nat) (x264000_15 : Int) (x264001_15 : Bool) (x264002_15 : ByteArray), za (zt.j3 kq l0 l1 x5_1 x263000_5 x263001_5 x263002_5 x264000_15 x264001_15 x264002_15 = some r) ∧ za (kq ≤ kj5) ∧ za (wc.heap[gb262]? = some (.cells #[.int .i64 x263000_5, .bool x263001_5, .string x263002_5] 56 (0, 0))) ∧ za (wc.heap[gb263]? = some (.cells #[.int .i64 x264000_15, .bool x264001_15, .string x264002_15] 56 (0, 0))) ∧ za (Below w.heap.size w wc))
        case first =>
         have H := HC16.out
         clear HC16
         by_cases c17 : x5_1 < (l1.length : Int)
         ·rw [if_pos c17] at H
          have c17b0 : decide (x5_1 < (l1.length : Int)) = true := decide_eq_true c17
          clear c17
          (first | rw [c17b0] | (simp only [i64_w, i32_w]; rw [c17b0]) | skip)
          by_cases c18 : 0 ≤ x5_1
          ·rw [if_pos c18] at H
           have c18b0 : decide (0 ≤ x5_1) = true := decide_eq_true c18
           clear c18
           have H' := za.mk H
           clear H
           have p265 : 0 ≤ (x5_1 : Int) := of_decide_eq_true (by (with_reducible assumption))
           have q265 : x5_1 < (l1.length : Int) := of_decide_eq_true (by (with_reducible assumption))
           obtain ⟨ad265, e265, hx265_0, hx265_1, hx265_2⟩ := at_T56 HR1.out x5_1 p265 q265
           cases e265
           replace hx265_0 := (HB.out.cell (World.block_lt_of_cell? w _ hx265_0)).trans hx265_0
           replace hx265_1 := (HB.out.cell (World.block_lt_of_cell? w _ hx265_1)).trans hx265_1
           replace hx265_2 := (HB.out.cell (World.block_lt_of_cell? w _ hx265_2)).trans hx265_2
           replace p265 := eq_true p265
           replace q265 := eq_true q265
           have hnb19 := NB263_262.out
           have hnc19 := NB262_263.out
           obtain ⟨z20_0, z20_1, z20_2, y20_0, y20_1, y20_2⟩ := cl3 BK263.out
           go_wp2
           go_meet
           case rel => exact ⟨_, ((zhd l1 x5_1).f0), ((zhd l1 x5_1).f1.f0), ((zhd l1 x5_1).f1.f1), H', ⟨by have := HK1.out; have := HJ2.out; have := HJ5.out; first | omega | exact Nat.le_refl _⟩, ⟨by (iterate 3 refine zwb ?_ NB262_263.out _); exact BK262.out⟩, ⟨by exact put3 BK263.out⟩, ⟨by (with_reducible refine zl ?_ GE263.out; with_reducible refine zl ?_ GE263.out; with_reducible refine zl ?_ GE263.out; with_reducible exact HB.out)⟩⟩
          ·rw [if_neg c18] at H
           exact absurd H (by simp)
         ·rw [if_neg c17] at H
          have c17b0 : decide (x5_1 < (l1.length : Int)) = false := decide_eq_false c17
          clear c17
          (first | rw [c17b0] | (simp only [i64_w, i32_w]; rw [c17b0]) | skip)
          have H' := za.mk H
          clear H
          go_wp2
          go_meet
          case rel => exact ⟨_, (4), (false), ((⟨#[]⟩ : ByteArray)), H', ⟨by have := HK1.out; have := HJ2.out; have := HJ5.out; first | omega | exact Nat.le_refl _⟩, ⟨by exact BK262.out⟩, ⟨by exact BK263.out⟩, ⟨by (with_reducible exact HB.out)⟩⟩
        case rest =>
         clear HC16
         obtain ⟨kq, x264000_15, x264001_15, x264002_15, HA, HJ15, BK262, BK263, HB⟩ := hcut
         cases kq with
         | zero => exact absurd HA.out (by simp [zt.j3])
         | succ kj15 =>
          have H := HA.out
          clear HA
          simp only [zt.j3] at H
          replace H := Option.bind_eq_some_iff.mp H
          obtain ⟨t266, A210, H⟩ := H
          replace H : (if t266 = 0 then ((zx.f kj15 x263001_5 x263002_5 x264001_15 x264002_15).bind fun t267 => (if t267 = 0 then (zt.l0 kj15 l0 l1 (wrap64 (x5_1 + 1))) else (some t267))) else (some t266)) = some r := H
          have A21 := za.mk A210
          clear A210
          by_cases c22 : t266 = 0
          ·rw [if_pos c22] at H
           have c22b0 : (t266 == 0) = true := beq_iff_eq.mpr c22
           have c22b1 : (t266 != 0) = false := bne_eq_false_iff_eq.mpr c22
           clear c22
           replace H := Option.bind_eq_some_iff.mp H
           obtain ⟨t267, A230, H⟩ := H
           replace H : (if t267 = 0 then (zt.l0 kj15 l0 l1 (wrap64 (x5_1 + 1))) else (some t267)) = some r := H
           have A23 := za.mk A230
           clear A230
           by_cases c24 : t267 = 0
           ·rw [if_pos c24] at H
            have c24b0 : (t267 == 0) = true := beq_iff_eq.mpr c24
            have c24b1 : (t267 != 0) = false := bne_eq_false_iff_eq.mpr c24
            clear c24
            have H' := za.mk H
            clear H
            have hnb25 := NB262_263.out
            have hnc25 := NB263_262.out
            obtain ⟨z26_0, z26_1, z26_2, y26_0, y26_1, y26_2⟩ := cl3 BK262.out
            obtain ⟨z27_0, z27_1, z27_2, y27_0, y27_1, y27_2⟩ := cl3 BK263.out
            go_wp2_with (first | ((with_reducible refine zw (f := 55) rfl ?_); refine goesA (some 43) Tryz.func55 #[.int .i64 x263000_5, .int .i64 x264000_15] ?_; (with_reducible refine (zzc.calls x263000_5 x264000_15 t266 _ A21.out).mono ?_); rintro e w' ⟨rfl, ⟨nd, rfl⟩⟩; refine ⟨_, rfl, ?_⟩) | ((with_reducible refine zw (f := 35) rfl ?_); refine goesA (some 50) Tryz.func35 #[.agg #[.bool x263001_5, .string x263002_5], .agg #[.bool x264001_15, .string x264002_15]] ?_; (with_reducible refine (zx.calls kj15 x263001_5 x263002_5 x264001_15 x264002_15 t267 _ A23.out).mono ?_); rintro e w28 ⟨rfl, hb⟩; refine ⟨_, rfl, ?_⟩; replace BK262 := za.mk (zc (zid BK262.out _) hb); replace BK263 := za.mk (zc (zid BK263.out _) hb); replace HB := BS HB hb; (try clear hb); (try clear hb2); (try clear hk); (try clear hi)))
            go_roundg kj15
            case measure => have := HK1.out; have := HJ2.out; have := HJ5.out; have := HJ15.out; omega
            case rel => exact ⟨(wrap64 (x5_1 + 1)), (by rfl), H', ⟨by have := HK1.out; have := HJ2.out; have := HJ5.out; have := HJ15.out; omega⟩, ⟨by (with_reducible exact HB.out)⟩⟩
           ·rw [if_neg c24] at H
            have c24b0 : (t267 == 0) = false := beq_eq_false_iff_ne.mpr c24
            have c24b1 : (t267 != 0) = true := bne_iff_ne.mpr c24
            obtain rfl := Option.some.inj H
            have hnb29 := NB262_263.out
            have hnc29 := NB263_262.out
            obtain ⟨z30_0, z30_1, z30_2, y30_0, y30_1, y30_2⟩ := cl3 BK262.out
            obtain ⟨z31_0, z31_1, z31_2, y31_0, y31_1, y31_2⟩ := cl3 BK263.out
            go_wp2_with (first | ((with_reducible refine zw (f := 55) rfl ?_); refine goesA (some 43) Tryz.func55 #[.int .i64 x263000_5, .int .i64 x264000_15] ?_; (with_reducible refine (zzc.calls x263000_5 x264000_15 t266 _ A21.out).mono ?_); rintro e w' ⟨rfl, ⟨nd, rfl⟩⟩; refine ⟨_, rfl, ?_⟩) | ((with_reducible refine zw (f := 35) rfl ?_); refine goesA (some 50) Tryz.func35 #[.agg #[.bool x263001_5, .string x263002_5], .agg #[.bool x264001_15, .string x264002_15]] ?_; (with_reducible refine (zx.calls kj15 x263001_5 x263002_5 x264001_15 x264002_15 t267 _ A23.out).mono ?_); rintro e w32 ⟨rfl, hb⟩; refine ⟨_, rfl, ?_⟩; replace BK262 := za.mk (zc (zid BK262.out _) hb); replace BK263 := za.mk (zc (zid BK263.out _) hb); replace HB := BS HB hb; (try clear hb); (try clear hb2); (try clear hk); (try clear hi)))
            go_ret
            exact ⟨by rfl, by (with_reducible exact HB.out)⟩
          ·rw [if_neg c22] at H
           have c22b0 : (t266 == 0) = false := beq_eq_false_iff_ne.mpr c22
           have c22b1 : (t266 != 0) = true := bne_iff_ne.mpr c22
           obtain rfl := Option.some.inj H
           have hnb33 := NB262_263.out
           have hnc33 := NB263_262.out
           obtain ⟨z34_0, z34_1, z34_2, y34_0, y34_1, y34_2⟩ := cl3 BK262.out
           obtain ⟨z35_0, z35_1, z35_2, y35_0, y35_1, y35_2⟩ := cl3 BK263.out
           go_wp2_with (((with_reducible refine zw (f := 55) rfl ?_); refine goesA (some 43) Tryz.func55 #[.int .i64 x263000_5, .int .i64 x264000_15] ?_; (with_reducible refine (zzc.calls x263000_5 x264000_15 t266 _ A21.out).mono ?_); rintro e w' ⟨rfl, ⟨nd, rfl⟩⟩; refine ⟨_, rfl, ?_⟩))
           go_ret
           exact ⟨by rfl, by (with_reducible apply zd; with_reducible exact HB.out)⟩
     ·replace c5 := Bool.eq_false_iff.mpr c5
      subst c5
      have H1 : (some 0) = some r := by rw [if_neg (show ¬ (false = true) by decide)] at H; exact H
      clear H
      have H := H1
      clear H1
      obtain rfl := Option.some.inj H
      go_wp2
      go_ret
      exact ⟨by rfl, by (with_reducible exact HB.out)⟩
end Go.Proofs.YtapaijpglfmfgaaGreatDoor.Q
end
section
namespace Go.Proofs.YtapaijpglfmfgaaGreatDoor.Q
open Go.RowKit YtapaijpglfmfgaaGreatDoorH YtapaijpglfmfgaaGreatDoorG YtapaijpglfmfgaaGreatDoorW.PrintWords YtapaijpglfmfgaaGreatDoorW.PrintLast YtapaijpglfmfgaaGreatDoorW.PrintMore YtapaijpglfmfgaaGreatDoorC
attribute [local go_sem] zfd zjd ztd zud zsc ztc zgd zkd
mutual
def ze.j0 : Nat → Bool → ByteArray → ByteArray → ByteArray → ByteArray → Bool → List (S52) → List (S56) → Bool → Bool → ByteArray → ByteArray → ByteArray → ByteArray → ByteArray → Bool → List (S52) → List (S56) → Bool → Bool → ByteArray → Option (Int)
 | 0, _, _, _, _, _, _, _, _, _, _, _, _, _, _, _, _, _, _, _, _, _ => none
 | k + 1, x11, x269000, x269001, x269002, x269003, x269004, x269005, x269006, x269007, x269008, x269009, x270000, x270001, x270002, x270003, x270004, x270005, x270006, x270007, x270008, x270009 => if x11 = true then ((zdd.f x269000 x270000).bind fun t270 => (some t270)) else ((zo.f k x269005 x270005).bind fun t271 => (if t271 = 0 then ((zdd.f x269002 x270002).bind fun t272 => (ze.j1 k t272 x269000 x269001 x269002 x269003 x269004 x269005 x269006 x269007 x269008 x269009 x270000 x270001 x270002 x270003 x270004 x270005 x270006 x270007 x270008 x270009)) else (ze.j1 k t271 x269000 x269001 x269002 x269003 x269004 x269005 x269006 x269007 x269008 x269009 x270000 x270001 x270002 x270003 x270004 x270005 x270006 x270007 x270008 x270009)))
def ze.j1 : Nat → Int → ByteArray → ByteArray → ByteArray → ByteArray → Bool → List (S52) → List (S56) → Bool → Bool → ByteArray → ByteArray → ByteArray → ByteArray → ByteArray → Bool → List (S52) → List (S56) → Bool → Bool → ByteArray → Option (Int)
 | 0, _, _, _, _, _, _, _, _, _, _, _, _, _, _, _, _, _, _, _, _, _ => none
 | k + 1, x5, x269000, x269001, x269002, x269003, x269004, x269005, x269006, x269007, x269008, x269009, x270000, x270001, x270002, x270003, x270004, x270005, x270006, x270007, x270008, x270009 => if x5 = 0 then ((zt.f k x269006 x270006).bind fun t273 => (ze.j2 k t273 x269000 x269001 x269002 x269003 x269004 x269005 x269006 x269007 x269008 x269009 x270000 x270001 x270002 x270003 x270004 x270005 x270006 x270007 x270008 x270009)) else (ze.j2 k x5 x269000 x269001 x269002 x269003 x269004 x269005 x269006 x269007 x269008 x269009 x270000 x270001 x270002 x270003 x270004 x270005 x270006 x270007 x270008 x270009)
def ze.j2 : Nat → Int → ByteArray → ByteArray → ByteArray → ByteArray → Bool → List (S52) → List (S56) → Bool → Bool → ByteArray → ByteArray → ByteArray → ByteArray → ByteArray → Bool → List (S52) → List (S56) → Bool → Bool → ByteArray → Option (Int)
 | 0, _, _, _, _, _, _, _, _, _, _, _, _, _, _, _, _, _, _, _, _, _ => none
 | k + 1, x5, x269000, x269001, x269002, x269003, x269004, x269005, x269006, x269007, x269008, x269009, x270000, x270001, x270002, x270003, x270004, x270005, x270006, x270007, x270008, x270009 => if x5 = 0 then (if x269007 = true then (ze.j3 k x5 x270007 x269000 x269001 x269002 x269003 x269004 x269005 x269006 x269007 x269008 x269009 x270000 x270001 x270002 x270003 x270004 x270005 x270006 x270007 x270008 x270009) else (ze.j3 k x5 false x269000 x269001 x269002 x269003 x269004 x269005 x269006 x269007 x269008 x269009 x270000 x270001 x270002 x270003 x270004 x270005 x270006 x270007 x270008 x270009)) else (ze.j3 k x5 false x269000 x269001 x269002 x269003 x269004 x269005 x269006 x269007 x269008 x269009 x270000 x270001 x270002 x270003 x270004 x270005 x270006 x270007 x270008 x270009)
def ze.j3 : Nat → Int → Bool → ByteArray → ByteArray → ByteArray → ByteArray → Bool → List (S52) → List (S56) → Bool → Bool → ByteArray → ByteArray → ByteArray → ByteArray → ByteArray → Bool → List (S52) → List (S56) → Bool → Bool → ByteArray → Option (Int)
 | 0, _, _, _, _, _, _, _, _, _, _, _, _, _, _, _, _, _, _, _, _, _, _ => none
 | k + 1, x5, x45, x269000, x269001, x269002, x269003, x269004, x269005, x269006, x269007, x269008, x269009, x270000, x270001, x270002, x270003, x270004, x270005, x270006, x270007, x270008, x270009 => if x45 = true then ((zx.f k x269008 x269009 x270008 x270009).bind fun t274 => (ze.j4 k t274 x269000 x269001 x269002 x269003 x269004 x269005 x269006 x269007 x269008 x269009 x270000 x270001 x270002 x270003 x270004 x270005 x270006 x270007 x270008 x270009)) else (ze.j4 k x5 x269000 x269001 x269002 x269003 x269004 x269005 x269006 x269007 x269008 x269009 x270000 x270001 x270002 x270003 x270004 x270005 x270006 x270007 x270008 x270009)
def ze.j4 : Nat → Int → ByteArray → ByteArray → ByteArray → ByteArray → Bool → List (S52) → List (S56) → Bool → Bool → ByteArray → ByteArray → ByteArray → ByteArray → ByteArray → Bool → List (S52) → List (S56) → Bool → Bool → ByteArray → Option (Int)
 | 0, _, _, _, _, _, _, _, _, _, _, _, _, _, _, _, _, _, _, _, _, _ => none
 | k + 1, x5, x269000, x269001, x269002, x269003, x269004, x269005, x269006, x269007, x269008, x269009, x270000, x270001, x270002, x270003, x270004, x270005, x270006, x270007, x270008, x270009 => if x5 = 0 then (if x269001.toList = ([] : List UInt8) then (ze.j5 k false x269000 x269001 x269002 x269003 x269004 x269005 x269006 x269007 x269008 x269009 x270000 x270001 x270002 x270003 x270004 x270005 x270006 x270007 x270008 x270009) else (ze.j5 k (x270001.toList == ([] : List UInt8)) x269000 x269001 x269002 x269003 x269004 x269005 x269006 x269007 x269008 x269009 x270000 x270001 x270002 x270003 x270004 x270005 x270006 x270007 x270008 x270009)) else (some x5)
def ze.j5 : Nat → Bool → ByteArray → ByteArray → ByteArray → ByteArray → Bool → List (S52) → List (S56) → Bool → Bool → ByteArray → ByteArray → ByteArray → ByteArray → ByteArray → Bool → List (S52) → List (S56) → Bool → Bool → ByteArray → Option (Int)
 | 0, _, _, _, _, _, _, _, _, _, _, _, _, _, _, _, _, _, _, _, _, _ => none
 | k + 1, x55, x269000, x269001, x269002, x269003, x269004, x269005, x269006, x269007, x269008, x269009, x270000, x270001, x270002, x270003, x270004, x270005, x270006, x270007, x270008, x270009 => if x55 = true then (some (-1)) else (if x269001.toList = ([] : List UInt8) then (if x270001.toList = ([] : List UInt8) then (some 0) else (some 1)) else (some 0))
end
def ze.f (k : Nat) (a0_0 : ByteArray) (a0_1 : ByteArray) (a0_2 : ByteArray) (a0_3 : ByteArray) (a0_4 : Bool) (l0_5 : List (S52)) (l0_6 : List (S56)) (a0_7 : Bool) (a0_8 : Bool) (a0_9 : ByteArray) (a1_0 : ByteArray) (a1_1 : ByteArray) (a1_2 : ByteArray) (a1_3 : ByteArray) (a1_4 : Bool) (l1_5 : List (S52)) (l1_6 : List (S56)) (a1_7 : Bool) (a1_8 : Bool) (a1_9 : ByteArray) : Option (Int) := if a0_4 = true then (ze.j0 k a1_4 a0_0 a0_1 a0_2 a0_3 a0_4 l0_5 l0_6 a0_7 a0_8 a0_9 a1_0 a1_1 a1_2 a1_3 a1_4 l1_5 l1_6 a1_7 a1_8 a1_9) else (ze.j0 k false a0_0 a0_1 a0_2 a0_3 a0_4 l0_5 l0_6 a0_7 a0_8 a0_9 a1_0 a1_1 a1_2 a1_3 a1_4 l1_5 l1_6 a1_7 a1_8 a1_9)
theorem ze.calls (k : Nat) (a0_0 : ByteArray) (a0_1 : ByteArray) (a0_2 : ByteArray) (a0_3 : ByteArray) (a0_4 : Bool) (A0_5 : Option Addr) (c0_5 : Nat) (l0_5 : List (S52)) (A0_6 : Option Addr) (c0_6 : Nat) (l0_6 : List (S56)) (a0_7 : Bool) (a0_8 : Bool) (a0_9 : ByteArray) (a1_0 : ByteArray) (a1_1 : ByteArray) (a1_2 : ByteArray) (a1_3 : ByteArray) (a1_4 : Bool) (A1_5 : Option Addr) (c1_5 : Nat) (l1_5 : List (S52)) (A1_6 : Option Addr) (c1_6 : Nat) (l1_6 : List (S56)) (a1_7 : Bool) (a1_8 : Bool) (a1_9 : ByteArray) (r : Int) (w : World) (hr0_5 : Kd.C k52 w A0_5 l0_5.length l0_5) (hc0_5 : l0_5.length ≤ c0_5) (hr0_6 : Kd.C k56 w A0_6 l0_6.length l0_6) (hc0_6 : l0_6.length ≤ c0_6) (hr1_5 : Kd.C k52 w A1_5 l1_5.length l1_5) (hc1_5 : l1_5.length ≤ c1_5) (hr1_6 : Kd.C k56 w A1_6 l1_6.length l1_6) (hc1_6 : l1_6.length ≤ c1_6) (h : ze.f k a0_0 a0_1 a0_2 a0_3 a0_4 l0_5 l0_6 a0_7 a0_8 a0_9 a1_0 a1_1 a1_2 a1_3 a1_4 l1_5 l1_6 a1_7 a1_8 a1_9 = some r) :
  Calls Tryz.prog 11 #[.agg #[.string a0_0, .string a0_1, .string a0_2, .string a0_3, .bool a0_4, .slice A0_5 l0_5.length c0_5, .slice A0_6 l0_6.length c0_6, .bool a0_7, .bool a0_8, .string a0_9], .agg #[.string a1_0, .string a1_1, .string a1_2, .string a1_3, .bool a1_4, .slice A1_5 l1_5.length c1_5, .slice A1_6 l1_6.length c1_6, .bool a1_7, .bool a1_8, .string a1_9]] w fun e w' => e = .returned (.int .i64 r) ∧ Below w.heap.size w w' := by
 have hu33 := Tryz.underlying33
 have hu31 := Tryz.underlying31
 have HR0_5 := za.mk hr0_5
 have HC0_5 := za.mk hc0_5
 clear hr0_5 hc0_5
 have HR0_6 := za.mk hr0_6
 have HC0_6 := za.mk hc0_6
 clear hr0_6 hc0_6
 have HR1_5 := za.mk hr1_5
 have HC1_5 := za.mk hc1_5
 clear hr1_5 hc1_5
 have HR1_6 := za.mk hr1_6
 have HC1_6 := za.mk hc1_6
 clear hr1_6 hc1_6
 have HB := za.mk (Below.refl w.heap.size w)
 have H : (if a0_4 = true then (ze.j0 k a1_4 a0_0 a0_1 a0_2 a0_3 a0_4 l0_5 l0_6 a0_7 a0_8 a0_9 a1_0 a1_1 a1_2 a1_3 a1_4 l1_5 l1_6 a1_7 a1_8 a1_9) else (ze.j0 k false a0_0 a0_1 a0_2 a0_3 a0_4 l0_5 l0_6 a0_7 a0_8 a0_9 a1_0 a1_1 a1_2 a1_3 a1_4 l1_5 l1_6 a1_7 a1_8 a1_9)) = some r := h
 clear h
 have HC3 := za.mk H
 clear H
 go_enter Tryz.func11, Tryz.ntmps11
 go_upto_region 1 with (first | ((with_reducible refine znb (N := 2) rfl ?_); refine zzb ?hg (N := 2) ?hd (cs := #[.string a0_0, .string a0_1, .string a0_2, .string a0_3, .bool a0_4, .slice A0_5 l0_5.length c0_5, .slice A0_6 l0_6.length c0_6, .bool a0_7, .bool a0_8, .string a0_9]) (t := 33) ?hr ?_; (case hd => rfl); (case hg => rfl); (case hr => first | (go_simp; done) | (go_simp; rfl)); intro gb268 hg w4 hbox hb; have BK268 := za.mk hbox; have GW268 := za.mk ((by rw [hg]; exact (zm (by (with_reducible exact HB.out))) : w.heap.size ≤ gb268)); have GE268 := za.mk ((by rw [hg]; exact (zm (by (with_reducible exact HB.out))) : w.heap.size ≤ gb268)); replace HB := BS HB hb; clear hb hbox hg) | ((with_reducible refine znb (N := 3) rfl ?_); refine zzb ?hg (N := 3) ?hd (cs := #[.string a1_0, .string a1_1, .string a1_2, .string a1_3, .bool a1_4, .slice A1_5 l1_5.length c1_5, .slice A1_6 l1_6.length c1_6, .bool a1_7, .bool a1_8, .string a1_9]) (t := 33) ?hr ?_; (case hd => rfl); (case hg => rfl); (case hr => first | (go_simp; done) | (go_simp; rfl)); intro gb269 hg w5 hbox hb; have n0_ := za.mk (zc BK268.out hb); have n1_ := za.mk (zib (by (with_reducible exact HB.out)) hb); have n2_ := za.mk hbox; have n3_ := za.mk ((by rw [hg]; exact (zm (by (with_reducible exact HB.out))) : w.heap.size ≤ gb269)); have n4_ := za.mk ((by rw [hg]; exact (zm (by (with_reducible exact HB.out))) : w.heap.size ≤ gb269)); have n5_ := za.mk ((by rw [hg]; exact Nat.ne_of_lt (zyb BK268.out) : gb268 ≠ gb269)); have n6_ := za.mk ((by rw [hg]; exact Nat.ne_of_gt (zyb BK268.out) : gb269 ≠ gb268)); clear BK268; clear HB; have BK268 := n0_; have HB := n1_; have BK269 := n2_; have GW269 := n3_; have GE269 := n4_; have NB268_269 := n5_; have NB269_268 := n6_; clear n0_ n1_ n2_ n3_ n4_ n5_ n6_; clear hb hbox hg))
 (try simp only [Act.put, List.setIfInBounds_toArray, List.set_cons_zero, List.set_cons_succ])
 go_cut [11] (fun v11 wc => ∃ (kq : Nat) (x11_2 : Bool), v11 = .bool x11_2 ∧ za (ze.j0 kq x11_2 a0_0 a0_1 a0_2 a0_3 a0_4 l0_5 l0_6 a0_7 a0_8 a0_9 a1_0 a1_1 a1_2 a1_3 a1_4 l1_5 l1_6 a1_7 a1_8 a1_9 = some r) ∧ za (kq ≤ k) ∧ za (wc.heap[gb268]? = some (.cells #[.string a0_0, .string a0_1, .string a0_2, .string a0_3, .bool a0_4, (.slice A0_5 l0_5.length c0_5), (.slice A0_6 l0_6.length c0_6), .bool a0_7, .bool a0_8, .string a0_9] 33 (0, 0))) ∧ za (wc.heap[gb269]? = some (.cells #[.string a1_0, .string a1_1, .string a1_2, .string a1_3, .bool a1_4, (.slice A1_5 l1_5.length c1_5), (.slice A1_6 l1_6.length c1_6), .bool a1_7, .bool a1_8, .string a1_9] 33 (0, 0))) ∧ za (Below w.heap.size w wc))
 case first =>
  have H := HC3.out
  clear HC3
  by_cases c6 : a0_4 = true
  ·subst c6
   have H1 : (ze.j0 k a1_4 a0_0 a0_1 a0_2 a0_3 true l0_5 l0_6 a0_7 a0_8 a0_9 a1_0 a1_1 a1_2 a1_3 a1_4 l1_5 l1_6 a1_7 a1_8 a1_9) = some r := by rw [if_pos rfl] at H; exact H
   clear H
   have H := H1
   clear H1
   have H' := za.mk H
   clear H
   have hnb7 := NB268_269.out
   have hnc7 := NB269_268.out
   obtain ⟨z8_0, z8_1, z8_2, z8_3, z8_4, z8_5, z8_6, z8_7, z8_8, z8_9, _⟩ := cl10 BK268.out
   obtain ⟨z9_0, z9_1, z9_2, z9_3, z9_4, z9_5, z9_6, z9_7, z9_8, z9_9, _⟩ := cl10 BK269.out
   go_wp2
   go_meet
   case rel => exact ⟨_, (a1_4), (by rfl), H', ⟨by omega⟩, ⟨by exact BK268.out⟩, ⟨by exact BK269.out⟩, ⟨by (with_reducible exact HB.out)⟩⟩
  ·replace c6 := Bool.eq_false_iff.mpr c6
   subst c6
   have H1 : (ze.j0 k false a0_0 a0_1 a0_2 a0_3 false l0_5 l0_6 a0_7 a0_8 a0_9 a1_0 a1_1 a1_2 a1_3 a1_4 l1_5 l1_6 a1_7 a1_8 a1_9) = some r := by rw [if_neg (show ¬ (false = true) by decide)] at H; exact H
   clear H
   have H := H1
   clear H1
   have H' := za.mk H
   clear H
   have hnb10 := NB268_269.out
   have hnc10 := NB269_268.out
   obtain ⟨z11_0, z11_1, z11_2, z11_3, z11_4, z11_5, z11_6, z11_7, z11_8, z11_9, _⟩ := cl10 BK268.out
   go_wp2
   go_meet
   case rel => exact ⟨_, (false), (by rfl), H', ⟨by omega⟩, ⟨by exact BK268.out⟩, ⟨by exact BK269.out⟩, ⟨by (with_reducible exact HB.out)⟩⟩
 case rest =>
  clear HC3
  obtain ⟨kq, x11_2, rfl, HA, HJ2, BK268, BK269, HB⟩ := hcut
  cases kq with
  | zero => exact absurd HA.out (by simp [ze.j0])
  | succ kj2 =>
   have H := HA.out
   clear HA
   simp only [ze.j0] at H
   by_cases c12 : x11_2 = true
   ·subst c12
    have H1 : ((zdd.f a0_0 a1_0).bind fun t270 => (some t270)) = some r := by rw [if_pos rfl] at H; exact H
    clear H
    have H := H1
    clear H1
    replace H := Option.bind_eq_some_iff.mp H
    obtain ⟨t270, A130, H⟩ := H
    replace H : (some t270) = some r := H
    have A13 := za.mk A130
    clear A130
    obtain rfl := Option.some.inj H
    have hnb14 := NB268_269.out
    have hnc14 := NB269_268.out
    obtain ⟨z15_0, z15_1, z15_2, z15_3, z15_4, z15_5, z15_6, z15_7, z15_8, z15_9, _⟩ := cl10 BK268.out
    obtain ⟨z16_0, z16_1, z16_2, z16_3, z16_4, z16_5, z16_6, z16_7, z16_8, z16_9, _⟩ := cl10 BK269.out
    go_wp2_with (((with_reducible refine zw (f := 32) rfl ?_); refine goesA (some 16) Tryz.func32 #[.string a0_0, .string a1_0] ?_; (with_reducible refine (zdd.calls a0_0 a1_0 t270 _ A13.out).mono ?_); rintro e w' ⟨rfl, ⟨nd, rfl⟩⟩; refine ⟨_, rfl, ?_⟩))
    go_ret
    exact ⟨by rfl, by (with_reducible apply zd; with_reducible exact HB.out)⟩
   ·replace c12 := Bool.eq_false_iff.mpr c12
    subst c12
    have H1 : ((zo.f kj2 l0_5 l1_5).bind fun t271 => (if t271 = 0 then ((zdd.f a0_2 a1_2).bind fun t272 => (ze.j1 kj2 t272 a0_0 a0_1 a0_2 a0_3 a0_4 l0_5 l0_6 a0_7 a0_8 a0_9 a1_0 a1_1 a1_2 a1_3 a1_4 l1_5 l1_6 a1_7 a1_8 a1_9)) else (ze.j1 kj2 t271 a0_0 a0_1 a0_2 a0_3 a0_4 l0_5 l0_6 a0_7 a0_8 a0_9 a1_0 a1_1 a1_2 a1_3 a1_4 l1_5 l1_6 a1_7 a1_8 a1_9))) = some r := by rw [if_neg (show ¬ (false = true) by decide)] at H; exact H
    clear H
    have H := H1
    clear H1
    replace H := Option.bind_eq_some_iff.mp H
    obtain ⟨t271, A170, H⟩ := H
    replace H : (if t271 = 0 then ((zdd.f a0_2 a1_2).bind fun t272 => (ze.j1 kj2 t272 a0_0 a0_1 a0_2 a0_3 a0_4 l0_5 l0_6 a0_7 a0_8 a0_9 a1_0 a1_1 a1_2 a1_3 a1_4 l1_5 l1_6 a1_7 a1_8 a1_9)) else (ze.j1 kj2 t271 a0_0 a0_1 a0_2 a0_3 a0_4 l0_5 l0_6 a0_7 a0_8 a0_9 a1_0 a1_1 a1_2 a1_3 a1_4 l1_5 l1_6 a1_7 a1_8 a1_9)) = some r := H
    have A17 := za.mk A170
    clear A170
    have HC18 := za.mk H
    clear H
    have hnb19 := NB268_269.out
    have hnc19 := NB269_268.out
    obtain ⟨z20_0, z20_1, z20_2, z20_3, z20_4, z20_5, z20_6, z20_7, z20_8, z20_9, _⟩ := cl10 BK268.out
    obtain ⟨z21_0, z21_1, z21_2, z21_3, z21_4, z21_5, z21_6, z21_7, z21_8, z21_9, _⟩ := cl10 BK269.out
    go_upto_if 23 with (first | ((with_reducible refine zw (f := 33) rfl ?_); refine goesA (some 21) Tryz.func33 #[.slice A0_5 l0_5.length c0_5, .slice A1_5 l1_5.length c1_5] ?_; (with_reducible refine (zo.calls kj2 _ _ l0_5 _ _ l1_5 t271 _ ?side1 ?side2 ?side3 ?side4 A17.out).mono ?_); (case side1 => repeat (first | exact (Kd.C_below HR0_5.out HB.out) | (with_reducible refine Kd.C_alloc ?_ _) | (with_reducible refine Kd.C_drewN ?_ _) | (with_reducible refine Kd.C_drew ?_))); (case side2 => exact HC0_5.out); (case side3 => repeat (first | exact (Kd.C_below HR1_5.out HB.out) | (with_reducible refine Kd.C_alloc ?_ _) | (with_reducible refine Kd.C_drewN ?_ _) | (with_reducible refine Kd.C_drew ?_))); (case side4 => exact HC1_5.out); rintro e w22 ⟨rfl, hb⟩; refine ⟨_, rfl, ?_⟩; replace BK268 := za.mk (zc BK268.out hb); replace BK269 := za.mk (zc BK269.out hb); replace HB := BS HB hb; (try clear hb); (try clear hb2); (try clear hk); (try clear hi)))
    (try simp only [Act.put, List.setIfInBounds_toArray, List.set_cons_zero, List.set_cons_succ])
    go_cut [5, 23] (fun v5 v23 wc => ∃ (kq : Nat) (x5_17 : Int), v5 = .int .i64 x5_17 ∧ za (ze.j1 kq x5_17 a0_0 a0_1 a0_2 a0_3 a0_4 l0_5 l0_6 a0_7 a0_8 a0_9 a1_0 a1_1 a1_2 a1_3 a1_4 l1_5 l1_6 a1_7 a1_8 a1_9 = some r) ∧ za (kq ≤ kj2) ∧ za (wc.heap[gb268]? = some (.cells #[.string a0_0, .string a0_1, .string a0_2, .string a0_3, .bool a0_4, (.slice A0_5 l0_5.length c0_5), (.slice A0_6 l0_6.length c0_6), .bool a0_7, .bool a0_8, .string a0_9] 33 (0, 0))) ∧ za (wc.heap[gb269]? = some (.cells #[.string a1_0, .string a1_1, .string a1_2, .string a1_3, .bool a1_4, (.slice A1_5 l1_5.length c1_5), (.slice A1_6 l1_6.length c1_6), .bool a1_7, .bool a1_8, .string a1_9] 33 (0, 0))) ∧ za (Below w.heap.size w wc))
    case first =>
     have H := HC18.out
     clear HC18
     by_cases c23 : t271 = 0
     ·rw [if_pos c23] at H
      have c23b0 : (t271 == 0) = true := beq_iff_eq.mpr c23
      have c23b1 : (t271 != 0) = false := bne_eq_false_iff_eq.mpr c23
      clear c23
      (first | rw [c23b0] | (simp only [i64_w, i32_w]; rw [c23b0]) | skip)
      replace H := Option.bind_eq_some_iff.mp H
      obtain ⟨t272, A240, H⟩ := H
      replace H : (ze.j1 kj2 t272 a0_0 a0_1 a0_2 a0_3 a0_4 l0_5 l0_6 a0_7 a0_8 a0_9 a1_0 a1_1 a1_2 a1_3 a1_4 l1_5 l1_6 a1_7 a1_8 a1_9) = some r := H
      have A24 := za.mk A240
      clear A240
      have H' := za.mk H
      clear H
      have hnb25 := NB268_269.out
      have hnc25 := NB269_268.out
      obtain ⟨z26_0, z26_1, z26_2, z26_3, z26_4, z26_5, z26_6, z26_7, z26_8, z26_9, _⟩ := cl10 BK268.out
      obtain ⟨z27_0, z27_1, z27_2, z27_3, z27_4, z27_5, z27_6, z27_7, z27_8, z27_9, _⟩ := cl10 BK269.out
      go_wp2_with (((with_reducible refine zw (f := 32) rfl ?_); refine goesA (some 28) Tryz.func32 #[.string a0_2, .string a1_2] ?_; (with_reducible refine (zdd.calls a0_2 a1_2 t272 _ A24.out).mono ?_); rintro e w' ⟨rfl, ⟨nd, rfl⟩⟩; refine ⟨_, rfl, ?_⟩))
      go_meet
      case rel => exact ⟨_, (t272), (by rfl), H', ⟨by have := HJ2.out; first | omega | exact Nat.le_refl _⟩, ⟨by (with_reducible (refine zid ?_ _)); exact BK268.out⟩, ⟨by (with_reducible (refine zid ?_ _)); exact BK269.out⟩, ⟨by (with_reducible apply zd; with_reducible exact HB.out)⟩⟩
     ·rw [if_neg c23] at H
      have c23b0 : (t271 == 0) = false := beq_eq_false_iff_ne.mpr c23
      have c23b1 : (t271 != 0) = true := bne_iff_ne.mpr c23
      (first | rw [c23b0] | (simp only [i64_w, i32_w]; rw [c23b0]) | skip)
      have H' := za.mk H
      clear H
      go_wp2
      go_meet
      case rel => exact ⟨_, (t271), (by rfl), H', ⟨by have := HJ2.out; first | omega | exact Nat.le_refl _⟩, ⟨by exact BK268.out⟩, ⟨by exact BK269.out⟩, ⟨by (with_reducible exact HB.out)⟩⟩
    case rest =>
     clear HC18
     clear z20_0 z20_1 z20_2 z20_3 z20_4 z20_5 z20_6 z20_7 z20_8 z20_9 z21_0 z21_1 z21_2 z21_3 z21_4 z21_5 z21_6 z21_7 z21_8 z21_9
     obtain ⟨kq, x5_17, rfl, HA, HJ17, BK268, BK269, HB⟩ := hcut
     cases kq with
     | zero => exact absurd HA.out (by simp [ze.j1])
     | succ kj17 =>
      have H := HA.out
      clear HA
      simp only [ze.j1] at H
      have HC28 := za.mk H
      clear H
      go_upto_if 30 with (fail)
      go_cut [5, 30] (fun v5 v30 wc => ∃ (kq : Nat) (x5_27 : Int), v5 = .int .i64 x5_27 ∧ za (ze.j2 kq x5_27 a0_0 a0_1 a0_2 a0_3 a0_4 l0_5 l0_6 a0_7 a0_8 a0_9 a1_0 a1_1 a1_2 a1_3 a1_4 l1_5 l1_6 a1_7 a1_8 a1_9 = some r) ∧ za (kq ≤ kj17) ∧ za (wc.heap[gb268]? = some (.cells #[.string a0_0, .string a0_1, .string a0_2, .string a0_3, .bool a0_4, (.slice A0_5 l0_5.length c0_5), (.slice A0_6 l0_6.length c0_6), .bool a0_7, .bool a0_8, .string a0_9] 33 (0, 0))) ∧ za (wc.heap[gb269]? = some (.cells #[.string a1_0, .string a1_1, .string a1_2, .string a1_3, .bool a1_4, (.slice A1_5 l1_5.length c1_5), (.slice A1_6 l1_6.length c1_6), .bool a1_7, .bool a1_8, .string a1_9] 33 (0, 0))) ∧ za (Below w.heap.size w wc))
      case first =>
       have H := HC28.out
       clear HC28
       by_cases c29 : x5_17 = 0
       ·rw [if_pos c29] at H
        have c29b0 : (x5_17 == 0) = true := beq_iff_eq.mpr c29
        have c29b1 : (x5_17 != 0) = false := bne_eq_false_iff_eq.mpr c29
        clear c29
        (first | rw [c29b0] | (simp only [i64_w, i32_w]; rw [c29b0]) | skip)
        replace H := Option.bind_eq_some_iff.mp H
        obtain ⟨t273, A300, H⟩ := H
        replace H : (ze.j2 kj17 t273 a0_0 a0_1 a0_2 a0_3 a0_4 l0_5 l0_6 a0_7 a0_8 a0_9 a1_0 a1_1 a1_2 a1_3 a1_4 l1_5 l1_6 a1_7 a1_8 a1_9) = some r := H
        have A30 := za.mk A300
        clear A300
        have H' := za.mk H
        clear H
        have hnb31 := NB268_269.out
        have hnc31 := NB269_268.out
        obtain ⟨z32_0, z32_1, z32_2, z32_3, z32_4, z32_5, z32_6, z32_7, z32_8, z32_9, _⟩ := cl10 BK268.out
        obtain ⟨z33_0, z33_1, z33_2, z33_3, z33_4, z33_5, z33_6, z33_7, z33_8, z33_9, _⟩ := cl10 BK269.out
        go_wp2_with (((with_reducible refine zw (f := 34) rfl ?_); refine goesA (some 35) Tryz.func34 #[.slice A0_6 l0_6.length c0_6, .slice A1_6 l1_6.length c1_6] ?_; (with_reducible refine (zt.calls kj17 _ _ l0_6 _ _ l1_6 t273 _ ?side1 ?side2 ?side3 ?side4 A30.out).mono ?_); (case side1 => repeat (first | exact (Kd.C_below HR0_6.out HB.out) | (with_reducible refine Kd.C_alloc ?_ _) | (with_reducible refine Kd.C_drewN ?_ _) | (with_reducible refine Kd.C_drew ?_))); (case side2 => exact HC0_6.out); (case side3 => repeat (first | exact (Kd.C_below HR1_6.out HB.out) | (with_reducible refine Kd.C_alloc ?_ _) | (with_reducible refine Kd.C_drewN ?_ _) | (with_reducible refine Kd.C_drew ?_))); (case side4 => exact HC1_6.out); rintro e w34 ⟨rfl, hb⟩; refine ⟨_, rfl, ?_⟩; replace BK268 := za.mk (zc BK268.out hb); replace BK269 := za.mk (zc BK269.out hb); replace HB := BS HB hb; (try clear hb); (try clear hb2); (try clear hk); (try clear hi)))
        go_meet
        case rel => exact ⟨_, (t273), (by rfl), H', ⟨by have := HJ2.out; have := HJ17.out; first | omega | exact Nat.le_refl _⟩, ⟨by exact BK268.out⟩, ⟨by exact BK269.out⟩, ⟨by (with_reducible exact HB.out)⟩⟩
       ·rw [if_neg c29] at H
        have c29b0 : (x5_17 == 0) = false := beq_eq_false_iff_ne.mpr c29
        have c29b1 : (x5_17 != 0) = true := bne_iff_ne.mpr c29
        (first | rw [c29b0] | (simp only [i64_w, i32_w]; rw [c29b0]) | skip)
        have H' := za.mk H
        clear H
        go_wp2
        go_meet
        case rel => exact ⟨_, (x5_17), (by rfl), H', ⟨by have := HJ2.out; have := HJ17.out; first | omega | exact Nat.le_refl _⟩, ⟨by exact BK268.out⟩, ⟨by exact BK269.out⟩, ⟨by (with_reducible exact HB.out)⟩⟩
      case rest =>
       clear HC28
       obtain ⟨kq, x5_27, rfl, HA, HJ27, BK268, BK269, HB⟩ := hcut
       cases kq with
       | zero => exact absurd HA.out (by simp [ze.j2])
       | succ kj27 =>
        have H := HA.out
        clear HA
        simp only [ze.j2] at H
        have HC35 := za.mk H
        clear H
        go_upto_region 8 with (fail)
        go_cut [45] (fun v45 wc => ∃ (kq : Nat) (x45_34 : Bool), v45 = .bool x45_34 ∧ za (ze.j3 kq x5_27 x45_34 a0_0 a0_1 a0_2 a0_3 a0_4 l0_5 l0_6 a0_7 a0_8 a0_9 a1_0 a1_1 a1_2 a1_3 a1_4 l1_5 l1_6 a1_7 a1_8 a1_9 = some r) ∧ za (kq ≤ kj27) ∧ za (wc.heap[gb268]? = some (.cells #[.string a0_0, .string a0_1, .string a0_2, .string a0_3, .bool a0_4, (.slice A0_5 l0_5.length c0_5), (.slice A0_6 l0_6.length c0_6), .bool a0_7, .bool a0_8, .string a0_9] 33 (0, 0))) ∧ za (wc.heap[gb269]? = some (.cells #[.string a1_0, .string a1_1, .string a1_2, .string a1_3, .bool a1_4, (.slice A1_5 l1_5.length c1_5), (.slice A1_6 l1_6.length c1_6), .bool a1_7, .bool a1_8, .string a1_9] 33 (0, 0))) ∧ za (Below w.heap.size w wc))
        case first =>
         have H := HC35.out
         clear HC35
         by_cases c36 : x5_27 = 0
         ·rw [if_pos c36] at H
          have c36b0 : (x5_27 == 0) = true := beq_iff_eq.mpr c36
          have c36b1 : (x5_27 != 0) = false := bne_eq_false_iff_eq.mpr c36
          clear c36
          (first | rw [c36b0] | (simp only [i64_w, i32_w]; rw [c36b0]) | skip)
          by_cases c37 : a0_7 = true
          ·subst c37
           have H1 : (ze.j3 kj27 x5_27 a1_7 a0_0 a0_1 a0_2 a0_3 a0_4 l0_5 l0_6 true a0_8 a0_9 a1_0 a1_1 a1_2 a1_3 a1_4 l1_5 l1_6 a1_7 a1_8 a1_9) = some r := by rw [if_pos rfl] at H; exact H
           clear H
           have H := H1
           clear H1
           have H' := za.mk H
           clear H
           have hnb38 := NB268_269.out
           have hnc38 := NB269_268.out
           obtain ⟨z39_0, z39_1, z39_2, z39_3, z39_4, z39_5, z39_6, z39_7, z39_8, z39_9, _⟩ := cl10 BK268.out
           obtain ⟨z40_0, z40_1, z40_2, z40_3, z40_4, z40_5, z40_6, z40_7, z40_8, z40_9, _⟩ := cl10 BK269.out
           go_wp2
           go_meet
           case rel => exact ⟨_, (a1_7), (by rfl), H', ⟨by have := HJ2.out; have := HJ17.out; have := HJ27.out; first | omega | exact Nat.le_refl _⟩, ⟨by exact BK268.out⟩, ⟨by exact BK269.out⟩, ⟨by (with_reducible exact HB.out)⟩⟩
          ·replace c37 := Bool.eq_false_iff.mpr c37
           subst c37
           have H1 : (ze.j3 kj27 x5_27 false a0_0 a0_1 a0_2 a0_3 a0_4 l0_5 l0_6 false a0_8 a0_9 a1_0 a1_1 a1_2 a1_3 a1_4 l1_5 l1_6 a1_7 a1_8 a1_9) = some r := by rw [if_neg (show ¬ (false = true) by decide)] at H; exact H
           clear H
           have H := H1
           clear H1
           have H' := za.mk H
           clear H
           have hnb41 := NB268_269.out
           have hnc41 := NB269_268.out
           obtain ⟨z42_0, z42_1, z42_2, z42_3, z42_4, z42_5, z42_6, z42_7, z42_8, z42_9, _⟩ := cl10 BK268.out
           go_wp2
           go_meet
           case rel => exact ⟨_, (false), (by rfl), H', ⟨by have := HJ2.out; have := HJ17.out; have := HJ27.out; first | omega | exact Nat.le_refl _⟩, ⟨by exact BK268.out⟩, ⟨by exact BK269.out⟩, ⟨by (with_reducible exact HB.out)⟩⟩
         ·rw [if_neg c36] at H
          have c36b0 : (x5_27 == 0) = false := beq_eq_false_iff_ne.mpr c36
          have c36b1 : (x5_27 != 0) = true := bne_iff_ne.mpr c36
          (first | rw [c36b0] | (simp only [i64_w, i32_w]; rw [c36b0]) | skip)
          have H' := za.mk H
          clear H
          go_wp2
          go_meet
          case rel => exact ⟨_, (false), (by rfl), H', ⟨by have := HJ2.out; have := HJ17.out; have := HJ27.out; first | omega | exact Nat.le_refl _⟩, ⟨by exact BK268.out⟩, ⟨by exact BK269.out⟩, ⟨by (with_reducible exact HB.out)⟩⟩
        case rest =>
         clear HC35
         obtain ⟨kq, x45_34, rfl, HA, HJ34, BK268, BK269, HB⟩ := hcut
         cases kq with
         | zero => exact absurd HA.out (by simp [ze.j3])
         | succ kj34 =>
          have H := HA.out
          clear HA
          simp only [ze.j3] at H
          have HC43 := za.mk H
          clear H
          go_upto_if 45 with (fail)
          go_cut [5, 45] (fun v5 v45 wc => ∃ (kq : Nat) (x5_42 : Int), v5 = .int .i64 x5_42 ∧ za (ze.j4 kq x5_42 a0_0 a0_1 a0_2 a0_3 a0_4 l0_5 l0_6 a0_7 a0_8 a0_9 a1_0 a1_1 a1_2 a1_3 a1_4 l1_5 l1_6 a1_7 a1_8 a1_9 = some r) ∧ za (kq ≤ kj34) ∧ za (wc.heap[gb268]? = some (.cells #[.string a0_0, .string a0_1, .string a0_2, .string a0_3, .bool a0_4, (.slice A0_5 l0_5.length c0_5), (.slice A0_6 l0_6.length c0_6), .bool a0_7, .bool a0_8, .string a0_9] 33 (0, 0))) ∧ za (wc.heap[gb269]? = some (.cells #[.string a1_0, .string a1_1, .string a1_2, .string a1_3, .bool a1_4, (.slice A1_5 l1_5.length c1_5), (.slice A1_6 l1_6.length c1_6), .bool a1_7, .bool a1_8, .string a1_9] 33 (0, 0))) ∧ za (Below w.heap.size w wc))
          case first =>
           have H := HC43.out
           clear HC43
           by_cases c44 : x45_34 = true
           ·subst c44
            have H1 : ((zx.f kj34 a0_8 a0_9 a1_8 a1_9).bind fun t274 => (ze.j4 kj34 t274 a0_0 a0_1 a0_2 a0_3 a0_4 l0_5 l0_6 a0_7 a0_8 a0_9 a1_0 a1_1 a1_2 a1_3 a1_4 l1_5 l1_6 a1_7 a1_8 a1_9)) = some r := by rw [if_pos rfl] at H; exact H
            clear H
            have H := H1
            clear H1
            replace H := Option.bind_eq_some_iff.mp H
            obtain ⟨t274, A450, H⟩ := H
            replace H : (ze.j4 kj34 t274 a0_0 a0_1 a0_2 a0_3 a0_4 l0_5 l0_6 a0_7 a0_8 a0_9 a1_0 a1_1 a1_2 a1_3 a1_4 l1_5 l1_6 a1_7 a1_8 a1_9) = some r := H
            have A45 := za.mk A450
            clear A450
            have H' := za.mk H
            clear H
            have hnb46 := NB268_269.out
            have hnc46 := NB269_268.out
            obtain ⟨z47_0, z47_1, z47_2, z47_3, z47_4, z47_5, z47_6, z47_7, z47_8, z47_9, _⟩ := cl10 BK268.out
            obtain ⟨z48_0, z48_1, z48_2, z48_3, z48_4, z48_5, z48_6, z48_7, z48_8, z48_9, _⟩ := cl10 BK269.out
            go_wp2_with (((with_reducible refine zw (f := 35) rfl ?_); refine goesA (some 50) Tryz.func35 #[.agg #[.bool a0_8, .string a0_9], .agg #[.bool a1_8, .string a1_9]] ?_; (with_reducible refine (zx.calls kj34 a0_8 a0_9 a1_8 a1_9 t274 _ A45.out).mono ?_); rintro e w49 ⟨rfl, hb⟩; refine ⟨_, rfl, ?_⟩; replace BK268 := za.mk (zc BK268.out hb); replace BK269 := za.mk (zc BK269.out hb); replace HB := BS HB hb; (try clear hb); (try clear hb2); (try clear hk); (try clear hi)))
            go_meet
            case rel => exact ⟨_, (t274), (by rfl), H', ⟨by have := HJ2.out; have := HJ17.out; have := HJ27.out; have := HJ34.out; first | omega | exact Nat.le_refl _⟩, ⟨by exact BK268.out⟩, ⟨by exact BK269.out⟩, ⟨by (with_reducible exact HB.out)⟩⟩
           ·replace c44 := Bool.eq_false_iff.mpr c44
            subst c44
            have H1 : (ze.j4 kj34 x5_27 a0_0 a0_1 a0_2 a0_3 a0_4 l0_5 l0_6 a0_7 a0_8 a0_9 a1_0 a1_1 a1_2 a1_3 a1_4 l1_5 l1_6 a1_7 a1_8 a1_9) = some r := by rw [if_neg (show ¬ (false = true) by decide)] at H; exact H
            clear H
            have H := H1
            clear H1
            have H' := za.mk H
            clear H
            go_wp2
            go_meet
            case rel => exact ⟨_, (x5_27), (by rfl), H', ⟨by have := HJ2.out; have := HJ17.out; have := HJ27.out; have := HJ34.out; first | omega | exact Nat.le_refl _⟩, ⟨by exact BK268.out⟩, ⟨by exact BK269.out⟩, ⟨by (with_reducible exact HB.out)⟩⟩
          case rest =>
           clear HC43
           obtain ⟨kq, x5_42, rfl, HA, HJ42, BK268, BK269, HB⟩ := hcut
           cases kq with
           | zero => exact absurd HA.out (by simp [ze.j4])
           | succ kj42 =>
            have H := HA.out
            clear HA
            simp only [ze.j4] at H
            by_cases c50 : x5_42 = 0
            ·rw [if_pos c50] at H
             have c50b0 : (x5_42 == 0) = true := beq_iff_eq.mpr c50
             have c50b1 : (x5_42 != 0) = false := bne_eq_false_iff_eq.mpr c50
             clear c50
             have HC51 := za.mk H
             clear H
             go_upto_region 12 with (fail)
             go_cut [55] (fun v55 wc => ∃ (kq : Nat) (x55_50 : Bool), v55 = .bool x55_50 ∧ za (ze.j5 kq x55_50 a0_0 a0_1 a0_2 a0_3 a0_4 l0_5 l0_6 a0_7 a0_8 a0_9 a1_0 a1_1 a1_2 a1_3 a1_4 l1_5 l1_6 a1_7 a1_8 a1_9 = some r) ∧ za (kq ≤ kj42) ∧ za (wc.heap[gb268]? = some (.cells #[.string a0_0, .string a0_1, .string a0_2, .string a0_3, .bool a0_4, (.slice A0_5 l0_5.length c0_5), (.slice A0_6 l0_6.length c0_6), .bool a0_7, .bool a0_8, .string a0_9] 33 (0, 0))) ∧ za (wc.heap[gb269]? = some (.cells #[.string a1_0, .string a1_1, .string a1_2, .string a1_3, .bool a1_4, (.slice A1_5 l1_5.length c1_5), (.slice A1_6 l1_6.length c1_6), .bool a1_7, .bool a1_8, .string a1_9] 33 (0, 0))) ∧ za (Below w.heap.size w wc))
             case first =>
              have H := HC51.out
              clear HC51
              by_cases c52 : a0_1.toList = ([] : List UInt8)
              ·rw [if_pos c52] at H
               have c52b0 : (a0_1.toList == ([] : List UInt8)) = true := beq_iff_eq.mpr c52
               have c52b1 : (a0_1.toList != ([] : List UInt8)) = false := bne_eq_false_iff_eq.mpr c52
               try have c52b9 : a0_1.toList.isEmpty = true := by simpa using c52b0
               clear c52
               (first | rw [c52b0] | (simp only [i64_w, i32_w]; rw [c52b0]) | rw [c52b9] | skip)
               have H' := za.mk H
               clear H
               have hnb53 := NB268_269.out
               have hnc53 := NB269_268.out
               obtain ⟨z54_0, z54_1, z54_2, z54_3, z54_4, z54_5, z54_6, z54_7, z54_8, z54_9, _⟩ := cl10 BK268.out
               go_wp2
               go_meet
               case rel => exact ⟨_, (false), (by rfl), H', ⟨by have := HJ2.out; have := HJ17.out; have := HJ27.out; have := HJ34.out; have := HJ42.out; first | omega | exact Nat.le_refl _⟩, ⟨by exact BK268.out⟩, ⟨by exact BK269.out⟩, ⟨by (with_reducible exact HB.out)⟩⟩
              ·rw [if_neg c52] at H
               have c52b0 : (a0_1.toList == ([] : List UInt8)) = false := beq_eq_false_iff_ne.mpr c52
               have c52b1 : (a0_1.toList != ([] : List UInt8)) = true := bne_iff_ne.mpr c52
               try have c52b9 : a0_1.toList.isEmpty = false := by simpa using c52b0
               (first | rw [c52b0] | (simp only [i64_w, i32_w]; rw [c52b0]) | rw [c52b9] | skip)
               have H' := za.mk H
               clear H
               have hnb55 := NB268_269.out
               have hnc55 := NB269_268.out
               obtain ⟨z56_0, z56_1, z56_2, z56_3, z56_4, z56_5, z56_6, z56_7, z56_8, z56_9, _⟩ := cl10 BK268.out
               obtain ⟨z57_0, z57_1, z57_2, z57_3, z57_4, z57_5, z57_6, z57_7, z57_8, z57_9, _⟩ := cl10 BK269.out
               go_wp2
               go_meet
               case rel => exact ⟨_, ((a1_1.toList == ([] : List UInt8))), (by (simp; done)), H', ⟨by have := HJ2.out; have := HJ17.out; have := HJ27.out; have := HJ34.out; have := HJ42.out; first | omega | exact Nat.le_refl _⟩, ⟨by exact BK268.out⟩, ⟨by exact BK269.out⟩, ⟨by (with_reducible exact HB.out)⟩⟩
             case rest =>
              clear HC51
              clear c50b0 c50b1
              obtain ⟨kq, x55_50, rfl, HA, HJ50, BK268, BK269, HB⟩ := hcut
              cases kq with
              | zero => exact absurd HA.out (by simp [ze.j5])
              | succ kj50 =>
               have H := HA.out
               clear HA
               simp only [ze.j5] at H
               by_cases c58 : x55_50 = true
               ·subst c58
                have H1 : (some (-1)) = some r := by rw [if_pos rfl] at H; exact H
                clear H
                have H := H1
                clear H1
                obtain rfl := Option.some.inj H
                go_wp2
                go_ret
                exact ⟨by rfl, by (with_reducible exact HB.out)⟩
               ·replace c58 := Bool.eq_false_iff.mpr c58
                subst c58
                have H1 : (if a0_1.toList = ([] : List UInt8) then (if a1_1.toList = ([] : List UInt8) then (some 0) else (some 1)) else (some 0)) = some r := by rw [if_neg (show ¬ (false = true) by decide)] at H; exact H
                clear H
                have H := H1
                clear H1
                by_cases c59 : a0_1.toList = ([] : List UInt8)
                ·rw [if_pos c59] at H
                 have c59b0 : (a0_1.toList == ([] : List UInt8)) = true := beq_iff_eq.mpr c59
                 have c59b1 : (a0_1.toList != ([] : List UInt8)) = false := bne_eq_false_iff_eq.mpr c59
                 try have c59b9 : a0_1.toList.isEmpty = true := by simpa using c59b0
                 clear c59
                 by_cases c60 : a1_1.toList = ([] : List UInt8)
                 ·rw [if_pos c60] at H
                  have c60b0 : (a1_1.toList == ([] : List UInt8)) = true := beq_iff_eq.mpr c60
                  have c60b1 : (a1_1.toList != ([] : List UInt8)) = false := bne_eq_false_iff_eq.mpr c60
                  try have c60b9 : a1_1.toList.isEmpty = true := by simpa using c60b0
                  clear c60
                  obtain rfl := Option.some.inj H
                  have hnb61 := NB268_269.out
                  have hnc61 := NB269_268.out
                  obtain ⟨z62_0, z62_1, z62_2, z62_3, z62_4, z62_5, z62_6, z62_7, z62_8, z62_9, _⟩ := cl10 BK268.out
                  obtain ⟨z63_0, z63_1, z63_2, z63_3, z63_4, z63_5, z63_6, z63_7, z63_8, z63_9, _⟩ := cl10 BK269.out
                  go_wp2
                  go_ret
                  exact ⟨by rfl, by (with_reducible exact HB.out)⟩
                 ·rw [if_neg c60] at H
                  have c60b0 : (a1_1.toList == ([] : List UInt8)) = false := beq_eq_false_iff_ne.mpr c60
                  have c60b1 : (a1_1.toList != ([] : List UInt8)) = true := bne_iff_ne.mpr c60
                  try have c60b9 : a1_1.toList.isEmpty = false := by simpa using c60b0
                  obtain rfl := Option.some.inj H
                  have hnb64 := NB268_269.out
                  have hnc64 := NB269_268.out
                  obtain ⟨z65_0, z65_1, z65_2, z65_3, z65_4, z65_5, z65_6, z65_7, z65_8, z65_9, _⟩ := cl10 BK268.out
                  obtain ⟨z66_0, z66_1, z66_2, z66_3, z66_4, z66_5, z66_6, z66_7, z66_8, z66_9, _⟩ := cl10 BK269.out
                  go_wp2
                  go_ret
                  exact ⟨by rfl, by (with_reducible exact HB.out)⟩
                ·rw [if_neg c59] at H
                 have c59b0 : (a0_1.toList == ([] : List UInt8)) = false := beq_eq_false_iff_ne.mpr c59
                 have c59b1 : (a0_1.toList != ([] : List UInt8)) = true := bne_iff_ne.mpr c59
                 try have c59b9 : a0_1.toList.isEmpty = false := by simpa using c59b0
                 obtain rfl := Option.some.inj H
                 have hnb67 := NB268_269.out
                 have hnc67 := NB269_268.out
                 obtain ⟨z68_0, z68_1, z68_2, z68_3, z68_4, z68_5, z68_6, z68_7, z68_8, z68_9, _⟩ := cl10 BK268.out
                 go_wp2
                 go_ret
                 exact ⟨by rfl, by (with_reducible exact HB.out)⟩
            ·rw [if_neg c50] at H
             have c50b0 : (x5_42 == 0) = false := beq_eq_false_iff_ne.mpr c50
             have c50b1 : (x5_42 != 0) = true := bne_iff_ne.mpr c50
             obtain rfl := Option.some.inj H
             go_wp2
             go_ret
             exact ⟨by rfl, by (with_reducible exact HB.out)⟩
end Go.Proofs.YtapaijpglfmfgaaGreatDoor.Q
end
section
namespace Go.Proofs.YtapaijpglfmfgaaGreatDoor.Q
open Go.RowKit YtapaijpglfmfgaaGreatDoorH YtapaijpglfmfgaaGreatDoorG YtapaijpglfmfgaaGreatDoorW.PrintWords YtapaijpglfmfgaaGreatDoorW.PrintLast YtapaijpglfmfgaaGreatDoorW.PrintMore YtapaijpglfmfgaaGreatDoorC
attribute [local go_sem] zfd zjd ztd zud zsc ztc zgd zkd
def zrc.f (a0 : Int) (a1 : Int) : Option (Bool) := if a0 = (wrap64 (-a1)) then (if a0 ≥ (-1) then (some (decide (a0 ≤ 1))) else (some false)) else (some false)
theorem zrc.calls (a0 : Int) (a1 : Int) (r : Bool) (w : World) (h : zrc.f a0 a1 = some r) :
  Calls Tryz.prog 12 #[.int .i64 a0, .int .i64 a1] w fun e w' => e = .returned (.bool r) ∧ zn w w' := by
 have H : (if a0 = (wrap64 (-a1)) then (if a0 ≥ (-1) then (some (decide (a0 ≤ 1))) else (some false)) else (some false)) = some r := h
 clear h
 by_cases c3 : a0 = (wrap64 (-a1))
 ·rw [if_pos c3] at H
  have c3b0 : (a0 == (wrap64 (-a1))) = true := beq_iff_eq.mpr c3
  have c3b1 : (a0 != (wrap64 (-a1))) = false := bne_eq_false_iff_eq.mpr c3
  clear c3
  by_cases c4 : a0 ≥ (-1)
  ·rw [if_pos c4] at H
   have c4b0 : decide ((-1) ≤ a0) = true := decide_eq_true c4
   clear c4
   obtain rfl := Option.some.inj H
   go_enter Tryz.func12, Tryz.ntmps12
   go_wp2
   go_ret
   exact ⟨by rfl, by repeat (first | exact zn.refl _ | apply zn.step)⟩
  ·rw [if_neg c4] at H
   have c4b0 : decide ((-1) ≤ a0) = false := decide_eq_false c4
   clear c4
   obtain rfl := Option.some.inj H
   go_enter Tryz.func12, Tryz.ntmps12
   go_wp2
   go_ret
   exact ⟨by rfl, by repeat (first | exact zn.refl _ | apply zn.step)⟩
 ·rw [if_neg c3] at H
  have c3b0 : (a0 == (wrap64 (-a1))) = false := beq_eq_false_iff_ne.mpr c3
  have c3b1 : (a0 != (wrap64 (-a1))) = true := bne_iff_ne.mpr c3
  obtain rfl := Option.some.inj H
  go_enter Tryz.func12, Tryz.ntmps12
  go_wp2
  go_ret
  exact ⟨by rfl, by repeat (first | exact zn.refl _ | apply zn.step)⟩
def zoc.l0 : Nat → List ByteArray → List ByteArray → Int → Int → Option (Bool)
 | 0, _, _, _, _ => none
 | k + 1, x0, x5, x6, x7 => if x7 < x6 then (if 0 ≤ x7 then (if x7 < (x5.length : Int) then (if ((rdOf ByteArray.empty x5 x7).size : Int) > 1200 then (some false) else (zoc.l0 k x0 x5 x6 (wrap64 (x7 + 1)))) else (none)) else (none)) else (some (decide ((x0.length : Int) ≤ 60)))
def zoc.f (k : Nat) (l0 : List ByteArray) : Option (Bool) := zoc.l0 k l0 l0 (l0.length : Int) 0
theorem zoc.calls (k : Nat) (A0 : Option Addr) (c0 : Nat) (l0 : List ByteArray) (r : Bool) (w : World) (hr0 : Kd.C Kd.string w A0 l0.length l0) (hc0 : l0.length ≤ c0) (h : zoc.f k l0 = some r) :
  Calls Tryz.prog 13 #[.slice A0 l0.length c0] w fun e w' => e = .returned (.bool r) ∧ zn w w' := by
 have HR0 := za.mk hr0
 have HC0 := za.mk hc0
 clear hr0 hc0
 have H : (zoc.l0 k l0 l0 (l0.length : Int) 0) = some r := h
 clear h
 have H' := za.mk H
 clear H
 go_enter Tryz.func13, Tryz.ntmps13
 go_wp2
 (try simp only [Act.put, List.setIfInBounds_toArray, List.set_cons_zero, List.set_cons_succ])
 go_loopg [7] k (fun kq v7 w' => ∃ (x7_1 : Int), v7 = .int .i64 x7_1 ∧ za (zoc.l0 kq l0 l0 (l0.length : Int) x7_1 = some r) ∧ za (kq ≤ k) ∧ zn w w')
 case atStart => exact ⟨(0), (by rfl), H', ⟨Nat.le_refl _⟩, by repeat (first | exact zn.refl _ | apply zn.step)⟩
 case round =>
  clear H'
  obtain ⟨x7_1, rfl, HA, HK1, ⟨m1, rfl⟩⟩ := hrel
  cases gk with
  | zero => exact absurd HA.out (by simp [zoc.l0])
  | succ k1 =>
   have H := HA.out
   clear HA
   simp only [zoc.l0] at H
   by_cases c2 : x7_1 < (l0.length : Int)
   ·rw [if_pos c2] at H
    have c2b0 : decide (x7_1 < (l0.length : Int)) = true := decide_eq_true c2
    clear c2
    by_cases c3 : 0 ≤ x7_1
    ·rw [if_pos c3] at H
     have c3b0 : decide (0 ≤ x7_1) = true := decide_eq_true c3
     clear c3
     by_cases c4 : x7_1 < (l0.length : Int)
     ·rw [if_pos c4] at H
      have c4b0 : decide (x7_1 < (l0.length : Int)) = true := decide_eq_true c4
      clear c4
      by_cases c5 : ((rdOf ByteArray.empty l0 x7_1).size : Int) > 1200
      ·rw [if_pos c5] at H
       have c5b0 : decide (1200 < ((rdOf ByteArray.empty l0 x7_1).size : Int)) = true := decide_eq_true c5
       have c5b1 : decide (1200 < (rdOf ByteArray.empty l0 x7_1).size) = true := decide_eq_true (by omega)
       clear c5
       obtain rfl := Option.some.inj H
       have p322 : 0 ≤ (x7_1 : Int) := of_decide_eq_true (by (with_reducible assumption))
       have q322 : x7_1 < (l0.length : Int) := of_decide_eq_true (by (with_reducible assumption))
       obtain ⟨ad322, e322, hx322_0⟩ := Kd.at_string HR0.out x7_1 p322 q322
       cases e322
       replace p322 := eq_true p322
       replace q322 := eq_true q322
       go_wp2
       go_ret
       exact ⟨by rfl, by repeat (first | exact zn.refl _ | apply zn.step)⟩
      ·rw [if_neg c5] at H
       have c5b0 : decide (1200 < ((rdOf ByteArray.empty l0 x7_1).size : Int)) = false := decide_eq_false c5
       have c5b1 : decide (1200 < (rdOf ByteArray.empty l0 x7_1).size) = false := decide_eq_false (by omega)
       clear c5
       have H' := za.mk H
       clear H
       have p322 : 0 ≤ (x7_1 : Int) := of_decide_eq_true (by (with_reducible assumption))
       have q322 : x7_1 < (l0.length : Int) := of_decide_eq_true (by (with_reducible assumption))
       obtain ⟨ad322, e322, hx322_0⟩ := Kd.at_string HR0.out x7_1 p322 q322
       cases e322
       replace p322 := eq_true p322
       replace q322 := eq_true q322
       go_wp2
       go_roundg k1
       case measure => have := HK1.out; omega
       case rel => exact ⟨(wrap64 (x7_1 + 1)), (by rfl), H', ⟨by have := HK1.out; omega⟩, by repeat (first | exact zn.refl _ | apply zn.step)⟩
     ·rw [if_neg c4] at H
      exact absurd H (by simp)
    ·rw [if_neg c3] at H
     exact absurd H (by simp)
   ·rw [if_neg c2] at H
    have c2b0 : decide (x7_1 < (l0.length : Int)) = false := decide_eq_false c2
    clear c2
    obtain rfl := Option.some.inj H
    go_wp2
    go_ret
    exact ⟨by rfl, by repeat (first | exact zn.refl _ | apply zn.step)⟩
def zbd.f (a0 : Int) : Option (Bool) := (zqb.f a0).bind fun t323 => (if t323 = true then (some true) else (if a0 ≥ 97 then (some (decide (a0 ≤ 102))) else (some false)))
theorem zbd.calls (a0 : Int) (r : Bool) (w : World) (h : zbd.f a0 = some r) :
  Calls Tryz.prog 38 #[.int .u8 a0] w fun e w' => e = .returned (.bool r) ∧ zn w w' := by
 have H : ((zqb.f a0).bind fun t323 => (if t323 = true then (some true) else (if a0 ≥ 97 then (some (decide (a0 ≤ 102))) else (some false)))) = some r := h
 clear h
 replace H := Option.bind_eq_some_iff.mp H
 obtain ⟨t323, A20, H⟩ := H
 replace H : (if t323 = true then (some true) else (if a0 ≥ 97 then (some (decide (a0 ≤ 102))) else (some false))) = some r := H
 have A2 := za.mk A20
 clear A20
 by_cases c3 : t323 = true
 ·subst c3
  have H1 : (some true) = some r := by rw [if_pos rfl] at H; exact H
  clear H
  have H := H1
  clear H1
  obtain rfl := Option.some.inj H
  go_enter Tryz.func38, Tryz.ntmps38
  go_wp2_with (((with_reducible refine zw (f := 40) rfl ?_); refine goesA (some 4) Tryz.func40 #[.int .u8 a0] ?_; (with_reducible refine (zqb.calls a0 true _ A2.out).mono ?_); rintro e w' ⟨rfl, ⟨nd, rfl⟩⟩; refine ⟨_, rfl, ?_⟩))
  go_ret
  exact ⟨by rfl, by repeat (first | exact zn.refl _ | apply zn.step)⟩
 ·replace c3 := Bool.eq_false_iff.mpr c3
  subst c3
  have H1 : (if a0 ≥ 97 then (some (decide (a0 ≤ 102))) else (some false)) = some r := by rw [if_neg (show ¬ (false = true) by decide)] at H; exact H
  clear H
  have H := H1
  clear H1
  by_cases c4 : a0 ≥ 97
  ·rw [if_pos c4] at H
   have c4b0 : decide (97 ≤ a0) = true := decide_eq_true c4
   clear c4
   obtain rfl := Option.some.inj H
   go_enter Tryz.func38, Tryz.ntmps38
   go_wp2_with (((with_reducible refine zw (f := 40) rfl ?_); refine goesA (some 4) Tryz.func40 #[.int .u8 a0] ?_; (with_reducible refine (zqb.calls a0 false _ A2.out).mono ?_); rintro e w' ⟨rfl, ⟨nd, rfl⟩⟩; refine ⟨_, rfl, ?_⟩))
   go_ret
   exact ⟨by rfl, by repeat (first | exact zn.refl _ | apply zn.step)⟩
  ·rw [if_neg c4] at H
   have c4b0 : decide (97 ≤ a0) = false := decide_eq_false c4
   clear c4
   obtain rfl := Option.some.inj H
   go_enter Tryz.func38, Tryz.ntmps38
   go_wp2_with (((with_reducible refine zw (f := 40) rfl ?_); refine goesA (some 4) Tryz.func40 #[.int .u8 a0] ?_; (with_reducible refine (zqb.calls a0 false _ A2.out).mono ?_); rintro e w' ⟨rfl, ⟨nd, rfl⟩⟩; refine ⟨_, rfl, ?_⟩))
   go_ret
   exact ⟨by rfl, by repeat (first | exact zn.refl _ | apply zn.step)⟩
end Go.Proofs.YtapaijpglfmfgaaGreatDoor.Q
end
section
namespace Go.Proofs.YtapaijpglfmfgaaGreatDoor.Q
open Go.RowKit YtapaijpglfmfgaaGreatDoorH YtapaijpglfmfgaaGreatDoorG YtapaijpglfmfgaaGreatDoorW.PrintWords YtapaijpglfmfgaaGreatDoorW.PrintLast YtapaijpglfmfgaaGreatDoorW.PrintMore YtapaijpglfmfgaaGreatDoorC
attribute [local go_sem] zfd zjd ztd zud zsc ztc zgd zkd
mutual
def zg.j0 : Nat → ByteArray → Bool → ByteArray → ByteArray → ByteArray → ByteArray → Bool → List (S52) → Bool → Bool → ByteArray → Option (ByteArray × ByteArray × ByteArray × ByteArray × Bool × (List (S52)) × (List (S56)) × Bool × Bool × ByteArray × Bool)
 | 0, _, _, _, _, _, _, _, _, _, _, _ => none
 | k + 1, x0, x26, x325000, x325001, x325002, x325003, x325004, x325005, x325007, x325008, x325009 => if x26 = true then (if 0 ≤ 1 then (if 1 ≤ (x0.size : Int) then (zg.j1 k (x0.extract 1 x0.size) x325000 x325001 (x0.extract 0 1) x325003 x325004 x325005 x325007 x325008 x325009) else (none)) else (none)) else (zg.j1 k x0 x325000 x325001 x325002 x325003 x325004 x325005 x325007 x325008 x325009)
def zg.j1 : Nat → ByteArray → ByteArray → ByteArray → ByteArray → ByteArray → Bool → List (S52) → Bool → Bool → ByteArray → Option (ByteArray × ByteArray × ByteArray × ByteArray × Bool × (List (S52)) × (List (S56)) × Bool × Bool × ByteArray × Bool)
 | 0, _, _, _, _, _, _, _, _, _, _ => none
 | k + 1, x0, x325000, x325001, x325002, x325003, x325004, x325005, x325007, x325008, x325009 => (zu.f k x0).bind fun bt329 => (if (bt329.2.size : Int) > 1 then (if 0 < (bt329.2.size : Int) then (if (bt bt329.2 0) = 126 then (if 1 < (bt329.2.size : Int) then ((zbd.f (bt bt329.2 1)).bind fun t333 => (zg.j2 k bt329.2 t333 x325000 x325001 x325002 x325003 x325004 x325005 bt329.1 x325007 x325008 x325009)) else (none)) else (zg.j2 k bt329.2 false x325000 x325001 x325002 x325003 x325004 x325005 bt329.1 x325007 x325008 x325009)) else (none)) else (zg.j2 k bt329.2 false x325000 x325001 x325002 x325003 x325004 x325005 bt329.1 x325007 x325008 x325009))
def zg.j2 : Nat → ByteArray → Bool → ByteArray → ByteArray → ByteArray → ByteArray → Bool → List (S52) → List (S56) → Bool → Bool → ByteArray → Option (ByteArray × ByteArray × ByteArray × ByteArray × Bool × (List (S52)) × (List (S56)) × Bool × Bool × ByteArray × Bool)
 | 0, _, _, _, _, _, _, _, _, _, _, _, _ => none
 | k + 1, x0, x50, x325000, x325001, x325002, x325003, x325004, x325005, x325006, x325007, x325008, x325009 => if x50 = true then (if 1 ≤ (x0.size : Int) then ((E2.zbb.f k (x0.extract 1 x0.size)).bind fun t334 => (if 0 ≤ (wrap64 (1 + t334)) then (if (wrap64 (1 + t334)) ≤ (x0.size : Int) then (zg.j3 k (x0.extract ((wrap64 (1 + t334)) : Int).toNat x0.size) x325000 x325001 x325002 (x0.extract 0 ((wrap64 (1 + t334)) : Int).toNat) x325004 x325005 x325006 x325007 x325008 x325009) else (none)) else (none))) else (none)) else (zg.j3 k x0 x325000 x325001 x325002 x325003 x325004 x325005 x325006 x325007 x325008 x325009)
def zg.j3 : Nat → ByteArray → ByteArray → ByteArray → ByteArray → ByteArray → Bool → List (S52) → List (S56) → Bool → Bool → ByteArray → Option (ByteArray × ByteArray × ByteArray × ByteArray × Bool × (List (S52)) × (List (S56)) × Bool × Bool × ByteArray × Bool)
 | 0, _, _, _, _, _, _, _, _, _, _, _ => none
 | k + 1, x0, x325000, x325001, x325002, x325003, x325004, x325005, x325006, x325007, x325008, x325009 => if (x0.size : Int) > 1 then (if 0 ≤ 2 then (if 2 ≤ (x0.size : Int) then (zg.j4 k x0 ((x0.extract 0 2).toList == ([45, 114] : List UInt8)) x325000 x325001 x325002 x325003 x325004 x325005 x325006 x325007 x325008 x325009) else (none)) else (none)) else (zg.j4 k x0 false x325000 x325001 x325002 x325003 x325004 x325005 x325006 x325007 x325008 x325009)
def zg.j4 : Nat → ByteArray → Bool → ByteArray → ByteArray → ByteArray → ByteArray → Bool → List (S52) → List (S56) → Bool → Bool → ByteArray → Option (ByteArray × ByteArray × ByteArray × ByteArray × Bool × (List (S52)) × (List (S56)) × Bool × Bool × ByteArray × Bool)
 | 0, _, _, _, _, _, _, _, _, _, _, _, _ => none
 | k + 1, x0, x62, x325000, x325001, x325002, x325003, x325004, x325005, x325006, x325007, x325008, x325009 => if x62 = true then (if 2 ≤ (x0.size : Int) then ((E1.zbb.f k (x0.extract 2 x0.size)).bind fun t335 => (if 2 ≤ (wrap64 (2 + t335)) then (if (wrap64 (2 + t335)) ≤ (x0.size : Int) then ((zeb.f k (x0.extract 2 ((wrap64 (2 + t335)) : Int).toNat)).bind fun bt336 => (if 0 ≤ (wrap64 (2 + t335)) then (some (x325000, x0.extract ((wrap64 (2 + t335)) : Int).toNat x0.size, x325002, x325003, x325004, x325005, x325006, x325007, bt336.1, bt336.2, true)) else (none))) else (none)) else (none))) else (none)) else (if x0.toList = ([] : List UInt8) then (some (x325000, x325001, x325002, x325003, x325004, x325005, x325006, x325007, x325008, x325009, true)) else (some (x325000, x0, x325002, x325003, true, x325005, x325006, x325007, x325008, x325009, true)))
end
def zg.f (k : Nat) (a0 : ByteArray) : Option (ByteArray × ByteArray × ByteArray × ByteArray × Bool × (List (S52)) × (List (S56)) × Bool × Bool × ByteArray × Bool) := (zp.f k a0).bind fun bt325 => (if bt325.2.toList = ([] : List UInt8) then (zg.j0 k bt325.2 false a0 (⟨#[]⟩ : ByteArray) (⟨#[]⟩ : ByteArray) (⟨#[]⟩ : ByteArray) false bt325.1 true false (⟨#[]⟩ : ByteArray)) else (if 0 < (bt325.2.size : Int) then (if (bt bt325.2 0) ≥ 97 then (zg.j0 k bt325.2 (decide ((bt bt325.2 0) ≤ 122)) a0 (⟨#[]⟩ : ByteArray) (⟨#[]⟩ : ByteArray) (⟨#[]⟩ : ByteArray) false bt325.1 true false (⟨#[]⟩ : ByteArray)) else (zg.j0 k bt325.2 false a0 (⟨#[]⟩ : ByteArray) (⟨#[]⟩ : ByteArray) (⟨#[]⟩ : ByteArray) false bt325.1 true false (⟨#[]⟩ : ByteArray))) else (none)))
def zg.T8 : Bool × List (List Nat × List Nat) := (true, [([], []), ([], []), ([0, 1], [0, 1]), ([], []), ([], []), ([3, 4], [3, 4]), ([0, 1, 2], []), ([6, 2, 0, 1, 2], [2, 6]), ([5, 7, 0, 1, 2, 3, 4, 5, 6, 7], [0, 3, 5])])
def zg.B8 : List Nat := [0, 0, 3, 0, 0, 24, 7, 71, 255]
theorem zg.tab8 : rtab .any (opsOf Tryz.f15 8) = zg.T8 := by kernel_rfl
theorem zg.bits8 : zfi zg.T8.2 zg.B8 = true := by kernel_rfl
def zg.T11 : Bool × List (List Nat × List Nat) := (true, [([], []), ([], []), ([1], [1]), ([0, 2], [0, 2]), ([3], [3]), ([], []), ([], []), ([6], [6]), ([5, 7], [5, 7]), ([0, 1, 2, 3, 4], []), ([9, 4, 4, 0, 1, 2, 3, 4], [4, 9]), ([0, 1, 2, 3, 4, 5, 6, 7, 8, 9, 10], []), ([11, 8, 10, 0, 1, 2, 3, 4, 5, 6, 7, 8, 9, 10], [8, 11])])
def zg.B11 : List Nat := [0, 0, 2, 7, 15, 0, 0, 64, 224, 31, 543, 2047, 4095]
theorem zg.tab11 : rtab .any (opsOf Tryz.f15 11) = zg.T11 := by kernel_rfl
theorem zg.bits11 : zfi zg.T11.2 zg.B11 = true := by kernel_rfl
theorem zg.calls (k : Nat) (a0 : ByteArray) (r1 : ByteArray) (r2 : ByteArray) (r3 : ByteArray) (r4 : ByteArray) (r5 : Bool) (r6 : List (S52)) (r7 : List (S56)) (r8 : Bool) (r9 : Bool) (r10 : ByteArray) (r11 : Bool) (w : World) (h : zg.f k a0 = some (r1, r2, r3, r4, r5, r6, r7, r8, r9, r10, r11)) :
  Calls Tryz.prog 15 #[.string a0] w fun e w' => ∃ v5_ v6_ : Value, e = .returned (.tuple #[.agg #[.string r1, .string r2, .string r3, .string r4, .bool r5, v5_, v6_, .bool r8, .bool r9, .string r10], .bool r11]) ∧ Kd.R k52 52 w' w.heap.size (fun _ => True) v5_ r6 ∧ Kd.R k56 56 w' w.heap.size (fun _ => True) v6_ r7 ∧ Below w.heap.size w w' := by
 have hu33 := Tryz.underlying33
 have hu31 := Tryz.underlying31
 have HB := za.mk (Below.refl w.heap.size w)
 have H : ((zp.f k a0).bind fun bt325 => (if bt325.2.toList = ([] : List UInt8) then (zg.j0 k bt325.2 false a0 (⟨#[]⟩ : ByteArray) (⟨#[]⟩ : ByteArray) (⟨#[]⟩ : ByteArray) false bt325.1 true false (⟨#[]⟩ : ByteArray)) else (if 0 < (bt325.2.size : Int) then (if (bt bt325.2 0) ≥ 97 then (zg.j0 k bt325.2 (decide ((bt bt325.2 0) ≤ 122)) a0 (⟨#[]⟩ : ByteArray) (⟨#[]⟩ : ByteArray) (⟨#[]⟩ : ByteArray) false bt325.1 true false (⟨#[]⟩ : ByteArray)) else (zg.j0 k bt325.2 false a0 (⟨#[]⟩ : ByteArray) (⟨#[]⟩ : ByteArray) (⟨#[]⟩ : ByteArray) false bt325.1 true false (⟨#[]⟩ : ByteArray))) else (none)))) = some (r1, r2, r3, r4, r5, r6, r7, r8, r9, r10, r11) := h
 clear h
 replace H := Option.bind_eq_some_iff.mp H
 obtain ⟨⟨t325, t326⟩, A20, H⟩ := H
 replace H : (if t326.toList = ([] : List UInt8) then (zg.j0 k t326 false a0 (⟨#[]⟩ : ByteArray) (⟨#[]⟩ : ByteArray) (⟨#[]⟩ : ByteArray) false t325 true false (⟨#[]⟩ : ByteArray)) else (if 0 < (t326.size : Int) then (if (bt t326 0) ≥ 97 then (zg.j0 k t326 (decide ((bt t326 0) ≤ 122)) a0 (⟨#[]⟩ : ByteArray) (⟨#[]⟩ : ByteArray) (⟨#[]⟩ : ByteArray) false t325 true false (⟨#[]⟩ : ByteArray)) else (zg.j0 k t326 false a0 (⟨#[]⟩ : ByteArray) (⟨#[]⟩ : ByteArray) (⟨#[]⟩ : ByteArray) false t325 true false (⟨#[]⟩ : ByteArray))) else (none))) = some (r1, r2, r3, r4, r5, r6, r7, r8, r9, r10, r11) := H
 have A2 := za.mk A20
 clear A20
 have HC3 := za.mk H
 clear H
 go_enter Tryz.func15, Tryz.ntmps15
 go_upto_region 3 with (first | ((with_reducible refine znb (N := 2) rfl ?_); refine zzb ?hg (N := 2) ?hd (cs := #[.string ⟨#[]⟩, .string ⟨#[]⟩, .string ⟨#[]⟩, .string ⟨#[]⟩, .bool false, .slice none 0 0, .slice none 0 0, .bool false, .bool false, .string ⟨#[]⟩]) (t := 33) ?hr ?_; (case hd => rfl); (case hg => rfl); (case hr => first | (go_simp; done) | (go_simp; rfl)); intro gb324 hg w4 hbox hb; have BK324 := za.mk hbox; have GW324 := za.mk ((by rw [hg]; exact (zm (by (with_reducible exact HB.out))) : w.heap.size ≤ gb324)); have GE324 := za.mk ((by rw [hg]; exact (zm (by (with_reducible exact HB.out))) : w.heap.size ≤ gb324)); replace HB := BS HB hb; clear hb hbox hg; obtain ⟨z5_0, z5_1, z5_2, z5_3, z5_4, z5_5, z5_6, z5_7, z5_8, z5_9, y5_0, y5_1, y5_2, y5_3, y5_4, y5_5, y5_6, y5_7, y5_8, y5_9⟩ := cl10 BK324.out) | ((with_reducible refine zw (f := 25) rfl ?_); refine goesA (some 11) Tryz.func25 #[.string a0] ?_; (with_reducible refine (zp.calls k a0 t325 t326 _ A2.out).mono ?_); rintro e w6 ⟨v327, rfl, ho0, hb⟩; refine ⟨_, rfl, ?_⟩; have HO328 := za.mk (Kd.R_lower ho0 (zm (by (with_reducible refine zl ?_ GE324.out; with_reducible refine zl ?_ GE324.out; with_reducible exact HB.out)))); replace BK324 := za.mk (zc (g := gb324) (o := .cells #[.string a0, .string ⟨#[]⟩, .string ⟨#[]⟩, .string ⟨#[]⟩, .bool false, .slice none 0 0, .slice none 0 0, .bool true, .bool false, .string ⟨#[]⟩] 33 (0, 0)) (by refine zq (cs := #[.string a0, .string ⟨#[]⟩, .string ⟨#[]⟩, .string ⟨#[]⟩, .bool false, .slice none 0 0, .slice none 0 0, .bool false, .bool false, .string ⟨#[]⟩]) ?_ 7 _ rfl; refine zq (cs := #[.string ⟨#[]⟩, .string ⟨#[]⟩, .string ⟨#[]⟩, .string ⟨#[]⟩, .bool false, .slice none 0 0, .slice none 0 0, .bool false, .bool false, .string ⟨#[]⟩]) ?_ 0 _ rfl; exact BK324.out) hb); replace HB := za.mk (zib (by (with_reducible refine zl ?_ GE324.out; with_reducible refine zl ?_ GE324.out; with_reducible exact HB.out)) hb); (try clear hb); (try clear hb2); (try clear hk); (try clear hi); (try clear ho0); obtain ⟨Ao7, co7, eo7⟩ := Kd.R_slice HO328.out; subst eo7; obtain ⟨z8_0, z8_1, z8_2, z8_3, z8_4, z8_5, z8_6, z8_7, z8_8, z8_9, y8_0, y8_1, y8_2, y8_3, y8_4, y8_5, y8_6, y8_7, y8_8, y8_9⟩ := cl10 BK324.out))
 (try simp only [Act.put, List.setIfInBounds_toArray, List.set_cons_zero, List.set_cons_succ])
 go_cut [26] (fun v26 wc => ∃ (kq : Nat) (x26_2 : Bool), v26 = .bool x26_2 ∧ za (zg.j0 kq t326 x26_2 a0 (⟨#[]⟩ : ByteArray) (⟨#[]⟩ : ByteArray) (⟨#[]⟩ : ByteArray) false t325 true false (⟨#[]⟩ : ByteArray) = some (r1, r2, r3, r4, r5, r6, r7, r8, r9, r10, r11)) ∧ za (kq ≤ k) ∧ za (Kd.R k52 52 wc w.heap.size (fun _ => True) (.slice Ao7 t325.length co7) t325) ∧ za (wc.heap[gb324]? = some (.cells #[.string a0, .string ⟨#[]⟩, .string ⟨#[]⟩, .string ⟨#[]⟩, .bool false, (.slice Ao7 t325.length co7), (.slice none 0 0), .bool true, .bool false, .string ⟨#[]⟩] 33 (0, 0))) ∧ za (Below w.heap.size w wc))
 case first =>
  have H := HC3.out
  clear HC3
  by_cases c9 : t326.toList = ([] : List UInt8)
  ·rw [if_pos c9] at H
   have c9b0 : (t326.toList == ([] : List UInt8)) = true := beq_iff_eq.mpr c9
   have c9b1 : (t326.toList != ([] : List UInt8)) = false := bne_eq_false_iff_eq.mpr c9
   try have c9b9 : t326.toList.isEmpty = true := by simpa using c9b0
   clear c9
   (first | rw [c9b0] | (simp only [i64_w, i32_w]; rw [c9b0]) | rw [c9b9] | skip)
   have H' := za.mk H
   clear H
   go_wp2
   go_meet
   case rel => exact ⟨_, (false), (by rfl), H', ⟨by omega⟩, ⟨by (with_reducible repeat (first | apply Kd.R_alloc | apply Kd.R_drewN | apply Kd.R_drew)); exact Kd.R_mono (farC (Kd.R_types HO328.out BK324.out (by decide))) (fun _ hk => trivial)⟩, ⟨by refine zq (cs := #[.string a0, .string ⟨#[]⟩, .string ⟨#[]⟩, .string ⟨#[]⟩, .bool false, .slice none 0 0, .slice none 0 0, .bool true, .bool false, .string ⟨#[]⟩]) ?_ 5 _ rfl; exact BK324.out⟩, ⟨by (with_reducible refine zl ?_ GE324.out; with_reducible exact HB.out)⟩⟩
  ·rw [if_neg c9] at H
   have c9b0 : (t326.toList == ([] : List UInt8)) = false := beq_eq_false_iff_ne.mpr c9
   have c9b1 : (t326.toList != ([] : List UInt8)) = true := bne_iff_ne.mpr c9
   try have c9b9 : t326.toList.isEmpty = false := by simpa using c9b0
   (first | rw [c9b0] | (simp only [i64_w, i32_w]; rw [c9b0]) | rw [c9b9] | skip)
   by_cases c10 : 0 < (t326.size : Int)
   ·rw [if_pos c10] at H
    have c10b0 : decide (0 < (t326.size : Int)) = true := decide_eq_true c10
    have c10b1 : decide (0 < t326.size) = true := decide_eq_true (by omega)
    clear c10
    by_cases c12 : (bt t326 0) ≥ 97
    ·rw [if_pos c12] at H
     have c12b0 : decide (97 ≤ (bt t326 0)) = true := decide_eq_true c12
     clear c12
     have H' := za.mk H
     clear H
     have p11 : 0 ≤ (0 : Int) := (by omega)
     have q11 : 0 < t326.size := (by have : (0 : Int) < (t326.size : Int) := of_decide_eq_true (by (with_reducible assumption)); omega)
     have hx11 : ∀ h : 0 < t326.size, ((t326[0]'h).toNat : Int) = bt t326 0 := bt_at t326 0
     clear p11
     have qi11 : (0 < (t326.size : Int)) = True := eq_true (of_decide_eq_true (by (with_reducible assumption)))
     replace q11 := eq_true q11
     have p13 : 0 ≤ (0 : Int) := (by omega)
     have q13 : 0 < t326.size := (by have : (0 : Int) < (t326.size : Int) := of_decide_eq_true (by (with_reducible assumption)); omega)
     have hx13 : ∀ h : 0 < t326.size, ((t326[0]'h).toNat : Int) = bt t326 0 := bt_at t326 0
     clear p13
     have qi13 : (0 < (t326.size : Int)) = True := eq_true (of_decide_eq_true (by (with_reducible assumption)))
     replace q13 := eq_true q13
     go_wp2
     go_meet
     case rel => exact ⟨_, (decide ((bt t326 0) ≤ 122)), (by rfl), H', ⟨by omega⟩, ⟨by (with_reducible repeat (first | apply Kd.R_alloc | apply Kd.R_drewN | apply Kd.R_drew)); exact Kd.R_mono (farC (Kd.R_types HO328.out BK324.out (by decide))) (fun _ hk => trivial)⟩, ⟨by refine zq (cs := #[.string a0, .string ⟨#[]⟩, .string ⟨#[]⟩, .string ⟨#[]⟩, .bool false, .slice none 0 0, .slice none 0 0, .bool true, .bool false, .string ⟨#[]⟩]) ?_ 5 _ rfl; exact BK324.out⟩, ⟨by (with_reducible refine zl ?_ GE324.out; with_reducible exact HB.out)⟩⟩
    ·rw [if_neg c12] at H
     have c12b0 : decide (97 ≤ (bt t326 0)) = false := decide_eq_false c12
     clear c12
     have H' := za.mk H
     clear H
     have p11 : 0 ≤ (0 : Int) := (by omega)
     have q11 : 0 < t326.size := (by have : (0 : Int) < (t326.size : Int) := of_decide_eq_true (by (with_reducible assumption)); omega)
     have hx11 : ∀ h : 0 < t326.size, ((t326[0]'h).toNat : Int) = bt t326 0 := bt_at t326 0
     clear p11
     have qi11 : (0 < (t326.size : Int)) = True := eq_true (of_decide_eq_true (by (with_reducible assumption)))
     replace q11 := eq_true q11
     go_wp2
     go_meet
     case rel => exact ⟨_, (false), (by rfl), H', ⟨by omega⟩, ⟨by (with_reducible repeat (first | apply Kd.R_alloc | apply Kd.R_drewN | apply Kd.R_drew)); exact Kd.R_mono (farC (Kd.R_types HO328.out BK324.out (by decide))) (fun _ hk => trivial)⟩, ⟨by refine zq (cs := #[.string a0, .string ⟨#[]⟩, .string ⟨#[]⟩, .string ⟨#[]⟩, .bool false, .slice none 0 0, .slice none 0 0, .bool true, .bool false, .string ⟨#[]⟩]) ?_ 5 _ rfl; exact BK324.out⟩, ⟨by (with_reducible refine zl ?_ GE324.out; with_reducible exact HB.out)⟩⟩
   ·rw [if_neg c10] at H
    exact absurd H (by simp)
 case rest =>
  clear HC3
  clear z5_0 z5_1 z5_2 z5_3 z5_4 z5_5 z5_6 z5_7 z5_8 z5_9 z8_0 z8_1 z8_2 z8_3 z8_4 z8_5 z8_6 z8_7 z8_8 z8_9 y5_0 y5_1 y5_2 y5_3 y5_4 y5_5 y5_6 y5_7 y5_8 y5_9 y8_0 y8_1 y8_2 y8_3 y8_4 y8_5 y8_6 y8_7 y8_8 y8_9
  obtain ⟨kq, x26_2, rfl, HA, HJ2, HO_325005, BK324, HB⟩ := hcut
  cases kq with
  | zero => exact absurd HA.out (by simp [zg.j0])
  | succ kj2 =>
   have H := HA.out
   clear HA
   simp only [zg.j0] at H
   have HC14 := za.mk H
   clear H
   go_upto_if 26 with (fail)
   go_cut [0, 26] (fun v0 v26 wc => ∃ (kq : Nat) (x0_13 : ByteArray) (x325002_13 : ByteArray), v0 = .string x0_13 ∧ za (zg.j1 kq x0_13 a0 (⟨#[]⟩ : ByteArray) x325002_13 (⟨#[]⟩ : ByteArray) false t325 true false (⟨#[]⟩ : ByteArray) = some (r1, r2, r3, r4, r5, r6, r7, r8, r9, r10, r11)) ∧ za (kq ≤ kj2) ∧ za (Kd.R k52 52 wc w.heap.size (fun _ => True) (.slice Ao7 t325.length co7) t325) ∧ za (wc.heap[gb324]? = some (.cells #[.string a0, .string ⟨#[]⟩, .string x325002_13, .string ⟨#[]⟩, .bool false, (.slice Ao7 t325.length co7), (.slice none 0 0), .bool true, .bool false, .string ⟨#[]⟩] 33 (0, 0))) ∧ za (Below w.heap.size w wc))
   case first =>
    have H := HC14.out
    clear HC14
    by_cases c15 : x26_2 = true
    ·subst c15
     have H1 : (if 0 ≤ 1 then (if 1 ≤ (t326.size : Int) then (zg.j1 kj2 (t326.extract 1 t326.size) a0 (⟨#[]⟩ : ByteArray) (t326.extract 0 1) (⟨#[]⟩ : ByteArray) false t325 true false (⟨#[]⟩ : ByteArray)) else (none)) else (none)) = some (r1, r2, r3, r4, r5, r6, r7, r8, r9, r10, r11) := by rw [if_pos rfl] at H; exact H
     clear H
     have H := H1
     clear H1
     by_cases c16 : 0 ≤ 1
     ·rw [if_pos c16] at H
      have c16b0 := eq_true c16
      have c16b1 : decide (0 ≤ 1) = true := decide_eq_true c16
      clear c16
      by_cases c17 : 1 ≤ (t326.size : Int)
      ·rw [if_pos c17] at H
       have c17b0 := eq_true c17
       have c17b1 : decide (1 ≤ (t326.size : Int)) = true := decide_eq_true c17
       clear c17
       have c18b0 := eq_true (of_decide_eq_true (by (with_reducible assumption)) : 1 ≤ (t326.size : Int))
       have H' := za.mk H
       clear H
       try go_wp2
       replace HO_325005 := za.mk (Kd.R_drew HO_325005.out)
       replace BK324 := za.mk (zub BK324.out)
       replace HB := za.mk (zab HB.out)
       refine zuf (n := 7) (S := fun w' => True) (ds := []) #[false, false, false, false, false, false, false] (by kernel_rfl) rfl rfl trivial (fun hHeld => ?_)
       generalize wc.drew = w19 at HO_325005 BK324 HB hHeld ⊢
       refine pureA 0 (some 27) #[true, false, false, false, false, false, false] ?_
       refine pureA 1 (some 28) #[true, true, false, false, false, false, false] ?_
       refine pureA 2 (some 29) #[true, true, true, false, false, false, false] ?_
       refine pureA 3 (some 30) #[true, true, true, true, false, false, false] ?_
       refine pureA 4 (some 31) #[true, true, true, true, true, false, false] ?_
       refine one_ (i := 5) (N := none) #[true, true, true, true, true, true, false] rfl rfl (by kernel_rfl) (by decide) (fun K hK => ?_)
       have hs20 : w19.cell? ⟨gb324, 2, none⟩ = some (.string ⟨#[]⟩) := (zb BK324.out 2).trans rfl
       have hfs20 := zz BK324.out 2
       refine skip_ (w1 := ?_) (by rfl) rfl ?_ ?_
       rotate_left
       ·go_simp
        rfl
       refine hK.out _ _ trivial (fun hHeld => ?_)
       clear hK K
       refine pureA 6 (some 0) #[true, true, true, true, true, true, true] ?_
       refine done_ (by kernel_rfl) ?_
       try go_wp2
       go_meet
       case rel => exact ⟨_, (t326.extract 1 t326.size), (t326.extract 0 1), (by rfl), (by exact H'), ⟨by have := HJ2.out; first | omega | exact Nat.le_refl _⟩, ⟨by (with_reducible repeat (first | apply Kd.R_alloc | apply Kd.R_drewN | apply Kd.R_drew)); exact Kd.R_mono (farC (Kd.R_types HO_325005.out BK324.out (by decide))) (fun _ hk => trivial)⟩, ⟨by refine zq (cs := #[.string a0, .string ⟨#[]⟩, .string ⟨#[]⟩, .string ⟨#[]⟩, .bool false, .slice Ao7 t325.length co7, .slice none 0 0, .bool true, .bool false, .string ⟨#[]⟩]) ?_ 2 _ rfl; exact BK324.out⟩, ⟨by (with_reducible refine zl ?_ GE324.out; with_reducible exact HB.out)⟩⟩
      ·rw [if_neg c17] at H
       exact absurd H (by simp)
     ·rw [if_neg c16] at H
      exact absurd H (by simp)
    ·replace c15 := Bool.eq_false_iff.mpr c15
     subst c15
     have H1 : (zg.j1 kj2 t326 a0 (⟨#[]⟩ : ByteArray) (⟨#[]⟩ : ByteArray) (⟨#[]⟩ : ByteArray) false t325 true false (⟨#[]⟩ : ByteArray)) = some (r1, r2, r3, r4, r5, r6, r7, r8, r9, r10, r11) := by rw [if_neg (show ¬ (false = true) by decide)] at H; exact H
     clear H
     have H := H1
     clear H1
     have H' := za.mk H
     clear H
     go_wp2
     go_meet
     case rel => exact ⟨_, (t326), ((⟨#[]⟩ : ByteArray)), (by rfl), (by exact H'), ⟨by have := HJ2.out; first | omega | exact Nat.le_refl _⟩, ⟨by (with_reducible repeat (first | apply Kd.R_alloc | apply Kd.R_drewN | apply Kd.R_drew)); exact HO_325005.out⟩, ⟨by exact BK324.out⟩, ⟨by (with_reducible exact HB.out)⟩⟩
   case rest =>
    clear HC14
    obtain ⟨kq, x0_13, x325002_13, rfl, HA, HJ13, HO_325005, BK324, HB⟩ := hcut
    cases kq with
    | zero => exact absurd HA.out (by simp [zg.j1])
    | succ kj13 =>
     have H := HA.out
     clear HA
     simp only [zg.j1] at H
     replace H := Option.bind_eq_some_iff.mp H
     obtain ⟨⟨t329, t330⟩, A210, H⟩ := H
     replace H : (if (t330.size : Int) > 1 then (if 0 < (t330.size : Int) then (if (bt t330 0) = 126 then (if 1 < (t330.size : Int) then ((zbd.f (bt t330 1)).bind fun t333 => (zg.j2 kj13 t330 t333 a0 (⟨#[]⟩ : ByteArray) x325002_13 (⟨#[]⟩ : ByteArray) false t325 t329 true false (⟨#[]⟩ : ByteArray))) else (none)) else (zg.j2 kj13 t330 false a0 (⟨#[]⟩ : ByteArray) x325002_13 (⟨#[]⟩ : ByteArray) false t325 t329 true false (⟨#[]⟩ : ByteArray))) else (none)) else (zg.j2 kj13 t330 false a0 (⟨#[]⟩ : ByteArray) x325002_13 (⟨#[]⟩ : ByteArray) false t325 t329 true false (⟨#[]⟩ : ByteArray))) = some (r1, r2, r3, r4, r5, r6, r7, r8, r9, r10, r11) := H
     have A21 := za.mk A210
     clear A210
     have HC22 := za.mk H
     clear H
     go_upto_region 6 with (((with_reducible refine zw (f := 26) rfl ?_); refine goesA (some 34) Tryz.func26 #[.string x0_13] ?_; (with_reducible refine (zu.calls kj13 x0_13 t329 t330 _ A21.out).mono ?_); rintro e w23 ⟨v331, rfl, ho0, hb⟩; refine ⟨_, rfl, ?_⟩; replace HO_325005 := RB HO_325005 hb; have HO332 := za.mk (Kd.R_lower ho0 (zm (by (with_reducible exact HB.out)))); replace BK324 := za.mk (zc BK324.out hb); replace HB := BS HB hb; (try clear hb); (try clear hb2); (try clear hk); (try clear hi); (try clear ho0); obtain ⟨Ao24, co24, eo24⟩ := Kd.R_slice HO332.out; subst eo24; obtain ⟨z25_0, z25_1, z25_2, z25_3, z25_4, z25_5, z25_6, z25_7, z25_8, z25_9, y25_0, y25_1, y25_2, y25_3, y25_4, y25_5, y25_6, y25_7, y25_8, y25_9⟩ := cl10 BK324.out))
     (try simp only [Act.put, List.setIfInBounds_toArray, List.set_cons_zero, List.set_cons_succ])
     go_cut [50] (fun v50 wc => ∃ (kq : Nat) (x50_21 : Bool), v50 = .bool x50_21 ∧ za (zg.j2 kq t330 x50_21 a0 (⟨#[]⟩ : ByteArray) x325002_13 (⟨#[]⟩ : ByteArray) false t325 t329 true false (⟨#[]⟩ : ByteArray) = some (r1, r2, r3, r4, r5, r6, r7, r8, r9, r10, r11)) ∧ za (kq ≤ kj13) ∧ za (Kd.R k52 52 wc w.heap.size (fun _ => True) (.slice Ao7 t325.length co7) t325) ∧ za (Kd.R k56 56 wc w.heap.size (fun _ => True) (.slice Ao24 t329.length co24) t329) ∧ za (wc.heap[gb324]? = some (.cells #[.string a0, .string ⟨#[]⟩, .string x325002_13, .string ⟨#[]⟩, .bool false, (.slice Ao7 t325.length co7), (.slice Ao24 t329.length co24), .bool true, .bool false, .string ⟨#[]⟩] 33 (0, 0))) ∧ za (Below w.heap.size w wc))
     case first =>
      have H := HC22.out
      clear HC22
      by_cases c26 : (t330.size : Int) > 1
      ·rw [if_pos c26] at H
       have c26b0 : decide (1 < (t330.size : Int)) = true := decide_eq_true c26
       have c26b1 : decide (1 < t330.size) = true := decide_eq_true (by omega)
       clear c26
       (first | rw [c26b0] | (simp only [i64_w, i32_w]; rw [c26b0]) | skip)
       by_cases c27 : 0 < (t330.size : Int)
       ·rw [if_pos c27] at H
        have c27b0 : decide (0 < (t330.size : Int)) = true := decide_eq_true c27
        have c27b1 : decide (0 < t330.size) = true := decide_eq_true (by omega)
        clear c27
        by_cases c29 : (bt t330 0) = 126
        ·rw [if_pos c29] at H
         have c29b0 : ((bt t330 0) == 126) = true := beq_iff_eq.mpr c29
         have c29b1 : ((bt t330 0) != 126) = false := bne_eq_false_iff_eq.mpr c29
         clear c29
         by_cases c30 : 1 < (t330.size : Int)
         ·rw [if_pos c30] at H
          have c30b0 : decide (1 < (t330.size : Int)) = true := decide_eq_true c30
          have c30b1 : decide (1 < t330.size) = true := decide_eq_true (by omega)
          clear c30
          replace H := Option.bind_eq_some_iff.mp H
          obtain ⟨t333, A320, H⟩ := H
          replace H : (zg.j2 kj13 t330 t333 a0 (⟨#[]⟩ : ByteArray) x325002_13 (⟨#[]⟩ : ByteArray) false t325 t329 true false (⟨#[]⟩ : ByteArray)) = some (r1, r2, r3, r4, r5, r6, r7, r8, r9, r10, r11) := H
          have A32 := za.mk A320
          clear A320
          have H' := za.mk H
          clear H
          have p28 : 0 ≤ (0 : Int) := (by omega)
          have q28 : 0 < t330.size := (by have : (0 : Int) < (t330.size : Int) := of_decide_eq_true (by (with_reducible assumption)); omega)
          have hx28 : ∀ h : 0 < t330.size, ((t330[0]'h).toNat : Int) = bt t330 0 := bt_at t330 0
          clear p28
          have qi28 : (0 < (t330.size : Int)) = True := eq_true (of_decide_eq_true (by (with_reducible assumption)))
          replace q28 := eq_true q28
          have p31 : 0 ≤ (1 : Int) := (by omega)
          have q31 : 1 < t330.size := (by have : (1 : Int) < (t330.size : Int) := of_decide_eq_true (by (with_reducible assumption)); omega)
          have hx31 : ∀ h : 1 < t330.size, ((t330[1]'h).toNat : Int) = bt t330 1 := bt_at t330 1
          clear p31
          have qi31 : (1 < (t330.size : Int)) = True := eq_true (of_decide_eq_true (by (with_reducible assumption)))
          replace q31 := eq_true q31
          go_wp2_with ((go_at_call 38; (with_reducible refine (zbd.calls (bt t330 1) t333 _ A32.out).mono ?_); rintro e w' ⟨rfl, ⟨nd, rfl⟩⟩))
          go_meet
          case rel => exact ⟨_, (t333), (by rfl), (by exact H'), ⟨by have := HJ2.out; have := HJ13.out; first | omega | exact Nat.le_refl _⟩, ⟨by (with_reducible repeat (first | apply Kd.R_alloc | apply Kd.R_drewN | apply Kd.R_drew)); exact Kd.R_mono (farC (Kd.R_types HO_325005.out BK324.out (by decide))) (fun _ hk => trivial)⟩, ⟨by (with_reducible repeat (first | apply Kd.R_alloc | apply Kd.R_drewN | apply Kd.R_drew)); exact Kd.R_mono (farC (Kd.R_types HO332.out BK324.out (by decide))) (fun _ hk => trivial)⟩, ⟨by (with_reducible (refine zid ?_ _)); refine zq (cs := #[.string a0, .string ⟨#[]⟩, .string x325002_13, .string ⟨#[]⟩, .bool false, .slice Ao7 t325.length co7, .slice none 0 0, .bool true, .bool false, .string ⟨#[]⟩]) ?_ 6 _ rfl; exact BK324.out⟩, ⟨by (with_reducible apply zd; with_reducible refine zl ?_ GE324.out; with_reducible exact HB.out)⟩⟩
         ·rw [if_neg c30] at H
          exact absurd H (by simp)
        ·rw [if_neg c29] at H
         have c29b0 : ((bt t330 0) == 126) = false := beq_eq_false_iff_ne.mpr c29
         have c29b1 : ((bt t330 0) != 126) = true := bne_iff_ne.mpr c29
         have H' := za.mk H
         clear H
         have p28 : 0 ≤ (0 : Int) := (by omega)
         have q28 : 0 < t330.size := (by have : (0 : Int) < (t330.size : Int) := of_decide_eq_true (by (with_reducible assumption)); omega)
         have hx28 : ∀ h : 0 < t330.size, ((t330[0]'h).toNat : Int) = bt t330 0 := bt_at t330 0
         clear p28
         have qi28 : (0 < (t330.size : Int)) = True := eq_true (of_decide_eq_true (by (with_reducible assumption)))
         replace q28 := eq_true q28
         go_wp2
         go_meet
         case rel => exact ⟨_, (false), (by rfl), (by exact H'), ⟨by have := HJ2.out; have := HJ13.out; first | omega | exact Nat.le_refl _⟩, ⟨by (with_reducible repeat (first | apply Kd.R_alloc | apply Kd.R_drewN | apply Kd.R_drew)); exact Kd.R_mono (farC (Kd.R_types HO_325005.out BK324.out (by decide))) (fun _ hk => trivial)⟩, ⟨by (with_reducible repeat (first | apply Kd.R_alloc | apply Kd.R_drewN | apply Kd.R_drew)); exact Kd.R_mono (farC (Kd.R_types HO332.out BK324.out (by decide))) (fun _ hk => trivial)⟩, ⟨by refine zq (cs := #[.string a0, .string ⟨#[]⟩, .string x325002_13, .string ⟨#[]⟩, .bool false, .slice Ao7 t325.length co7, .slice none 0 0, .bool true, .bool false, .string ⟨#[]⟩]) ?_ 6 _ rfl; exact BK324.out⟩, ⟨by (with_reducible refine zl ?_ GE324.out; with_reducible exact HB.out)⟩⟩
       ·rw [if_neg c27] at H
        exact absurd H (by simp)
      ·rw [if_neg c26] at H
       have c26b0 : decide (1 < (t330.size : Int)) = false := decide_eq_false c26
       have c26b1 : decide (1 < t330.size) = false := decide_eq_false (by omega)
       clear c26
       (first | rw [c26b0] | (simp only [i64_w, i32_w]; rw [c26b0]) | skip)
       have H' := za.mk H
       clear H
       go_wp2
       go_meet
       case rel => exact ⟨_, (false), (by rfl), (by exact H'), ⟨by have := HJ2.out; have := HJ13.out; first | omega | exact Nat.le_refl _⟩, ⟨by (with_reducible repeat (first | apply Kd.R_alloc | apply Kd.R_drewN | apply Kd.R_drew)); exact Kd.R_mono (farC (Kd.R_types HO_325005.out BK324.out (by decide))) (fun _ hk => trivial)⟩, ⟨by (with_reducible repeat (first | apply Kd.R_alloc | apply Kd.R_drewN | apply Kd.R_drew)); exact Kd.R_mono (farC (Kd.R_types HO332.out BK324.out (by decide))) (fun _ hk => trivial)⟩, ⟨by refine zq (cs := #[.string a0, .string ⟨#[]⟩, .string x325002_13, .string ⟨#[]⟩, .bool false, .slice Ao7 t325.length co7, .slice none 0 0, .bool true, .bool false, .string ⟨#[]⟩]) ?_ 6 _ rfl; exact BK324.out⟩, ⟨by (with_reducible refine zl ?_ GE324.out; with_reducible exact HB.out)⟩⟩
     case rest =>
      clear HC22
      clear z25_0 z25_1 z25_2 z25_3 z25_4 z25_5 z25_6 z25_7 z25_8 z25_9 y25_0 y25_1 y25_2 y25_3 y25_4 y25_5 y25_6 y25_7 y25_8 y25_9
      obtain ⟨kq, x50_21, rfl, HA, HJ21, HO_325005, HO_325006, BK324, HB⟩ := hcut
      cases kq with
      | zero => exact absurd HA.out (by simp [zg.j2])
      | succ kj21 =>
       have H := HA.out
       clear HA
       simp only [zg.j2] at H
       have HC33 := za.mk H
       clear H
       go_upto_if 50 with (fail)
       go_cut [0, 50] (fun v0 v50 wc => ∃ (kq : Nat) (x0_32 : ByteArray) (x325003_32 : ByteArray), v0 = .string x0_32 ∧ za (zg.j3 kq x0_32 a0 (⟨#[]⟩ : ByteArray) x325002_13 x325003_32 false t325 t329 true false (⟨#[]⟩ : ByteArray) = some (r1, r2, r3, r4, r5, r6, r7, r8, r9, r10, r11)) ∧ za (kq ≤ kj21) ∧ za (Kd.R k52 52 wc w.heap.size (fun _ => True) (.slice Ao7 t325.length co7) t325) ∧ za (Kd.R k56 56 wc w.heap.size (fun _ => True) (.slice Ao24 t329.length co24) t329) ∧ za (wc.heap[gb324]? = some (.cells #[.string a0, .string ⟨#[]⟩, .string x325002_13, .string x325003_32, .bool false, (.slice Ao7 t325.length co7), (.slice Ao24 t329.length co24), .bool true, .bool false, .string ⟨#[]⟩] 33 (0, 0))) ∧ za (Below w.heap.size w wc))
       case first =>
        have H := HC33.out
        clear HC33
        by_cases c34 : x50_21 = true
        ·subst c34
         have H1 : (if 1 ≤ (t330.size : Int) then ((E2.zbb.f kj21 (t330.extract 1 t330.size)).bind fun t334 => (if 0 ≤ (wrap64 (1 + t334)) then (if (wrap64 (1 + t334)) ≤ (t330.size : Int) then (zg.j3 kj21 (t330.extract ((wrap64 (1 + t334)) : Int).toNat t330.size) a0 (⟨#[]⟩ : ByteArray) x325002_13 (t330.extract 0 ((wrap64 (1 + t334)) : Int).toNat) false t325 t329 true false (⟨#[]⟩ : ByteArray)) else (none)) else (none))) else (none)) = some (r1, r2, r3, r4, r5, r6, r7, r8, r9, r10, r11) := by rw [if_pos rfl] at H; exact H
         clear H
         have H := H1
         clear H1
         by_cases c35 : 1 ≤ (t330.size : Int)
         ·rw [if_pos c35] at H
          have c35b0 := eq_true c35
          have c35b1 : decide (1 ≤ (t330.size : Int)) = true := decide_eq_true c35
          clear c35
          replace H := Option.bind_eq_some_iff.mp H
          obtain ⟨t334, A360, H⟩ := H
          replace H : (if 0 ≤ (wrap64 (1 + t334)) then (if (wrap64 (1 + t334)) ≤ (t330.size : Int) then (zg.j3 kj21 (t330.extract ((wrap64 (1 + t334)) : Int).toNat t330.size) a0 (⟨#[]⟩ : ByteArray) x325002_13 (t330.extract 0 ((wrap64 (1 + t334)) : Int).toNat) false t325 t329 true false (⟨#[]⟩ : ByteArray)) else (none)) else (none)) = some (r1, r2, r3, r4, r5, r6, r7, r8, r9, r10, r11) := H
          have A36 := za.mk A360
          clear A360
          obtain ⟨ji37, hji37⟩ : ∃ j_ : Int, (wrap64 (1 + t334)) = j_ := ⟨_, rfl⟩
          replace H : (if 0 ≤ (ji37) then (if (ji37) ≤ (t330.size : Int) then (zg.j3 kj21 (t330.extract ((ji37) : Int).toNat t330.size) a0 (⟨#[]⟩ : ByteArray) x325002_13 (t330.extract 0 ((ji37) : Int).toNat) false t325 t329 true false (⟨#[]⟩ : ByteArray)) else (none)) else (none)) = some (r1, r2, r3, r4, r5, r6, r7, r8, r9, r10, r11) := by (rw [hji37] at H; exact H)
          (try rw [hji37] at A36)
          have hji37w : (IntKind.i64.wrap (1 + t334)) = ji37 := (i64_w _).trans hji37
          by_cases c38 : 0 ≤ (ji37)
          ·rw [if_pos c38] at H
           have c38b0 := eq_true c38
           have c38b1 : decide (0 ≤ (ji37)) = true := decide_eq_true c38
           clear c38
           by_cases c39 : (ji37) ≤ (t330.size : Int)
           ·rw [if_pos c39] at H
            have c39b0 := eq_true c39
            have c39b1 : decide ((ji37) ≤ (t330.size : Int)) = true := decide_eq_true c39
            clear c39
            have c40b0 := eq_true (of_decide_eq_true (by (with_reducible assumption)) : 0 ≤ (ji37))
            have c41b0 := eq_true (of_decide_eq_true (by (with_reducible assumption)) : (ji37) ≤ (t330.size : Int))
            have H' := za.mk H
            clear H
            try go_wp2_with (((with_reducible refine zw (f := 39) rfl ?_); refine goesA (some 53) Tryz.func39 #[.string (t330.extract 1 t330.size), .func (.func 38) #[] #[]] ?_; (with_reducible refine (E2.zbb.calls kj21 (t330.extract 1 t330.size) t334 _ A36.out).mono ?_); rintro e w' ⟨rfl, ⟨nd, rfl⟩⟩; refine ⟨_, rfl, ?_⟩; (try (rw [zmf wc]; generalize hq_ : World.drewN wc _ = wc; have n0_ : za (Kd.R k52 52 wc w.heap.size (fun _ => True) (.slice Ao7 t325.length co7) t325) := ⟨by rw [← hq_]; exact (RW HO_325005.out)⟩; have n1_ : za (Kd.R k56 56 wc w.heap.size (fun _ => True) (.slice Ao24 t329.length co24) t329) := ⟨by rw [← hq_]; exact (RW HO_325006.out)⟩; have n2_ : za (wc.heap[gb324]? = some (.cells #[.string a0, .string ⟨#[]⟩, .string x325002_13, .string ⟨#[]⟩, .bool false, .slice Ao7 t325.length co7, .slice Ao24 t329.length co24, .bool true, .bool false, .string ⟨#[]⟩] 33 (0, 0))) := ⟨by rw [← hq_]; exact (by (with_reducible (refine zid ?_ _)); exact BK324.out)⟩; have n3_ : za (Below w.heap.size w wc) := ⟨by rw [← hq_]; exact (by (with_reducible apply zd; with_reducible exact HB.out))⟩; clear HO_325005 HO_325006 BK324 HB hq_; have HO_325005 := n0_; have HO_325006 := n1_; have BK324 := n2_; have HB := n3_; clear n0_ n1_ n2_ n3_))))
            replace HO_325005 := za.mk (Kd.R_drew HO_325005.out)
            replace HO_325006 := za.mk (Kd.R_drew HO_325006.out)
            replace BK324 := za.mk (zub BK324.out)
            replace HB := za.mk (zab HB.out)
            refine zuf (n := 9) (S := fun w' => True) (ds := []) #[false, false, false, false, false, false, false, false, false] (by kernel_rfl) rfl rfl trivial (fun hHeld => ?_); refine zxf zg.tab8 zg.bits8 (fun HT_ HW_ => ?_)
            generalize wc.drew = w42 at HO_325005 HO_325006 BK324 HB hHeld ⊢
            refine pureA 0 (some 55) #[true, false, false, false, false, false, false, false, false] ?_ (hc := zdc HT_.out (by kernel_rfl))
            refine pureA 1 (some 56) #[true, true, false, false, false, false, false, false, false] ?_ (hc := zdc HT_.out (by kernel_rfl))
            refine pureA 2 (some 57) #[true, true, true, false, false, false, false, false, false] ?_ (hc := zdc HT_.out (by kernel_rfl))
            refine pureA 3 (some 58) #[true, true, true, true, false, false, false, false, false] ?_ (hc := zdc HT_.out (by kernel_rfl))
            refine pureA 4 (some 59) #[true, true, true, true, true, false, false, false, false] ?_ (hc := zdc HT_.out (by kernel_rfl))
            refine pureA 5 (some 60) #[true, true, true, true, true, true, false, false, false] ?_ (hc := zdc HT_.out (by kernel_rfl))
            refine pureA 6 (some 61) #[true, true, true, true, true, true, true, false, false] ?_ (hc := zdc HT_.out (by kernel_rfl))
            refine one_ (i := 7) (N := none) #[true, true, true, true, true, true, true, true, false] rfl rfl (zxe HT_.out (by kernel_rfl)) (by decide) (fun K hK => ?_)
            have hs43 : w42.cell? ⟨gb324, 3, none⟩ = some (.string ⟨#[]⟩) := (zb BK324.out 3).trans rfl
            have hfs43 := zz BK324.out 3
            refine skip_ (w1 := ?_) (by rfl) rfl ?_ ?_
            rotate_left
            ·go_simp
             rfl
            refine hK.out _ _ trivial (fun hHeld => ?_)
            clear hK K
            refine pureA 8 (some 0) #[true, true, true, true, true, true, true, true, true] ?_ (hc := zdc HT_.out (by kernel_rfl))
            refine done_ (zdi HT_.out (by kernel_rfl)) ?_
            try go_wp2
            go_meet
            case rel => exact ⟨_, (t330.extract ((ji37) : Int).toNat t330.size), (t330.extract 0 ((ji37) : Int).toNat), (by rfl), (by exact H'), ⟨by have := HJ2.out; have := HJ13.out; have := HJ21.out; first | omega | exact Nat.le_refl _⟩, ⟨by (with_reducible repeat (first | apply Kd.R_alloc | apply Kd.R_drewN | apply Kd.R_drew)); exact Kd.R_mono (farC (Kd.R_types HO_325005.out BK324.out (by decide))) (fun _ hk => trivial)⟩, ⟨by (with_reducible repeat (first | apply Kd.R_alloc | apply Kd.R_drewN | apply Kd.R_drew)); exact Kd.R_mono (farC (Kd.R_types HO_325006.out BK324.out (by decide))) (fun _ hk => trivial)⟩, ⟨by refine zq (cs := #[.string a0, .string ⟨#[]⟩, .string x325002_13, .string ⟨#[]⟩, .bool false, .slice Ao7 t325.length co7, .slice Ao24 t329.length co24, .bool true, .bool false, .string ⟨#[]⟩]) ?_ 3 _ rfl; exact BK324.out⟩, ⟨by (with_reducible refine zl ?_ GE324.out; with_reducible exact HB.out)⟩⟩
           ·rw [if_neg c39] at H
            exact absurd H (by simp)
          ·rw [if_neg c38] at H
           exact absurd H (by simp)
         ·rw [if_neg c35] at H
          exact absurd H (by simp)
        ·replace c34 := Bool.eq_false_iff.mpr c34
         subst c34
         have H1 : (zg.j3 kj21 t330 a0 (⟨#[]⟩ : ByteArray) x325002_13 (⟨#[]⟩ : ByteArray) false t325 t329 true false (⟨#[]⟩ : ByteArray)) = some (r1, r2, r3, r4, r5, r6, r7, r8, r9, r10, r11) := by rw [if_neg (show ¬ (false = true) by decide)] at H; exact H
         clear H
         have H := H1
         clear H1
         have H' := za.mk H
         clear H
         go_wp2
         go_meet
         case rel => exact ⟨_, (t330), ((⟨#[]⟩ : ByteArray)), (by rfl), (by exact H'), ⟨by have := HJ2.out; have := HJ13.out; have := HJ21.out; first | omega | exact Nat.le_refl _⟩, ⟨by (with_reducible repeat (first | apply Kd.R_alloc | apply Kd.R_drewN | apply Kd.R_drew)); exact HO_325005.out⟩, ⟨by (with_reducible repeat (first | apply Kd.R_alloc | apply Kd.R_drewN | apply Kd.R_drew)); exact HO_325006.out⟩, ⟨by exact BK324.out⟩, ⟨by (with_reducible exact HB.out)⟩⟩
       case rest =>
        clear HC33
        obtain ⟨kq, x0_32, x325003_32, rfl, HA, HJ32, HO_325005, HO_325006, BK324, HB⟩ := hcut
        cases kq with
        | zero => exact absurd HA.out (by simp [zg.j3])
        | succ kj32 =>
         have H := HA.out
         clear HA
         simp only [zg.j3] at H
         have HC44 := za.mk H
         clear H
         go_upto_region 9 with (fail)
         go_cut [62] (fun v62 wc => ∃ (kq : Nat) (x62_43 : Bool), v62 = .bool x62_43 ∧ za (zg.j4 kq x0_32 x62_43 a0 (⟨#[]⟩ : ByteArray) x325002_13 x325003_32 false t325 t329 true false (⟨#[]⟩ : ByteArray) = some (r1, r2, r3, r4, r5, r6, r7, r8, r9, r10, r11)) ∧ za (kq ≤ kj32) ∧ za (Kd.R k52 52 wc w.heap.size (fun _ => True) (.slice Ao7 t325.length co7) t325) ∧ za (Kd.R k56 56 wc w.heap.size (fun _ => True) (.slice Ao24 t329.length co24) t329) ∧ za (wc.heap[gb324]? = some (.cells #[.string a0, .string ⟨#[]⟩, .string x325002_13, .string x325003_32, .bool false, (.slice Ao7 t325.length co7), (.slice Ao24 t329.length co24), .bool true, .bool false, .string ⟨#[]⟩] 33 (0, 0))) ∧ za (Below w.heap.size w wc))
         case first =>
          have H := HC44.out
          clear HC44
          by_cases c45 : (x0_32.size : Int) > 1
          ·rw [if_pos c45] at H
           have c45b0 : decide (1 < (x0_32.size : Int)) = true := decide_eq_true c45
           have c45b1 : decide (1 < x0_32.size) = true := decide_eq_true (by omega)
           clear c45
           (first | rw [c45b0] | (simp only [i64_w, i32_w]; rw [c45b0]) | skip)
           by_cases c46 : 0 ≤ 2
           ·rw [if_pos c46] at H
            have c46b0 := eq_true c46
            have c46b1 : decide (0 ≤ 2) = true := decide_eq_true c46
            clear c46
            by_cases c47 : 2 ≤ (x0_32.size : Int)
            ·rw [if_pos c47] at H
             have c47b0 := eq_true c47
             have c47b1 : decide (2 ≤ (x0_32.size : Int)) = true := decide_eq_true c47
             clear c47
             have H' := za.mk H
             clear H
             go_wp2
             go_meet
             case rel => exact ⟨_, (((x0_32.extract 0 2).toList == ([45, 114] : List UInt8))), (by rfl), (by exact H'), ⟨by have := HJ2.out; have := HJ13.out; have := HJ21.out; have := HJ32.out; first | omega | exact Nat.le_refl _⟩, ⟨by (with_reducible repeat (first | apply Kd.R_alloc | apply Kd.R_drewN | apply Kd.R_drew)); exact HO_325005.out⟩, ⟨by (with_reducible repeat (first | apply Kd.R_alloc | apply Kd.R_drewN | apply Kd.R_drew)); exact HO_325006.out⟩, ⟨by exact BK324.out⟩, ⟨by (with_reducible exact HB.out)⟩⟩
            ·rw [if_neg c47] at H
             exact absurd H (by simp)
           ·rw [if_neg c46] at H
            exact absurd H (by simp)
          ·rw [if_neg c45] at H
           have c45b0 : decide (1 < (x0_32.size : Int)) = false := decide_eq_false c45
           have c45b1 : decide (1 < x0_32.size) = false := decide_eq_false (by omega)
           clear c45
           (first | rw [c45b0] | (simp only [i64_w, i32_w]; rw [c45b0]) | skip)
           have H' := za.mk H
           clear H
           go_wp2
           go_meet
           case rel => exact ⟨_, (false), (by rfl), (by exact H'), ⟨by have := HJ2.out; have := HJ13.out; have := HJ21.out; have := HJ32.out; first | omega | exact Nat.le_refl _⟩, ⟨by (with_reducible repeat (first | apply Kd.R_alloc | apply Kd.R_drewN | apply Kd.R_drew)); exact HO_325005.out⟩, ⟨by (with_reducible repeat (first | apply Kd.R_alloc | apply Kd.R_drewN | apply Kd.R_drew)); exact HO_325006.out⟩, ⟨by exact BK324.out⟩, ⟨by (with_reducible exact HB.out)⟩⟩
         case rest =>
          clear HC44
          obtain ⟨kq, x62_43, rfl, HA, HJ43, HO_325005, HO_325006, BK324, HB⟩ := hcut
          cases kq with
          | zero => exact absurd HA.out (by simp [zg.j4])
          | succ kj43 =>
           have H := HA.out
           clear HA
           simp only [zg.j4] at H
           by_cases c48 : x62_43 = true
           ·subst c48
            have H1 : (if 2 ≤ (x0_32.size : Int) then ((E1.zbb.f kj43 (x0_32.extract 2 x0_32.size)).bind fun t335 => (if 2 ≤ (wrap64 (2 + t335)) then (if (wrap64 (2 + t335)) ≤ (x0_32.size : Int) then ((zeb.f kj43 (x0_32.extract 2 ((wrap64 (2 + t335)) : Int).toNat)).bind fun bt336 => (if 0 ≤ (wrap64 (2 + t335)) then (some (a0, x0_32.extract ((wrap64 (2 + t335)) : Int).toNat x0_32.size, x325002_13, x325003_32, false, t325, t329, true, bt336.1, bt336.2, true)) else (none))) else (none)) else (none))) else (none)) = some (r1, r2, r3, r4, r5, r6, r7, r8, r9, r10, r11) := by rw [if_pos rfl] at H; exact H
            clear H
            have H := H1
            clear H1
            by_cases c49 : 2 ≤ (x0_32.size : Int)
            ·rw [if_pos c49] at H
             have c49b0 := eq_true c49
             have c49b1 : decide (2 ≤ (x0_32.size : Int)) = true := decide_eq_true c49
             clear c49
             replace H := Option.bind_eq_some_iff.mp H
             obtain ⟨t335, A500, H⟩ := H
             replace H : (if 2 ≤ (wrap64 (2 + t335)) then (if (wrap64 (2 + t335)) ≤ (x0_32.size : Int) then ((zeb.f kj43 (x0_32.extract 2 ((wrap64 (2 + t335)) : Int).toNat)).bind fun bt336 => (if 0 ≤ (wrap64 (2 + t335)) then (some (a0, x0_32.extract ((wrap64 (2 + t335)) : Int).toNat x0_32.size, x325002_13, x325003_32, false, t325, t329, true, bt336.1, bt336.2, true)) else (none))) else (none)) else (none)) = some (r1, r2, r3, r4, r5, r6, r7, r8, r9, r10, r11) := H
             have A50 := za.mk A500
             clear A500
             by_cases c51 : 2 ≤ (wrap64 (2 + t335))
             ·rw [if_pos c51] at H
              have c51b0 := eq_true c51
              have c51b1 : decide (2 ≤ (wrap64 (2 + t335))) = true := decide_eq_true c51
              by_cases c52 : (wrap64 (2 + t335)) ≤ (x0_32.size : Int)
              ·rw [if_pos c52] at H
               have c52b0 := eq_true c52
               have c52b1 : decide ((wrap64 (2 + t335)) ≤ (x0_32.size : Int)) = true := decide_eq_true c52
               replace H := Option.bind_eq_some_iff.mp H
               obtain ⟨⟨t336, t337⟩, A530, H⟩ := H
               replace H : (if 0 ≤ (wrap64 (2 + t335)) then (some (a0, x0_32.extract ((wrap64 (2 + t335)) : Int).toNat x0_32.size, x325002_13, x325003_32, false, t325, t329, true, t336, t337, true)) else (none)) = some (r1, r2, r3, r4, r5, r6, r7, r8, r9, r10, r11) := H
               have A53 := za.mk A530
               clear A530
               obtain ⟨ji54, hji54⟩ : ∃ j_ : Int, (wrap64 (2 + t335)) = j_ := ⟨_, rfl⟩
               (try rw [hji54] at hji37)
               (try rw [hji54] at hji37w)
               replace H : (if 0 ≤ (ji54) then (some (a0, x0_32.extract ((ji54) : Int).toNat x0_32.size, x325002_13, x325003_32, false, t325, t329, true, t336, t337, true)) else (none)) = some (r1, r2, r3, r4, r5, r6, r7, r8, r9, r10, r11) := by (rw [hji54] at H; exact H)
               (try rw [hji54] at c51b0)
               (try rw [hji54] at c51b1)
               (try rw [hji54] at c51)
               (try rw [hji54] at c52b0)
               (try rw [hji54] at c52b1)
               (try rw [hji54] at c52)
               (try rw [hji54] at A50)
               (try rw [hji54] at A53)
               have hji54w : (IntKind.i64.wrap (2 + t335)) = ji54 := (i64_w _).trans hji54
               by_cases c55 : 0 ≤ (ji54)
               ·rw [if_pos c55] at H
                have c55b0 := eq_true c55
                have c55b1 : decide (0 ≤ (ji54)) = true := decide_eq_true c55
                clear c55
                have c56b0 := eq_true (of_decide_eq_true (by (with_reducible assumption)) : (ji54) ≤ (x0_32.size : Int))
                simp only [Option.some.injEq, Prod.mk.injEq] at H
                obtain ⟨rfl, rfl, rfl, rfl, rfl, rfl, rfl, rfl, rfl, rfl, rfl⟩ := H
                try go_wp2_with (((with_reducible refine zw (f := 39) rfl ?_); refine goesA (some 73) Tryz.func39 #[.string (x0_32.extract 2 x0_32.size), .func (.func 40) #[] #[]] ?_; (with_reducible refine (E1.zbb.calls kj43 (x0_32.extract 2 x0_32.size) t335 _ A50.out).mono ?_); rintro e w' ⟨rfl, ⟨nd, rfl⟩⟩; refine ⟨_, rfl, ?_⟩; (try (rw [zmf wc]; generalize hq_ : World.drewN wc _ = wc; have n0_ : za (Kd.R k52 52 wc w.heap.size (fun _ => True) (.slice Ao7 t325.length co7) t325) := ⟨by rw [← hq_]; exact (RW HO_325005.out)⟩; have n1_ : za (Kd.R k56 56 wc w.heap.size (fun _ => True) (.slice Ao24 t329.length co24) t329) := ⟨by rw [← hq_]; exact (RW HO_325006.out)⟩; have n2_ : za (wc.heap[gb324]? = some (.cells #[.string a0, .string ⟨#[]⟩, .string x325002_13, .string x325003_32, .bool false, .slice Ao7 t325.length co7, .slice Ao24 t329.length co24, .bool true, .bool false, .string ⟨#[]⟩] 33 (0, 0))) := ⟨by rw [← hq_]; exact (by (with_reducible (refine zid ?_ _)); exact BK324.out)⟩; have n3_ : za (Below w.heap.size w wc) := ⟨by rw [← hq_]; exact (by (with_reducible apply zd; with_reducible exact HB.out))⟩; clear HO_325005 HO_325006 BK324 HB hq_; have HO_325005 := n0_; have HO_325006 := n1_; have BK324 := n2_; have HB := n3_; clear n0_ n1_ n2_ n3_))))
                replace HO_325005 := za.mk (Kd.R_drew HO_325005.out)
                replace HO_325006 := za.mk (Kd.R_drew HO_325006.out)
                replace BK324 := za.mk (zub BK324.out)
                replace HB := za.mk (zab HB.out)
                refine zuf (n := 13) (S := fun w' => True) (ds := []) #[false, false, false, false, false, false, false, false, false, false, false, false, false] (by kernel_rfl) rfl rfl trivial (fun hHeld => ?_); refine zxf zg.tab11 zg.bits11 (fun HT_ HW_ => ?_)
                generalize wc.drew = w57 at HO_325005 HO_325006 BK324 HB hHeld ⊢
                refine pureA 0 (some 74) #[true, false, false, false, false, false, false, false, false, false, false, false, false] ?_ (hc := zdc HT_.out (by kernel_rfl))
                refine pureA 1 (some 75) #[true, true, false, false, false, false, false, false, false, false, false, false, false] ?_ (hc := zdc HT_.out (by kernel_rfl))
                refine pureA 2 (some 76) #[true, true, true, false, false, false, false, false, false, false, false, false, false] ?_ (hc := zdc HT_.out (by kernel_rfl))
                refine pureA 3 (some 77) #[true, true, true, true, false, false, false, false, false, false, false, false, false] ?_ (hc := zdc HT_.out (by kernel_rfl))
                refine pureA 5 (some 79) #[true, true, true, true, false, true, false, false, false, false, false, false, false] ?_ (hc := zdc HT_.out (by kernel_rfl))
                refine pureA 6 (some 80) #[true, true, true, true, false, true, true, false, false, false, false, false, false] ?_ (hc := zdc HT_.out (by kernel_rfl))
                refine pureA 7 (some 81) #[true, true, true, true, false, true, true, true, false, false, false, false, false] ?_ (hc := zdc HT_.out (by kernel_rfl))
                refine pureA 8 (some 82) #[true, true, true, true, false, true, true, true, true, false, false, false, false] ?_ (hc := zdc HT_.out (by kernel_rfl))
                refine one_ (i := 4) (N := some 78) #[true, true, true, true, true, true, true, true, true, false, false, false, false] rfl rfl (zxe HT_.out (by kernel_rfl)) (by decide) (fun K hK => ?_)
                refine goes_ Tryz.func41 (by kernel_rfl) rfl #[.string (x0_32.extract 2 ((ji54) : Int).toNat)] (by rfl) rfl rfl (by (try simp only [List.map_toArray, List.map_cons, List.map_nil]); first | done | (simp only [hji54]; rfl) | rfl | (simp only [List.length_drop, List.length_take]; rfl)) ?_
                with_reducible refine (zeb.calls kj43 (x0_32.extract 2 ((ji54) : Int).toNat) t336 t337 _ A53.out).mono ?_
                rintro e w58 ⟨rfl, hb⟩
                refine ⟨_, rfl, ?_⟩
                replace HO_325005 := RB HO_325005 hb
                replace HO_325006 := RB HO_325006 hb
                replace BK324 := za.mk (zc BK324.out hb)
                replace HB := BS HB hb
                (try clear hb)
                (try clear hb2)
                (try clear hk)
                (try clear hi)
                refine hK.out _ _ trivial (fun hHeld => ?_)
                clear hK K
                refine norm_ (a' := ?_) ?_ ?_
                rotate_left
                ·show Act.put _ (some 78) _ = _
                 simp only [Act.put, List.setIfInBounds_toArray, List.set_cons_zero, List.set_cons_succ, i64_w, i32_w]
                 rfl
                refine pureA 9 (some 83) #[true, true, true, true, true, true, true, true, true, true, false, false, false] ?_ (hc := zdc HT_.out (by kernel_rfl))
                refine one_ (i := 10) (N := none) #[true, true, true, true, true, true, true, true, true, true, true, false, false] rfl rfl (zxe HT_.out (by kernel_rfl)) (by decide) (fun K hK => ?_)
                have hs59 : w58.cell? ⟨gb324, 8, none⟩ = some (.bool false) := (zb BK324.out 8).trans rfl
                have hfs59 := zz BK324.out 8
                have hs60 : w58.cell? ⟨gb324, 9, none⟩ = some (.string ⟨#[]⟩) := (zb BK324.out 9).trans rfl
                have hfs60 := zz BK324.out 9
                refine skip_ (w1 := ?_) (by rfl) rfl ?_ ?_
                rotate_left
                ·go_simp
                 rfl
                refine hK.out _ _ trivial (fun hHeld => ?_)
                clear hK K
                refine pureA 11 (some 84) #[true, true, true, true, true, true, true, true, true, true, true, true, false] ?_ (hc := zdc HT_.out (by kernel_rfl))
                refine one_ (i := 12) (N := none) #[true, true, true, true, true, true, true, true, true, true, true, true, true] rfl rfl (zxe HT_.out (by kernel_rfl)) (by decide) (fun K hK => ?_)
                have hs61 : w58.cell? ⟨gb324, 1, none⟩ = some (.string ⟨#[]⟩) := (zb BK324.out 1).trans rfl
                have hfs61 := zz BK324.out 1
                refine skip_ (w1 := ?_) (by rfl) rfl ?_ ?_
                rotate_left
                ·go_simp
                 rfl
                refine hK.out _ _ trivial (fun hHeld => ?_)
                clear hK K
                refine done_ (zdi HT_.out (by kernel_rfl)) ?_
                obtain ⟨z62_0, z62_1, z62_2, z62_3, z62_4, z62_5, z62_6, z62_7, z62_8, z62_9, y62_0, y62_1, y62_2, y62_3, y62_4, y62_5, y62_6, y62_7, y62_8, y62_9⟩ := cl10 BK324.out
                try go_wp2
                refine bodyPost_ret (zfj rfl _ _ gb324 33 #[.string a0, .string (x0_32.extract ((ji54) : Int).toNat x0_32.size), .string x325002_13, .string x325003_32, .bool false, .slice Ao7 t325.length co7, .slice Ao24 t329.length co24, .bool true, .bool t336, .string t337] (0, 0) _ rfl (by refine zq (cs := #[.string a0, .string (x0_32.extract ((ji54) : Int).toNat x0_32.size), .string x325002_13, .string x325003_32, .bool false, .slice Ao7 t325.length co7, .slice Ao24 t329.length co24, .bool true, .bool t336, .string t337]) ?_ 9 _ rfl; refine zq (cs := #[.string a0, .string (x0_32.extract ((ji54) : Int).toNat x0_32.size), .string x325002_13, .string x325003_32, .bool false, .slice Ao7 t325.length co7, .slice Ao24 t329.length co24, .bool true, .bool t336, .string t337]) ?_ 8 _ rfl; refine zq (cs := #[.string a0, .string (x0_32.extract ((ji54) : Int).toNat x0_32.size), .string x325002_13, .string x325003_32, .bool false, .slice Ao7 t325.length co7, .slice Ao24 t329.length co24, .bool true, .bool t336, .string t337]) ?_ 7 _ rfl; refine zq (cs := #[.string a0, .string (x0_32.extract ((ji54) : Int).toNat x0_32.size), .string x325002_13, .string x325003_32, .bool false, .slice Ao7 t325.length co7, .slice Ao24 t329.length co24, .bool true, .bool t336, .string t337]) ?_ 6 _ rfl; refine zq (cs := #[.string a0, .string (x0_32.extract ((ji54) : Int).toNat x0_32.size), .string x325002_13, .string x325003_32, .bool false, .slice Ao7 t325.length co7, .slice Ao24 t329.length co24, .bool true, .bool t336, .string t337]) ?_ 5 _ rfl; refine zq (cs := #[.string a0, .string (x0_32.extract ((ji54) : Int).toNat x0_32.size), .string x325002_13, .string x325003_32, .bool false, .slice Ao7 t325.length co7, .slice Ao24 t329.length co24, .bool true, .bool t336, .string t337]) ?_ 4 _ rfl; refine zq (cs := #[.string a0, .string (x0_32.extract ((ji54) : Int).toNat x0_32.size), .string x325002_13, .string x325003_32, .bool false, .slice Ao7 t325.length co7, .slice Ao24 t329.length co24, .bool true, .bool t336, .string t337]) ?_ 3 _ rfl; refine zq (cs := #[.string a0, .string (x0_32.extract ((ji54) : Int).toNat x0_32.size), .string x325002_13, .string x325003_32, .bool false, .slice Ao7 t325.length co7, .slice Ao24 t329.length co24, .bool true, .bool t336, .string t337]) ?_ 2 _ rfl; refine zq (cs := #[.string a0, .string (x0_32.extract ((ji54) : Int).toNat x0_32.size), .string x325002_13, .string x325003_32, .bool false, .slice Ao7 t325.length co7, .slice Ao24 t329.length co24, .bool true, .bool t336, .string t337]) ?_ 1 _ rfl; refine zq (cs := #[.string a0, .string (x0_32.extract ((ji54) : Int).toNat x0_32.size), .string x325002_13, .string x325003_32, .bool false, .slice Ao7 t325.length co7, .slice Ao24 t329.length co24, .bool true, .bool t336, .string t337]) ?_ 0 _ rfl; refine zq (cs := #[.string a0, .string ⟨#[]⟩, .string x325002_13, .string x325003_32, .bool false, .slice Ao7 t325.length co7, .slice Ao24 t329.length co24, .bool true, .bool t336, .string t337]) ?_ 1 _ rfl; refine zq (cs := #[.string a0, .string ⟨#[]⟩, .string x325002_13, .string x325003_32, .bool false, .slice Ao7 t325.length co7, .slice Ao24 t329.length co24, .bool true, .bool t336, .string ⟨#[]⟩]) ?_ 9 _ rfl; refine zq (cs := #[.string a0, .string ⟨#[]⟩, .string x325002_13, .string x325003_32, .bool false, .slice Ao7 t325.length co7, .slice Ao24 t329.length co24, .bool true, .bool false, .string ⟨#[]⟩]) ?_ 8 _ rfl; exact BK324.out) Tryz.underlying33 rfl (by kernel_rfl)) rfl ?_
                exact ⟨_, _, by rfl, by (with_reducible repeat (first | apply Kd.R_alloc | apply Kd.R_drewN | apply Kd.R_drew)); exact Kd.R_mono (farC12 (farC (Kd.R_types HO_325005.out BK324.out (by decide)))) (fun _ hk => trivial), by (with_reducible repeat (first | apply Kd.R_alloc | apply Kd.R_drewN | apply Kd.R_drew)); exact Kd.R_mono (farC12 (farC (Kd.R_types HO_325006.out BK324.out (by decide)))) (fun _ hk => trivial), by repeat (first | (with_reducible first | exact HB.out | apply zj | apply zd | apply zab | refine zl ?_ GE324.out) | exact HB.out)⟩
               ·rw [if_neg c55] at H
                exact absurd H (by simp)
              ·rw [if_neg c52] at H
               exact absurd H (by simp)
             ·rw [if_neg c51] at H
              exact absurd H (by simp)
            ·rw [if_neg c49] at H
             exact absurd H (by simp)
           ·replace c48 := Bool.eq_false_iff.mpr c48
            subst c48
            have H1 : (if x0_32.toList = ([] : List UInt8) then (some (a0, (⟨#[]⟩ : ByteArray), x325002_13, x325003_32, false, t325, t329, true, false, (⟨#[]⟩ : ByteArray), true)) else (some (a0, x0_32, x325002_13, x325003_32, true, t325, t329, true, false, (⟨#[]⟩ : ByteArray), true))) = some (r1, r2, r3, r4, r5, r6, r7, r8, r9, r10, r11) := by rw [if_neg (show ¬ (false = true) by decide)] at H; exact H
            clear H
            have H := H1
            clear H1
            by_cases c63 : x0_32.toList = ([] : List UInt8)
            ·rw [if_pos c63] at H
             have c63b0 : (x0_32.toList == ([] : List UInt8)) = true := beq_iff_eq.mpr c63
             have c63b1 : (x0_32.toList != ([] : List UInt8)) = false := bne_eq_false_iff_eq.mpr c63
             try have c63b9 : x0_32.toList.isEmpty = true := by simpa using c63b0
             clear c63
             simp only [Option.some.injEq, Prod.mk.injEq] at H
             obtain ⟨rfl, rfl, rfl, rfl, rfl, rfl, rfl, rfl, rfl, rfl, rfl⟩ := H
             obtain ⟨z64_0, z64_1, z64_2, z64_3, z64_4, z64_5, z64_6, z64_7, z64_8, z64_9, y64_0, y64_1, y64_2, y64_3, y64_4, y64_5, y64_6, y64_7, y64_8, y64_9⟩ := cl10 BK324.out
             go_wp2
             refine bodyPost_ret (zfj rfl _ _ gb324 33 #[.string a0, .string ⟨#[]⟩, .string x325002_13, .string x325003_32, .bool false, .slice Ao7 t325.length co7, .slice Ao24 t329.length co24, .bool true, .bool false, .string ⟨#[]⟩] (0, 0) _ rfl (by exact put10 BK324.out) Tryz.underlying33 rfl (by kernel_rfl)) rfl ?_
             exact ⟨_, _, by rfl, by (with_reducible repeat (first | apply Kd.R_alloc | apply Kd.R_drewN | apply Kd.R_drew)); exact Kd.R_mono (zrb (Kd.R_types HO_325005.out BK324.out (by decide))) (fun _ hk => trivial), by (with_reducible repeat (first | apply Kd.R_alloc | apply Kd.R_drewN | apply Kd.R_drew)); exact Kd.R_mono (zrb (Kd.R_types HO_325006.out BK324.out (by decide))) (fun _ hk => trivial), by repeat (first | (with_reducible first | exact HB.out | apply zj | apply zd | apply zab | refine zl ?_ GE324.out) | exact HB.out)⟩
            ·rw [if_neg c63] at H
             have c63b0 : (x0_32.toList == ([] : List UInt8)) = false := beq_eq_false_iff_ne.mpr c63
             have c63b1 : (x0_32.toList != ([] : List UInt8)) = true := bne_iff_ne.mpr c63
             try have c63b9 : x0_32.toList.isEmpty = false := by simpa using c63b0
             simp only [Option.some.injEq, Prod.mk.injEq] at H
             obtain ⟨rfl, rfl, rfl, rfl, rfl, rfl, rfl, rfl, rfl, rfl, rfl⟩ := H
             obtain ⟨z65_0, z65_1, z65_2, z65_3, z65_4, z65_5, z65_6, z65_7, z65_8, z65_9, y65_0, y65_1, y65_2, y65_3, y65_4, y65_5, y65_6, y65_7, y65_8, y65_9⟩ := cl10 BK324.out
             go_wp2
             refine bodyPost_ret (zfj rfl _ _ gb324 33 #[.string a0, .string x0_32, .string x325002_13, .string x325003_32, .bool true, .slice Ao7 t325.length co7, .slice Ao24 t329.length co24, .bool true, .bool false, .string ⟨#[]⟩] (0, 0) _ rfl (by refine zq (cs := #[.string a0, .string x0_32, .string x325002_13, .string x325003_32, .bool true, .slice Ao7 t325.length co7, .slice Ao24 t329.length co24, .bool true, .bool false, .string ⟨#[]⟩]) ?_ 9 _ rfl; refine zq (cs := #[.string a0, .string x0_32, .string x325002_13, .string x325003_32, .bool true, .slice Ao7 t325.length co7, .slice Ao24 t329.length co24, .bool true, .bool false, .string ⟨#[]⟩]) ?_ 8 _ rfl; refine zq (cs := #[.string a0, .string x0_32, .string x325002_13, .string x325003_32, .bool true, .slice Ao7 t325.length co7, .slice Ao24 t329.length co24, .bool true, .bool false, .string ⟨#[]⟩]) ?_ 7 _ rfl; refine zq (cs := #[.string a0, .string x0_32, .string x325002_13, .string x325003_32, .bool true, .slice Ao7 t325.length co7, .slice Ao24 t329.length co24, .bool true, .bool false, .string ⟨#[]⟩]) ?_ 6 _ rfl; refine zq (cs := #[.string a0, .string x0_32, .string x325002_13, .string x325003_32, .bool true, .slice Ao7 t325.length co7, .slice Ao24 t329.length co24, .bool true, .bool false, .string ⟨#[]⟩]) ?_ 5 _ rfl; refine zq (cs := #[.string a0, .string x0_32, .string x325002_13, .string x325003_32, .bool true, .slice Ao7 t325.length co7, .slice Ao24 t329.length co24, .bool true, .bool false, .string ⟨#[]⟩]) ?_ 4 _ rfl; refine zq (cs := #[.string a0, .string x0_32, .string x325002_13, .string x325003_32, .bool true, .slice Ao7 t325.length co7, .slice Ao24 t329.length co24, .bool true, .bool false, .string ⟨#[]⟩]) ?_ 3 _ rfl; refine zq (cs := #[.string a0, .string x0_32, .string x325002_13, .string x325003_32, .bool true, .slice Ao7 t325.length co7, .slice Ao24 t329.length co24, .bool true, .bool false, .string ⟨#[]⟩]) ?_ 2 _ rfl; refine zq (cs := #[.string a0, .string x0_32, .string x325002_13, .string x325003_32, .bool true, .slice Ao7 t325.length co7, .slice Ao24 t329.length co24, .bool true, .bool false, .string ⟨#[]⟩]) ?_ 1 _ rfl; refine zq (cs := #[.string a0, .string x0_32, .string x325002_13, .string x325003_32, .bool true, .slice Ao7 t325.length co7, .slice Ao24 t329.length co24, .bool true, .bool false, .string ⟨#[]⟩]) ?_ 0 _ rfl; refine zq (cs := #[.string a0, .string ⟨#[]⟩, .string x325002_13, .string x325003_32, .bool true, .slice Ao7 t325.length co7, .slice Ao24 t329.length co24, .bool true, .bool false, .string ⟨#[]⟩]) ?_ 1 _ rfl; refine zq (cs := #[.string a0, .string ⟨#[]⟩, .string x325002_13, .string x325003_32, .bool false, .slice Ao7 t325.length co7, .slice Ao24 t329.length co24, .bool true, .bool false, .string ⟨#[]⟩]) ?_ 4 _ rfl; exact BK324.out) Tryz.underlying33 rfl (by kernel_rfl)) rfl ?_
             exact ⟨_, _, by rfl, by (with_reducible repeat (first | apply Kd.R_alloc | apply Kd.R_drewN | apply Kd.R_drew)); exact Kd.R_mono (farC12 (Kd.R_types HO_325005.out BK324.out (by decide))) (fun _ hk => trivial), by (with_reducible repeat (first | apply Kd.R_alloc | apply Kd.R_drewN | apply Kd.R_drew)); exact Kd.R_mono (farC12 (Kd.R_types HO_325006.out BK324.out (by decide))) (fun _ hk => trivial), by repeat (first | (with_reducible first | exact HB.out | apply zj | apply zd | apply zab | refine zl ?_ GE324.out) | exact HB.out)⟩
end Go.Proofs.YtapaijpglfmfgaaGreatDoor.Q
end
