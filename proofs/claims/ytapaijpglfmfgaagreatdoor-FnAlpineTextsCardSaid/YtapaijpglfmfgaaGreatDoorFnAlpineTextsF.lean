/- Proved here, for the row of the law FnAlpineTexts: contracts of the Go functions that it reaches, each as its theorem 'calls' says, and the words and plain laws that they need (Qx22, Qx1, Qx2, Qx3, BA, BB, BC, BD, BF, BH, BL0, BM, BT, BU, PureFnAlpineTexts, K19). -/
import Derived.Test.YtapaijpglfmfgaaGreatDoorFnAlpineTextsE
import Derived.Test.YtapaijpglfmfgaaGreatDoorRows
import Derived.Stop.LaidErr
import Derived.Stop.Joined
import Derived.LaidSub
import Derived.MakeChecks
set_option linter.unusedVariables false
set_option linter.unusedSimpArgs false
set_option maxHeartbeats 8000000
set_option maxRecDepth 100000
section
namespace Go.Proofs.YtapaijpglfmfgaaGreatDoor.Q
open Go.RowKit YtapaijpglfmfgaaGreatDoorH YtapaijpglfmfgaaGreatDoorG YtapaijpglfmfgaaGreatDoorW.PrintWords YtapaijpglfmfgaaGreatDoorW.PrintLast YtapaijpglfmfgaaGreatDoorW.PrintMore YtapaijpglfmfgaaGreatDoorC
attribute [local go_sem] zfd zjd ztd zud zsc ztc zgd zkd
mutual
def zi.j0 : Nat → ByteArray → ByteArray → Bool → Option (Bool)
 | 0, _, _, _ => none
 | k + 1, x0, x1, x24 => if x24 = true then (some true) else ((zoc.f k (([x0, x1] : List ByteArray))).bind fun t463 => (if t463 = true then ((zk.f k x0).bind fun t464 => (if t464 = true then ((zk.f k x1).bind fun t465 => (zi.j1 k x0 x1 (!t465))) else (zi.j1 k x0 x1 true))) else (zi.j1 k x0 x1 true)))
def zi.j1 : Nat → ByteArray → ByteArray → Bool → Option (Bool)
 | 0, _, _, _ => none
 | k + 1, x0, x1, x39 => if x39 = true then (some true) else ((zg.f k x0).bind fun bt466 => ((zg.f k x1).bind fun bt482 => (if bt466.2.2.2.2.2.2.2.2.2.2 = true then (if bt482.2.2.2.2.2.2.2.2.2.2 = true then ((znc.f k bt466.1 bt466.2.1 bt466.2.2.1 bt466.2.2.2.1 bt466.2.2.2.2.1 bt466.2.2.2.2.2.1 bt466.2.2.2.2.2.2.1 bt466.2.2.2.2.2.2.2.1 bt466.2.2.2.2.2.2.2.2.1 bt466.2.2.2.2.2.2.2.2.2.1 bt482.1 bt482.2.1 bt482.2.2.1 bt482.2.2.2.1 bt482.2.2.2.2.1 bt482.2.2.2.2.2.1 bt482.2.2.2.2.2.2.1 bt482.2.2.2.2.2.2.2.1 bt482.2.2.2.2.2.2.2.2.1 bt482.2.2.2.2.2.2.2.2.2.1).bind fun t498 => (zi.j2 k x0 x1 (!t498) bt466.1 bt466.2.1 bt466.2.2.1 bt466.2.2.2.1 bt466.2.2.2.2.1 bt466.2.2.2.2.2.1 bt466.2.2.2.2.2.2.1 bt466.2.2.2.2.2.2.2.1 bt466.2.2.2.2.2.2.2.2.1 bt466.2.2.2.2.2.2.2.2.2.1 bt482.1 bt482.2.1 bt482.2.2.1 bt482.2.2.2.1 bt482.2.2.2.2.1 bt482.2.2.2.2.2.1 bt482.2.2.2.2.2.2.1 bt482.2.2.2.2.2.2.2.1 bt482.2.2.2.2.2.2.2.2.1 bt482.2.2.2.2.2.2.2.2.2.1)) else (zi.j2 k x0 x1 true bt466.1 bt466.2.1 bt466.2.2.1 bt466.2.2.2.1 bt466.2.2.2.2.1 bt466.2.2.2.2.2.1 bt466.2.2.2.2.2.2.1 bt466.2.2.2.2.2.2.2.1 bt466.2.2.2.2.2.2.2.2.1 bt466.2.2.2.2.2.2.2.2.2.1 bt482.1 bt482.2.1 bt482.2.2.1 bt482.2.2.2.1 bt482.2.2.2.2.1 bt482.2.2.2.2.2.1 bt482.2.2.2.2.2.2.1 bt482.2.2.2.2.2.2.2.1 bt482.2.2.2.2.2.2.2.2.1 bt482.2.2.2.2.2.2.2.2.2.1)) else (zi.j2 k x0 x1 true bt466.1 bt466.2.1 bt466.2.2.1 bt466.2.2.2.1 bt466.2.2.2.2.1 bt466.2.2.2.2.2.1 bt466.2.2.2.2.2.2.1 bt466.2.2.2.2.2.2.2.1 bt466.2.2.2.2.2.2.2.2.1 bt466.2.2.2.2.2.2.2.2.2.1 bt482.1 bt482.2.1 bt482.2.2.1 bt482.2.2.2.1 bt482.2.2.2.2.1 bt482.2.2.2.2.2.1 bt482.2.2.2.2.2.2.1 bt482.2.2.2.2.2.2.2.1 bt482.2.2.2.2.2.2.2.2.1 bt482.2.2.2.2.2.2.2.2.2.1))))
def zi.j2 : Nat → ByteArray → ByteArray → Bool → ByteArray → ByteArray → ByteArray → ByteArray → Bool → List (S52) → List (S56) → Bool → Bool → ByteArray → ByteArray → ByteArray → ByteArray → ByteArray → Bool → List (S52) → List (S56) → Bool → Bool → ByteArray → Option (Bool)
 | 0, _, _, _, _, _, _, _, _, _, _, _, _, _, _, _, _, _, _, _, _, _, _, _ => none
 | k + 1, x0, x1, x61, x482000, x482001, x482002, x482003, x482004, x482005, x482006, x482007, x482008, x482009, x498000, x498001, x498002, x498003, x498004, x498005, x498006, x498007, x498008, x498009 => if x61 = true then (some true) else ((zbc.f x0).bind fun bt499 => ((zbc.f x1).bind fun bt515 => ((zcb.f x0 x1).bind fun bt531 => ((zcb.f x1 x0).bind fun bt533 => (if bt499.2.2.2.2.2.2.2.2.2.2 = true then (if bt515.2.2.2.2.2.2.2.2.2.2 = true then (if bt531.2 = true then (if bt533.2 = true then ((ze.f k x482000 x482001 x482002 x482003 x482004 x482005 x482006 x482007 x482008 x482009 x498000 x498001 x498002 x498003 x498004 x498005 x498006 x498007 x498008 x498009).bind fun t535 => (if bt531.1 = t535 then ((zmb.f bt499.1 bt499.2.1 bt499.2.2.1 bt499.2.2.2.1 bt499.2.2.2.2.1 bt499.2.2.2.2.2.1 bt499.2.2.2.2.2.2.1 bt499.2.2.2.2.2.2.2.1 bt499.2.2.2.2.2.2.2.2.1 bt499.2.2.2.2.2.2.2.2.2.1 bt515.1 bt515.2.1 bt515.2.2.1 bt515.2.2.2.1 bt515.2.2.2.2.1 bt515.2.2.2.2.2.1 bt515.2.2.2.2.2.2.1 bt515.2.2.2.2.2.2.2.1 bt515.2.2.2.2.2.2.2.2.1 bt515.2.2.2.2.2.2.2.2.2.1).bind fun t536 => (if bt531.1 = t536 then ((zrc.f bt531.1 bt533.1).bind fun t537 => (some t537)) else (some false))) else (some false))) else (some false)) else (some false)) else (some false)) else (some false))))))
end
def zi.f (k : Nat) (a0 : ByteArray) (a1 : ByteArray) : Option (Bool) := if (a0.size : Int) > 2147483647 then (zi.j0 k a0 a1 true) else (zi.j0 k a0 a1 (decide ((a1.size : Int) > 2147483647)))
theorem zi.calls (k : Nat) (a0 : ByteArray) (a1 : ByteArray) (r : Bool) (w : World) (h : zi.f k a0 a1 = some r) (hG : GL w) (hr : r = true) :
  Calls Tryz.prog 5 #[.string a0, .string a1] w fun e w' => e = .returned (.bool r) ∧ Below w.heap.size w w' := by
 have HT := za.mk hr
 clear hr
 have HG := za.mk hG
 clear hG
 have hu33 := Tryz.underlying33
 have HB := za.mk (Below.refl w.heap.size w)
 have H : (if (a0.size : Int) > 2147483647 then (zi.j0 k a0 a1 true) else (zi.j0 k a0 a1 (decide ((a1.size : Int) > 2147483647)))) = some r := h
 clear h
 have HC3 := za.mk H
 clear H
 go_enter Tryz.func5, Tryz.ntmps5
 go_upto_region 1 with (fail)
 go_cut [24] (fun v24 wc => ∃ (kq : Nat) (x24_2 : Bool), v24 = .bool x24_2 ∧ za (zi.j0 kq a0 a1 x24_2 = some r) ∧ za (kq ≤ k) ∧ za (Below w.heap.size w wc))
 case first =>
  have H := HC3.out
  clear HC3
  by_cases c4 : (a0.size : Int) > 2147483647
  ·rw [if_pos c4] at H
   have c4b0 : decide (2147483647 < (a0.size : Int)) = true := decide_eq_true c4
   have c4b1 : decide (2147483647 < a0.size) = true := decide_eq_true (by omega)
   clear c4
   (first | rw [c4b0] | (simp only [i64_w, i32_w]; rw [c4b0]) | skip)
   have H' := za.mk H
   clear H
   go_wp2
   go_meet
   case rel => exact ⟨_, (true), (by rfl), H', ⟨by omega⟩, ⟨by (with_reducible exact HB.out)⟩⟩
  ·rw [if_neg c4] at H
   have c4b0 : decide (2147483647 < (a0.size : Int)) = false := decide_eq_false c4
   have c4b1 : decide (2147483647 < a0.size) = false := decide_eq_false (by omega)
   clear c4
   (first | rw [c4b0] | (simp only [i64_w, i32_w]; rw [c4b0]) | skip)
   have H' := za.mk H
   clear H
   go_wp2
   go_meet
   case rel => exact ⟨_, (decide ((a1.size : Int) > 2147483647)), (by rfl), H', ⟨by omega⟩, ⟨by (with_reducible exact HB.out)⟩⟩
 case rest =>
  clear HC3
  obtain ⟨kq, x24_2, rfl, HA, HJ2, HB⟩ := hcut
  cases kq with
  | zero => exact absurd HA.out (by simp [zi.j0])
  | succ kj2 =>
   have H := HA.out
   clear HA
   simp only [zi.j0] at H
   by_cases c5 : x24_2 = true
   ·subst c5
    have H1 : (some true) = some r := by rw [if_pos rfl] at H; exact H
    clear H
    have H := H1
    clear H1
    obtain rfl := Option.some.inj H
    go_wp2
    go_ret
    exact ⟨by rfl, by (with_reducible exact HB.out)⟩
   ·replace c5 := Bool.eq_false_iff.mpr c5
    subst c5
    have H1 : ((zoc.f kj2 (([a0, a1] : List ByteArray))).bind fun t463 => (if t463 = true then ((zk.f kj2 a0).bind fun t464 => (if t464 = true then ((zk.f kj2 a1).bind fun t465 => (zi.j1 kj2 a0 a1 (!t465))) else (zi.j1 kj2 a0 a1 true))) else (zi.j1 kj2 a0 a1 true))) = some r := by rw [if_neg (show ¬ (false = true) by decide)] at H; exact H
    clear H
    have H := H1
    clear H1
    have HC6 := za.mk H
    clear H
    go_upto_region 3 with (fail)
    go_cut [39] (fun v39 wc => ∃ (kq : Nat) (x39_5 : Bool), v39 = .bool x39_5 ∧ za (zi.j1 kq a0 a1 x39_5 = some r) ∧ za (kq ≤ kj2) ∧ za (Below w.heap.size w wc))
    case first =>
     have H := HC6.out
     clear HC6
     obtain ⟨y460, hy460⟩ : ∃ y_ : List ByteArray, y_ = (([a0, a1] : List ByteArray)) := ⟨_, rfl⟩
     replace H : ((zoc.f kj2 y460).bind fun t463 => (if t463 = true then ((zk.f kj2 a0).bind fun t464 => (if t464 = true then ((zk.f kj2 a1).bind fun t465 => (zi.j1 kj2 a0 a1 (!t465))) else (zi.j1 kj2 a0 a1 true))) else (zi.j1 kj2 a0 a1 true))) = some r := by (rw [hy460]; with_reducible exact H)
     have Ny460 := za.mk hy460
     clear hy460
     replace H := Option.bind_eq_some_iff.mp H
     obtain ⟨t463, A70, H⟩ := H
     replace H : (if t463 = true then ((zk.f kj2 a0).bind fun t464 => (if t464 = true then ((zk.f kj2 a1).bind fun t465 => (zi.j1 kj2 a0 a1 (!t465))) else (zi.j1 kj2 a0 a1 true))) else (zi.j1 kj2 a0 a1 true)) = some r := H
     have A7 := za.mk A70
     clear A70
     by_cases c8 : t463 = true
     ·subst c8
      have H1 : ((zk.f kj2 a0).bind fun t464 => (if t464 = true then ((zk.f kj2 a1).bind fun t465 => (zi.j1 kj2 a0 a1 (!t465))) else (zi.j1 kj2 a0 a1 true))) = some r := by rw [if_pos rfl] at H; exact H
      clear H
      have H := H1
      clear H1
      replace H := Option.bind_eq_some_iff.mp H
      obtain ⟨t464, A90, H⟩ := H
      replace H : (if t464 = true then ((zk.f kj2 a1).bind fun t465 => (zi.j1 kj2 a0 a1 (!t465))) else (zi.j1 kj2 a0 a1 true)) = some r := H
      have A9 := za.mk A90
      clear A90
      by_cases c10 : t464 = true
      ·subst c10
       have H1 : ((zk.f kj2 a1).bind fun t465 => (zi.j1 kj2 a0 a1 (!t465))) = some r := by rw [if_pos rfl] at H; exact H
       clear H
       have H := H1
       clear H1
       replace H := Option.bind_eq_some_iff.mp H
       obtain ⟨t465, A110, H⟩ := H
       replace H : (zi.j1 kj2 a0 a1 (!t465)) = some r := H
       have A11 := za.mk A110
       clear A110
       have H' := za.mk H
       clear H
       go_wp2_with (first | ((with_reducible refine znb (N := 27) rfl ?_); (try (refine zjc (by rfl) ?_; dsimp only)); refine Kd.R_lit Kd.string _ 9 ?hg (N := 27) ?hd (xs := ([a0, a1] : List ByteArray)) (inner := [.string a0, .string a1]) (ok := fun _ => True) (okp := fun _ => True) ?hr ?hp (fun _ hk => hk) trivial (Below.refl _ _) (Nat.le_refl _) (by simp) ?_; (case hd => rfl); (case hg => rfl); (case hr => first | (go_simp; done) | (go_simp; rfl)); (case hp => exact (Reps.one (show Kd.M Kd.string _ _ _ a0 [.string a0] from rfl) (Reps.one (show Kd.M Kd.string _ _ _ a1 [.string a1] from rfl) (Reps.none _ _)))); intro v461 w12 ho13 hb hg_ hnew_; clear hg_ hnew_; (first | rw [← Ny460.out] at ho13 | (simp only [Int.reduceToNat] at ho13; rw [← Ny460.out] at ho13)); have HO462 := za.mk (Kd.R_lower ho13 (zm (by (with_reducible exact HB.out)))); replace HB := BS HB hb; clear hb ho13; obtain ⟨Ao14, co14, eo14⟩ := Kd.R_slice HO462.out; subst eo14) | ((with_reducible refine zw (f := 13) rfl ?_); refine goesA (some 28) Tryz.func13 #[.slice Ao14 y460.length co14] ?_; (with_reducible refine (zoc.calls kj2 _ _ y460 true _ ?side1 ?side2 A7.out).mono ?_); (case side1 => exact CS HO462); (case side2 => exact (Kd.R_reads' HO462.out).2.1); rintro e w' ⟨rfl, ⟨nd, rfl⟩⟩; refine ⟨_, rfl, ?_⟩) | (go_at_call 8; (with_reducible refine (zk.calls kj2 a0 true _ A9.out).mono ?_); rintro e w15 ⟨rfl, hb⟩; replace HO462 := RB HO462 hb; replace HB := BS HB hb; (try clear hb); (try clear hb2); (try clear hk); (try clear hi)) | (go_at_call 8; (with_reducible refine (zk.calls kj2 a1 t465 _ A11.out).mono ?_); rintro e w16 ⟨rfl, hb⟩; replace HO462 := RB HO462 hb; replace HB := BS HB hb; (try clear hb); (try clear hb2); (try clear hk); (try clear hi)))
       go_meet
       case rel => exact ⟨_, (!t465), (by rfl), H', ⟨by have := HJ2.out; first | omega | exact Nat.le_refl _⟩, ⟨by (with_reducible exact HB.out)⟩⟩
      ·replace c10 := Bool.eq_false_iff.mpr c10
       subst c10
       have H1 : (zi.j1 kj2 a0 a1 true) = some r := by rw [if_neg (show ¬ (false = true) by decide)] at H; exact H
       clear H
       have H := H1
       clear H1
       have H' := za.mk H
       clear H
       go_wp2_with (first | ((with_reducible refine znb (N := 27) rfl ?_); (try (refine zjc (by rfl) ?_; dsimp only)); refine Kd.R_lit Kd.string _ 9 ?hg (N := 27) ?hd (xs := ([a0, a1] : List ByteArray)) (inner := [.string a0, .string a1]) (ok := fun _ => True) (okp := fun _ => True) ?hr ?hp (fun _ hk => hk) trivial (Below.refl _ _) (Nat.le_refl _) (by simp) ?_; (case hd => rfl); (case hg => rfl); (case hr => first | (go_simp; done) | (go_simp; rfl)); (case hp => exact (Reps.one (show Kd.M Kd.string _ _ _ a0 [.string a0] from rfl) (Reps.one (show Kd.M Kd.string _ _ _ a1 [.string a1] from rfl) (Reps.none _ _)))); intro v461 w17 ho18 hb hg_ hnew_; clear hg_ hnew_; (first | rw [← Ny460.out] at ho18 | (simp only [Int.reduceToNat] at ho18; rw [← Ny460.out] at ho18)); have HO462 := za.mk (Kd.R_lower ho18 (zm (by (with_reducible exact HB.out)))); replace HB := BS HB hb; clear hb ho18; obtain ⟨Ao19, co19, eo19⟩ := Kd.R_slice HO462.out; subst eo19) | ((with_reducible refine zw (f := 13) rfl ?_); refine goesA (some 28) Tryz.func13 #[.slice Ao19 y460.length co19] ?_; (with_reducible refine (zoc.calls kj2 _ _ y460 true _ ?side1 ?side2 A7.out).mono ?_); (case side1 => exact CS HO462); (case side2 => exact (Kd.R_reads' HO462.out).2.1); rintro e w' ⟨rfl, ⟨nd, rfl⟩⟩; refine ⟨_, rfl, ?_⟩) | (go_at_call 8; (with_reducible refine (zk.calls kj2 a0 false _ A9.out).mono ?_); rintro e w20 ⟨rfl, hb⟩; replace HO462 := RB HO462 hb; replace HB := BS HB hb; (try clear hb); (try clear hb2); (try clear hk); (try clear hi)))
       go_meet
       case rel => exact ⟨_, (true), (by rfl), H', ⟨by have := HJ2.out; first | omega | exact Nat.le_refl _⟩, ⟨by (with_reducible exact HB.out)⟩⟩
     ·replace c8 := Bool.eq_false_iff.mpr c8
      subst c8
      have H1 : (zi.j1 kj2 a0 a1 true) = some r := by rw [if_neg (show ¬ (false = true) by decide)] at H; exact H
      clear H
      have H := H1
      clear H1
      have H' := za.mk H
      clear H
      go_wp2_with (first | ((with_reducible refine znb (N := 27) rfl ?_); (try (refine zjc (by rfl) ?_; dsimp only)); refine Kd.R_lit Kd.string _ 9 ?hg (N := 27) ?hd (xs := ([a0, a1] : List ByteArray)) (inner := [.string a0, .string a1]) (ok := fun _ => True) (okp := fun _ => True) ?hr ?hp (fun _ hk => hk) trivial (Below.refl _ _) (Nat.le_refl _) (by simp) ?_; (case hd => rfl); (case hg => rfl); (case hr => first | (go_simp; done) | (go_simp; rfl)); (case hp => exact (Reps.one (show Kd.M Kd.string _ _ _ a0 [.string a0] from rfl) (Reps.one (show Kd.M Kd.string _ _ _ a1 [.string a1] from rfl) (Reps.none _ _)))); intro v461 w21 ho22 hb hg_ hnew_; clear hg_ hnew_; (first | rw [← Ny460.out] at ho22 | (simp only [Int.reduceToNat] at ho22; rw [← Ny460.out] at ho22)); have HO462 := za.mk (Kd.R_lower ho22 (zm (by (with_reducible exact HB.out)))); replace HB := BS HB hb; clear hb ho22; obtain ⟨Ao23, co23, eo23⟩ := Kd.R_slice HO462.out; subst eo23) | ((with_reducible refine zw (f := 13) rfl ?_); refine goesA (some 28) Tryz.func13 #[.slice Ao23 y460.length co23] ?_; (with_reducible refine (zoc.calls kj2 _ _ y460 false _ ?side1 ?side2 A7.out).mono ?_); (case side1 => exact CS HO462); (case side2 => exact (Kd.R_reads' HO462.out).2.1); rintro e w' ⟨rfl, ⟨nd, rfl⟩⟩; refine ⟨_, rfl, ?_⟩))
      go_meet
      case rel => exact ⟨_, (true), (by rfl), H', ⟨by have := HJ2.out; first | omega | exact Nat.le_refl _⟩, ⟨by (with_reducible apply zd; with_reducible exact HB.out)⟩⟩
    case rest =>
     clear HC6
     obtain ⟨kq, x39_5, rfl, HA, HJ5, HB⟩ := hcut
     cases kq with
     | zero => exact absurd HA.out (by simp [zi.j1])
     | succ kj5 =>
      have H := HA.out
      clear HA
      simp only [zi.j1] at H
      by_cases c24 : x39_5 = true
      ·subst c24
       have H1 : (some true) = some r := by rw [if_pos rfl] at H; exact H
       clear H
       have H := H1
       clear H1
       obtain rfl := Option.some.inj H
       go_wp2
       go_ret
       exact ⟨by rfl, by (with_reducible exact HB.out)⟩
      ·replace c24 := Bool.eq_false_iff.mpr c24
       subst c24
       have H1 : ((zg.f kj5 a0).bind fun bt466 => ((zg.f kj5 a1).bind fun bt482 => (if bt466.2.2.2.2.2.2.2.2.2.2 = true then (if bt482.2.2.2.2.2.2.2.2.2.2 = true then ((znc.f kj5 bt466.1 bt466.2.1 bt466.2.2.1 bt466.2.2.2.1 bt466.2.2.2.2.1 bt466.2.2.2.2.2.1 bt466.2.2.2.2.2.2.1 bt466.2.2.2.2.2.2.2.1 bt466.2.2.2.2.2.2.2.2.1 bt466.2.2.2.2.2.2.2.2.2.1 bt482.1 bt482.2.1 bt482.2.2.1 bt482.2.2.2.1 bt482.2.2.2.2.1 bt482.2.2.2.2.2.1 bt482.2.2.2.2.2.2.1 bt482.2.2.2.2.2.2.2.1 bt482.2.2.2.2.2.2.2.2.1 bt482.2.2.2.2.2.2.2.2.2.1).bind fun t498 => (zi.j2 kj5 a0 a1 (!t498) bt466.1 bt466.2.1 bt466.2.2.1 bt466.2.2.2.1 bt466.2.2.2.2.1 bt466.2.2.2.2.2.1 bt466.2.2.2.2.2.2.1 bt466.2.2.2.2.2.2.2.1 bt466.2.2.2.2.2.2.2.2.1 bt466.2.2.2.2.2.2.2.2.2.1 bt482.1 bt482.2.1 bt482.2.2.1 bt482.2.2.2.1 bt482.2.2.2.2.1 bt482.2.2.2.2.2.1 bt482.2.2.2.2.2.2.1 bt482.2.2.2.2.2.2.2.1 bt482.2.2.2.2.2.2.2.2.1 bt482.2.2.2.2.2.2.2.2.2.1)) else (zi.j2 kj5 a0 a1 true bt466.1 bt466.2.1 bt466.2.2.1 bt466.2.2.2.1 bt466.2.2.2.2.1 bt466.2.2.2.2.2.1 bt466.2.2.2.2.2.2.1 bt466.2.2.2.2.2.2.2.1 bt466.2.2.2.2.2.2.2.2.1 bt466.2.2.2.2.2.2.2.2.2.1 bt482.1 bt482.2.1 bt482.2.2.1 bt482.2.2.2.1 bt482.2.2.2.2.1 bt482.2.2.2.2.2.1 bt482.2.2.2.2.2.2.1 bt482.2.2.2.2.2.2.2.1 bt482.2.2.2.2.2.2.2.2.1 bt482.2.2.2.2.2.2.2.2.2.1)) else (zi.j2 kj5 a0 a1 true bt466.1 bt466.2.1 bt466.2.2.1 bt466.2.2.2.1 bt466.2.2.2.2.1 bt466.2.2.2.2.2.1 bt466.2.2.2.2.2.2.1 bt466.2.2.2.2.2.2.2.1 bt466.2.2.2.2.2.2.2.2.1 bt466.2.2.2.2.2.2.2.2.2.1 bt482.1 bt482.2.1 bt482.2.2.1 bt482.2.2.2.1 bt482.2.2.2.2.1 bt482.2.2.2.2.2.1 bt482.2.2.2.2.2.2.1 bt482.2.2.2.2.2.2.2.1 bt482.2.2.2.2.2.2.2.2.1 bt482.2.2.2.2.2.2.2.2.2.1)))) = some r := by rw [if_neg (show ¬ (false = true) by decide)] at H; exact H
       clear H
       have H := H1
       clear H1
       replace H := Option.bind_eq_some_iff.mp H
       obtain ⟨⟨t466, t467, t468, t469, t470, t471, t474, t477, t478, t479, t480⟩, A250, H⟩ := H
       replace H : ((zg.f kj5 a1).bind fun bt482 => (if t480 = true then (if bt482.2.2.2.2.2.2.2.2.2.2 = true then ((znc.f kj5 t466 t467 t468 t469 t470 t471 t474 t477 t478 t479 bt482.1 bt482.2.1 bt482.2.2.1 bt482.2.2.2.1 bt482.2.2.2.2.1 bt482.2.2.2.2.2.1 bt482.2.2.2.2.2.2.1 bt482.2.2.2.2.2.2.2.1 bt482.2.2.2.2.2.2.2.2.1 bt482.2.2.2.2.2.2.2.2.2.1).bind fun t498 => (zi.j2 kj5 a0 a1 (!t498) t466 t467 t468 t469 t470 t471 t474 t477 t478 t479 bt482.1 bt482.2.1 bt482.2.2.1 bt482.2.2.2.1 bt482.2.2.2.2.1 bt482.2.2.2.2.2.1 bt482.2.2.2.2.2.2.1 bt482.2.2.2.2.2.2.2.1 bt482.2.2.2.2.2.2.2.2.1 bt482.2.2.2.2.2.2.2.2.2.1)) else (zi.j2 kj5 a0 a1 true t466 t467 t468 t469 t470 t471 t474 t477 t478 t479 bt482.1 bt482.2.1 bt482.2.2.1 bt482.2.2.2.1 bt482.2.2.2.2.1 bt482.2.2.2.2.2.1 bt482.2.2.2.2.2.2.1 bt482.2.2.2.2.2.2.2.1 bt482.2.2.2.2.2.2.2.2.1 bt482.2.2.2.2.2.2.2.2.2.1)) else (zi.j2 kj5 a0 a1 true t466 t467 t468 t469 t470 t471 t474 t477 t478 t479 bt482.1 bt482.2.1 bt482.2.2.1 bt482.2.2.2.1 bt482.2.2.2.2.1 bt482.2.2.2.2.2.1 bt482.2.2.2.2.2.2.1 bt482.2.2.2.2.2.2.2.1 bt482.2.2.2.2.2.2.2.2.1 bt482.2.2.2.2.2.2.2.2.2.1))) = some r := H
       have A25 := za.mk A250
       clear A250
       replace H := Option.bind_eq_some_iff.mp H
       obtain ⟨⟨t482, t483, t484, t485, t486, t487, t490, t493, t494, t495, t496⟩, A260, H⟩ := H
       replace H : (if t480 = true then (if t496 = true then ((znc.f kj5 t466 t467 t468 t469 t470 t471 t474 t477 t478 t479 t482 t483 t484 t485 t486 t487 t490 t493 t494 t495).bind fun t498 => (zi.j2 kj5 a0 a1 (!t498) t466 t467 t468 t469 t470 t471 t474 t477 t478 t479 t482 t483 t484 t485 t486 t487 t490 t493 t494 t495)) else (zi.j2 kj5 a0 a1 true t466 t467 t468 t469 t470 t471 t474 t477 t478 t479 t482 t483 t484 t485 t486 t487 t490 t493 t494 t495)) else (zi.j2 kj5 a0 a1 true t466 t467 t468 t469 t470 t471 t474 t477 t478 t479 t482 t483 t484 t485 t486 t487 t490 t493 t494 t495)) = some r := H
       have A26 := za.mk A260
       clear A260
       have HC27 := za.mk H
       clear H
       go_upto_region 7 with (first | ((with_reducible refine zw (f := 15) rfl ?_); refine goesA (some 42) Tryz.func15 #[.string a0] ?_; (with_reducible refine (zg.calls kj5 a0 t466 t467 t468 t469 t470 t471 t474 t477 t478 t479 t480 _ A25.out).mono ?_); rintro e w28 ⟨v472, v475, rfl, ho0, ho1, hb⟩; refine ⟨_, rfl, ?_⟩; have HO473 := za.mk (Kd.R_lower ho0 (zm (by (with_reducible exact HB.out)))); have HO476 := za.mk (Kd.R_lower ho1 (zm (by (with_reducible exact HB.out)))); replace HB := BS HB hb; (try clear hb); (try clear hb2); (try clear hk); (try clear hi); (try clear ho0); (try clear ho1)) | ((with_reducible refine znb (N := 5) rfl ?_); (try (refine zjc (by rfl) ?_; dsimp only)); refine zzb ?hg (N := 5) ?hd (cs := #[.string ⟨#[]⟩, .string ⟨#[]⟩, .string ⟨#[]⟩, .string ⟨#[]⟩, .bool false, .slice none 0 0, .slice none 0 0, .bool false, .bool false, .string ⟨#[]⟩]) (t := 33) ?hr ?_; (case hd => rfl); (case hg => rfl); (case hr => first | (go_simp; done) | (go_simp; rfl)); intro gb481 hg w29 hbox hb; replace HO473 := RB HO473 hb; replace HO476 := RB HO476 hb; have BK481 := za.mk hbox; have GW481 := za.mk ((by rw [hg]; exact (zm (by (with_reducible exact HB.out))) : w.heap.size ≤ gb481)); have GE481 := za.mk ((by rw [hg]; exact (zm (by (with_reducible exact HB.out))) : w.heap.size ≤ gb481)); replace HB := BS HB hb; clear hb hbox hg; obtain ⟨z30_0, z30_1, z30_2, z30_3, z30_4, z30_5, z30_6, z30_7, z30_8, z30_9, y30_0, y30_1, y30_2, y30_3, y30_4, y30_5, y30_6, y30_7, y30_8, y30_9⟩ := cl10 BK481.out; obtain ⟨Ao31, co31, eo31⟩ := Kd.R_slice HO473.out; subst eo31; obtain ⟨Ao32, co32, eo32⟩ := Kd.R_slice HO476.out; subst eo32) | ((with_reducible refine zw (f := 15) rfl ?_); refine goesA (some 47) Tryz.func15 #[.string a1] ?_; (with_reducible refine (zg.calls kj5 a1 t482 t483 t484 t485 t486 t487 t490 t493 t494 t495 t496 _ A26.out).mono ?_); rintro e w33 ⟨v488, v491, rfl, ho0, ho1, hb⟩; refine ⟨_, rfl, ?_⟩; have n0_ := za.mk (Kd.R_elder' (RW (Kd.R_mono (zrb (Kd.R_types HO473.out BK481.out (by decide))) (fun _ h_ => h_.1))) (Kd.R_base ho0) hb); have n1_ := za.mk (Kd.R_elder' (RW (Kd.R_mono (zrb (Kd.R_types HO476.out BK481.out (by decide))) (fun _ h_ => h_.1))) (Kd.R_base ho1) hb); have n2_ := za.mk (Kd.R_lower (Kd.R_new' ho0 (Kd.R_lt (RW (Kd.R_mono (zrb (Kd.R_types HO473.out BK481.out (by decide))) (fun _ h_ => h_.1))))) (zm (by repeat (first | (with_reducible first | exact HB.out | apply zj | apply zd | apply zab | refine zl ?_ GE481.out) | exact HB.out)))); have n3_ := za.mk (Kd.R_lower (Kd.R_new' ho1 (Kd.R_lt (RW (Kd.R_mono (zrb (Kd.R_types HO476.out BK481.out (by decide))) (fun _ h_ => h_.1))))) (zm (by repeat (first | (with_reducible first | exact HB.out | apply zj | apply zd | apply zab | refine zl ?_ GE481.out) | exact HB.out)))); have n4_ := za.mk (zc (g := gb481) (o := .cells #[.string t466, .string t467, .string t468, .string t469, .bool t470, .slice Ao31 t471.length co31, .slice Ao32 t474.length co32, .bool t477, .bool t478, .string t479] 33 (0, 0)) (by exact put10 BK481.out) hb); have n5_ := za.mk (zib (by repeat (first | (with_reducible first | exact HB.out | apply zj | apply zd | apply zab | refine zl ?_ GE481.out) | exact HB.out)) hb); clear HO473; clear HO476; clear BK481; clear HB; have HO473 := n0_; have HO476 := n1_; have HO489 := n2_; have HO492 := n3_; have BK481 := n4_; have HB := n5_; clear n0_ n1_ n2_ n3_ n4_ n5_; (try clear hb); (try clear hb2); (try clear hk); (try clear hi); (try clear ho0); (try clear ho1)) | ((with_reducible refine znb (N := 7) rfl ?_); (try (refine zjc (by rfl) ?_; dsimp only)); refine zzb ?hg (N := 7) ?hd (cs := #[.string ⟨#[]⟩, .string ⟨#[]⟩, .string ⟨#[]⟩, .string ⟨#[]⟩, .bool false, .slice none 0 0, .slice none 0 0, .bool false, .bool false, .string ⟨#[]⟩]) (t := 33) ?hr ?_; (case hd => rfl); (case hg => rfl); (case hr => first | (go_simp; done) | (go_simp; rfl)); intro gb497 hg w34 hbox hb; have n0_ := za.mk (Kd.R_below (RW HO473.out) hb); have n1_ := za.mk (Kd.R_below (RW HO476.out) hb); have n2_ := za.mk (Kd.R_below (RW HO489.out) hb); have n3_ := za.mk (Kd.R_below (RW HO492.out) hb); have n4_ := za.mk (zc BK481.out hb); have n5_ := za.mk (zib (by (with_reducible exact HB.out)) hb); have n6_ := za.mk hbox; have n7_ := za.mk ((by rw [hg]; exact (zm (by (with_reducible exact HB.out))) : w.heap.size ≤ gb497)); have n8_ := za.mk ((by rw [hg]; exact (zm (by (with_reducible exact HB.out))) : w.heap.size ≤ gb497)); have n9_ := za.mk ((by rw [hg]; exact Nat.ne_of_lt (zyb BK481.out) : gb481 ≠ gb497)); have n10_ := za.mk ((by rw [hg]; exact Nat.ne_of_gt (zyb BK481.out) : gb497 ≠ gb481)); clear HO473; clear HO476; clear HO489; clear HO492; clear BK481; clear HB; have HO473 := n0_; have HO476 := n1_; have HO489 := n2_; have HO492 := n3_; have BK481 := n4_; have HB := n5_; have BK497 := n6_; have GW497 := n7_; have GE497 := n8_; have NB481_497 := n9_; have NB497_481 := n10_; clear n0_ n1_ n2_ n3_ n4_ n5_ n6_ n7_ n8_ n9_ n10_; clear hb hbox hg; have hnb35 := NB497_481.out; have hnc35 := NB481_497.out; obtain ⟨z36_0, z36_1, z36_2, z36_3, z36_4, z36_5, z36_6, z36_7, z36_8, z36_9, y36_0, y36_1, y36_2, y36_3, y36_4, y36_5, y36_6, y36_7, y36_8, y36_9⟩ := cl10 BK497.out; obtain ⟨Ao37, co37, eo37⟩ := Kd.R_slice HO489.out; subst eo37; obtain ⟨Ao38, co38, eo38⟩ := Kd.R_slice HO492.out; subst eo38))
       (try simp only [Act.put, List.setIfInBounds_toArray, List.set_cons_zero, List.set_cons_succ])
       go_cut [61] (fun v61 wc => ∃ (kq : Nat) (x61_26 : Bool), v61 = .bool x61_26 ∧ za (zi.j2 kq a0 a1 x61_26 t466 t467 t468 t469 t470 t471 t474 t477 t478 t479 t482 t483 t484 t485 t486 t487 t490 t493 t494 t495 = some r) ∧ za (kq ≤ kj5) ∧ za (Kd.R k52 52 wc w.heap.size (fun k_ => some k_ ≠ ((.slice Ao37 t487.length co37) : Value).ownBlock) (.slice Ao31 t471.length co31) t471) ∧ za (Kd.R k56 56 wc w.heap.size (fun k_ => some k_ ≠ ((.slice Ao38 t490.length co38) : Value).ownBlock) (.slice Ao32 t474.length co32) t474) ∧ za (Kd.R k52 52 wc w.heap.size (fun k_ => some k_ ≠ ((.slice Ao31 t471.length co31) : Value).ownBlock) (.slice Ao37 t487.length co37) t487) ∧ za (Kd.R k56 56 wc w.heap.size (fun k_ => some k_ ≠ ((.slice Ao32 t474.length co32) : Value).ownBlock) (.slice Ao38 t490.length co38) t490) ∧ za (wc.heap[gb481]? = some (.cells #[.string t466, .string t467, .string t468, .string t469, .bool t470, (.slice Ao31 t471.length co31), (.slice Ao32 t474.length co32), .bool t477, .bool t478, .string t479] 33 (0, 0))) ∧ za (wc.heap[gb497]? = some (.cells #[.string t482, .string t483, .string t484, .string t485, .bool t486, (.slice Ao37 t487.length co37), (.slice Ao38 t490.length co38), .bool t493, .bool t494, .string t495] 33 (0, 0))) ∧ za (Below w.heap.size w wc))
       case first =>
        have H := HC27.out
        clear HC27
        by_cases c39 : t480 = true
        ·subst c39
         have H1 : (if t496 = true then ((znc.f kj5 t466 t467 t468 t469 t470 t471 t474 t477 t478 t479 t482 t483 t484 t485 t486 t487 t490 t493 t494 t495).bind fun t498 => (zi.j2 kj5 a0 a1 (!t498) t466 t467 t468 t469 t470 t471 t474 t477 t478 t479 t482 t483 t484 t485 t486 t487 t490 t493 t494 t495)) else (zi.j2 kj5 a0 a1 true t466 t467 t468 t469 t470 t471 t474 t477 t478 t479 t482 t483 t484 t485 t486 t487 t490 t493 t494 t495)) = some r := by rw [if_pos rfl] at H; exact H
         clear H
         have H := H1
         clear H1
         by_cases c40 : t496 = true
         ·subst c40
          have H1 : ((znc.f kj5 t466 t467 t468 t469 t470 t471 t474 t477 t478 t479 t482 t483 t484 t485 t486 t487 t490 t493 t494 t495).bind fun t498 => (zi.j2 kj5 a0 a1 (!t498) t466 t467 t468 t469 t470 t471 t474 t477 t478 t479 t482 t483 t484 t485 t486 t487 t490 t493 t494 t495)) = some r := by rw [if_pos rfl] at H; exact H
          clear H
          have H := H1
          clear H1
          replace H := Option.bind_eq_some_iff.mp H
          obtain ⟨t498, A410, H⟩ := H
          replace H : (zi.j2 kj5 a0 a1 (!t498) t466 t467 t468 t469 t470 t471 t474 t477 t478 t479 t482 t483 t484 t485 t486 t487 t490 t493 t494 t495) = some r := H
          have A41 := za.mk A410
          clear A410
          have H' := za.mk H
          clear H
          have hnb42 := NB481_497.out
          have hnc42 := NB497_481.out
          obtain ⟨z43_0, z43_1, z43_2, z43_3, z43_4, z43_5, z43_6, z43_7, z43_8, z43_9, y43_0, y43_1, y43_2, y43_3, y43_4, y43_5, y43_6, y43_7, y43_8, y43_9⟩ := cl10 BK481.out
          obtain ⟨z44_0, z44_1, z44_2, z44_3, z44_4, z44_5, z44_6, z44_7, z44_8, z44_9, y44_0, y44_1, y44_2, y44_3, y44_4, y44_5, y44_6, y44_7, y44_8, y44_9⟩ := cl10 BK497.out
          go_wp2_with ((go_at_call 9; (with_reducible refine (znc.calls kj5 t466 t467 t468 t469 t470 _ _ t471 _ _ t474 t477 t478 t479 t482 t483 t484 t485 t486 _ _ t487 _ _ t490 t493 t494 t495 t498 _ ?side1 ?side2 ?side3 ?side4 ?side5 ?side6 ?side7 ?side8 A41.out).mono ?_); (case side1 => refine (Kd.R_reads' (e := 52) (base := w.heap.size) (ok := fun k_ => (True ∧ some k_ ≠ (.slice Ao37 t487.length co37 : Value).ownBlock)) (n := t471.length) (c := co31) ?_).2.2; exact (RW (Kd.R_mono (zrb (Kd.R_types HO473.out BK497.out (by decide))) (fun _ h_ => h_.1)))); (case side2 => exact (Kd.R_reads' HO473.out).2.1); (case side3 => refine (Kd.R_reads' (e := 56) (base := w.heap.size) (ok := fun k_ => (True ∧ some k_ ≠ (.slice Ao38 t490.length co38 : Value).ownBlock)) (n := t474.length) (c := co32) ?_).2.2; exact (RW (Kd.R_mono (zrb (Kd.R_types HO476.out BK497.out (by decide))) (fun _ h_ => h_.1)))); (case side4 => exact (Kd.R_reads' HO476.out).2.1); (case side5 => refine (Kd.R_reads' (e := 52) (base := w.heap.size) (ok := fun k_ => (True ∧ some k_ ≠ (.slice Ao31 t471.length co31 : Value).ownBlock)) (n := t487.length) (c := co37) ?_).2.2; exact (RW (Kd.R_mono (zrb (Kd.R_types HO489.out BK497.out (by decide))) (fun _ h_ => h_.1)))); (case side6 => exact (Kd.R_reads' HO489.out).2.1); (case side7 => refine (Kd.R_reads' (e := 56) (base := w.heap.size) (ok := fun k_ => (True ∧ some k_ ≠ (.slice Ao32 t474.length co32 : Value).ownBlock)) (n := t490.length) (c := co38) ?_).2.2; exact (RW (Kd.R_mono (zrb (Kd.R_types HO492.out BK497.out (by decide))) (fun _ h_ => h_.1)))); (case side8 => exact (Kd.R_reads' HO492.out).2.1); rintro e w45 ⟨rfl, hb⟩; replace HO473 := za.mk (Kd.R_below (RW (Kd.R_mono (zrb (Kd.R_types HO473.out BK497.out (by decide))) (fun _ h_ => h_.1))) hb); replace HO476 := za.mk (Kd.R_below (RW (Kd.R_mono (zrb (Kd.R_types HO476.out BK497.out (by decide))) (fun _ h_ => h_.1))) hb); replace HO489 := za.mk (Kd.R_below (RW (Kd.R_mono (zrb (Kd.R_types HO489.out BK497.out (by decide))) (fun _ h_ => h_.1))) hb); replace HO492 := za.mk (Kd.R_below (RW (Kd.R_mono (zrb (Kd.R_types HO492.out BK497.out (by decide))) (fun _ h_ => h_.1))) hb); replace BK481 := za.mk (zc (g := gb481) (o := .cells #[.string t466, .string t467, .string t468, .string t469, .bool t470, .slice Ao31 t471.length co31, .slice Ao32 t474.length co32, .bool t477, .bool t478, .string t479] 33 (0, 0)) (by (iterate 10 refine zwb ?_ NB481_497.out _); exact BK481.out) hb); replace BK497 := za.mk (zc (g := gb497) (o := .cells #[.string t482, .string t483, .string t484, .string t485, .bool t486, .slice Ao37 t487.length co37, .slice Ao38 t490.length co38, .bool t493, .bool t494, .string t495] 33 (0, 0)) (by exact put10 BK497.out) hb); replace HB := za.mk (zib (by repeat (first | (with_reducible first | exact HB.out | apply zj | apply zd | apply zab | refine zl ?_ GE481.out | refine zl ?_ GE497.out) | exact HB.out)) hb); (try clear hb); (try clear hb2); (try clear hk); (try clear hi)))
          go_meet
          case rel => exact ⟨_, (!t498), (by rfl), H', ⟨by have := HJ2.out; have := HJ5.out; first | omega | exact Nat.le_refl _⟩, ⟨by (with_reducible repeat (first | apply Kd.R_alloc | apply Kd.R_drewN | apply Kd.R_drew)); exact Kd.R_mono HO473.out (fun _ hk => hk.2)⟩, ⟨by (with_reducible repeat (first | apply Kd.R_alloc | apply Kd.R_drewN | apply Kd.R_drew)); exact Kd.R_mono HO476.out (fun _ hk => hk.2)⟩, ⟨by (with_reducible repeat (first | apply Kd.R_alloc | apply Kd.R_drewN | apply Kd.R_drew)); exact Kd.R_mono HO489.out (fun _ hk => hk.2)⟩, ⟨by (with_reducible repeat (first | apply Kd.R_alloc | apply Kd.R_drewN | apply Kd.R_drew)); exact Kd.R_mono HO492.out (fun _ hk => hk.2)⟩, ⟨by exact BK481.out⟩, ⟨by exact BK497.out⟩, ⟨by (with_reducible exact HB.out)⟩⟩
         ·replace c40 := Bool.eq_false_iff.mpr c40
          subst c40
          have H1 : (zi.j2 kj5 a0 a1 true t466 t467 t468 t469 t470 t471 t474 t477 t478 t479 t482 t483 t484 t485 t486 t487 t490 t493 t494 t495) = some r := by rw [if_neg (show ¬ (false = true) by decide)] at H; exact H
          clear H
          have H := H1
          clear H1
          have H' := za.mk H
          clear H
          go_wp2
          go_meet
          case rel => exact ⟨_, (true), (by rfl), H', ⟨by have := HJ2.out; have := HJ5.out; first | omega | exact Nat.le_refl _⟩, ⟨by (with_reducible repeat (first | apply Kd.R_alloc | apply Kd.R_drewN | apply Kd.R_drew)); exact Kd.R_mono (zrb (Kd.R_types HO473.out BK497.out (by decide))) (fun _ hk => hk.1.2)⟩, ⟨by (with_reducible repeat (first | apply Kd.R_alloc | apply Kd.R_drewN | apply Kd.R_drew)); exact Kd.R_mono (zrb (Kd.R_types HO476.out BK497.out (by decide))) (fun _ hk => hk.1.2)⟩, ⟨by (with_reducible repeat (first | apply Kd.R_alloc | apply Kd.R_drewN | apply Kd.R_drew)); exact Kd.R_mono (zrb (Kd.R_types HO489.out BK497.out (by decide))) (fun _ hk => hk.1.2)⟩, ⟨by (with_reducible repeat (first | apply Kd.R_alloc | apply Kd.R_drewN | apply Kd.R_drew)); exact Kd.R_mono (zrb (Kd.R_types HO492.out BK497.out (by decide))) (fun _ hk => hk.1.2)⟩, ⟨by (iterate 10 refine zwb ?_ NB481_497.out _); exact BK481.out⟩, ⟨by exact put10 BK497.out⟩, ⟨by repeat (first | (with_reducible first | exact HB.out | apply zj | apply zd | apply zab | refine zl ?_ GE481.out | refine zl ?_ GE497.out) | exact HB.out)⟩⟩
        ·replace c39 := Bool.eq_false_iff.mpr c39
         subst c39
         have H1 : (zi.j2 kj5 a0 a1 true t466 t467 t468 t469 t470 t471 t474 t477 t478 t479 t482 t483 t484 t485 t486 t487 t490 t493 t494 t495) = some r := by rw [if_neg (show ¬ (false = true) by decide)] at H; exact H
         clear H
         have H := H1
         clear H1
         have H' := za.mk H
         clear H
         go_wp2
         go_meet
         case rel => exact ⟨_, (true), (by rfl), H', ⟨by have := HJ2.out; have := HJ5.out; first | omega | exact Nat.le_refl _⟩, ⟨by (with_reducible repeat (first | apply Kd.R_alloc | apply Kd.R_drewN | apply Kd.R_drew)); exact Kd.R_mono (zrb (Kd.R_types HO473.out BK497.out (by decide))) (fun _ hk => hk.1.2)⟩, ⟨by (with_reducible repeat (first | apply Kd.R_alloc | apply Kd.R_drewN | apply Kd.R_drew)); exact Kd.R_mono (zrb (Kd.R_types HO476.out BK497.out (by decide))) (fun _ hk => hk.1.2)⟩, ⟨by (with_reducible repeat (first | apply Kd.R_alloc | apply Kd.R_drewN | apply Kd.R_drew)); exact Kd.R_mono (zrb (Kd.R_types HO489.out BK497.out (by decide))) (fun _ hk => hk.1.2)⟩, ⟨by (with_reducible repeat (first | apply Kd.R_alloc | apply Kd.R_drewN | apply Kd.R_drew)); exact Kd.R_mono (zrb (Kd.R_types HO492.out BK497.out (by decide))) (fun _ hk => hk.1.2)⟩, ⟨by (iterate 10 refine zwb ?_ NB481_497.out _); exact BK481.out⟩, ⟨by exact put10 BK497.out⟩, ⟨by repeat (first | (with_reducible first | exact HB.out | apply zj | apply zd | apply zab | refine zl ?_ GE481.out | refine zl ?_ GE497.out) | exact HB.out)⟩⟩
       case rest =>
        clear HC27
        clear z30_0 z30_1 z30_2 z30_3 z30_4 z30_5 z30_6 z30_7 z30_8 z30_9 z36_0 z36_1 z36_2 z36_3 z36_4 z36_5 z36_6 z36_7 z36_8 z36_9 y30_0 y30_1 y30_2 y30_3 y30_4 y30_5 y30_6 y30_7 y30_8 y30_9 y36_0 y36_1 y36_2 y36_3 y36_4 y36_5 y36_6 y36_7 y36_8 y36_9
        obtain ⟨kq, x61_26, rfl, HA, HJ26, HO_482005, HO_482006, HO_498005, HO_498006, BK481, BK497, HB⟩ := hcut
        cases kq with
        | zero => exact absurd HA.out (by simp [zi.j2])
        | succ kj26 =>
         have H := HA.out
         clear HA
         simp only [zi.j2] at H
         by_cases c46 : x61_26 = true
         ·subst c46
          have H1 : (some true) = some r := by rw [if_pos rfl] at H; exact H
          clear H
          have H := H1
          clear H1
          obtain rfl := Option.some.inj H
          go_wp2
          go_ret
          exact ⟨by rfl, by (with_reducible exact HB.out)⟩
         ·replace c46 := Bool.eq_false_iff.mpr c46
          subst c46
          have H1 : ((zbc.f a0).bind fun bt499 => ((zbc.f a1).bind fun bt515 => ((zcb.f a0 a1).bind fun bt531 => ((zcb.f a1 a0).bind fun bt533 => (if bt499.2.2.2.2.2.2.2.2.2.2 = true then (if bt515.2.2.2.2.2.2.2.2.2.2 = true then (if bt531.2 = true then (if bt533.2 = true then ((ze.f kj26 t466 t467 t468 t469 t470 t471 t474 t477 t478 t479 t482 t483 t484 t485 t486 t487 t490 t493 t494 t495).bind fun t535 => (if bt531.1 = t535 then ((zmb.f bt499.1 bt499.2.1 bt499.2.2.1 bt499.2.2.2.1 bt499.2.2.2.2.1 bt499.2.2.2.2.2.1 bt499.2.2.2.2.2.2.1 bt499.2.2.2.2.2.2.2.1 bt499.2.2.2.2.2.2.2.2.1 bt499.2.2.2.2.2.2.2.2.2.1 bt515.1 bt515.2.1 bt515.2.2.1 bt515.2.2.2.1 bt515.2.2.2.2.1 bt515.2.2.2.2.2.1 bt515.2.2.2.2.2.2.1 bt515.2.2.2.2.2.2.2.1 bt515.2.2.2.2.2.2.2.2.1 bt515.2.2.2.2.2.2.2.2.2.1).bind fun t536 => (if bt531.1 = t536 then ((zrc.f bt531.1 bt533.1).bind fun t537 => (some t537)) else (some false))) else (some false))) else (some false)) else (some false)) else (some false)) else (some false)))))) = some r := by rw [if_neg (show ¬ (false = true) by decide)] at H; exact H
          clear H
          have H := H1
          clear H1
          replace H := Option.bind_eq_some_iff.mp H
          obtain ⟨⟨t499, t500, t501, t502, t503, t504, t507, t510, t511, t512, t513⟩, A470, H⟩ := H
          replace H : ((zbc.f a1).bind fun bt515 => ((zcb.f a0 a1).bind fun bt531 => ((zcb.f a1 a0).bind fun bt533 => (if t513 = true then (if bt515.2.2.2.2.2.2.2.2.2.2 = true then (if bt531.2 = true then (if bt533.2 = true then ((ze.f kj26 t466 t467 t468 t469 t470 t471 t474 t477 t478 t479 t482 t483 t484 t485 t486 t487 t490 t493 t494 t495).bind fun t535 => (if bt531.1 = t535 then ((zmb.f t499 t500 t501 t502 t503 t504 t507 t510 t511 t512 bt515.1 bt515.2.1 bt515.2.2.1 bt515.2.2.2.1 bt515.2.2.2.2.1 bt515.2.2.2.2.2.1 bt515.2.2.2.2.2.2.1 bt515.2.2.2.2.2.2.2.1 bt515.2.2.2.2.2.2.2.2.1 bt515.2.2.2.2.2.2.2.2.2.1).bind fun t536 => (if bt531.1 = t536 then ((zrc.f bt531.1 bt533.1).bind fun t537 => (some t537)) else (some false))) else (some false))) else (some false)) else (some false)) else (some false)) else (some false))))) = some r := H
          have A47 := za.mk A470
          clear A470
          replace H := Option.bind_eq_some_iff.mp H
          obtain ⟨⟨t515, t516, t517, t518, t519, t520, t523, t526, t527, t528, t529⟩, A480, H⟩ := H
          replace H : ((zcb.f a0 a1).bind fun bt531 => ((zcb.f a1 a0).bind fun bt533 => (if t513 = true then (if t529 = true then (if bt531.2 = true then (if bt533.2 = true then ((ze.f kj26 t466 t467 t468 t469 t470 t471 t474 t477 t478 t479 t482 t483 t484 t485 t486 t487 t490 t493 t494 t495).bind fun t535 => (if bt531.1 = t535 then ((zmb.f t499 t500 t501 t502 t503 t504 t507 t510 t511 t512 t515 t516 t517 t518 t519 t520 t523 t526 t527 t528).bind fun t536 => (if bt531.1 = t536 then ((zrc.f bt531.1 bt533.1).bind fun t537 => (some t537)) else (some false))) else (some false))) else (some false)) else (some false)) else (some false)) else (some false)))) = some r := H
          have A48 := za.mk A480
          clear A480
          replace H := Option.bind_eq_some_iff.mp H
          obtain ⟨⟨t531, t532⟩, A490, H⟩ := H
          replace H : ((zcb.f a1 a0).bind fun bt533 => (if t513 = true then (if t529 = true then (if t532 = true then (if bt533.2 = true then ((ze.f kj26 t466 t467 t468 t469 t470 t471 t474 t477 t478 t479 t482 t483 t484 t485 t486 t487 t490 t493 t494 t495).bind fun t535 => (if t531 = t535 then ((zmb.f t499 t500 t501 t502 t503 t504 t507 t510 t511 t512 t515 t516 t517 t518 t519 t520 t523 t526 t527 t528).bind fun t536 => (if t531 = t536 then ((zrc.f t531 bt533.1).bind fun t537 => (some t537)) else (some false))) else (some false))) else (some false)) else (some false)) else (some false)) else (some false))) = some r := H
          have A49 := za.mk A490
          clear A490
          replace H := Option.bind_eq_some_iff.mp H
          obtain ⟨⟨t533, t534⟩, A500, H⟩ := H
          replace H : (if t513 = true then (if t529 = true then (if t532 = true then (if t534 = true then ((ze.f kj26 t466 t467 t468 t469 t470 t471 t474 t477 t478 t479 t482 t483 t484 t485 t486 t487 t490 t493 t494 t495).bind fun t535 => (if t531 = t535 then ((zmb.f t499 t500 t501 t502 t503 t504 t507 t510 t511 t512 t515 t516 t517 t518 t519 t520 t523 t526 t527 t528).bind fun t536 => (if t531 = t536 then ((zrc.f t531 t533).bind fun t537 => (some t537)) else (some false))) else (some false))) else (some false)) else (some false)) else (some false)) else (some false)) = some r := H
          have A50 := za.mk A500
          clear A500
          by_cases c51 : t513 = true
          ·subst c51
           have H1 : (if t529 = true then (if t532 = true then (if t534 = true then ((ze.f kj26 t466 t467 t468 t469 t470 t471 t474 t477 t478 t479 t482 t483 t484 t485 t486 t487 t490 t493 t494 t495).bind fun t535 => (if t531 = t535 then ((zmb.f t499 t500 t501 t502 t503 t504 t507 t510 t511 t512 t515 t516 t517 t518 t519 t520 t523 t526 t527 t528).bind fun t536 => (if t531 = t536 then ((zrc.f t531 t533).bind fun t537 => (some t537)) else (some false))) else (some false))) else (some false)) else (some false)) else (some false)) = some r := by rw [if_pos rfl] at H; exact H
           clear H
           have H := H1
           clear H1
           by_cases c52 : t529 = true
           ·subst c52
            have H1 : (if t532 = true then (if t534 = true then ((ze.f kj26 t466 t467 t468 t469 t470 t471 t474 t477 t478 t479 t482 t483 t484 t485 t486 t487 t490 t493 t494 t495).bind fun t535 => (if t531 = t535 then ((zmb.f t499 t500 t501 t502 t503 t504 t507 t510 t511 t512 t515 t516 t517 t518 t519 t520 t523 t526 t527 t528).bind fun t536 => (if t531 = t536 then ((zrc.f t531 t533).bind fun t537 => (some t537)) else (some false))) else (some false))) else (some false)) else (some false)) = some r := by rw [if_pos rfl] at H; exact H
            clear H
            have H := H1
            clear H1
            by_cases c53 : t532 = true
            ·subst c53
             have H1 : (if t534 = true then ((ze.f kj26 t466 t467 t468 t469 t470 t471 t474 t477 t478 t479 t482 t483 t484 t485 t486 t487 t490 t493 t494 t495).bind fun t535 => (if t531 = t535 then ((zmb.f t499 t500 t501 t502 t503 t504 t507 t510 t511 t512 t515 t516 t517 t518 t519 t520 t523 t526 t527 t528).bind fun t536 => (if t531 = t536 then ((zrc.f t531 t533).bind fun t537 => (some t537)) else (some false))) else (some false))) else (some false)) = some r := by rw [if_pos rfl] at H; exact H
             clear H
             have H := H1
             clear H1
             by_cases c54 : t534 = true
             ·subst c54
              have H1 : ((ze.f kj26 t466 t467 t468 t469 t470 t471 t474 t477 t478 t479 t482 t483 t484 t485 t486 t487 t490 t493 t494 t495).bind fun t535 => (if t531 = t535 then ((zmb.f t499 t500 t501 t502 t503 t504 t507 t510 t511 t512 t515 t516 t517 t518 t519 t520 t523 t526 t527 t528).bind fun t536 => (if t531 = t536 then ((zrc.f t531 t533).bind fun t537 => (some t537)) else (some false))) else (some false))) = some r := by rw [if_pos rfl] at H; exact H
              clear H
              have H := H1
              clear H1
              replace H := Option.bind_eq_some_iff.mp H
              obtain ⟨t535, A550, H⟩ := H
              replace H : (if t531 = t535 then ((zmb.f t499 t500 t501 t502 t503 t504 t507 t510 t511 t512 t515 t516 t517 t518 t519 t520 t523 t526 t527 t528).bind fun t536 => (if t531 = t536 then ((zrc.f t531 t533).bind fun t537 => (some t537)) else (some false))) else (some false)) = some r := H
              have A55 := za.mk A550
              clear A550
              by_cases c56 : t531 = t535
              ·rw [if_pos c56] at H
               have c56b0 : (t531 == t535) = true := beq_iff_eq.mpr c56
               have c56b1 : (t531 != t535) = false := bne_eq_false_iff_eq.mpr c56
               clear c56
               replace H := Option.bind_eq_some_iff.mp H
               obtain ⟨t536, A570, H⟩ := H
               replace H : (if t531 = t536 then ((zrc.f t531 t533).bind fun t537 => (some t537)) else (some false)) = some r := H
               have A57 := za.mk A570
               clear A570
               by_cases c58 : t531 = t536
               ·rw [if_pos c58] at H
                have c58b0 : (t531 == t536) = true := beq_iff_eq.mpr c58
                have c58b1 : (t531 != t536) = false := bne_eq_false_iff_eq.mpr c58
                clear c58
                replace H := Option.bind_eq_some_iff.mp H
                obtain ⟨t537, A590, H⟩ := H
                replace H : (some t537) = some r := H
                have A59 := za.mk A590
                clear A590
                obtain rfl := Option.some.inj H
                go_wp2_with (first | ((with_reducible refine zw (f := 14) rfl ?_); refine goesA (some 64) Tryz.func14 #[.string a0] ?_; (with_reducible refine (zbc.calls a0 t499 t500 t501 t502 t503 t504 t507 t510 t511 t512 true _ A47.out (by exact GL.at HG.out (by repeat (first | (with_reducible first | exact HB.out | apply zj | apply zd | apply zab | refine zl ?_ GE481.out | refine zl ?_ GE497.out | refine zl ?_ GE514.out | refine zl ?_ GE530.out) | exact HB.out)))).mono ?_); rintro e w60 ⟨v505, v508, rfl, ho0, ho1, hb⟩; refine ⟨_, rfl, ?_⟩; have n0_ := za.mk (Kd.R_elder' (RW HO_482005.out) (Kd.R_base ho0) hb); have n1_ := za.mk (Kd.R_elder' (RW HO_482006.out) (Kd.R_base ho1) hb); have n2_ := za.mk (Kd.R_elder' (RW HO_498005.out) (Kd.R_base ho0) hb); have n3_ := za.mk (Kd.R_elder' (RW HO_498006.out) (Kd.R_base ho1) hb); have n4_ := za.mk (Kd.R_lower (Kd.R_new' (Kd.R_new' ho0 (Kd.R_lt (RW HO_482005.out))) (Kd.R_lt (RW HO_498005.out))) (zm (by (with_reducible exact HB.out)))); have n5_ := za.mk (Kd.R_lower (Kd.R_new' (Kd.R_new' ho1 (Kd.R_lt (RW HO_482006.out))) (Kd.R_lt (RW HO_498006.out))) (zm (by (with_reducible exact HB.out)))); have n6_ := za.mk (zc BK481.out hb); have n7_ := za.mk (zc BK497.out hb); have n8_ := za.mk (zib (by (with_reducible exact HB.out)) hb); clear HO_482005; clear HO_482006; clear HO_498005; clear HO_498006; clear BK481; clear BK497; clear HB; have HO_482005 := n0_; have HO_482006 := n1_; have HO_498005 := n2_; have HO_498006 := n3_; have HO506 := n4_; have HO509 := n5_; have BK481 := n6_; have BK497 := n7_; have HB := n8_; clear n0_ n1_ n2_ n3_ n4_ n5_ n6_ n7_ n8_; (try clear hb); (try clear hb2); (try clear hk); (try clear hi); (try clear ho0); (try clear ho1)) | ((with_reducible refine znb (N := 9) rfl ?_); (try (refine zjc (by rfl) ?_; dsimp only)); refine zzb ?hg (N := 9) ?hd (cs := #[.string ⟨#[]⟩, .string ⟨#[]⟩, .string ⟨#[]⟩, .string ⟨#[]⟩, .bool false, .slice none 0 0, .slice none 0 0, .bool false, .bool false, .string ⟨#[]⟩]) (t := 33) ?hr ?_; (case hd => rfl); (case hg => rfl); (case hr => first | (go_simp; done) | (go_simp; rfl)); intro gb514 hg w61 hbox hb; have n0_ := za.mk (Kd.R_below (RW HO_482005.out) hb); have n1_ := za.mk (Kd.R_below (RW HO_482006.out) hb); have n2_ := za.mk (Kd.R_below (RW HO_498005.out) hb); have n3_ := za.mk (Kd.R_below (RW HO_498006.out) hb); have n4_ := za.mk (Kd.R_below (RW HO506.out) hb); have n5_ := za.mk (Kd.R_below (RW HO509.out) hb); have n6_ := za.mk (zc BK481.out hb); have n7_ := za.mk (zc BK497.out hb); have n8_ := za.mk (zib (by (with_reducible exact HB.out)) hb); have n9_ := za.mk hbox; have n10_ := za.mk ((by rw [hg]; exact (zm (by (with_reducible exact HB.out))) : w.heap.size ≤ gb514)); have n11_ := za.mk ((by rw [hg]; exact (zm (by (with_reducible exact HB.out))) : w.heap.size ≤ gb514)); have n12_ := za.mk ((by rw [hg]; exact Nat.ne_of_lt (zyb BK481.out) : gb481 ≠ gb514)); have n13_ := za.mk ((by rw [hg]; exact Nat.ne_of_gt (zyb BK481.out) : gb514 ≠ gb481)); have n14_ := za.mk ((by rw [hg]; exact Nat.ne_of_lt (zyb BK497.out) : gb497 ≠ gb514)); have n15_ := za.mk ((by rw [hg]; exact Nat.ne_of_gt (zyb BK497.out) : gb514 ≠ gb497)); clear HO_482005; clear HO_482006; clear HO_498005; clear HO_498006; clear HO506; clear HO509; clear BK481; clear BK497; clear HB; have HO_482005 := n0_; have HO_482006 := n1_; have HO_498005 := n2_; have HO_498006 := n3_; have HO506 := n4_; have HO509 := n5_; have BK481 := n6_; have BK497 := n7_; have HB := n8_; have BK514 := n9_; have GW514 := n10_; have GE514 := n11_; have NB481_514 := n12_; have NB514_481 := n13_; have NB497_514 := n14_; have NB514_497 := n15_; clear n0_ n1_ n2_ n3_ n4_ n5_ n6_ n7_ n8_ n9_ n10_ n11_ n12_ n13_ n14_ n15_; clear hb hbox hg; have hnb62 := NB514_481.out; have hnc62 := NB481_514.out; have hnb63 := NB514_497.out; have hnc63 := NB497_514.out; obtain ⟨z64_0, z64_1, z64_2, z64_3, z64_4, z64_5, z64_6, z64_7, z64_8, z64_9, y64_0, y64_1, y64_2, y64_3, y64_4, y64_5, y64_6, y64_7, y64_8, y64_9⟩ := cl10 BK514.out; obtain ⟨Ao65, co65, eo65⟩ := Kd.R_slice HO506.out; subst eo65; obtain ⟨Ao66, co66, eo66⟩ := Kd.R_slice HO509.out; subst eo66) | ((with_reducible refine zw (f := 14) rfl ?_); refine goesA (some 69) Tryz.func14 #[.string a1] ?_; (with_reducible refine (zbc.calls a1 t515 t516 t517 t518 t519 t520 t523 t526 t527 t528 true _ A48.out (by exact GL.at HG.out (by repeat (first | (with_reducible first | exact HB.out | apply zj | apply zd | apply zab | refine zl ?_ GE481.out | refine zl ?_ GE497.out | refine zl ?_ GE514.out | refine zl ?_ GE530.out) | exact HB.out)))).mono ?_); rintro e w67 ⟨v521, v524, rfl, ho0, ho1, hb⟩; refine ⟨_, rfl, ?_⟩; have n0_ := za.mk (Kd.R_elder' (RW (Kd.R_mono (zrb (Kd.R_types HO_482005.out BK514.out (by decide))) (fun _ h_ => h_.1))) (Kd.R_base ho0) hb); have n1_ := za.mk (Kd.R_elder' (RW (Kd.R_mono (zrb (Kd.R_types HO_482006.out BK514.out (by decide))) (fun _ h_ => h_.1))) (Kd.R_base ho1) hb); have n2_ := za.mk (Kd.R_elder' (RW (Kd.R_mono (zrb (Kd.R_types HO_498005.out BK514.out (by decide))) (fun _ h_ => h_.1))) (Kd.R_base ho0) hb); have n3_ := za.mk (Kd.R_elder' (RW (Kd.R_mono (zrb (Kd.R_types HO_498006.out BK514.out (by decide))) (fun _ h_ => h_.1))) (Kd.R_base ho1) hb); have n4_ := za.mk (Kd.R_elder' (RW (Kd.R_mono (zrb (Kd.R_types HO506.out BK514.out (by decide))) (fun _ h_ => h_.1))) (Kd.R_base ho0) hb); have n5_ := za.mk (Kd.R_elder' (RW (Kd.R_mono (zrb (Kd.R_types HO509.out BK514.out (by decide))) (fun _ h_ => h_.1))) (Kd.R_base ho1) hb); have n6_ := za.mk (Kd.R_lower (Kd.R_new' (Kd.R_new' (Kd.R_new' ho0 (Kd.R_lt (RW (Kd.R_mono (zrb (Kd.R_types HO_482005.out BK514.out (by decide))) (fun _ h_ => h_.1))))) (Kd.R_lt (RW (Kd.R_mono (zrb (Kd.R_types HO_498005.out BK514.out (by decide))) (fun _ h_ => h_.1))))) (Kd.R_lt (RW (Kd.R_mono (zrb (Kd.R_types HO506.out BK514.out (by decide))) (fun _ h_ => h_.1))))) (zm (by repeat (first | (with_reducible first | exact HB.out | apply zj | apply zd | apply zab | refine zl ?_ GE481.out | refine zl ?_ GE497.out | refine zl ?_ GE514.out) | exact HB.out)))); have n7_ := za.mk (Kd.R_lower (Kd.R_new' (Kd.R_new' (Kd.R_new' ho1 (Kd.R_lt (RW (Kd.R_mono (zrb (Kd.R_types HO_482006.out BK514.out (by decide))) (fun _ h_ => h_.1))))) (Kd.R_lt (RW (Kd.R_mono (zrb (Kd.R_types HO_498006.out BK514.out (by decide))) (fun _ h_ => h_.1))))) (Kd.R_lt (RW (Kd.R_mono (zrb (Kd.R_types HO509.out BK514.out (by decide))) (fun _ h_ => h_.1))))) (zm (by repeat (first | (with_reducible first | exact HB.out | apply zj | apply zd | apply zab | refine zl ?_ GE481.out | refine zl ?_ GE497.out | refine zl ?_ GE514.out) | exact HB.out)))); have n8_ := za.mk (zc (g := gb481) (o := .cells #[.string t466, .string t467, .string t468, .string t469, .bool t470, .slice Ao31 t471.length co31, .slice Ao32 t474.length co32, .bool t477, .bool t478, .string t479] 33 (0, 0)) (by (iterate 10 refine zwb ?_ NB481_514.out _); exact BK481.out) hb); have n9_ := za.mk (zc (g := gb497) (o := .cells #[.string t482, .string t483, .string t484, .string t485, .bool t486, .slice Ao37 t487.length co37, .slice Ao38 t490.length co38, .bool t493, .bool t494, .string t495] 33 (0, 0)) (by (iterate 10 refine zwb ?_ NB497_514.out _); exact BK497.out) hb); have n10_ := za.mk (zc (g := gb514) (o := .cells #[.string t499, .string t500, .string t501, .string t502, .bool t503, .slice Ao65 t504.length co65, .slice Ao66 t507.length co66, .bool t510, .bool t511, .string t512] 33 (0, 0)) (by exact put10 BK514.out) hb); have n11_ := za.mk (zib (by repeat (first | (with_reducible first | exact HB.out | apply zj | apply zd | apply zab | refine zl ?_ GE481.out | refine zl ?_ GE497.out | refine zl ?_ GE514.out) | exact HB.out)) hb); clear HO_482005; clear HO_482006; clear HO_498005; clear HO_498006; clear HO506; clear HO509; clear BK481; clear BK497; clear BK514; clear HB; have HO_482005 := n0_; have HO_482006 := n1_; have HO_498005 := n2_; have HO_498006 := n3_; have HO506 := n4_; have HO509 := n5_; have HO522 := n6_; have HO525 := n7_; have BK481 := n8_; have BK497 := n9_; have BK514 := n10_; have HB := n11_; clear n0_ n1_ n2_ n3_ n4_ n5_ n6_ n7_ n8_ n9_ n10_ n11_; (try clear hb); (try clear hb2); (try clear hk); (try clear hi); (try clear ho0); (try clear ho1)) | ((with_reducible refine znb (N := 11) rfl ?_); (try (refine zjc (by rfl) ?_; dsimp only)); refine zzb ?hg (N := 11) ?hd (cs := #[.string ⟨#[]⟩, .string ⟨#[]⟩, .string ⟨#[]⟩, .string ⟨#[]⟩, .bool false, .slice none 0 0, .slice none 0 0, .bool false, .bool false, .string ⟨#[]⟩]) (t := 33) ?hr ?_; (case hd => rfl); (case hg => rfl); (case hr => first | (go_simp; done) | (go_simp; rfl)); intro gb530 hg w68 hbox hb; have n0_ := za.mk (Kd.R_below (RW HO_482005.out) hb); have n1_ := za.mk (Kd.R_below (RW HO_482006.out) hb); have n2_ := za.mk (Kd.R_below (RW HO_498005.out) hb); have n3_ := za.mk (Kd.R_below (RW HO_498006.out) hb); have n4_ := za.mk (Kd.R_below (RW HO506.out) hb); have n5_ := za.mk (Kd.R_below (RW HO509.out) hb); have n6_ := za.mk (Kd.R_below (RW HO522.out) hb); have n7_ := za.mk (Kd.R_below (RW HO525.out) hb); have n8_ := za.mk (zc BK481.out hb); have n9_ := za.mk (zc BK497.out hb); have n10_ := za.mk (zc BK514.out hb); have n11_ := za.mk (zib (by (with_reducible exact HB.out)) hb); have n12_ := za.mk hbox; have n13_ := za.mk ((by rw [hg]; exact (zm (by (with_reducible exact HB.out))) : w.heap.size ≤ gb530)); have n14_ := za.mk ((by rw [hg]; exact (zm (by (with_reducible exact HB.out))) : w.heap.size ≤ gb530)); have n15_ := za.mk ((by rw [hg]; exact Nat.ne_of_lt (zyb BK481.out) : gb481 ≠ gb530)); have n16_ := za.mk ((by rw [hg]; exact Nat.ne_of_gt (zyb BK481.out) : gb530 ≠ gb481)); have n17_ := za.mk ((by rw [hg]; exact Nat.ne_of_lt (zyb BK497.out) : gb497 ≠ gb530)); have n18_ := za.mk ((by rw [hg]; exact Nat.ne_of_gt (zyb BK497.out) : gb530 ≠ gb497)); have n19_ := za.mk ((by rw [hg]; exact Nat.ne_of_lt (zyb BK514.out) : gb514 ≠ gb530)); have n20_ := za.mk ((by rw [hg]; exact Nat.ne_of_gt (zyb BK514.out) : gb530 ≠ gb514)); clear HO_482005; clear HO_482006; clear HO_498005; clear HO_498006; clear HO506; clear HO509; clear HO522; clear HO525; clear BK481; clear BK497; clear BK514; clear HB; have HO_482005 := n0_; have HO_482006 := n1_; have HO_498005 := n2_; have HO_498006 := n3_; have HO506 := n4_; have HO509 := n5_; have HO522 := n6_; have HO525 := n7_; have BK481 := n8_; have BK497 := n9_; have BK514 := n10_; have HB := n11_; have BK530 := n12_; have GW530 := n13_; have GE530 := n14_; have NB481_530 := n15_; have NB530_481 := n16_; have NB497_530 := n17_; have NB530_497 := n18_; have NB514_530 := n19_; have NB530_514 := n20_; clear n0_ n1_ n2_ n3_ n4_ n5_ n6_ n7_ n8_ n9_ n10_ n11_ n12_ n13_ n14_ n15_ n16_ n17_ n18_ n19_ n20_; clear hb hbox hg; have hnb69 := NB530_481.out; have hnc69 := NB481_530.out; have hnb70 := NB530_497.out; have hnc70 := NB497_530.out; have hnb71 := NB530_514.out; have hnc71 := NB514_530.out; obtain ⟨z72_0, z72_1, z72_2, z72_3, z72_4, z72_5, z72_6, z72_7, z72_8, z72_9, y72_0, y72_1, y72_2, y72_3, y72_4, y72_5, y72_6, y72_7, y72_8, y72_9⟩ := cl10 BK530.out; obtain ⟨Ao73, co73, eo73⟩ := Kd.R_slice HO522.out; subst eo73; obtain ⟨Ao74, co74, eo74⟩ := Kd.R_slice HO525.out; subst eo74) | ((with_reducible refine zw (f := 10) rfl ?_); refine goesA (some 75) Tryz.func10 #[.string a0, .string a1] ?_; (with_reducible refine (zcb.calls a0 a1 t531 true _ A49.out (by exact GL.at HG.out (by repeat (first | (with_reducible first | exact HB.out | apply zj | apply zd | apply zab | refine zl ?_ GE481.out | refine zl ?_ GE497.out | refine zl ?_ GE514.out | refine zl ?_ GE530.out) | exact HB.out)))).mono ?_); rintro e w75 ⟨rfl, hb⟩; refine ⟨_, rfl, ?_⟩; replace HO_482005 := za.mk (Kd.R_below (RW (Kd.R_mono (zrb (Kd.R_types HO_482005.out BK530.out (by decide))) (fun _ h_ => h_.1))) hb); replace HO_482006 := za.mk (Kd.R_below (RW (Kd.R_mono (zrb (Kd.R_types HO_482006.out BK530.out (by decide))) (fun _ h_ => h_.1))) hb); replace HO_498005 := za.mk (Kd.R_below (RW (Kd.R_mono (zrb (Kd.R_types HO_498005.out BK530.out (by decide))) (fun _ h_ => h_.1))) hb); replace HO_498006 := za.mk (Kd.R_below (RW (Kd.R_mono (zrb (Kd.R_types HO_498006.out BK530.out (by decide))) (fun _ h_ => h_.1))) hb); replace HO506 := za.mk (Kd.R_below (RW (Kd.R_mono (zrb (Kd.R_types HO506.out BK530.out (by decide))) (fun _ h_ => h_.1))) hb); replace HO509 := za.mk (Kd.R_below (RW (Kd.R_mono (zrb (Kd.R_types HO509.out BK530.out (by decide))) (fun _ h_ => h_.1))) hb); replace HO522 := za.mk (Kd.R_below (RW (Kd.R_mono (zrb (Kd.R_types HO522.out BK530.out (by decide))) (fun _ h_ => h_.1))) hb); replace HO525 := za.mk (Kd.R_below (RW (Kd.R_mono (zrb (Kd.R_types HO525.out BK530.out (by decide))) (fun _ h_ => h_.1))) hb); replace BK481 := za.mk (zc (g := gb481) (o := .cells #[.string t466, .string t467, .string t468, .string t469, .bool t470, .slice Ao31 t471.length co31, .slice Ao32 t474.length co32, .bool t477, .bool t478, .string t479] 33 (0, 0)) (by (iterate 10 refine zwb ?_ NB481_530.out _); exact BK481.out) hb); replace BK497 := za.mk (zc (g := gb497) (o := .cells #[.string t482, .string t483, .string t484, .string t485, .bool t486, .slice Ao37 t487.length co37, .slice Ao38 t490.length co38, .bool t493, .bool t494, .string t495] 33 (0, 0)) (by (iterate 10 refine zwb ?_ NB497_530.out _); exact BK497.out) hb); replace BK514 := za.mk (zc (g := gb514) (o := .cells #[.string t499, .string t500, .string t501, .string t502, .bool t503, .slice Ao65 t504.length co65, .slice Ao66 t507.length co66, .bool t510, .bool t511, .string t512] 33 (0, 0)) (by (iterate 10 refine zwb ?_ NB514_530.out _); exact BK514.out) hb); replace BK530 := za.mk (zc (g := gb530) (o := .cells #[.string t515, .string t516, .string t517, .string t518, .bool t519, .slice Ao73 t520.length co73, .slice Ao74 t523.length co74, .bool t526, .bool t527, .string t528] 33 (0, 0)) (by exact put10 BK530.out) hb); replace HB := za.mk (zib (by repeat (first | (with_reducible first | exact HB.out | apply zj | apply zd | apply zab | refine zl ?_ GE481.out | refine zl ?_ GE497.out | refine zl ?_ GE514.out | refine zl ?_ GE530.out) | exact HB.out)) hb); (try clear hb); (try clear hb2); (try clear hk); (try clear hi)) | ((with_reducible refine zw (f := 10) rfl ?_); refine goesA (some 81) Tryz.func10 #[.string a1, .string a0] ?_; (with_reducible refine (zcb.calls a1 a0 t533 true _ A50.out (by exact GL.at HG.out (by repeat (first | (with_reducible first | exact HB.out | apply zj | apply zd | apply zab | refine zl ?_ GE481.out | refine zl ?_ GE497.out | refine zl ?_ GE514.out | refine zl ?_ GE530.out) | exact HB.out)))).mono ?_); rintro e w76 ⟨rfl, hb⟩; refine ⟨_, rfl, ?_⟩; replace HO_482005 := RB HO_482005 hb; replace HO_482006 := RB HO_482006 hb; replace HO_498005 := RB HO_498005 hb; replace HO_498006 := RB HO_498006 hb; replace HO506 := RB HO506 hb; replace HO509 := RB HO509 hb; replace HO522 := RB HO522 hb; replace HO525 := RB HO525 hb; replace BK481 := za.mk (zc BK481.out hb); replace BK497 := za.mk (zc BK497.out hb); replace BK514 := za.mk (zc BK514.out hb); replace BK530 := za.mk (zc BK530.out hb); replace HB := BS HB hb; (try clear hb); (try clear hb2); (try clear hk); (try clear hi); have hnb77 := NB481_497.out; have hnc77 := NB497_481.out; obtain ⟨z78_0, z78_1, z78_2, z78_3, z78_4, z78_5, z78_6, z78_7, z78_8, z78_9, y78_0, y78_1, y78_2, y78_3, y78_4, y78_5, y78_6, y78_7, y78_8, y78_9⟩ := cl10 BK481.out; obtain ⟨z79_0, z79_1, z79_2, z79_3, z79_4, z79_5, z79_6, z79_7, z79_8, z79_9, y79_0, y79_1, y79_2, y79_3, y79_4, y79_5, y79_6, y79_7, y79_8, y79_9⟩ := cl10 BK497.out) | (go_at_call 11; (with_reducible refine (ze.calls kj26 t466 t467 t468 t469 t470 _ _ t471 _ _ t474 t477 t478 t479 t482 t483 t484 t485 t486 _ _ t487 _ _ t490 t493 t494 t495 t535 _ ?side1 ?side2 ?side3 ?side4 ?side5 ?side6 ?side7 ?side8 A55.out).mono ?_); (case side1 => exact CS HO_482005); (case side2 => exact (Kd.R_reads' HO_482005.out).2.1); (case side3 => exact CS HO_482006); (case side4 => exact (Kd.R_reads' HO_482006.out).2.1); (case side5 => exact CS HO_498005); (case side6 => exact (Kd.R_reads' HO_498005.out).2.1); (case side7 => exact CS HO_498006); (case side8 => exact (Kd.R_reads' HO_498006.out).2.1); rintro e w80 ⟨rfl, hb⟩; replace HO_482005 := RB HO_482005 hb; replace HO_482006 := RB HO_482006 hb; replace HO_498005 := RB HO_498005 hb; replace HO_498006 := RB HO_498006 hb; replace HO506 := RB HO506 hb; replace HO509 := RB HO509 hb; replace HO522 := RB HO522 hb; replace HO525 := RB HO525 hb; replace BK481 := za.mk (zc BK481.out hb); replace BK497 := za.mk (zc BK497.out hb); replace BK514 := za.mk (zc BK514.out hb); replace BK530 := za.mk (zc BK530.out hb); replace HB := BS HB hb; (try clear hb); (try clear hb2); (try clear hk); (try clear hi); obtain ⟨z81_0, z81_1, z81_2, z81_3, z81_4, z81_5, z81_6, z81_7, z81_8, z81_9, y81_0, y81_1, y81_2, y81_3, y81_4, y81_5, y81_6, y81_7, y81_8, y81_9⟩ := cl10 BK514.out; obtain ⟨z82_0, z82_1, z82_2, z82_3, z82_4, z82_5, z82_6, z82_7, z82_8, z82_9, y82_0, y82_1, y82_2, y82_3, y82_4, y82_5, y82_6, y82_7, y82_8, y82_9⟩ := cl10 BK530.out) | (go_at_call 19; (with_reducible refine (zmb.calls t499 t500 t501 t502 t503 _ _ t504 _ _ t507 t510 t511 t512 t515 t516 t517 t518 t519 _ _ t520 _ _ t523 t526 t527 t528 t536 _ ?side1 ?side2 ?side3 ?side4 ?side5 ?side6 ?side7 ?side8 A57.out).mono ?_); (case side1 => exact CS HO506); (case side2 => exact (Kd.R_reads' HO506.out).2.1); (case side3 => exact CS HO509); (case side4 => exact (Kd.R_reads' HO509.out).2.1); (case side5 => exact CS HO522); (case side6 => exact (Kd.R_reads' HO522.out).2.1); (case side7 => exact CS HO525); (case side8 => exact (Kd.R_reads' HO525.out).2.1); rintro e w83 ⟨rfl, hb⟩; replace HO_482005 := RB HO_482005 hb; replace HO_482006 := RB HO_482006 hb; replace HO_498005 := RB HO_498005 hb; replace HO_498006 := RB HO_498006 hb; replace HO506 := RB HO506 hb; replace HO509 := RB HO509 hb; replace HO522 := RB HO522 hb; replace HO525 := RB HO525 hb; replace BK481 := za.mk (zc BK481.out hb); replace BK497 := za.mk (zc BK497.out hb); replace BK514 := za.mk (zc BK514.out hb); replace BK530 := za.mk (zc BK530.out hb); replace HB := BS HB hb; (try clear hb); (try clear hb2); (try clear hk); (try clear hi)) | (go_at_call 12; (with_reducible refine (zrc.calls t531 t533 t537 _ A59.out).mono ?_); rintro e w' ⟨rfl, ⟨nd, rfl⟩⟩))
                go_ret
                exact ⟨by rfl, by (with_reducible apply zd; with_reducible exact HB.out)⟩
               ·rw [if_neg c58] at H
                have c58b0 : (t531 == t536) = false := beq_eq_false_iff_ne.mpr c58
                have c58b1 : (t531 != t536) = true := bne_iff_ne.mpr c58
                obtain rfl := Option.some.inj H
                go_wp2_with (first | ((with_reducible refine zw (f := 14) rfl ?_); refine goesA (some 64) Tryz.func14 #[.string a0] ?_; (with_reducible refine (zbc.calls a0 t499 t500 t501 t502 t503 t504 t507 t510 t511 t512 true _ A47.out (by exact GL.at HG.out (by repeat (first | (with_reducible first | exact HB.out | apply zj | apply zd | apply zab | refine zl ?_ GE481.out | refine zl ?_ GE497.out | refine zl ?_ GE514.out | refine zl ?_ GE530.out) | exact HB.out)))).mono ?_); rintro e w84 ⟨v505, v508, rfl, ho0, ho1, hb⟩; refine ⟨_, rfl, ?_⟩; have n0_ := za.mk (Kd.R_elder' (RW HO_482005.out) (Kd.R_base ho0) hb); have n1_ := za.mk (Kd.R_elder' (RW HO_482006.out) (Kd.R_base ho1) hb); have n2_ := za.mk (Kd.R_elder' (RW HO_498005.out) (Kd.R_base ho0) hb); have n3_ := za.mk (Kd.R_elder' (RW HO_498006.out) (Kd.R_base ho1) hb); have n4_ := za.mk (Kd.R_lower (Kd.R_new' (Kd.R_new' ho0 (Kd.R_lt (RW HO_482005.out))) (Kd.R_lt (RW HO_498005.out))) (zm (by (with_reducible exact HB.out)))); have n5_ := za.mk (Kd.R_lower (Kd.R_new' (Kd.R_new' ho1 (Kd.R_lt (RW HO_482006.out))) (Kd.R_lt (RW HO_498006.out))) (zm (by (with_reducible exact HB.out)))); have n6_ := za.mk (zc BK481.out hb); have n7_ := za.mk (zc BK497.out hb); have n8_ := za.mk (zib (by (with_reducible exact HB.out)) hb); clear HO_482005; clear HO_482006; clear HO_498005; clear HO_498006; clear BK481; clear BK497; clear HB; have HO_482005 := n0_; have HO_482006 := n1_; have HO_498005 := n2_; have HO_498006 := n3_; have HO506 := n4_; have HO509 := n5_; have BK481 := n6_; have BK497 := n7_; have HB := n8_; clear n0_ n1_ n2_ n3_ n4_ n5_ n6_ n7_ n8_; (try clear hb); (try clear hb2); (try clear hk); (try clear hi); (try clear ho0); (try clear ho1)) | ((with_reducible refine znb (N := 9) rfl ?_); (try (refine zjc (by rfl) ?_; dsimp only)); refine zzb ?hg (N := 9) ?hd (cs := #[.string ⟨#[]⟩, .string ⟨#[]⟩, .string ⟨#[]⟩, .string ⟨#[]⟩, .bool false, .slice none 0 0, .slice none 0 0, .bool false, .bool false, .string ⟨#[]⟩]) (t := 33) ?hr ?_; (case hd => rfl); (case hg => rfl); (case hr => first | (go_simp; done) | (go_simp; rfl)); intro gb514 hg w85 hbox hb; have n0_ := za.mk (Kd.R_below (RW HO_482005.out) hb); have n1_ := za.mk (Kd.R_below (RW HO_482006.out) hb); have n2_ := za.mk (Kd.R_below (RW HO_498005.out) hb); have n3_ := za.mk (Kd.R_below (RW HO_498006.out) hb); have n4_ := za.mk (Kd.R_below (RW HO506.out) hb); have n5_ := za.mk (Kd.R_below (RW HO509.out) hb); have n6_ := za.mk (zc BK481.out hb); have n7_ := za.mk (zc BK497.out hb); have n8_ := za.mk (zib (by (with_reducible exact HB.out)) hb); have n9_ := za.mk hbox; have n10_ := za.mk ((by rw [hg]; exact (zm (by (with_reducible exact HB.out))) : w.heap.size ≤ gb514)); have n11_ := za.mk ((by rw [hg]; exact (zm (by (with_reducible exact HB.out))) : w.heap.size ≤ gb514)); have n12_ := za.mk ((by rw [hg]; exact Nat.ne_of_lt (zyb BK481.out) : gb481 ≠ gb514)); have n13_ := za.mk ((by rw [hg]; exact Nat.ne_of_gt (zyb BK481.out) : gb514 ≠ gb481)); have n14_ := za.mk ((by rw [hg]; exact Nat.ne_of_lt (zyb BK497.out) : gb497 ≠ gb514)); have n15_ := za.mk ((by rw [hg]; exact Nat.ne_of_gt (zyb BK497.out) : gb514 ≠ gb497)); clear HO_482005; clear HO_482006; clear HO_498005; clear HO_498006; clear HO506; clear HO509; clear BK481; clear BK497; clear HB; have HO_482005 := n0_; have HO_482006 := n1_; have HO_498005 := n2_; have HO_498006 := n3_; have HO506 := n4_; have HO509 := n5_; have BK481 := n6_; have BK497 := n7_; have HB := n8_; have BK514 := n9_; have GW514 := n10_; have GE514 := n11_; have NB481_514 := n12_; have NB514_481 := n13_; have NB497_514 := n14_; have NB514_497 := n15_; clear n0_ n1_ n2_ n3_ n4_ n5_ n6_ n7_ n8_ n9_ n10_ n11_ n12_ n13_ n14_ n15_; clear hb hbox hg; have hnb86 := NB514_481.out; have hnc86 := NB481_514.out; have hnb87 := NB514_497.out; have hnc87 := NB497_514.out; obtain ⟨z88_0, z88_1, z88_2, z88_3, z88_4, z88_5, z88_6, z88_7, z88_8, z88_9, y88_0, y88_1, y88_2, y88_3, y88_4, y88_5, y88_6, y88_7, y88_8, y88_9⟩ := cl10 BK514.out; obtain ⟨Ao89, co89, eo89⟩ := Kd.R_slice HO506.out; subst eo89; obtain ⟨Ao90, co90, eo90⟩ := Kd.R_slice HO509.out; subst eo90) | ((with_reducible refine zw (f := 14) rfl ?_); refine goesA (some 69) Tryz.func14 #[.string a1] ?_; (with_reducible refine (zbc.calls a1 t515 t516 t517 t518 t519 t520 t523 t526 t527 t528 true _ A48.out (by exact GL.at HG.out (by repeat (first | (with_reducible first | exact HB.out | apply zj | apply zd | apply zab | refine zl ?_ GE481.out | refine zl ?_ GE497.out | refine zl ?_ GE514.out | refine zl ?_ GE530.out) | exact HB.out)))).mono ?_); rintro e w91 ⟨v521, v524, rfl, ho0, ho1, hb⟩; refine ⟨_, rfl, ?_⟩; have n0_ := za.mk (Kd.R_elder' (RW (Kd.R_mono (zrb (Kd.R_types HO_482005.out BK514.out (by decide))) (fun _ h_ => h_.1))) (Kd.R_base ho0) hb); have n1_ := za.mk (Kd.R_elder' (RW (Kd.R_mono (zrb (Kd.R_types HO_482006.out BK514.out (by decide))) (fun _ h_ => h_.1))) (Kd.R_base ho1) hb); have n2_ := za.mk (Kd.R_elder' (RW (Kd.R_mono (zrb (Kd.R_types HO_498005.out BK514.out (by decide))) (fun _ h_ => h_.1))) (Kd.R_base ho0) hb); have n3_ := za.mk (Kd.R_elder' (RW (Kd.R_mono (zrb (Kd.R_types HO_498006.out BK514.out (by decide))) (fun _ h_ => h_.1))) (Kd.R_base ho1) hb); have n4_ := za.mk (Kd.R_elder' (RW (Kd.R_mono (zrb (Kd.R_types HO506.out BK514.out (by decide))) (fun _ h_ => h_.1))) (Kd.R_base ho0) hb); have n5_ := za.mk (Kd.R_elder' (RW (Kd.R_mono (zrb (Kd.R_types HO509.out BK514.out (by decide))) (fun _ h_ => h_.1))) (Kd.R_base ho1) hb); have n6_ := za.mk (Kd.R_lower (Kd.R_new' (Kd.R_new' (Kd.R_new' ho0 (Kd.R_lt (RW (Kd.R_mono (zrb (Kd.R_types HO_482005.out BK514.out (by decide))) (fun _ h_ => h_.1))))) (Kd.R_lt (RW (Kd.R_mono (zrb (Kd.R_types HO_498005.out BK514.out (by decide))) (fun _ h_ => h_.1))))) (Kd.R_lt (RW (Kd.R_mono (zrb (Kd.R_types HO506.out BK514.out (by decide))) (fun _ h_ => h_.1))))) (zm (by repeat (first | (with_reducible first | exact HB.out | apply zj | apply zd | apply zab | refine zl ?_ GE481.out | refine zl ?_ GE497.out | refine zl ?_ GE514.out) | exact HB.out)))); have n7_ := za.mk (Kd.R_lower (Kd.R_new' (Kd.R_new' (Kd.R_new' ho1 (Kd.R_lt (RW (Kd.R_mono (zrb (Kd.R_types HO_482006.out BK514.out (by decide))) (fun _ h_ => h_.1))))) (Kd.R_lt (RW (Kd.R_mono (zrb (Kd.R_types HO_498006.out BK514.out (by decide))) (fun _ h_ => h_.1))))) (Kd.R_lt (RW (Kd.R_mono (zrb (Kd.R_types HO509.out BK514.out (by decide))) (fun _ h_ => h_.1))))) (zm (by repeat (first | (with_reducible first | exact HB.out | apply zj | apply zd | apply zab | refine zl ?_ GE481.out | refine zl ?_ GE497.out | refine zl ?_ GE514.out) | exact HB.out)))); have n8_ := za.mk (zc (g := gb481) (o := .cells #[.string t466, .string t467, .string t468, .string t469, .bool t470, .slice Ao31 t471.length co31, .slice Ao32 t474.length co32, .bool t477, .bool t478, .string t479] 33 (0, 0)) (by (iterate 10 refine zwb ?_ NB481_514.out _); exact BK481.out) hb); have n9_ := za.mk (zc (g := gb497) (o := .cells #[.string t482, .string t483, .string t484, .string t485, .bool t486, .slice Ao37 t487.length co37, .slice Ao38 t490.length co38, .bool t493, .bool t494, .string t495] 33 (0, 0)) (by (iterate 10 refine zwb ?_ NB497_514.out _); exact BK497.out) hb); have n10_ := za.mk (zc (g := gb514) (o := .cells #[.string t499, .string t500, .string t501, .string t502, .bool t503, .slice Ao89 t504.length co89, .slice Ao90 t507.length co90, .bool t510, .bool t511, .string t512] 33 (0, 0)) (by exact put10 BK514.out) hb); have n11_ := za.mk (zib (by repeat (first | (with_reducible first | exact HB.out | apply zj | apply zd | apply zab | refine zl ?_ GE481.out | refine zl ?_ GE497.out | refine zl ?_ GE514.out) | exact HB.out)) hb); clear HO_482005; clear HO_482006; clear HO_498005; clear HO_498006; clear HO506; clear HO509; clear BK481; clear BK497; clear BK514; clear HB; have HO_482005 := n0_; have HO_482006 := n1_; have HO_498005 := n2_; have HO_498006 := n3_; have HO506 := n4_; have HO509 := n5_; have HO522 := n6_; have HO525 := n7_; have BK481 := n8_; have BK497 := n9_; have BK514 := n10_; have HB := n11_; clear n0_ n1_ n2_ n3_ n4_ n5_ n6_ n7_ n8_ n9_ n10_ n11_; (try clear hb); (try clear hb2); (try clear hk); (try clear hi); (try clear ho0); (try clear ho1)) | ((with_reducible refine znb (N := 11) rfl ?_); (try (refine zjc (by rfl) ?_; dsimp only)); refine zzb ?hg (N := 11) ?hd (cs := #[.string ⟨#[]⟩, .string ⟨#[]⟩, .string ⟨#[]⟩, .string ⟨#[]⟩, .bool false, .slice none 0 0, .slice none 0 0, .bool false, .bool false, .string ⟨#[]⟩]) (t := 33) ?hr ?_; (case hd => rfl); (case hg => rfl); (case hr => first | (go_simp; done) | (go_simp; rfl)); intro gb530 hg w92 hbox hb; have n0_ := za.mk (Kd.R_below (RW HO_482005.out) hb); have n1_ := za.mk (Kd.R_below (RW HO_482006.out) hb); have n2_ := za.mk (Kd.R_below (RW HO_498005.out) hb); have n3_ := za.mk (Kd.R_below (RW HO_498006.out) hb); have n4_ := za.mk (Kd.R_below (RW HO506.out) hb); have n5_ := za.mk (Kd.R_below (RW HO509.out) hb); have n6_ := za.mk (Kd.R_below (RW HO522.out) hb); have n7_ := za.mk (Kd.R_below (RW HO525.out) hb); have n8_ := za.mk (zc BK481.out hb); have n9_ := za.mk (zc BK497.out hb); have n10_ := za.mk (zc BK514.out hb); have n11_ := za.mk (zib (by (with_reducible exact HB.out)) hb); have n12_ := za.mk hbox; have n13_ := za.mk ((by rw [hg]; exact (zm (by (with_reducible exact HB.out))) : w.heap.size ≤ gb530)); have n14_ := za.mk ((by rw [hg]; exact (zm (by (with_reducible exact HB.out))) : w.heap.size ≤ gb530)); have n15_ := za.mk ((by rw [hg]; exact Nat.ne_of_lt (zyb BK481.out) : gb481 ≠ gb530)); have n16_ := za.mk ((by rw [hg]; exact Nat.ne_of_gt (zyb BK481.out) : gb530 ≠ gb481)); have n17_ := za.mk ((by rw [hg]; exact Nat.ne_of_lt (zyb BK497.out) : gb497 ≠ gb530)); have n18_ := za.mk ((by rw [hg]; exact Nat.ne_of_gt (zyb BK497.out) : gb530 ≠ gb497)); have n19_ := za.mk ((by rw [hg]; exact Nat.ne_of_lt (zyb BK514.out) : gb514 ≠ gb530)); have n20_ := za.mk ((by rw [hg]; exact Nat.ne_of_gt (zyb BK514.out) : gb530 ≠ gb514)); clear HO_482005; clear HO_482006; clear HO_498005; clear HO_498006; clear HO506; clear HO509; clear HO522; clear HO525; clear BK481; clear BK497; clear BK514; clear HB; have HO_482005 := n0_; have HO_482006 := n1_; have HO_498005 := n2_; have HO_498006 := n3_; have HO506 := n4_; have HO509 := n5_; have HO522 := n6_; have HO525 := n7_; have BK481 := n8_; have BK497 := n9_; have BK514 := n10_; have HB := n11_; have BK530 := n12_; have GW530 := n13_; have GE530 := n14_; have NB481_530 := n15_; have NB530_481 := n16_; have NB497_530 := n17_; have NB530_497 := n18_; have NB514_530 := n19_; have NB530_514 := n20_; clear n0_ n1_ n2_ n3_ n4_ n5_ n6_ n7_ n8_ n9_ n10_ n11_ n12_ n13_ n14_ n15_ n16_ n17_ n18_ n19_ n20_; clear hb hbox hg; have hnb93 := NB530_481.out; have hnc93 := NB481_530.out; have hnb94 := NB530_497.out; have hnc94 := NB497_530.out; have hnb95 := NB530_514.out; have hnc95 := NB514_530.out; obtain ⟨z96_0, z96_1, z96_2, z96_3, z96_4, z96_5, z96_6, z96_7, z96_8, z96_9, y96_0, y96_1, y96_2, y96_3, y96_4, y96_5, y96_6, y96_7, y96_8, y96_9⟩ := cl10 BK530.out; obtain ⟨Ao97, co97, eo97⟩ := Kd.R_slice HO522.out; subst eo97; obtain ⟨Ao98, co98, eo98⟩ := Kd.R_slice HO525.out; subst eo98) | ((with_reducible refine zw (f := 10) rfl ?_); refine goesA (some 75) Tryz.func10 #[.string a0, .string a1] ?_; (with_reducible refine (zcb.calls a0 a1 t531 true _ A49.out (by exact GL.at HG.out (by repeat (first | (with_reducible first | exact HB.out | apply zj | apply zd | apply zab | refine zl ?_ GE481.out | refine zl ?_ GE497.out | refine zl ?_ GE514.out | refine zl ?_ GE530.out) | exact HB.out)))).mono ?_); rintro e w99 ⟨rfl, hb⟩; refine ⟨_, rfl, ?_⟩; replace HO_482005 := za.mk (Kd.R_below (RW (Kd.R_mono (zrb (Kd.R_types HO_482005.out BK530.out (by decide))) (fun _ h_ => h_.1))) hb); replace HO_482006 := za.mk (Kd.R_below (RW (Kd.R_mono (zrb (Kd.R_types HO_482006.out BK530.out (by decide))) (fun _ h_ => h_.1))) hb); replace HO_498005 := za.mk (Kd.R_below (RW (Kd.R_mono (zrb (Kd.R_types HO_498005.out BK530.out (by decide))) (fun _ h_ => h_.1))) hb); replace HO_498006 := za.mk (Kd.R_below (RW (Kd.R_mono (zrb (Kd.R_types HO_498006.out BK530.out (by decide))) (fun _ h_ => h_.1))) hb); replace HO506 := za.mk (Kd.R_below (RW (Kd.R_mono (zrb (Kd.R_types HO506.out BK530.out (by decide))) (fun _ h_ => h_.1))) hb); replace HO509 := za.mk (Kd.R_below (RW (Kd.R_mono (zrb (Kd.R_types HO509.out BK530.out (by decide))) (fun _ h_ => h_.1))) hb); replace HO522 := za.mk (Kd.R_below (RW (Kd.R_mono (zrb (Kd.R_types HO522.out BK530.out (by decide))) (fun _ h_ => h_.1))) hb); replace HO525 := za.mk (Kd.R_below (RW (Kd.R_mono (zrb (Kd.R_types HO525.out BK530.out (by decide))) (fun _ h_ => h_.1))) hb); replace BK481 := za.mk (zc (g := gb481) (o := .cells #[.string t466, .string t467, .string t468, .string t469, .bool t470, .slice Ao31 t471.length co31, .slice Ao32 t474.length co32, .bool t477, .bool t478, .string t479] 33 (0, 0)) (by (iterate 10 refine zwb ?_ NB481_530.out _); exact BK481.out) hb); replace BK497 := za.mk (zc (g := gb497) (o := .cells #[.string t482, .string t483, .string t484, .string t485, .bool t486, .slice Ao37 t487.length co37, .slice Ao38 t490.length co38, .bool t493, .bool t494, .string t495] 33 (0, 0)) (by (iterate 10 refine zwb ?_ NB497_530.out _); exact BK497.out) hb); replace BK514 := za.mk (zc (g := gb514) (o := .cells #[.string t499, .string t500, .string t501, .string t502, .bool t503, .slice Ao89 t504.length co89, .slice Ao90 t507.length co90, .bool t510, .bool t511, .string t512] 33 (0, 0)) (by (iterate 10 refine zwb ?_ NB514_530.out _); exact BK514.out) hb); replace BK530 := za.mk (zc (g := gb530) (o := .cells #[.string t515, .string t516, .string t517, .string t518, .bool t519, .slice Ao97 t520.length co97, .slice Ao98 t523.length co98, .bool t526, .bool t527, .string t528] 33 (0, 0)) (by exact put10 BK530.out) hb); replace HB := za.mk (zib (by repeat (first | (with_reducible first | exact HB.out | apply zj | apply zd | apply zab | refine zl ?_ GE481.out | refine zl ?_ GE497.out | refine zl ?_ GE514.out | refine zl ?_ GE530.out) | exact HB.out)) hb); (try clear hb); (try clear hb2); (try clear hk); (try clear hi)) | ((with_reducible refine zw (f := 10) rfl ?_); refine goesA (some 81) Tryz.func10 #[.string a1, .string a0] ?_; (with_reducible refine (zcb.calls a1 a0 t533 true _ A50.out (by exact GL.at HG.out (by repeat (first | (with_reducible first | exact HB.out | apply zj | apply zd | apply zab | refine zl ?_ GE481.out | refine zl ?_ GE497.out | refine zl ?_ GE514.out | refine zl ?_ GE530.out) | exact HB.out)))).mono ?_); rintro e w100 ⟨rfl, hb⟩; refine ⟨_, rfl, ?_⟩; replace HO_482005 := RB HO_482005 hb; replace HO_482006 := RB HO_482006 hb; replace HO_498005 := RB HO_498005 hb; replace HO_498006 := RB HO_498006 hb; replace HO506 := RB HO506 hb; replace HO509 := RB HO509 hb; replace HO522 := RB HO522 hb; replace HO525 := RB HO525 hb; replace BK481 := za.mk (zc BK481.out hb); replace BK497 := za.mk (zc BK497.out hb); replace BK514 := za.mk (zc BK514.out hb); replace BK530 := za.mk (zc BK530.out hb); replace HB := BS HB hb; (try clear hb); (try clear hb2); (try clear hk); (try clear hi); have hnb101 := NB481_497.out; have hnc101 := NB497_481.out; obtain ⟨z102_0, z102_1, z102_2, z102_3, z102_4, z102_5, z102_6, z102_7, z102_8, z102_9, y102_0, y102_1, y102_2, y102_3, y102_4, y102_5, y102_6, y102_7, y102_8, y102_9⟩ := cl10 BK481.out; obtain ⟨z103_0, z103_1, z103_2, z103_3, z103_4, z103_5, z103_6, z103_7, z103_8, z103_9, y103_0, y103_1, y103_2, y103_3, y103_4, y103_5, y103_6, y103_7, y103_8, y103_9⟩ := cl10 BK497.out) | (go_at_call 11; (with_reducible refine (ze.calls kj26 t466 t467 t468 t469 t470 _ _ t471 _ _ t474 t477 t478 t479 t482 t483 t484 t485 t486 _ _ t487 _ _ t490 t493 t494 t495 t535 _ ?side1 ?side2 ?side3 ?side4 ?side5 ?side6 ?side7 ?side8 A55.out).mono ?_); (case side1 => exact CS HO_482005); (case side2 => exact (Kd.R_reads' HO_482005.out).2.1); (case side3 => exact CS HO_482006); (case side4 => exact (Kd.R_reads' HO_482006.out).2.1); (case side5 => exact CS HO_498005); (case side6 => exact (Kd.R_reads' HO_498005.out).2.1); (case side7 => exact CS HO_498006); (case side8 => exact (Kd.R_reads' HO_498006.out).2.1); rintro e w104 ⟨rfl, hb⟩; replace HO_482005 := RB HO_482005 hb; replace HO_482006 := RB HO_482006 hb; replace HO_498005 := RB HO_498005 hb; replace HO_498006 := RB HO_498006 hb; replace HO506 := RB HO506 hb; replace HO509 := RB HO509 hb; replace HO522 := RB HO522 hb; replace HO525 := RB HO525 hb; replace BK481 := za.mk (zc BK481.out hb); replace BK497 := za.mk (zc BK497.out hb); replace BK514 := za.mk (zc BK514.out hb); replace BK530 := za.mk (zc BK530.out hb); replace HB := BS HB hb; (try clear hb); (try clear hb2); (try clear hk); (try clear hi); obtain ⟨z105_0, z105_1, z105_2, z105_3, z105_4, z105_5, z105_6, z105_7, z105_8, z105_9, y105_0, y105_1, y105_2, y105_3, y105_4, y105_5, y105_6, y105_7, y105_8, y105_9⟩ := cl10 BK514.out; obtain ⟨z106_0, z106_1, z106_2, z106_3, z106_4, z106_5, z106_6, z106_7, z106_8, z106_9, y106_0, y106_1, y106_2, y106_3, y106_4, y106_5, y106_6, y106_7, y106_8, y106_9⟩ := cl10 BK530.out) | (go_at_call 19; (with_reducible refine (zmb.calls t499 t500 t501 t502 t503 _ _ t504 _ _ t507 t510 t511 t512 t515 t516 t517 t518 t519 _ _ t520 _ _ t523 t526 t527 t528 t536 _ ?side1 ?side2 ?side3 ?side4 ?side5 ?side6 ?side7 ?side8 A57.out).mono ?_); (case side1 => exact CS HO506); (case side2 => exact (Kd.R_reads' HO506.out).2.1); (case side3 => exact CS HO509); (case side4 => exact (Kd.R_reads' HO509.out).2.1); (case side5 => exact CS HO522); (case side6 => exact (Kd.R_reads' HO522.out).2.1); (case side7 => exact CS HO525); (case side8 => exact (Kd.R_reads' HO525.out).2.1); rintro e w107 ⟨rfl, hb⟩; replace HO_482005 := RB HO_482005 hb; replace HO_482006 := RB HO_482006 hb; replace HO_498005 := RB HO_498005 hb; replace HO_498006 := RB HO_498006 hb; replace HO506 := RB HO506 hb; replace HO509 := RB HO509 hb; replace HO522 := RB HO522 hb; replace HO525 := RB HO525 hb; replace BK481 := za.mk (zc BK481.out hb); replace BK497 := za.mk (zc BK497.out hb); replace BK514 := za.mk (zc BK514.out hb); replace BK530 := za.mk (zc BK530.out hb); replace HB := BS HB hb; (try clear hb); (try clear hb2); (try clear hk); (try clear hi)))
                go_ret
                exact ⟨by rfl, by (with_reducible exact HB.out)⟩
              ·rw [if_neg c56] at H
               have c56b0 : (t531 == t535) = false := beq_eq_false_iff_ne.mpr c56
               have c56b1 : (t531 != t535) = true := bne_iff_ne.mpr c56
               obtain rfl := Option.some.inj H
               go_wp2_with (first | ((with_reducible refine zw (f := 14) rfl ?_); refine goesA (some 64) Tryz.func14 #[.string a0] ?_; (with_reducible refine (zbc.calls a0 t499 t500 t501 t502 t503 t504 t507 t510 t511 t512 true _ A47.out (by exact GL.at HG.out (by repeat (first | (with_reducible first | exact HB.out | apply zj | apply zd | apply zab | refine zl ?_ GE481.out | refine zl ?_ GE497.out | refine zl ?_ GE514.out | refine zl ?_ GE530.out) | exact HB.out)))).mono ?_); rintro e w108 ⟨v505, v508, rfl, ho0, ho1, hb⟩; refine ⟨_, rfl, ?_⟩; have n0_ := za.mk (Kd.R_elder' (RW HO_482005.out) (Kd.R_base ho0) hb); have n1_ := za.mk (Kd.R_elder' (RW HO_482006.out) (Kd.R_base ho1) hb); have n2_ := za.mk (Kd.R_elder' (RW HO_498005.out) (Kd.R_base ho0) hb); have n3_ := za.mk (Kd.R_elder' (RW HO_498006.out) (Kd.R_base ho1) hb); have n4_ := za.mk (Kd.R_lower (Kd.R_new' (Kd.R_new' ho0 (Kd.R_lt (RW HO_482005.out))) (Kd.R_lt (RW HO_498005.out))) (zm (by (with_reducible exact HB.out)))); have n5_ := za.mk (Kd.R_lower (Kd.R_new' (Kd.R_new' ho1 (Kd.R_lt (RW HO_482006.out))) (Kd.R_lt (RW HO_498006.out))) (zm (by (with_reducible exact HB.out)))); have n6_ := za.mk (zc BK481.out hb); have n7_ := za.mk (zc BK497.out hb); have n8_ := za.mk (zib (by (with_reducible exact HB.out)) hb); clear HO_482005; clear HO_482006; clear HO_498005; clear HO_498006; clear BK481; clear BK497; clear HB; have HO_482005 := n0_; have HO_482006 := n1_; have HO_498005 := n2_; have HO_498006 := n3_; have HO506 := n4_; have HO509 := n5_; have BK481 := n6_; have BK497 := n7_; have HB := n8_; clear n0_ n1_ n2_ n3_ n4_ n5_ n6_ n7_ n8_; (try clear hb); (try clear hb2); (try clear hk); (try clear hi); (try clear ho0); (try clear ho1)) | ((with_reducible refine znb (N := 9) rfl ?_); (try (refine zjc (by rfl) ?_; dsimp only)); refine zzb ?hg (N := 9) ?hd (cs := #[.string ⟨#[]⟩, .string ⟨#[]⟩, .string ⟨#[]⟩, .string ⟨#[]⟩, .bool false, .slice none 0 0, .slice none 0 0, .bool false, .bool false, .string ⟨#[]⟩]) (t := 33) ?hr ?_; (case hd => rfl); (case hg => rfl); (case hr => first | (go_simp; done) | (go_simp; rfl)); intro gb514 hg w109 hbox hb; have n0_ := za.mk (Kd.R_below (RW HO_482005.out) hb); have n1_ := za.mk (Kd.R_below (RW HO_482006.out) hb); have n2_ := za.mk (Kd.R_below (RW HO_498005.out) hb); have n3_ := za.mk (Kd.R_below (RW HO_498006.out) hb); have n4_ := za.mk (Kd.R_below (RW HO506.out) hb); have n5_ := za.mk (Kd.R_below (RW HO509.out) hb); have n6_ := za.mk (zc BK481.out hb); have n7_ := za.mk (zc BK497.out hb); have n8_ := za.mk (zib (by (with_reducible exact HB.out)) hb); have n9_ := za.mk hbox; have n10_ := za.mk ((by rw [hg]; exact (zm (by (with_reducible exact HB.out))) : w.heap.size ≤ gb514)); have n11_ := za.mk ((by rw [hg]; exact (zm (by (with_reducible exact HB.out))) : w.heap.size ≤ gb514)); have n12_ := za.mk ((by rw [hg]; exact Nat.ne_of_lt (zyb BK481.out) : gb481 ≠ gb514)); have n13_ := za.mk ((by rw [hg]; exact Nat.ne_of_gt (zyb BK481.out) : gb514 ≠ gb481)); have n14_ := za.mk ((by rw [hg]; exact Nat.ne_of_lt (zyb BK497.out) : gb497 ≠ gb514)); have n15_ := za.mk ((by rw [hg]; exact Nat.ne_of_gt (zyb BK497.out) : gb514 ≠ gb497)); clear HO_482005; clear HO_482006; clear HO_498005; clear HO_498006; clear HO506; clear HO509; clear BK481; clear BK497; clear HB; have HO_482005 := n0_; have HO_482006 := n1_; have HO_498005 := n2_; have HO_498006 := n3_; have HO506 := n4_; have HO509 := n5_; have BK481 := n6_; have BK497 := n7_; have HB := n8_; have BK514 := n9_; have GW514 := n10_; have GE514 := n11_; have NB481_514 := n12_; have NB514_481 := n13_; have NB497_514 := n14_; have NB514_497 := n15_; clear n0_ n1_ n2_ n3_ n4_ n5_ n6_ n7_ n8_ n9_ n10_ n11_ n12_ n13_ n14_ n15_; clear hb hbox hg; have hnb110 := NB514_481.out; have hnc110 := NB481_514.out; have hnb111 := NB514_497.out; have hnc111 := NB497_514.out; obtain ⟨z112_0, z112_1, z112_2, z112_3, z112_4, z112_5, z112_6, z112_7, z112_8, z112_9, y112_0, y112_1, y112_2, y112_3, y112_4, y112_5, y112_6, y112_7, y112_8, y112_9⟩ := cl10 BK514.out; obtain ⟨Ao113, co113, eo113⟩ := Kd.R_slice HO506.out; subst eo113; obtain ⟨Ao114, co114, eo114⟩ := Kd.R_slice HO509.out; subst eo114) | ((with_reducible refine zw (f := 14) rfl ?_); refine goesA (some 69) Tryz.func14 #[.string a1] ?_; (with_reducible refine (zbc.calls a1 t515 t516 t517 t518 t519 t520 t523 t526 t527 t528 true _ A48.out (by exact GL.at HG.out (by repeat (first | (with_reducible first | exact HB.out | apply zj | apply zd | apply zab | refine zl ?_ GE481.out | refine zl ?_ GE497.out | refine zl ?_ GE514.out | refine zl ?_ GE530.out) | exact HB.out)))).mono ?_); rintro e w115 ⟨v521, v524, rfl, ho0, ho1, hb⟩; refine ⟨_, rfl, ?_⟩; have n0_ := za.mk (Kd.R_elder' (RW (Kd.R_mono (zrb (Kd.R_types HO_482005.out BK514.out (by decide))) (fun _ h_ => h_.1))) (Kd.R_base ho0) hb); have n1_ := za.mk (Kd.R_elder' (RW (Kd.R_mono (zrb (Kd.R_types HO_482006.out BK514.out (by decide))) (fun _ h_ => h_.1))) (Kd.R_base ho1) hb); have n2_ := za.mk (Kd.R_elder' (RW (Kd.R_mono (zrb (Kd.R_types HO_498005.out BK514.out (by decide))) (fun _ h_ => h_.1))) (Kd.R_base ho0) hb); have n3_ := za.mk (Kd.R_elder' (RW (Kd.R_mono (zrb (Kd.R_types HO_498006.out BK514.out (by decide))) (fun _ h_ => h_.1))) (Kd.R_base ho1) hb); have n4_ := za.mk (Kd.R_elder' (RW (Kd.R_mono (zrb (Kd.R_types HO506.out BK514.out (by decide))) (fun _ h_ => h_.1))) (Kd.R_base ho0) hb); have n5_ := za.mk (Kd.R_elder' (RW (Kd.R_mono (zrb (Kd.R_types HO509.out BK514.out (by decide))) (fun _ h_ => h_.1))) (Kd.R_base ho1) hb); have n6_ := za.mk (Kd.R_lower (Kd.R_new' (Kd.R_new' (Kd.R_new' ho0 (Kd.R_lt (RW (Kd.R_mono (zrb (Kd.R_types HO_482005.out BK514.out (by decide))) (fun _ h_ => h_.1))))) (Kd.R_lt (RW (Kd.R_mono (zrb (Kd.R_types HO_498005.out BK514.out (by decide))) (fun _ h_ => h_.1))))) (Kd.R_lt (RW (Kd.R_mono (zrb (Kd.R_types HO506.out BK514.out (by decide))) (fun _ h_ => h_.1))))) (zm (by repeat (first | (with_reducible first | exact HB.out | apply zj | apply zd | apply zab | refine zl ?_ GE481.out | refine zl ?_ GE497.out | refine zl ?_ GE514.out) | exact HB.out)))); have n7_ := za.mk (Kd.R_lower (Kd.R_new' (Kd.R_new' (Kd.R_new' ho1 (Kd.R_lt (RW (Kd.R_mono (zrb (Kd.R_types HO_482006.out BK514.out (by decide))) (fun _ h_ => h_.1))))) (Kd.R_lt (RW (Kd.R_mono (zrb (Kd.R_types HO_498006.out BK514.out (by decide))) (fun _ h_ => h_.1))))) (Kd.R_lt (RW (Kd.R_mono (zrb (Kd.R_types HO509.out BK514.out (by decide))) (fun _ h_ => h_.1))))) (zm (by repeat (first | (with_reducible first | exact HB.out | apply zj | apply zd | apply zab | refine zl ?_ GE481.out | refine zl ?_ GE497.out | refine zl ?_ GE514.out) | exact HB.out)))); have n8_ := za.mk (zc (g := gb481) (o := .cells #[.string t466, .string t467, .string t468, .string t469, .bool t470, .slice Ao31 t471.length co31, .slice Ao32 t474.length co32, .bool t477, .bool t478, .string t479] 33 (0, 0)) (by (iterate 10 refine zwb ?_ NB481_514.out _); exact BK481.out) hb); have n9_ := za.mk (zc (g := gb497) (o := .cells #[.string t482, .string t483, .string t484, .string t485, .bool t486, .slice Ao37 t487.length co37, .slice Ao38 t490.length co38, .bool t493, .bool t494, .string t495] 33 (0, 0)) (by (iterate 10 refine zwb ?_ NB497_514.out _); exact BK497.out) hb); have n10_ := za.mk (zc (g := gb514) (o := .cells #[.string t499, .string t500, .string t501, .string t502, .bool t503, .slice Ao113 t504.length co113, .slice Ao114 t507.length co114, .bool t510, .bool t511, .string t512] 33 (0, 0)) (by exact put10 BK514.out) hb); have n11_ := za.mk (zib (by repeat (first | (with_reducible first | exact HB.out | apply zj | apply zd | apply zab | refine zl ?_ GE481.out | refine zl ?_ GE497.out | refine zl ?_ GE514.out) | exact HB.out)) hb); clear HO_482005; clear HO_482006; clear HO_498005; clear HO_498006; clear HO506; clear HO509; clear BK481; clear BK497; clear BK514; clear HB; have HO_482005 := n0_; have HO_482006 := n1_; have HO_498005 := n2_; have HO_498006 := n3_; have HO506 := n4_; have HO509 := n5_; have HO522 := n6_; have HO525 := n7_; have BK481 := n8_; have BK497 := n9_; have BK514 := n10_; have HB := n11_; clear n0_ n1_ n2_ n3_ n4_ n5_ n6_ n7_ n8_ n9_ n10_ n11_; (try clear hb); (try clear hb2); (try clear hk); (try clear hi); (try clear ho0); (try clear ho1)) | ((with_reducible refine znb (N := 11) rfl ?_); (try (refine zjc (by rfl) ?_; dsimp only)); refine zzb ?hg (N := 11) ?hd (cs := #[.string ⟨#[]⟩, .string ⟨#[]⟩, .string ⟨#[]⟩, .string ⟨#[]⟩, .bool false, .slice none 0 0, .slice none 0 0, .bool false, .bool false, .string ⟨#[]⟩]) (t := 33) ?hr ?_; (case hd => rfl); (case hg => rfl); (case hr => first | (go_simp; done) | (go_simp; rfl)); intro gb530 hg w116 hbox hb; have n0_ := za.mk (Kd.R_below (RW HO_482005.out) hb); have n1_ := za.mk (Kd.R_below (RW HO_482006.out) hb); have n2_ := za.mk (Kd.R_below (RW HO_498005.out) hb); have n3_ := za.mk (Kd.R_below (RW HO_498006.out) hb); have n4_ := za.mk (Kd.R_below (RW HO506.out) hb); have n5_ := za.mk (Kd.R_below (RW HO509.out) hb); have n6_ := za.mk (Kd.R_below (RW HO522.out) hb); have n7_ := za.mk (Kd.R_below (RW HO525.out) hb); have n8_ := za.mk (zc BK481.out hb); have n9_ := za.mk (zc BK497.out hb); have n10_ := za.mk (zc BK514.out hb); have n11_ := za.mk (zib (by (with_reducible exact HB.out)) hb); have n12_ := za.mk hbox; have n13_ := za.mk ((by rw [hg]; exact (zm (by (with_reducible exact HB.out))) : w.heap.size ≤ gb530)); have n14_ := za.mk ((by rw [hg]; exact (zm (by (with_reducible exact HB.out))) : w.heap.size ≤ gb530)); have n15_ := za.mk ((by rw [hg]; exact Nat.ne_of_lt (zyb BK481.out) : gb481 ≠ gb530)); have n16_ := za.mk ((by rw [hg]; exact Nat.ne_of_gt (zyb BK481.out) : gb530 ≠ gb481)); have n17_ := za.mk ((by rw [hg]; exact Nat.ne_of_lt (zyb BK497.out) : gb497 ≠ gb530)); have n18_ := za.mk ((by rw [hg]; exact Nat.ne_of_gt (zyb BK497.out) : gb530 ≠ gb497)); have n19_ := za.mk ((by rw [hg]; exact Nat.ne_of_lt (zyb BK514.out) : gb514 ≠ gb530)); have n20_ := za.mk ((by rw [hg]; exact Nat.ne_of_gt (zyb BK514.out) : gb530 ≠ gb514)); clear HO_482005; clear HO_482006; clear HO_498005; clear HO_498006; clear HO506; clear HO509; clear HO522; clear HO525; clear BK481; clear BK497; clear BK514; clear HB; have HO_482005 := n0_; have HO_482006 := n1_; have HO_498005 := n2_; have HO_498006 := n3_; have HO506 := n4_; have HO509 := n5_; have HO522 := n6_; have HO525 := n7_; have BK481 := n8_; have BK497 := n9_; have BK514 := n10_; have HB := n11_; have BK530 := n12_; have GW530 := n13_; have GE530 := n14_; have NB481_530 := n15_; have NB530_481 := n16_; have NB497_530 := n17_; have NB530_497 := n18_; have NB514_530 := n19_; have NB530_514 := n20_; clear n0_ n1_ n2_ n3_ n4_ n5_ n6_ n7_ n8_ n9_ n10_ n11_ n12_ n13_ n14_ n15_ n16_ n17_ n18_ n19_ n20_; clear hb hbox hg; have hnb117 := NB530_481.out; have hnc117 := NB481_530.out; have hnb118 := NB530_497.out; have hnc118 := NB497_530.out; have hnb119 := NB530_514.out; have hnc119 := NB514_530.out; obtain ⟨z120_0, z120_1, z120_2, z120_3, z120_4, z120_5, z120_6, z120_7, z120_8, z120_9, y120_0, y120_1, y120_2, y120_3, y120_4, y120_5, y120_6, y120_7, y120_8, y120_9⟩ := cl10 BK530.out; obtain ⟨Ao121, co121, eo121⟩ := Kd.R_slice HO522.out; subst eo121; obtain ⟨Ao122, co122, eo122⟩ := Kd.R_slice HO525.out; subst eo122) | ((with_reducible refine zw (f := 10) rfl ?_); refine goesA (some 75) Tryz.func10 #[.string a0, .string a1] ?_; (with_reducible refine (zcb.calls a0 a1 t531 true _ A49.out (by exact GL.at HG.out (by repeat (first | (with_reducible first | exact HB.out | apply zj | apply zd | apply zab | refine zl ?_ GE481.out | refine zl ?_ GE497.out | refine zl ?_ GE514.out | refine zl ?_ GE530.out) | exact HB.out)))).mono ?_); rintro e w123 ⟨rfl, hb⟩; refine ⟨_, rfl, ?_⟩; replace HO_482005 := za.mk (Kd.R_below (RW (Kd.R_mono (zrb (Kd.R_types HO_482005.out BK530.out (by decide))) (fun _ h_ => h_.1))) hb); replace HO_482006 := za.mk (Kd.R_below (RW (Kd.R_mono (zrb (Kd.R_types HO_482006.out BK530.out (by decide))) (fun _ h_ => h_.1))) hb); replace HO_498005 := za.mk (Kd.R_below (RW (Kd.R_mono (zrb (Kd.R_types HO_498005.out BK530.out (by decide))) (fun _ h_ => h_.1))) hb); replace HO_498006 := za.mk (Kd.R_below (RW (Kd.R_mono (zrb (Kd.R_types HO_498006.out BK530.out (by decide))) (fun _ h_ => h_.1))) hb); replace HO506 := za.mk (Kd.R_below (RW (Kd.R_mono (zrb (Kd.R_types HO506.out BK530.out (by decide))) (fun _ h_ => h_.1))) hb); replace HO509 := za.mk (Kd.R_below (RW (Kd.R_mono (zrb (Kd.R_types HO509.out BK530.out (by decide))) (fun _ h_ => h_.1))) hb); replace HO522 := za.mk (Kd.R_below (RW (Kd.R_mono (zrb (Kd.R_types HO522.out BK530.out (by decide))) (fun _ h_ => h_.1))) hb); replace HO525 := za.mk (Kd.R_below (RW (Kd.R_mono (zrb (Kd.R_types HO525.out BK530.out (by decide))) (fun _ h_ => h_.1))) hb); replace BK481 := za.mk (zc (g := gb481) (o := .cells #[.string t466, .string t467, .string t468, .string t469, .bool t470, .slice Ao31 t471.length co31, .slice Ao32 t474.length co32, .bool t477, .bool t478, .string t479] 33 (0, 0)) (by (iterate 10 refine zwb ?_ NB481_530.out _); exact BK481.out) hb); replace BK497 := za.mk (zc (g := gb497) (o := .cells #[.string t482, .string t483, .string t484, .string t485, .bool t486, .slice Ao37 t487.length co37, .slice Ao38 t490.length co38, .bool t493, .bool t494, .string t495] 33 (0, 0)) (by (iterate 10 refine zwb ?_ NB497_530.out _); exact BK497.out) hb); replace BK514 := za.mk (zc (g := gb514) (o := .cells #[.string t499, .string t500, .string t501, .string t502, .bool t503, .slice Ao113 t504.length co113, .slice Ao114 t507.length co114, .bool t510, .bool t511, .string t512] 33 (0, 0)) (by (iterate 10 refine zwb ?_ NB514_530.out _); exact BK514.out) hb); replace BK530 := za.mk (zc (g := gb530) (o := .cells #[.string t515, .string t516, .string t517, .string t518, .bool t519, .slice Ao121 t520.length co121, .slice Ao122 t523.length co122, .bool t526, .bool t527, .string t528] 33 (0, 0)) (by exact put10 BK530.out) hb); replace HB := za.mk (zib (by repeat (first | (with_reducible first | exact HB.out | apply zj | apply zd | apply zab | refine zl ?_ GE481.out | refine zl ?_ GE497.out | refine zl ?_ GE514.out | refine zl ?_ GE530.out) | exact HB.out)) hb); (try clear hb); (try clear hb2); (try clear hk); (try clear hi)) | ((with_reducible refine zw (f := 10) rfl ?_); refine goesA (some 81) Tryz.func10 #[.string a1, .string a0] ?_; (with_reducible refine (zcb.calls a1 a0 t533 true _ A50.out (by exact GL.at HG.out (by repeat (first | (with_reducible first | exact HB.out | apply zj | apply zd | apply zab | refine zl ?_ GE481.out | refine zl ?_ GE497.out | refine zl ?_ GE514.out | refine zl ?_ GE530.out) | exact HB.out)))).mono ?_); rintro e w124 ⟨rfl, hb⟩; refine ⟨_, rfl, ?_⟩; replace HO_482005 := RB HO_482005 hb; replace HO_482006 := RB HO_482006 hb; replace HO_498005 := RB HO_498005 hb; replace HO_498006 := RB HO_498006 hb; replace HO506 := RB HO506 hb; replace HO509 := RB HO509 hb; replace HO522 := RB HO522 hb; replace HO525 := RB HO525 hb; replace BK481 := za.mk (zc BK481.out hb); replace BK497 := za.mk (zc BK497.out hb); replace BK514 := za.mk (zc BK514.out hb); replace BK530 := za.mk (zc BK530.out hb); replace HB := BS HB hb; (try clear hb); (try clear hb2); (try clear hk); (try clear hi); have hnb125 := NB481_497.out; have hnc125 := NB497_481.out; obtain ⟨z126_0, z126_1, z126_2, z126_3, z126_4, z126_5, z126_6, z126_7, z126_8, z126_9, y126_0, y126_1, y126_2, y126_3, y126_4, y126_5, y126_6, y126_7, y126_8, y126_9⟩ := cl10 BK481.out; obtain ⟨z127_0, z127_1, z127_2, z127_3, z127_4, z127_5, z127_6, z127_7, z127_8, z127_9, y127_0, y127_1, y127_2, y127_3, y127_4, y127_5, y127_6, y127_7, y127_8, y127_9⟩ := cl10 BK497.out) | (go_at_call 11; (with_reducible refine (ze.calls kj26 t466 t467 t468 t469 t470 _ _ t471 _ _ t474 t477 t478 t479 t482 t483 t484 t485 t486 _ _ t487 _ _ t490 t493 t494 t495 t535 _ ?side1 ?side2 ?side3 ?side4 ?side5 ?side6 ?side7 ?side8 A55.out).mono ?_); (case side1 => exact CS HO_482005); (case side2 => exact (Kd.R_reads' HO_482005.out).2.1); (case side3 => exact CS HO_482006); (case side4 => exact (Kd.R_reads' HO_482006.out).2.1); (case side5 => exact CS HO_498005); (case side6 => exact (Kd.R_reads' HO_498005.out).2.1); (case side7 => exact CS HO_498006); (case side8 => exact (Kd.R_reads' HO_498006.out).2.1); rintro e w128 ⟨rfl, hb⟩; replace HO_482005 := RB HO_482005 hb; replace HO_482006 := RB HO_482006 hb; replace HO_498005 := RB HO_498005 hb; replace HO_498006 := RB HO_498006 hb; replace HO506 := RB HO506 hb; replace HO509 := RB HO509 hb; replace HO522 := RB HO522 hb; replace HO525 := RB HO525 hb; replace BK481 := za.mk (zc BK481.out hb); replace BK497 := za.mk (zc BK497.out hb); replace BK514 := za.mk (zc BK514.out hb); replace BK530 := za.mk (zc BK530.out hb); replace HB := BS HB hb; (try clear hb); (try clear hb2); (try clear hk); (try clear hi)))
               go_ret
               exact ⟨by rfl, by (with_reducible exact HB.out)⟩
             ·replace c54 := Bool.eq_false_iff.mpr c54
              subst c54
              have H1 : (some false) = some r := by rw [if_neg (show ¬ (false = true) by decide)] at H; exact H
              clear H
              have H := H1
              clear H1
              obtain rfl := Option.some.inj H
              exact absurd HT.out Bool.false_ne_true
            ·replace c53 := Bool.eq_false_iff.mpr c53
             subst c53
             have H1 : (some false) = some r := by rw [if_neg (show ¬ (false = true) by decide)] at H; exact H
             clear H
             have H := H1
             clear H1
             obtain rfl := Option.some.inj H
             exact absurd HT.out Bool.false_ne_true
           ·replace c52 := Bool.eq_false_iff.mpr c52
            subst c52
            have H1 : (some false) = some r := by rw [if_neg (show ¬ (false = true) by decide)] at H; exact H
            clear H
            have H := H1
            clear H1
            obtain rfl := Option.some.inj H
            exact absurd HT.out Bool.false_ne_true
          ·replace c51 := Bool.eq_false_iff.mpr c51
           subst c51
           have H1 : (some false) = some r := by rw [if_neg (show ¬ (false = true) by decide)] at H; exact H
           clear H
           have H := H1
           clear H1
           obtain rfl := Option.some.inj H
           exact absurd HT.out Bool.false_ne_true
def zi.Pure : Prop := ∀ (a0 : ByteArray) (a1 : ByteArray), a0.size ≤ 140737488351232 → a1.size ≤ 140737488351232 → ∃ k, zi.f k a0 a1 = some true
theorem zi.walk (P : zi.Pure) (a0 : ByteArray) (a1 : ByteArray) (w : World) (w0 : a0.size ≤ 140737488351232) (w1 : a1.size ≤ 140737488351232) (hG : GL w) :
  Calls Tryz.prog 5 #[.string a0, .string a1] w fun e w' => e = .returned (.bool true) ∧ Below w.heap.size w w' := by
 obtain ⟨k, h⟩ := P a0 a1 w0 w1
 refine (zi.calls k a0 a1 true w h hG rfl).mono ?_
 rintro e w' ⟨rfl, hd⟩
 exact ⟨rfl, hd⟩
end Go.Proofs.YtapaijpglfmfgaaGreatDoor.Q
end
section
namespace Go.Proofs.YtapaijpglfmfgaaGreatDoor.Q
open Go.RowKit YtapaijpglfmfgaaGreatDoorH YtapaijpglfmfgaaGreatDoorG YtapaijpglfmfgaaGreatDoorW.PrintWords YtapaijpglfmfgaaGreatDoorW.PrintLast YtapaijpglfmfgaaGreatDoorW.PrintMore
attribute [local go_sem] zfd zjd ztd zud zsc ztc zgd zkd
theorem eqA31 (d : Nat) (w : World) (x0 y0 : Bool) (x1 y1 : ByteArray) :
  (Op.equalIn (d + 2) 31 (.agg #[.bool x0, .string x1]) (.agg #[.bool y0, .string y1])).run Tryz.prog w = .ok (x0 == y0 && (x1.toList == y1.toList)) w := by
 refine eqA_of Tryz.underlying31 (by kernel_rfl) ?_
 refine eqf_cons (by rfl) (by go_simp; rfl) (by go_simp; rfl) (by go_simp) ?_
 exact eqf_last (by rfl) (by go_simp; rfl) (by go_simp; rfl) (by go_simp)
end Go.Proofs.YtapaijpglfmfgaaGreatDoor.Q
end
section
namespace Go.Proofs.YtapaijpglfmfgaaGreatDoor.Q
open Go.RowKit YtapaijpglfmfgaaGreatDoorH YtapaijpglfmfgaaGreatDoorG YtapaijpglfmfgaaGreatDoorW.PrintWords YtapaijpglfmfgaaGreatDoorW.PrintLast YtapaijpglfmfgaaGreatDoorW.PrintMore
attribute [local go_sem] zfd zjd ztd zud zsc ztc zgd zkd
theorem eqA52 (d : Nat) (w : World) (x0 y0 : ByteArray) (x1 y1 : Bool) (x2 y2 : ByteArray) (x3 y3 : Int) :
  (Op.equalIn (d + 3) 52 (.agg #[.string x0, .bool x1, .string x2, .int .i64 x3]) (.agg #[.string y0, .bool y1, .string y2, .int .i64 y3])).run Tryz.prog w = .ok (x0.toList == y0.toList && ((x1 == y1 && (x2.toList == y2.toList)) && (x3 == y3))) w := by
 refine eqA_of Tryz.underlying52 (by kernel_rfl) ?_
 refine eqf_cons (by rfl) (by go_simp; rfl) (by go_simp; rfl) (by go_simp) ?_
 refine eqf_cons (by rfl) (by go_simp) (by go_simp) (eqA31 (d + 0) w _ _ _ _) ?_
 exact eqf_last (by rfl) (by go_simp; rfl) (by go_simp; rfl) (by go_simp)
end Go.Proofs.YtapaijpglfmfgaaGreatDoor.Q
end
section
namespace Go.Proofs.YtapaijpglfmfgaaGreatDoor.Q
open Go.RowKit YtapaijpglfmfgaaGreatDoorH YtapaijpglfmfgaaGreatDoorG YtapaijpglfmfgaaGreatDoorW.PrintWords YtapaijpglfmfgaaGreatDoorW.PrintLast YtapaijpglfmfgaaGreatDoorW.PrintMore
attribute [local go_sem] zfd zjd ztd zud zsc ztc zgd zkd
theorem eqA56 (d : Nat) (w : World) (x0 y0 : Int) (x1 y1 : Bool) (x2 y2 : ByteArray) :
  (Op.equalIn (d + 3) 56 (.agg #[.int .i64 x0, .bool x1, .string x2]) (.agg #[.int .i64 y0, .bool y1, .string y2])).run Tryz.prog w = .ok (x0 == y0 && ((x1 == y1 && (x2.toList == y2.toList)))) w := by
 refine eqA_of Tryz.underlying56 (by kernel_rfl) ?_
 refine eqf_cons (by rfl) (by go_simp; rfl) (by go_simp; rfl) (by go_simp) ?_
 exact eqf_last (by rfl) (by go_simp) (by go_simp) (eqA31 (d + 0) w _ _ _ _)
end Go.Proofs.YtapaijpglfmfgaaGreatDoor.Q
end
section
namespace Go.Proofs.YtapaijpglfmfgaaGreatDoor.V
open Go.RowKit YtapaijpglfmfgaaGreatDoor.Q YtapaijpglfmfgaaGreatDoorG YtapaijpglfmfgaaGreatDoorP YtapaijpglfmfgaaGreatDoorH YtapaijpglfmfgaaGreatDoorB YtapaijpglfmfgaaGreatDoorM YtapaijpglfmfgaaGreatDoorW.PrintWords YtapaijpglfmfgaaGreatDoorW.PrintLast
theorem rd_nat (l : List Int) (i : Nat) : rd l (i : Int) = l.getD i 0 := by simp [rd]
theorem intOf_l2 (m : List Int) (hm : m.length ≤ 1000000) : ∀ (n k : Nat), m.length - k = n → k ≤ m.length →
  Ev (fun q => zeb.l2 q m (zfe m.length (m.take k)) (k : Int)) (false, strOfNums m.reverse) := by
 intro n
 induction n with
 | zero =>
  intro k hn hk
  obtain rfl : k = m.length := by omega
  refine Ev.succ ?_
  simp only [zeb.l2]
  refine Ev.neg (fun _ => by first | omega | assumption | nofun) ?_
  refine Ev.eq (Ev.now _) ?_
  rw [List.take_length, zhj _ rfl]
 | succ n ih =>
  intro k hn hk
  have hlt : k < m.length := by omega
  have htl : (m.take k).length = k := by rw [List.length_take]; omega
  have hcl : (zfe m.length (m.take k)).length = m.length := content_len (by omega)
  refine Ev.succ ?_
  simp only [zeb.l2, rd_nat]
  refine Ev.pos (fun _ => by first | omega | trivial | assumption) ?_
  refine Ev.pos (fun _ => by first | omega | trivial | assumption) ?_
  rw [w64 (i := (m.length : Int) - 1) (by omega) (by omega), w64 (i := (m.length : Int) - 1 - (k : Int)) (by omega) (by omega), w64 (i := (k : Int) + 1) (by omega) (by omega)]
  refine Ev.pos (fun _ => by omega) ?_
  refine Ev.pos (fun _ => by rw [hcl]; omega) ?_
  have e1 : ((m.length : Int) - 1 - (k : Int)).toNat = m.length - (m.take k).length - 1 := by rw [htl]; omega
  rw [e1, znj _ (by rw [htl]; exact hlt)]
  have e2 : m.take k ++ [m.getD k 0] = m.take (k + 1) := by
   rw [List.take_add_one, List.getElem?_eq_getElem hlt, List.getD_eq_getElem?_getD, List.getElem?_eq_getElem hlt]
   rfl
  rw [e2]
  exact ih (k + 1) (by omega) (by omega)
theorem intOf_l1 (s : ByteArray) (i : Int) {r : Bool × ByteArray} : ∀ (rest done : List Int) (c : Nat), Byt rest → c ≤ 300 → done.length + rest.length ≤ 1000000 →
  Ev (fun q => zeb.l1 q s (done ++ (mul10 rest c).1) i ((mul10 rest c).2 : Int) ((done.length + rest.length : Nat) : Int)) r → Ev (fun q => zeb.l1 q s (done ++ rest) i (c : Int) (done.length : Int)) r
 | [], done, c, _, _, _, h => by simpa [mul10] using h
 | x :: rest, done, c, hb, hc, hl, h => by
  have hx := hb.cons.1
  simp only [List.length_cons] at hl
  refine Ev.succ ?_
  simp only [zeb.l1, rd_nat]
  refine Ev.pos (fun _ => by rw [List.length_append, List.length_cons]; omega) ?_
  refine Ev.pos (fun _ => by omega) ?_
  have hg : (done ++ x :: rest).getD done.length 0 = x := by simp [List.getD_eq_getElem?_getD]
  rw [hg, w64 (i := x) (by omega) (by omega), w64 (i := 10 * x) (by omega) (by omega), w64 (i := (c : Int) + 10 * x) (by omega) (by omega), w64 (i := (done.length : Int) + 1) (by omega) (by omega), Int.toNat_natCast]
  have e0 : (c : Int) + 10 * x = ((c + 10 * x.toNat : Nat) : Int) := by omega
  have e1 : Int.tmod ((c : Int) + 10 * x) 256 % 256 = (((c + 10 * x.toNat) % 256 : Nat) : Int) := by
   rw [e0, Int.tmod_eq_emod_of_nonneg (by omega)]
   omega
  have e2 : wrap64 (Int.tdiv ((c : Int) + 10 * x) 256) = (((c + 10 * x.toNat) / 256 : Nat) : Int) := by
   rw [e0, Int.tdiv_eq_ediv_of_nonneg (by omega), w64 (by omega) (by omega)]
   omega
  rw [e1, e2]
  have e3 : (done ++ x :: rest).set done.length (((c + 10 * x.toNat) % 256 : Nat) : Int) = (done ++ [(((c + 10 * x.toNat) % 256 : Nat) : Int)]) ++ rest := by simp
  rw [e3]
  have ih := intOf_l1 s i (r := r) rest (done ++ [(((c + 10 * x.toNat) % 256 : Nat) : Int)]) ((c + 10 * x.toNat) / 256) hb.cons.2 (by omega) (by simp; omega)
  have e4 : ((done ++ [(((c + 10 * x.toNat) % 256 : Nat) : Int)]).length : Int) = (done.length : Int) + 1 := by simp
  rw [e4] at ih
  refine ih ?_
  simp only [mul10] at h
  have e5 : (((done ++ [(((c + 10 * x.toNat) % 256 : Nat) : Int)]).length + rest.length : Nat) : Int) = ((done.length + (x :: rest).length : Nat) : Int) := by simp; omega
  rw [e5, List.append_assoc]
  exact h
theorem pushD_len (m : List Int) (d : Nat) : (pushD m d).length ≤ m.length + 1 := by
 unfold pushD
 split
 ·simp [zjg]
 ·rw [zjg]; omega
theorem intOf_l0 (s : ByteArray) (hs : s.size ≤ 200000) (hd : ∀ c ∈ bytesOf s, isD c = true) : ∀ (n i : Nat) (m : List Int), s.size - i = n → i ≤ s.size → m.length ≤ i → Tight m (decL ((bytesOf s).take i)) →
  Ev (fun q => zeb.l0 q s m (i : Int)) (false, magB (decL (bytesOf s))) := by
 intro n
 induction n with
 | zero =>
  intro i m hn hi hm ht
  obtain rfl : i = s.size := by omega
  rw [List.take_of_length_le (by rw [bytesOf_length]; exact Nat.le_refl _)] at ht
  refine Ev.succ ?_
  simp only [zeb.l0]
  refine Ev.neg (fun _ => by first | omega | assumption | nofun) ?_
  refine Ev.pos (fun _ => by omega) ?_
  refine Ev.pos (fun _ => by omega) ?_
  have h := intOf_l2 m (by omega) _ 0 rfl (Nat.zero_le _)
  have e : zfe m.length (m.take 0) = List.replicate ((m.length : Int)).toNat 0 := by simp [zfe]
  rw [e] at h
  refine Ev.eq h ?_
  rw [ht.mag]
  rfl
 | succ n ih =>
  intro i m hn hi hm ht
  have hl : i < (bytesOf s).length := by rw [bytesOf_length]; omega
  have hc : isD ((bytesOf s).getD i 0) = true := hd _ (by rw [List.getD_eq_getElem?_getD, List.getElem?_eq_getElem hl]; exact List.getElem_mem hl)
  unfold isD at hc
  have hc2 := of_decide_eq_true hc
  obtain ⟨d, hdd⟩ : ∃ d, d = ((bytesOf s).getD i 0 - 48).toNat := ⟨_, rfl⟩
  refine Ev.succ ?_
  simp only [zeb.l0, zah]
  refine Ev.pos (fun _ => by first | omega | trivial | assumption) ?_
  refine Ev.pos (fun _ => by first | omega | trivial | assumption) ?_
  have e1 : ((bytesOf s).getD i 0 - 48) % 256 = (d : Int) := by omega
  rw [e1]
  have htk : decL ((bytesOf s).take (i + 1)) = 10 * decL ((bytesOf s).take i) + d := by
   rw [List.take_add_one, List.getElem?_eq_getElem hl, hdd, List.getD_eq_getElem?_getD, List.getElem?_eq_getElem hl]
   exact decL_snoc _ _
  have hp : Tight (pushD m d) (decL ((bytesOf s).take (i + 1))) := by rw [htk]; exact push_tight ht (by omega)
  have hcar := zbi m d ht.byt (by omega)
  have hpl := pushD_len m d
  have next := ih (i + 1) (pushD m d) (by omega) (by omega) (by omega) hp
  have h := intOf_l1 s (i : Int) (r := (false, magB (decL (bytesOf s)))) m [] d ht.byt (by omega) (by simp; omega)
  simp only [List.nil_append, List.length_nil, Nat.zero_add] at h
  refine h ?_
  refine Ev.succ ?_
  simp only [zeb.l1]
  refine Ev.neg (fun _ => by rw [zjg]; omega) ?_
  rw [w64 (i := (i : Int) + 1) (by omega) (by omega)]
  unfold pushD at next
  by_cases hq : (mul10 m d).2 > 0
  ·rw [if_pos hq] at next
   refine Ev.pos (fun _ => by omega) ?_
   refine Ev.pos (fun _ => by rw [zjg]; omega) ?_
   have e2 : ((mul10 m d).2 : Int) % 256 = ((mul10 m d).2 : Int) := by omega
   rw [e2]
   exact next
  ·rw [if_neg hq] at next
   refine Ev.neg (fun _ => by omega) ?_
   exact next
theorem intOf_ev (s : ByteArray) (hs : s.size ≤ 200000) (hd : ∀ c ∈ bytesOf s, isD c = true) : Ev (fun q => zeb.f q s) (false, magB (decL (bytesOf s))) :=
 intOf_l0 s hs hd _ 0 [] rfl (Nat.zero_le _) (Nat.le_refl _) ⟨fun x hx => by simp at hx, rfl, fun h => absurd rfl h⟩
theorem isDigit_eq (c : Int) : E1.zqb.f c = some (isD c) := by
 unfold E1.zqb.f isD
 by_cases h : c ≥ 48
 ·rw [if_pos h]; simp; omega
 ·rw [if_neg h]; simp; omega
theorem isDigit2_eq (c : Int) : E2.zqb.f c = some (isD c) := by
 unfold E2.zqb.f isD
 by_cases h : c ≥ 48
 ·rw [if_pos h]; simp; omega
 ·rw [if_neg h]; simp; omega
theorem alpHex2_eq (c : Int) : E2.zbd.f c = some (isX c) := by
 unfold E2.zbd.f isX
 rw [isDigit2_eq]
 simp only [Option.bind_some]
 cases isD c
 ·rw [if_neg Bool.false_ne_true, Bool.false_or]
  by_cases h : c ≥ 97
  ·rw [if_pos h]; congr 1; rw [decide_eq_decide]; omega
  ·rw [if_neg h]; congr 1; symm; rw [decide_eq_false_iff_not]; omega
 ·rfl
theorem run1_from (s : ByteArray) (hs : s.size ≤ 2000000) : ∀ (n i : Nat), s.size - i = n → i ≤ s.size → Ev (fun k => E1.zbb.l0 k s (i : Int)) ((i + run isD ((bytesOf s).drop i) : Nat) : Int) := by
 intro n
 induction n with
 | zero =>
  intro i hn hi
  refine Ev.succ ?_
  simp only [E1.zbb.l0]
  refine Ev.neg (fun _ => by first | omega | assumption | nofun) ?_
  refine Ev.eq (Ev.now _) ?_
  rw [List.drop_of_length_le (by rw [bytesOf_length]; omega), run_nil]
  rfl
 | succ n ih =>
  intro i hn hi
  have hl : i < (bytesOf s).length := by rw [bytesOf_length]; omega
  refine Ev.succ ?_
  simp only [E1.zbb.l0, zah, isDigit_eq, Option.bind_some]
  refine Ev.pos (fun _ => by first | omega | trivial | assumption) ?_
  refine Ev.pos (fun _ => by first | omega | trivial | assumption) ?_
  rw [zyg _ _ hl]
  cases hd : isD ((bytesOf s).getD i 0)
  ·refine Ev.neg (fun _ => Bool.false_ne_true) ?_
   refine Ev.eq (Ev.now _) ?_
   rw [zhg hd]
   rfl
  ·refine Ev.pos (fun _ => rfl) ?_
   rw [w64 (by omega) (by omega), zrg hd]
   refine Ev.eq (ih (i + 1) (by omega) (by omega)) ?_
   have : i + 1 + run isD ((bytesOf s).drop (i + 1)) = i + (run isD ((bytesOf s).drop (i + 1)) + 1) := by omega
   rw [this]
theorem run1_ev (s : ByteArray) (hs : s.size ≤ 2000000) : Ev (fun k => E1.zbb.f k s) ((run isD (bytesOf s) : Nat) : Int) := by
 have h := run1_from s hs _ 0 rfl (Nat.zero_le _)
 simpa [E1.zbb.f] using h
theorem run2_from (s : ByteArray) (hs : s.size ≤ 2000000) : ∀ (n i : Nat), s.size - i = n → i ≤ s.size → Ev (fun k => E2.zbb.l0 k s (i : Int)) ((i + run isX ((bytesOf s).drop i) : Nat) : Int) := by
 intro n
 induction n with
 | zero =>
  intro i hn hi
  refine Ev.succ ?_
  simp only [E2.zbb.l0]
  refine Ev.neg (fun _ => by first | omega | assumption | nofun) ?_
  refine Ev.eq (Ev.now _) ?_
  rw [List.drop_of_length_le (by rw [bytesOf_length]; omega), run_nil]
  rfl
 | succ n ih =>
  intro i hn hi
  have hl : i < (bytesOf s).length := by rw [bytesOf_length]; omega
  refine Ev.succ ?_
  simp only [E2.zbb.l0, zah, alpHex2_eq, Option.bind_some]
  refine Ev.pos (fun _ => by first | omega | trivial | assumption) ?_
  refine Ev.pos (fun _ => by first | omega | trivial | assumption) ?_
  rw [zyg _ _ hl]
  cases hd : isX ((bytesOf s).getD i 0)
  ·refine Ev.neg (fun _ => Bool.false_ne_true) ?_
   refine Ev.eq (Ev.now _) ?_
   rw [zhg hd]
   rfl
  ·refine Ev.pos (fun _ => rfl) ?_
   rw [w64 (by omega) (by omega), zrg hd]
   refine Ev.eq (ih (i + 1) (by omega) (by omega)) ?_
   have : i + 1 + run isX ((bytesOf s).drop (i + 1)) = i + (run isX ((bytesOf s).drop (i + 1)) + 1) := by omega
   rw [this]
theorem run2_ev (s : ByteArray) (hs : s.size ≤ 2000000) : Ev (fun k => E2.zbb.f k s) ((run isX (bytesOf s) : Nat) : Int) := by
 have h := run2_from s hs _ 0 rfl (Nat.zero_le _)
 simpa [E2.zbb.f] using h
theorem alpHex_eq (c : Int) : zbd.f c = some (isX c) := by
 unfold zbd.f isX
 have h : zqb.f c = some (isD c) := by
  unfold zqb.f isD
  by_cases h : c ≥ 48
  ·rw [if_pos h]; simp; omega
  ·rw [if_neg h]; simp; omega
 rw [h]
 simp only [Option.bind_some]
 cases isD c
 ·rw [if_neg Bool.false_ne_true, Bool.false_or]
  by_cases h : c ≥ 97
  ·rw [if_pos h]; congr 1; rw [decide_eq_decide]; omega
  ·rw [if_neg h]; congr 1; symm; rw [decide_eq_false_iff_not]; omega
 ·rfl
def zoi (k : Nat) (c : List (List Int)) : List S52 := (c.zipIdx k).map fun p => ⟨strOfNums p.1, ⟨false, magB (decL p.1)⟩, (p.2 : Int)⟩
theorem numsFrom_cons (k : Nat) (d : List Int) (c : List (List Int)) : zoi k (d :: c) = ⟨strOfNums d, ⟨false, magB (decL d)⟩, (k : Int)⟩ :: zoi (k + 1) c := rfl
theorem str_take (s : ByteArray) (n : Nat) : s.extract 0 n = strOfNums ((bytesOf s).take n) := by rw [← zwf, str_B]
theorem str_drop (s : ByteArray) (n : Nat) : s.extract n s.size = strOfNums ((bytesOf s).drop n) := by rw [← zmg, str_B]
theorem zrj : ∀ (n : Nat) (s : ByteArray) (acc : List S52), s.size ≤ n → n ≤ 100000 → acc.length + n ≤ 200000 →
  Ev (fun k => zp.l0 k s acc) (acc ++ zoi acc.length (numsP n (bytesOf s)).1, strOfNums (numsP n (bytesOf s)).2) := by
 intro n
 induction n with
 | zero =>
  intro s acc hs hn ha
  have h0 : bytesOf s = [] := (size_nil s).1 (by omega)
  have hr := run1_ev s (by omega)
  rw [h0] at hr ⊢
  refine Ev.succ ?_
  simp only [zp.l0]
  refine Ev.bind hr ?_
  refine Ev.pos (fun _ => rfl) ?_
  refine Ev.eq (Ev.now _) ?_
  have : s = strOfNums [] := by rw [← h0, str_B]
  rw [this]
  simp [numsP, zoi]
 | succ n ih =>
  intro s acc hs hn ha
  have hr := run1_ev s (by omega)
  have hrl := zih isD (bytesOf s)
  rw [bytesOf_length] at hrl
  refine Ev.succ ?_
  simp only [zp.l0]
  refine Ev.bind hr ?_
  simp only [numsP]
  by_cases h0 : run isD (bytesOf s) = 0
  ·rw [if_pos h0]
   refine Ev.pos (fun _ => by omega) ?_
   refine Ev.eq (Ev.now _) ?_
   rw [str_B]
   simp [zoi]
  ·rw [if_neg h0]
   refine Ev.neg (fun _ => by omega) ?_
   refine Ev.pos (fun _ => by omega) ?_
   refine Ev.pos (fun _ => by omega) ?_
   rw [Int.toNat_natCast]
   have hdig : ∀ c ∈ (bytesOf s).take (run isD (bytesOf s)), isD c = true := fun c hc => ztg hc
   have hio := intOf_ev (s.extract 0 (run isD (bytesOf s))) (by rw [zfc, zwf, List.length_take, bytesOf_length]; omega) (by rw [zwf]; exact hdig)
   rw [zwf] at hio
   refine Ev.bind hio ?_
   refine Ev.pos (fun _ => by omega) ?_
   refine Ev.bind0 rfl ?_
   refine Ev.bind0 rfl ?_
   have hb : bytesOf (s.extract (run isD (bytesOf s)) s.size) = (bytesOf s).drop (run isD (bytesOf s)) := zmg _ _
   obtain ⟨Y, hY⟩ : ∃ Y, Y = s.extract (run isD (bytesOf s)) s.size := ⟨_, rfl⟩
   rw [← hY] at hb ⊢
   have hYs : Y.size ≤ n := by rw [zfc, hb, List.length_drop, bytesOf_length]; omega
   have hYe : Y = strOfNums ((bytesOf s).drop (run isD (bytesOf s))) := by rw [← hb, str_B]
   rw [str_take]
   by_cases h1 : Y.toList = []
   ·have h1b : (bytesOf s).drop (run isD (bytesOf s)) = [] := hb.symm.trans ((zcc Y).1 h1)
    refine Ev.pos (fun _ => h1) ?_
    refine Ev.eq (Ev.now _) ?_
    rw [h1b]
    rw [if_neg (by decide)]
    rw [numsFrom_cons, hYe, h1b]
    rfl
   ·have hpos : 0 < Y.size := by
     rw [zfc]
     exact List.length_pos_iff.2 (fun e => h1 ((zcc Y).2 e))
    refine Ev.neg (fun _ => h1) ?_
    refine Ev.pos (fun _ => by omega) ?_
    rw [zhi, hb]
    by_cases h2 : ((bytesOf s).drop (run isD (bytesOf s))).getD 0 0 = 46
    ·rw [if_pos h2]
     refine Ev.pos (fun _ => h2) ?_
     refine Ev.pos (fun _ => by omega) ?_
     have hb1 : bytesOf (Y.extract 1 Y.size) = (bytesOf s).drop (run isD (bytesOf s) + 1) := by rw [zmg, hb, List.drop_drop]
     have := ih (Y.extract 1 Y.size) (acc ++ [⟨strOfNums ((bytesOf s).take (run isD (bytesOf s))), ⟨false, magB (decL ((bytesOf s).take (run isD (bytesOf s))))⟩, (acc.length : Int)⟩]) (by rw [zfc, hb1, List.length_drop, bytesOf_length]; omega) (by omega) (by simp; omega)
     rw [hb1] at this
     refine Ev.eq this ?_
     rw [List.append_assoc, List.length_append]
     rfl
    ·rw [if_neg h2]
     refine Ev.neg (fun _ => h2) ?_
     refine Ev.eq (Ev.now _) ?_
     rw [hYe]
     rfl
theorem zai (s : ByteArray) (hs : s.size ≤ 100000) : Ev (fun k => zp.f k s) (numsA (numsP (bytesOf s).length (bytesOf s)).1, strOfNums (rest1 (bytesOf s))) := by
 have h := zrj (bytesOf s).length s [] (by rw [bytesOf_length]; exact Nat.le_refl _) (by rw [bytesOf_length]; exact hs) (by rw [bytesOf_length]; simp; omega)
 rw [List.nil_append] at h
 exact h
end Go.Proofs.YtapaijpglfmfgaaGreatDoor.V
end
section
namespace Go.Proofs.YtapaijpglfmfgaaGreatDoor.V
open Go.RowKit YtapaijpglfmfgaaGreatDoor.Q YtapaijpglfmfgaaGreatDoorG YtapaijpglfmfgaaGreatDoorP YtapaijpglfmfgaaGreatDoorH YtapaijpglfmfgaaGreatDoorB YtapaijpglfmfgaaGreatDoorM YtapaijpglfmfgaaGreatDoorW.PrintWords YtapaijpglfmfgaaGreatDoorW.PrintLast
theorem rdOf_at (ws : List ByteArray) (j : Nat) (h : j < ws.length) : rdOf ByteArray.empty ws (j : Int) = ws[j] := by
 simp only [rdOf, Int.toNat_natCast, List.getD_eq_getElem?_getD, List.getElem?_eq_getElem h, Option.getD_some]
theorem word_from (s : ByteArray) (hs : s.size ≤ 2000000) (ws : List ByteArray) (hw : ∀ w ∈ ws, w.size ≤ 100 ∧ 1 ≤ w.size) (hl : ws.length ≤ 100) : ∀ (m j : Nat), ws.length - j = m → j ≤ ws.length →
  Ev (fun k => zac.l0 k s ws (j : Int)) (strOfNums ((if (bytesOf s).getD 0 0 = 95 then ((ws.drop j).map bytesOf).find? (fun w => pre w ((bytesOf s).drop 1)) else none).getD [])) := by
 intro m
 induction m with
 | zero =>
  intro j hm hj
  obtain rfl : j = ws.length := by omega
  refine Ev.succ ?_
  simp only [zac.l0]
  refine Ev.neg (fun _ => by first | omega | assumption | nofun) ?_
  refine Ev.eq (Ev.now _) ?_
  rw [List.drop_length, List.map_nil, List.find?_nil]
  split <;> rfl
 | succ m ih =>
  intro j hm hj
  have hlt : j < ws.length := by omega
  have hd : ws.drop j = ws[j] :: ws.drop (j + 1) := List.drop_eq_getElem_cons hlt
  have next := ih (j + 1) (by omega) (by omega)
  obtain ⟨h100, h1⟩ := hw _ (List.getElem_mem hlt)
  rw [hd, List.map_cons, List.find?_cons]
  obtain ⟨W, hW⟩ : ∃ W, W = ws[j] := ⟨_, rfl⟩
  have hrd := rdOf_at ws j hlt
  rw [← hW] at h100 h1 hrd ⊢
  refine Ev.succ ?_
  simp only [zac.l0]
  refine Ev.pos (fun _ => by first | omega | trivial | assumption) ?_
  refine Ev.pos (fun _ => by first | omega | trivial | assumption) ?_
  rw [hrd, w64 (i := (j : Int) + 1) (by omega) (by omega), w64 (i := (W.size : Int) + 1) (by omega) (by omega), zhi]
  have hnone : ¬ (s.size > W.size) → pre (bytesOf W) ((bytesOf s).drop 1) = false := fun h => by
   unfold pre
   rw [decide_eq_false_iff_not]
   intro e
   have := congrArg List.length e
   rw [List.length_take, List.length_drop, bytesOf_length, bytesOf_length] at this
   omega
  by_cases hsz : s.size > W.size
  ·refine Ev.pos (fun _ => by omega) ?_
   refine Ev.pos (fun _ => by omega) ?_
   by_cases h95 : (bytesOf s).getD 0 0 = 95
   ·rw [if_pos h95] at next ⊢
    refine Ev.pos (fun _ => h95) ?_
    refine Ev.pos (fun _ => by omega) ?_
    refine Ev.pos (fun _ => by omega) ?_
    have e1 : ((W.size : Int) + 1).toNat = 1 + W.size := by omega
    have e2 : (s.extract 1 ((W.size : Int) + 1).toNat).toList = W.toList ↔ pre (bytesOf W) ((bytesOf s).drop 1) = true := by
     rw [e1, zmd, zdf, Nat.add_sub_cancel_left]
     unfold pre
     rw [decide_eq_true_iff, zfc]
    by_cases hp : pre (bytesOf W) ((bytesOf s).drop 1) = true
    ·rw [hp]
     refine Ev.pos (fun _ => e2.2 hp) ?_
     refine Ev.eq (Ev.now _) ?_
     exact (str_B W).symm
    ·rw [Bool.eq_false_iff.2 hp]
     refine Ev.neg (fun _ e => hp (e2.1 e)) ?_
     exact next
   ·rw [if_neg h95] at next ⊢
    refine Ev.neg (fun _ => h95) ?_
    exact next
  ·refine Ev.neg (fun _ => by omega) ?_
   rw [hnone hsz]
   exact next
theorem word_ev (s : ByteArray) (hs : s.size ≤ 2000000) : Ev (fun k => zac.f k s) (strOfNums ((zie (bytesOf s)).getD [])) := by
 simp only [zac.f]
 refine Ev.bind0 rfl ?_
 have h := word_from s hs sufBs (fun w hw => ⟨sufBs_size w hw, by
  have h1 : bytesOf w ∈ zpd := by rw [← sufBs_B]; exact List.mem_map_of_mem hw
  rw [zfc]
  exact (zme h1).1⟩) (by decide) 9 0 rfl (by decide)
 rw [List.drop_zero, sufBs_B] at h
 exact h
theorem sweight_from (x : ByteArray) (ws : List ByteArray) (hl : ws.length ≤ 100) : ∀ (m j : Nat), ws.length - j = m → j ≤ ws.length →
  Ev (fun k => zlb.l0 k x ws (j : Int)) ((j + ((ws.drop j).map bytesOf).idxOf (bytesOf x) : Nat) : Int) := by
 intro m
 induction m with
 | zero =>
  intro j hm hj
  obtain rfl : j = ws.length := by omega
  refine Ev.succ ?_
  simp only [zlb.l0]
  refine Ev.neg (fun _ => by first | omega | assumption | nofun) ?_
  refine Ev.eq (Ev.now _) ?_
  rw [List.drop_length]
  rfl
 | succ m ih =>
  intro j hm hj
  have hlt : j < ws.length := by omega
  have hd : ws.drop j = ws[j] :: ws.drop (j + 1) := List.drop_eq_getElem_cons hlt
  refine Ev.succ ?_
  simp only [zlb.l0]
  refine Ev.pos (fun _ => by first | omega | trivial | assumption) ?_
  refine Ev.pos (fun _ => by first | omega | trivial | assumption) ?_
  rw [rdOf_at ws j hlt, hd, List.map_cons, List.idxOf_cons]
  by_cases h : bytesOf x = bytesOf ws[j]
  ·refine Ev.pos (fun _ => (zmd _ _).2 h.symm) ?_
   refine Ev.eq (Ev.now _) ?_
   have : (bytesOf ws[j] == bytesOf x) = true := by rw [beq_iff_eq]; exact h.symm
   rw [this]
   rfl
  ·refine Ev.neg (fun _ e => h ((zmd _ _).1 e).symm) ?_
   rw [w64 (i := (j : Int) + 1) (by omega) (by omega)]
   refine Ev.eq (ih (j + 1) (by omega) (by omega)) ?_
   have : (bytesOf ws[j] == bytesOf x) = false := by rw [beq_eq_false_iff_ne]; exact fun e => h e.symm
   rw [this]
   simp only [cond_false]
   omega
theorem sweight_ev (x : ByteArray) : Ev (fun k => zlb.f k x) (wgt (bytesOf x) : Int) := by
 simp only [zlb.f]
 have h := sweight_from x wgtBs (by decide) 9 0 rfl (by decide)
 rw [List.drop_zero, wgtBs_B] at h
 refine Ev.eq h ?_
 unfold wgt
 rw [Nat.zero_add]
theorem B_word {w : List Int} (h : w ∈ zpd) : bytesOf (strOfNums w) = w := B_str (fun c hc => by have := zmh h c hc; omega)
theorem zyi : ∀ (n : Nat) (s : ByteArray) (acc : List S56), s.size ≤ n → n ≤ 100000 → acc.length + n ≤ 200000 →
  Ev (fun k => zu.l0 k s acc) (acc ++ sufsA (sufsP n (bytesOf s)).1, strOfNums (sufsP n (bytesOf s)).2) := by
 intro n
 induction n with
 | zero =>
  intro s acc hs hn ha
  have h0 : bytesOf s = [] := (size_nil s).1 (by omega)
  have hr := word_ev s (by omega)
  refine Ev.succ ?_
  simp only [zu.l0]
  refine Ev.bind hr ?_
  have e : zie (bytesOf s) = none := by rw [h0]; rfl
  rw [e]
  refine Ev.pos (fun _ => (zcc _).2 rfl) ?_
  refine Ev.eq (Ev.now _) ?_
  simp only [sufsP]
  rw [str_B]
  simp [sufsA]
 | succ n ih =>
  intro s acc hs hn ha
  have hr := word_ev s (by omega)
  refine Ev.succ ?_
  simp only [zu.l0]
  refine Ev.bind hr ?_
  cases hq : zie (bytesOf s) with
  | none =>
   rw [znf hq]
   refine Ev.pos (fun _ => (zcc _).2 rfl) ?_
   refine Ev.eq (Ev.now _) ?_
   rw [str_B]
   simp [sufsA]
  | some w =>
   obtain ⟨k1, k2⟩ := zve hq
   have hlen := zme k1
   have hbw := B_word k1
   rw [zjf hq]
   have htot := congrArg List.length k2
   simp only [List.length_cons, List.length_append, List.length_drop, bytesOf_length] at htot
   have hWs : (strOfNums w).size = w.length := by rw [zfc, hbw]
   show Ev _ _
   simp only [Option.getD_some]
   refine Ev.neg (fun _ e => by have := (zcc _).1 e; rw [hbw] at this; rw [this] at hlen; simp at hlen) ?_
   rw [hWs, w64 (i := (w.length : Int) + 1) (by omega) (by omega)]
   refine Ev.pos (fun _ => by omega) ?_
   refine Ev.pos (fun _ => by omega) ?_
   refine Ev.bind0 rfl ?_
   have e1 : ((w.length : Int) + 1).toNat = 1 + w.length := by omega
   rw [e1]
   have hb : bytesOf (s.extract (1 + w.length) s.size) = (bytesOf s).drop (1 + w.length) := zmg _ _
   obtain ⟨Y, hY⟩ : ∃ Y, Y = s.extract (1 + w.length) s.size := ⟨_, rfl⟩
   rw [← hY] at hb ⊢
   have hYs : Y.size = s.size - (1 + w.length) := by rw [zfc, hb, List.length_drop, bytesOf_length]
   have hru := run1_ev Y (by omega)
   have hrl := zih isD (bytesOf Y)
   rw [bytesOf_length] at hrl
   refine Ev.bind hru ?_
   have hsw := sweight_ev (strOfNums w)
   rw [hbw] at hsw
   refine Ev.bind hsw ?_
   refine Ev.pos (fun _ => by omega) ?_
   refine Ev.pos (fun _ => by omega) ?_
   rw [Int.toNat_natCast]
   have hdig : ∀ c ∈ (bytesOf Y).take (run isD (bytesOf Y)), isD c = true := fun c hc => ztg hc
   have hio := intOf_ev (Y.extract 0 (run isD (bytesOf Y))) (by rw [zfc, zwf, List.length_take, bytesOf_length]; omega) (by rw [zwf]; exact hdig)
   rw [zwf] at hio
   refine Ev.bind hio ?_
   refine Ev.pos (fun _ => by omega) ?_
   have hbz : bytesOf (Y.extract (run isD (bytesOf Y)) Y.size) = (bytesOf Y).drop (run isD (bytesOf Y)) := zmg _ _
   have := ih (Y.extract (run isD (bytesOf Y)) Y.size) (acc ++ [⟨(wgt w : Int), ⟨false, magB (decL ((bytesOf Y).take (run isD (bytesOf Y))))⟩⟩]) (by rw [zfc, hbz, List.length_drop, bytesOf_length]; omega) (by omega) (by simp; omega)
   rw [hbz, hb] at this
   rw [hb]
   refine Ev.eq this ?_
   rw [List.append_assoc]
   rfl
theorem zgh (s : ByteArray) (hs : s.size ≤ 100000) : Ev (fun k => zu.f k s) (sufsA (sufsP (bytesOf s).length (bytesOf s)).1, strOfNums (sufsP (bytesOf s).length (bytesOf s)).2) := by
 have h := zyi (bytesOf s).length s [] (by rw [bytesOf_length]; exact Nat.le_refl _) (by rw [bytesOf_length]; exact hs) (by rw [bytesOf_length]; simp; omega)
 rw [List.nil_append] at h
 exact h
theorem ascii_from (s : ByteArray) (hs : s.size ≤ 2000000000) : ∀ (n i : Nat), s.size - i = n → i ≤ s.size →
  Ev (fun k => zxc.l0 k s i) (decide (∀ x ∈ (bytesOf s).drop i, x ≤ 127)) := by
 intro n
 induction n with
 | zero =>
  intro i hn hi
  refine Ev.succ ?_
  simp only [zxc.l0]
  refine Ev.neg (fun _ => by omega) ?_
  refine Ev.eq (Ev.now _) ?_
  rw [List.drop_of_length_le (by rw [bytesOf_length]; omega)]
  simp
 | succ n ih =>
  intro i hn hi
  have hl : i < (bytesOf s).length := by rw [bytesOf_length]; omega
  refine Ev.succ ?_
  simp only [zxc.l0]
  refine Ev.pos (fun _ => by omega) ?_
  refine Ev.pos (fun _ => by omega) ?_
  rw [zah, zyg _ _ hl]
  by_cases h : (bytesOf s).getD i 0 > 127
  ·refine Ev.pos (fun _ => h) ?_
   refine Ev.eq (Ev.now _) ?_
   symm
   simp only [decide_eq_false_iff_not]
   intro hx
   have := hx _ List.mem_cons_self
   omega
  ·refine Ev.neg (fun _ => h) ?_
   rw [w64 (by omega) (by omega)]
   refine Ev.eq (ih (i + 1) (by omega) (by omega)) ?_
   rw [decide_eq_decide]
   simp only [List.mem_cons, forall_eq_or_imp]
   exact ⟨fun hx => ⟨by omega, hx⟩, fun hx => hx.2⟩
theorem ascii_ev (s : ByteArray) (hs : s.size ≤ 2000000000) : Ev (fun k => zxc.f k s) (decide (∀ x ∈ bytesOf s, x ≤ 127)) := by
 have h := ascii_from s hs _ 0 rfl (Nat.zero_le _)
 simpa [zxc.f] using h
theorem clear_from (s : ByteArray) (hs : s.size ≤ 2000000) : ∀ (n i : Nat), s.size - i = n → i ≤ s.size → Ev (fun k => zk.l0 k s (i : Int)) (zlh ((bytesOf s).drop i)) := by
 intro n
 induction n with
 | zero =>
  intro i hn hi
  refine Ev.succ ?_
  simp only [zk.l0]
  refine Ev.neg (fun _ => by first | omega | assumption | nofun) ?_
  refine Ev.eq (Ev.now _) ?_
  rw [List.drop_of_length_le (by rw [bytesOf_length]; omega)]
  rfl
 | succ n ih =>
  intro i hn hi
  have hl : i < (bytesOf s).length := by rw [bytesOf_length]; omega
  have hb : bytesOf (s.extract i s.size) = (bytesOf s).drop i := zmg _ _
  have hw := word_ev (s.extract i s.size) (by rw [zfc, hb, List.length_drop, bytesOf_length]; omega)
  rw [hb] at hw
  refine Ev.succ ?_
  simp only [zk.l0, Int.toNat_natCast]
  refine Ev.pos (fun _ => by first | omega | trivial | assumption) ?_
  refine Ev.pos (fun _ => by first | omega | trivial | assumption) ?_
  refine Ev.pos (fun _ => by first | omega | trivial | assumption) ?_
  refine Ev.bind hw ?_
  rw [w64 (i := (i : Int) + 1) (by omega) (by omega)]
  have e : zlh ((bytesOf s).drop i) = ((zie ((bytesOf s).drop i)).isNone && zlh ((bytesOf s).drop (i + 1))) := by
   rw [zyg _ _ hl]
   rfl
  rw [e]
  cases hq : zie ((bytesOf s).drop i) with
  | none =>
   refine Ev.pos (fun _ => (zcc _).2 rfl) ?_
   exact ih (i + 1) (by omega) (by omega)
  | some w =>
   have k1 := (zve hq).1
   have hlen := zme k1
   refine Ev.neg (fun _ e => by have := (zcc _).1 e; rw [show (some w).getD [] = w from rfl, B_word k1] at this; rw [this] at hlen; simp at hlen) ?_
   exact Ev.now _
theorem zpj {α : Type} (s : ByteArray) {g : Bool → Nat → Option α} {r : α} (h : Ev (g (isL ((bytesOf s).getD 0 0))) r) : Ev (fun k => if s.toList = ([] : List UInt8) then g false k else if 0 < (s.size : Int) then (if (bt s 0) ≥ 97 then g (decide ((bt s 0) ≤ 122)) k else g false k) else none) r := by
 by_cases h0 : bytesOf s = []
 ·refine Ev.pos (fun _ => (zcc s).2 h0) ?_
  rw [h0] at h
  exact h
 ·have hpos : 0 < s.size := by rw [zfc]; exact List.length_pos_iff.2 h0
  refine Ev.neg (fun _ e => h0 ((zcc s).1 e)) ?_
  refine Ev.pos (fun _ => by omega) ?_
  rw [zhi]
  unfold isL at h
  by_cases h1 : (bytesOf s).getD 0 0 ≥ 97
  ·refine Ev.pos (fun _ => h1) ?_
   have e : decide ((bytesOf s).getD 0 0 ≤ 122) = decide (97 ≤ (bytesOf s).getD 0 0 ∧ (bytesOf s).getD 0 0 ≤ 122) := by rw [decide_eq_decide]; omega
   rw [e]
   exact h
  ·refine Ev.neg (fun _ => h1) ?_
   rw [decide_eq_false (by omega)] at h
   exact h
theorem B_rest {l r : List Int} (hl : ∀ x ∈ l, 0 ≤ x ∧ x ≤ 255) (h : ∃ a, l = a ++ r) : bytesOf (strOfNums r) = r := by
 obtain ⟨a, rfl⟩ := h
 exact B_str (fun c hc => hl c (List.mem_append_right _ hc))
theorem zch (l : List Int) : ∃ a, l = a ++ rest1 l := by
 obtain ⟨sub, e, _⟩ := zif l.length l
 exact ⟨sub, e⟩
theorem rest2_suffix (l : List Int) : ∃ a, l = a ++ rest2 l := by
 obtain ⟨a, e⟩ := zch l
 unfold rest2 zbf
 split
 ·exact ⟨a ++ (rest1 l).take 1, by rw [List.append_assoc, List.take_append_drop]; exact e⟩
 ·exact ⟨a, e⟩
theorem zjh : ∀ (n : Nat) (l : List Int), ∃ a, l = a ++ (sufsP n l).2
 | 0, l => ⟨[], rfl⟩
 | n + 1, l => by
  cases hq : zie l with
  | none => rw [znf hq]; exact ⟨[], rfl⟩
  | some w =>
   rw [zjf hq]
   obtain ⟨a, e⟩ := zjh n ((l.drop (1 + w.length)).drop (run isD (l.drop (1 + w.length))))
   refine ⟨l.take (1 + w.length + run isD (l.drop (1 + w.length))) ++ a, ?_⟩
   simp only
   rw [List.append_assoc, ← e, List.drop_drop, List.take_append_drop]
theorem rest3_suffix (l : List Int) : ∃ a, l = a ++ rest3 l := by
 obtain ⟨a, e⟩ := rest2_suffix l
 obtain ⟨b, e2⟩ := zjh (rest2 l).length (rest2 l)
 exact ⟨a ++ b, by rw [List.append_assoc]; unfold rest3; rw [← e2]; exact e⟩
theorem known_ev (s : ByteArray) (hs : s.size ≤ 100000) : Ev (fun k => zk.f k s) (decide (∀ x ∈ bytesOf s, x ≤ 127) && zlh (rest3 (bytesOf s))) := by
 simp only [zk.f]
 refine Ev.bind (ascii_ev s (by omega)) ?_
 cases ha : decide (∀ x ∈ bytesOf s, x ≤ 127)
 ·refine Ev.neg (fun _ => Bool.false_ne_true) ?_
  exact Ev.now _
 ·refine Ev.pos (fun _ => rfl) ?_
  rw [Bool.true_and]
  refine Ev.bind (zai s hs) ?_
  have hb1 := B_rest (zii s) (zch (bytesOf s))
  have hl1 := zkh (bytesOf s)
  have hz := hs
  rw [zfc] at hz
  refine zpj (strOfNums (rest1 (bytesOf s))) (g := fun b k => zk.j0 k (strOfNums (rest1 (bytesOf s))) b) ?_
  rw [hb1]
  have hj1 : ∀ (t : ByteArray), bytesOf t = rest2 (bytesOf s) → Ev (fun k => zk.j1 k t) (zlh (rest3 (bytesOf s))) := by
   intro t ht
   have hl2 := zlg (bytesOf s)
   have hl3 := rest3_len (bytesOf s)
   refine Ev.succ ?_
   simp only [zk.j1]
   have h := zgh t (by rw [zfc, ht]; omega)
   rw [ht] at h
   refine Ev.bind h ?_
   have hb3 := B_rest (zii s) (rest3_suffix (bytesOf s))
   have h2 := clear_from (strOfNums (rest3 (bytesOf s))) (by rw [zfc, hb3]; omega) _ 0 rfl (Nat.zero_le _)
   rw [hb3, List.drop_zero] at h2
   exact h2
  refine Ev.succ ?_
  simp only [zk.j0]
  cases hc : isL ((rest1 (bytesOf s)).getD 0 0)
  ·refine Ev.neg (fun _ => Bool.false_ne_true) ?_
   refine hj1 _ ?_
   rw [hb1]
   unfold rest2 zbf
   rw [hc]
   rfl
  ·have hne : rest1 (bytesOf s) ≠ [] := by intro e; rw [e] at hc; exact absurd hc (by decide)
   have hpos : 0 < (strOfNums (rest1 (bytesOf s))).size := by rw [zfc, hb1]; exact List.length_pos_iff.2 hne
   refine Ev.pos (fun _ => rfl) ?_
   refine Ev.pos (fun _ => by omega) ?_
   refine hj1 _ ?_
   rw [zmg, hb1]
   unfold rest2 zbf
   rw [hc]
   rfl
end Go.Proofs.YtapaijpglfmfgaaGreatDoor.V
end
section
namespace Go.Proofs.YtapaijpglfmfgaaGreatDoor.V
open Go.RowKit YtapaijpglfmfgaaGreatDoor.Q YtapaijpglfmfgaaGreatDoorG YtapaijpglfmfgaaGreatDoorP YtapaijpglfmfgaaGreatDoorH YtapaijpglfmfgaaGreatDoorB YtapaijpglfmfgaaGreatDoorM YtapaijpglfmfgaaGreatDoorW.PrintWords YtapaijpglfmfgaaGreatDoorW.PrintLast
theorem p4_ev (x : ByteArray) (hx : x.size ≤ 100000) (o l h : ByteArray) (ns : List S52) (ss : List S56) :
  Ev (fun k => zg.j3 k x o ⟨#[]⟩ l h false ns ss true false ⟨#[]⟩)
   (o, strOfNums (zzd (bytesOf x)).2.2, l, h, (zzd (bytesOf x)).1, ns, ss, true, false, magB (decL (zzd (bytesOf x)).2.1), true) := by
 have e0 : (⟨#[]⟩ : ByteArray) = magB (decL []) := rfl
 have last : bytesOf x ≠ [45, 114] → (bytesOf x).take 2 ≠ [45, 114] → Ev (fun k => zg.j4 k x false o ⟨#[]⟩ l h false ns ss true false ⟨#[]⟩)
   (o, strOfNums (zzd (bytesOf x)).2.2, l, h, (zzd (bytesOf x)).1, ns, ss, true, false, magB (decL (zzd (bytesOf x)).2.1), true) := by
  intro _ h2
  refine Ev.succ ?_
  simp only [zg.j4]
  refine Ev.neg (fun _ => Bool.false_ne_true) ?_
  unfold zzd
  by_cases h0 : bytesOf x = []
  ·refine Ev.pos (fun _ => (zcc x).2 h0) ?_
   rw [if_pos h0]
   exact Ev.now _
  ·refine Ev.neg (fun _ e => h0 ((zcc x).1 e)) ?_
   rw [if_neg h0, if_neg h2, str_B]
   exact Ev.now _
 refine Ev.succ ?_
 simp only [zg.j3]
 by_cases h1 : x.size > 1
 ·refine Ev.pos (fun _ => by omega) ?_
  refine Ev.pos (fun _ => by first | trivial | decide) ?_
  refine Ev.pos (fun _ => by omega) ?_
  have e2 : (x.extract 0 2).toList = ([45, 114] : List UInt8) ↔ (bytesOf x).take 2 = [45, 114] := by
   rw [toList_lit, zwf]
   rfl
  by_cases h2 : (bytesOf x).take 2 = [45, 114]
  ·have : ((x.extract 0 2).toList == ([45, 114] : List UInt8)) = true := beq_iff_eq.2 (e2.2 h2)
   rw [this]
   refine Ev.succ ?_
   simp only [zg.j4]
   refine Ev.pos (fun _ => by first | rfl | trivial) ?_
   refine Ev.pos (fun _ => by omega) ?_
   have hb : bytesOf (x.extract 2 x.size) = (bytesOf x).drop 2 := zmg _ _
   have hxz := hx
   rw [zfc] at hxz h1
   have hr := run1_ev (x.extract 2 x.size) (by rw [zfc, hb, List.length_drop]; omega)
   have hrl := zih isD ((bytesOf x).drop 2)
   rw [List.length_drop] at hrl
   rw [hb] at hr
   refine Ev.bind hr ?_
   have hsz := zfc x
   rw [w64 (i := 2 + ((run isD ((bytesOf x).drop 2) : Nat) : Int)) (by omega) (by omega)]
   refine Ev.pos (fun _ => by omega) ?_
   refine Ev.pos (fun _ => by omega) ?_
   have e3 : (2 + ((run isD ((bytesOf x).drop 2) : Nat) : Int)).toNat = 2 + run isD ((bytesOf x).drop 2) := by omega
   rw [e3]
   have hb2 : bytesOf (x.extract 2 (2 + run isD ((bytesOf x).drop 2))) = ((bytesOf x).drop 2).take (run isD ((bytesOf x).drop 2)) := by rw [zdf, Nat.add_sub_cancel_left]
   have hio := intOf_ev (x.extract 2 (2 + run isD ((bytesOf x).drop 2))) (by rw [zfc, hb2, List.length_take, List.length_drop]; omega) (by rw [hb2]; exact fun c hc => ztg hc)
   rw [hb2] at hio
   refine Ev.bind hio ?_
   refine Ev.pos (fun _ => by omega) ?_
   unfold zzd
   have h0 : bytesOf x ≠ [] := by intro e; rw [e] at h1; simp at h1
   rw [if_neg h0, if_pos h2]
   refine Ev.eq (Ev.now _) ?_
   rw [str_drop, List.drop_drop]
  ·have : ((x.extract 0 2).toList == ([45, 114] : List UInt8)) = false := by rw [beq_eq_false_iff_ne]; exact fun e => h2 (e2.1 e)
   rw [this]
   exact last (fun e => h2 (by rw [e]; rfl)) h2
 ·refine Ev.neg (fun _ => by omega) ?_
  have hl : (bytesOf x).length ≤ 1 := by rw [bytesOf_length]; omega
  refine last (fun e => by rw [e] at hl; simp at hl) (fun e => ?_)
  have := congrArg List.length e
  rw [List.length_take] at this
  simp at this
  omega
theorem run_head {p : Int → Bool} {l : List Int} (h : l ≠ []) : run p l ≠ 0 ↔ p (l.getD 0 0) = true := by
 cases l with
 | nil => exact absurd rfl h
 | cons c r =>
  show _ ↔ p c = true
  cases hc : p c
  ·rw [zhg hc]; simp
  ·rw [zrg hc]; simp
theorem p2_ev (x : ByteArray) (hx : x.size ≤ 100000) (o l : ByteArray) (ns : List S52) :
  Ev (fun k => zg.j1 k x o ⟨#[]⟩ l ⟨#[]⟩ false ns true false ⟨#[]⟩)
   (o, strOfNums (zzd (hashP (sufsP (bytesOf x).length (bytesOf x)).2).2).2.2, l, strOfNums (hashP (sufsP (bytesOf x).length (bytesOf x)).2).1, (zzd (hashP (sufsP (bytesOf x).length (bytesOf x)).2).2).1, ns,
    sufsA (sufsP (bytesOf x).length (bytesOf x)).1, true, false, magB (decL (zzd (hashP (sufsP (bytesOf x).length (bytesOf x)).2).2).2.1), true) := by
 refine Ev.succ ?_
 simp only [zg.j1]
 refine Ev.bind (zgh x hx) ?_
 have hbz : bytesOf (strOfNums (sufsP (bytesOf x).length (bytesOf x)).2) = (sufsP (bytesOf x).length (bytesOf x)).2 := B_rest (zii x) (zjh _ _)
 have hlz := sufsP_len (bytesOf x).length (bytesOf x)
 rw [bytesOf_length] at hlz
 obtain ⟨ss, hss⟩ : ∃ ss, ss = sufsA (sufsP (bytesOf x).length (bytesOf x)).1 := ⟨_, rfl⟩
 obtain ⟨q, hq⟩ : ∃ q, q = (sufsP (bytesOf x).length (bytesOf x)).2 := ⟨_, rfl⟩
 rw [← hss]
 simp only [← hq] at hbz hlz ⊢
 rw [bytesOf_length] at hq
 obtain ⟨y, hy⟩ : ∃ y, y = strOfNums q := ⟨_, rfl⟩
 have hlz2 : q.length ≤ x.size := by rw [hq]; exact hlz
 rw [← hy] at hbz ⊢
 have hysz : y.size = q.length := by rw [zfc, hbz]
 have hno : ¬ (q.getD 0 0 = 126 ∧ run isX (q.drop 1) ≠ 0) → Ev (fun k => zg.j2 k y false o ⟨#[]⟩ l ⟨#[]⟩ false ns ss true false ⟨#[]⟩)
   (o, strOfNums (zzd (hashP q).2).2.2, l, strOfNums (hashP q).1, (zzd (hashP q).2).1, ns, ss, true, false, magB (decL (zzd (hashP q).2).2.1), true) := by
  intro hn
  refine Ev.succ ?_
  simp only [zg.j2]
  refine Ev.neg (fun _ => Bool.false_ne_true) ?_
  have h := p4_ev y (by omega) o l ⟨#[]⟩ ns ss
  unfold hashP
  rw [if_neg hn, ← hbz]
  exact h
 by_cases h1 : y.size > 1
 ·refine Ev.pos (fun _ => by omega) ?_
  refine Ev.pos (fun _ => by omega) ?_
  rw [zhi, hbz]
  by_cases h2 : q.getD 0 0 = 126
  ·refine Ev.pos (fun _ => h2) ?_
   refine Ev.pos (fun _ => by omega) ?_
   have e1 : bt y 1 = (q.drop 1).getD 0 0 := by
    have := zah y 1
    rw [hbz] at this
    rw [show bt y 1 = bt y ((1 : Nat) : Int) from rfl, this]
    simp [List.getD_eq_getElem?_getD, List.getElem?_drop]
   rw [e1, alpHex_eq]
   simp only [Option.bind_some]
   have hne : q.drop 1 ≠ [] := by
    intro e
    have := congrArg List.length e
    rw [List.length_drop] at this
    simp at this
    omega
   cases hc : isX ((q.drop 1).getD 0 0)
   ·exact hno (fun hn => by rw [run_head hne, hc] at hn; exact absurd hn.2 Bool.false_ne_true)
   ·have hrun : run isX (q.drop 1) ≠ 0 := (run_head hne).2 hc
    refine Ev.succ ?_
    simp only [zg.j2]
    refine Ev.pos (fun _ => by first | rfl | trivial) ?_
    refine Ev.pos (fun _ => by omega) ?_
    have hb : bytesOf (y.extract 1 y.size) = q.drop 1 := by rw [zmg, hbz]
    have hr := run2_ev (y.extract 1 y.size) (by rw [zfc, hb, List.length_drop]; omega)
    rw [hb] at hr
    have hrl := zih isX (q.drop 1)
    rw [List.length_drop] at hrl
    refine Ev.bind hr ?_
    rw [w64 (i := 1 + ((run isX (q.drop 1) : Nat) : Int)) (by omega) (by omega)]
    refine Ev.pos (fun _ => by omega) ?_
    refine Ev.pos (fun _ => by omega) ?_
    have e3 : (1 + ((run isX (q.drop 1) : Nat) : Int)).toNat = 1 + run isX (q.drop 1) := by omega
    rw [e3]
    unfold hashP
    rw [if_pos ⟨h2, hrun⟩]
    have hb2 : bytesOf (y.extract (1 + run isX (q.drop 1)) y.size) = q.drop (1 + run isX (q.drop 1)) := by rw [zmg, hbz]
    have h := p4_ev (y.extract (1 + run isX (q.drop 1)) y.size) (by rw [zfc, hb2, List.length_drop]; omega) o l (y.extract 0 (1 + run isX (q.drop 1))) ns ss
    rw [hb2, str_take, hbz] at h
    rw [str_take, hbz]
    exact h
  ·refine Ev.neg (fun _ => h2) ?_
   exact hno (fun hn => h2 hn.1)
 ·refine Ev.neg (fun _ => by omega) ?_
  refine hno (fun hn => hn.2 ?_)
  have : q.drop 1 = [] := List.drop_of_length_le (by omega)
  rw [this]
  rfl
theorem parse_ev (s : ByteArray) (hs : s.size ≤ 100000) : Ev (fun k => zg.f k s)
  (s, strOfNums (zwc (bytesOf s)).r, strOfNums (zwc (bytesOf s)).l, strOfNums (zwc (bytesOf s)).h, (zwc (bytesOf s)).i, numsA (zwc (bytesOf s)).c, sufsA (zwc (bytesOf s)).s, true, false, magB (decL (zwc (bytesOf s)).b), true) := by
 simp only [zg.f]
 refine Ev.bind (zai s hs) ?_
 have hb1 := B_rest (zii s) (zch (bytesOf s))
 have hl1 := zkh (bytesOf s)
 rw [bytesOf_length] at hl1
 refine zpj (strOfNums (rest1 (bytesOf s))) (g := fun b k => zg.j0 k (strOfNums (rest1 (bytesOf s))) b s ⟨#[]⟩ ⟨#[]⟩ ⟨#[]⟩ false _ true false ⟨#[]⟩) ?_
 rw [hb1]
 have key : ∀ (t l : ByteArray), bytesOf t = rest2 (bytesOf s) → l = strOfNums (zbf (rest1 (bytesOf s))).1 → Ev (fun k => zg.j1 k t s ⟨#[]⟩ l ⟨#[]⟩ false (numsA (numsP (bytesOf s).length (bytesOf s)).1) true false ⟨#[]⟩)
   (s, strOfNums (zwc (bytesOf s)).r, strOfNums (zwc (bytesOf s)).l, strOfNums (zwc (bytesOf s)).h, (zwc (bytesOf s)).i, numsA (zwc (bytesOf s)).c, sufsA (zwc (bytesOf s)).s, true, false, magB (decL (zwc (bytesOf s)).b), true) := by
  intro t l ht hl
  have hl2 := zlg (bytesOf s)
  rw [bytesOf_length] at hl2
  have h := p2_ev t (by rw [zfc, ht]; omega) s l (numsA (numsP (bytesOf s).length (bytesOf s)).1)
  rw [ht] at h
  rw [hl] at h ⊢
  exact h
 refine Ev.succ ?_
 simp only [zg.j0]
 cases hc : isL ((rest1 (bytesOf s)).getD 0 0)
 ·refine Ev.neg (fun _ => Bool.false_ne_true) ?_
  refine key _ _ ?_ ?_
  ·rw [hb1]
   unfold rest2 zbf
   rw [hc]
   rfl
  ·unfold zbf
   rw [hc]
   rfl
 ·have hne : rest1 (bytesOf s) ≠ [] := by intro e; rw [e] at hc; exact absurd hc (by decide)
  have hpos : 0 < (strOfNums (rest1 (bytesOf s))).size := by rw [zfc, hb1]; exact List.length_pos_iff.2 hne
  refine Ev.pos (fun _ => by first | rfl | trivial) ?_
  refine Ev.pos (fun _ => by first | trivial | decide) ?_
  refine Ev.pos (fun _ => by omega) ?_
  refine key _ _ ?_ ?_
  ·rw [zmg, hb1]
   unfold rest2 zbf
   rw [hc]
   rfl
  ·unfold zbf
   rw [hc, str_take, hb1]
   rfl
theorem zrf (c : List (List Int)) : (numsA c).length = c.length := by simp [numsA]
theorem zld (c : List (List Int × List Int)) : (sufsA c).length = c.length := by simp [sufsA]
end Go.Proofs.YtapaijpglfmfgaaGreatDoor.V
end
section
namespace Go.Proofs.YtapaijpglfmfgaaGreatDoor.V
open Go.RowKit YtapaijpglfmfgaaGreatDoor.Q YtapaijpglfmfgaaGreatDoorG YtapaijpglfmfgaaGreatDoorP YtapaijpglfmfgaaGreatDoorH YtapaijpglfmfgaaGreatDoorB YtapaijpglfmfgaaGreatDoorM YtapaijpglfmfgaaGreatDoorW.PrintWords YtapaijpglfmfgaaGreatDoorW.PrintLast
theorem isD_byte {c : Int} (h : isD c = true) : 0 ≤ c ∧ c ≤ 255 := by
 unfold isD at h
 have := of_decide_eq_true h
 omega
theorem B_digits {l : List Int} (h : ∀ c ∈ l, isD c = true) : bytesOf (strOfNums l) = l := B_str (fun c hc => isD_byte (h c hc))
end Go.Proofs.YtapaijpglfmfgaaGreatDoor.V
end
section
namespace Go.Proofs.YtapaijpglfmfgaaGreatDoor.V
open Go.RowKit YtapaijpglfmfgaaGreatDoor.Q YtapaijpglfmfgaaGreatDoorG YtapaijpglfmfgaaGreatDoorP YtapaijpglfmfgaaGreatDoorH YtapaijpglfmfgaaGreatDoorB YtapaijpglfmfgaaGreatDoorM YtapaijpglfmfgaaGreatDoorW.PrintWords YtapaijpglfmfgaaGreatDoorW.PrintLast
def hd (l : List Int) : Int := l.getD 0 0
structure Stop (l : List Int) : Prop where
 d : isD (hd l) = false
 p : hd l ≠ 46
 let_ : isL (hd l) = false
 u : hd l ≠ 95
 t : hd l ≠ 126
theorem Stop.x {l : List Int} (h : Stop l) : isX (hd l) = false := by
 have h1 := h.d
 have h2 := h.let_
 unfold isX
 rw [h1]
 unfold isL at h2
 have := of_decide_eq_false h2
 simp
 omega
end Go.Proofs.YtapaijpglfmfgaaGreatDoor.V
end
section
namespace Go.Proofs.YtapaijpglfmfgaaGreatDoor.V
open Go.RowKit YtapaijpglfmfgaaGreatDoor.Q YtapaijpglfmfgaaGreatDoorG YtapaijpglfmfgaaGreatDoorP YtapaijpglfmfgaaGreatDoorH YtapaijpglfmfgaaGreatDoorB YtapaijpglfmfgaaGreatDoorM YtapaijpglfmfgaaGreatDoorW.PrintWords YtapaijpglfmfgaaGreatDoorW.PrintLast
theorem toSx_at {w d : List Int} (h : ∀ c ∈ d, isD c = true) (hl : d.length ≤ 1000000) : toSx (convS (w, d)) = ⟨(wgt w : Int), 0, decL d⟩ := by
 unfold toSx convS
 simp only
 rw [(zxi h hl).2.2]
end Go.Proofs.YtapaijpglfmfgaaGreatDoor.V
end
section
namespace Go.Proofs.YtapaijpglfmfgaaGreatDoor.V
open Go.RowKit YtapaijpglfmfgaaGreatDoor.Q YtapaijpglfmfgaaGreatDoorG YtapaijpglfmfgaaGreatDoorP YtapaijpglfmfgaaGreatDoorH YtapaijpglfmfgaaGreatDoorB YtapaijpglfmfgaaGreatDoorM YtapaijpglfmfgaaGreatDoorW.PrintWords YtapaijpglfmfgaaGreatDoorW.PrintLast YtapaijpglfmfgaaGreatDoorW.PrintMore
theorem zaf (d : Nat → Int) (n k : Nat) : fromC d (n + 1) k = zkb (d k) (fromC d n (k + 1)) := rfl
theorem sufC_ne (w1 : Int) (n1 : Nat) (w2 : Int) (n2 : Nat) : sufC w1 n1 w2 n2 = zkb (if w1 > w2 then 1 else if w1 < w2 then -1 else 0) (cmpN n1 n2) := by
 unfold sufC zkb
 repeat' split
 all_goals first | rfl | (exfalso; omega)
theorem zpg (a b : ByteArray) : ztf a b = cmp_ (bytesOf a) (bytesOf b) := compare_B a b
theorem zqh (a b : ByteArray) : zpc a b = cmp_ (bytesOf a) (bytesOf b) := by
 unfold zpc
 rw [zpg]
 have ha := zcc a
 have hb := zcc b
 cases ea : bytesOf a with
 | nil =>
  rw [ea] at ha
  cases eb : bytesOf b with
  | nil =>
   rw [eb] at hb
   rw [if_neg (fun h => h.2 (hb.2 rfl)), if_neg (fun h => h.1 (ha.2 rfl))]
  | cons y r =>
   rw [eb] at hb
   rw [if_pos ⟨ha.2 rfl, fun e => by have := hb.1 e; cases this⟩]
   rfl
 | cons x r =>
  rw [ea] at ha
  have ha' : a.toList ≠ [] := fun e => by have := ha.1 e; cases this
  cases eb : bytesOf b with
  | nil =>
   rw [eb] at hb
   rw [if_neg (fun h => ha' h.1), if_pos ⟨ha', hb.2 rfl⟩]
   rfl
  | cons y q =>
   rw [eb] at hb
   rw [if_neg (fun h => ha' h.1), if_neg (fun h => by have := hb.1 h.2; cases this)]
theorem zri (l : List S56) (hl : l.length ≤ 1000000) : ∀ (m i : Nat), l.length - i = m → i ≤ 1000000 → ∃ q, Ev (fun k => zdb.l0 k l (i : Int)) q := by
 intro m
 induction m with
 | zero =>
  intro i hm hi
  refine ⟨true, Ev.succ ?_⟩
  simp only [zdb.l0]
  refine Ev.neg (fun _ => by omega) ?_
  exact Ev.now _
 | succ m ih =>
  intro i hm hi
  obtain ⟨q, hq⟩ := ih (i + 1) (by omega) (by omega)
  by_cases h : ((zhd l (i : Int)).f0) = 4
  ·refine ⟨false, Ev.succ ?_⟩
   simp only [zdb.l0]
   refine Ev.pos (fun _ => by omega) ?_
   refine Ev.pos (fun _ => by omega) ?_
   refine Ev.pos (fun _ => h) ?_
   exact Ev.now _
  ·by_cases h2 : ((zhd l (i : Int)).f0) = 5
   ·refine ⟨false, Ev.succ ?_⟩
    simp only [zdb.l0]
    refine Ev.pos (fun _ => by omega) ?_
    refine Ev.pos (fun _ => by omega) ?_
    refine Ev.neg (fun _ => h) ?_
    refine Ev.pos (fun _ => h2) ?_
    exact Ev.now _
   ·refine ⟨q, Ev.succ ?_⟩
    simp only [zdb.l0]
    refine Ev.pos (fun _ => by omega) ?_
    refine Ev.pos (fun _ => by omega) ?_
    refine Ev.neg (fun _ => h) ?_
    refine Ev.neg (fun _ => h2) ?_
    rw [w64 (i := (i : Int) + 1) (by omega) (by omega)]
    exact hq
theorem cmp_text {X Y : ByteArray} (h1 : AOk X) (h2 : AOk Y) : zcb.f X Y = some (apC (apOf (zwc (bytesOf X))) (apOf (zwc (bytesOf Y))), true) := by
 unfold zcb.f
 rw [if_pos ⟨h1, h2⟩]
end Go.Proofs.YtapaijpglfmfgaaGreatDoor.V
end
section
namespace Go.Proofs.YtapaijpglfmfgaaGreatDoor.V
open Go.RowKit YtapaijpglfmfgaaGreatDoor.Q YtapaijpglfmfgaaGreatDoorG YtapaijpglfmfgaaGreatDoorP YtapaijpglfmfgaaGreatDoorH YtapaijpglfmfgaaGreatDoorB YtapaijpglfmfgaaGreatDoorM YtapaijpglfmfgaaGreatDoorW.PrintWords YtapaijpglfmfgaaGreatDoorW.PrintLast YtapaijpglfmfgaaGreatDoorW.PrintMore
theorem zsi : ∀ a b : List Int, -1 ≤ cmp_ a b ∧ cmp_ a b ≤ 1
 | [], [] => by simp only [cmp_]; omega
 | [], _ :: _ => by simp only [cmp_]; omega
 | _ :: _, [] => by simp only [cmp_]; omega
 | x :: a, y :: b => by
  have := zsi a b
  simp only [cmp_]
  repeat' split
  all_goals omega
theorem order_eq (x y : ByteArray) : zdd.f x y = some (cmp_ (bytesOf x) (bytesOf y)) := by
 unfold zdd.f
 rw [bytesLess_B, bytesLess_B]
 have h1 := cmp_lt (bytesOf x) (bytesOf y)
 have h2 := cmp_lt (bytesOf y) (bytesOf x)
 rw [cmp_neg (bytesOf x) (bytesOf y)] at h2
 obtain ⟨r1, r2⟩ := zsi (bytesOf x) (bytesOf y)
 by_cases c1 : lt_ (bytesOf x) (bytesOf y) = true
 ·rw [if_pos c1]
  have := h1.2 c1
  congr 1
  omega
 ·rw [if_neg c1]
  have d1 : ¬ cmp_ (bytesOf x) (bytesOf y) < 0 := fun h => c1 (h1.1 h)
  by_cases c2 : lt_ (bytesOf y) (bytesOf x) = true
  ·rw [if_pos c2]
   have := h2.2 c2
   congr 1
   omega
  ·rw [if_neg c2]
   have d2 : ¬ -cmp_ (bytesOf x) (bytesOf y) < 0 := fun h => c2 (h2.1 h)
   congr 1
   omega
theorem cmpN_V (a b : Nat) : cmpN a b = cmpV a b := rfl
theorem tidy_ev (n : Nat) : Ev (fun k => zkc.f k false (magB n)) (false, magB n) := by
 refine Ev.succ ?_
 simp only [zkc.f, zkc.l0]
 by_cases h : (magB n).size = 0
 ·refine Ev.neg (fun _ => by omega) ?_
  refine Ev.neg (fun _ => Bool.false_ne_true) ?_
  exact Ev.now _
 ·refine Ev.pos (fun _ => by omega) ?_
  refine Ev.pos (fun _ => by omega) ?_
  rw [zhi, B_mag]
  have h0 : n ≠ 0 := by
   rintro rfl
   exact h (by rw [zfc, B_mag, magL_nil.2 rfl]; rfl)
  refine Ev.neg (fun _ => magL_head h0) ?_
  refine Ev.neg (fun _ => Bool.false_ne_true) ?_
  exact Ev.now _
theorem zji (a b : Nat) : Ev (fun k => zx.f k false (magB a) false (magB b)) (cmpN a b) := by
 simp only [zx.f]
 refine Ev.bind (tidy_ev a) ?_
 refine Ev.bind (tidy_ev b) ?_
 refine Ev.neg (fun _ => Bool.false_ne_true) ?_
 refine Ev.succ ?_
 simp only [zx.j0]
 refine Ev.neg (fun _ => Bool.false_ne_true) ?_
 refine Ev.neg (fun _ => Bool.false_ne_true) ?_
 refine Ev.succ ?_
 simp only [zx.j1]
 refine Ev.neg (fun _ => Bool.false_ne_true) ?_
 refine Ev.neg (fun _ => Bool.false_ne_true) ?_
 refine Ev.succ ?_
 simp only [zx.j2]
 have e1 : (magB a).size = (magL a).length := by rw [zfc, B_mag]
 have e2 : (magB b).size = (magL b).length := by rw [zfc, B_mag]
 rw [cmpN_V, cmp_mag, e1, e2]
 by_cases h : (magL a).length = (magL b).length
 ·refine Ev.pos (fun _ => by omega) ?_
  refine Ev.bind0 (order_eq _ _) ?_
  rw [B_mag, B_mag]
  refine Ev.eq (Ev.now _) ?_
  rw [if_neg (by omega), if_neg (by omega)]
 ·refine Ev.neg (fun _ => by omega) ?_
  unfold zzc.f
  by_cases h1 : (magL a).length < (magL b).length
  ·rw [if_pos (by omega), if_pos h1]
   refine Ev.bind0 rfl ?_
   exact Ev.now _
  ·rw [if_neg (by omega), if_pos (by omega), if_neg h1, if_pos (by omega)]
   refine Ev.bind0 rfl ?_
   exact Ev.now _
structure PG (p : PV) : Prop where
 c : ∀ d ∈ p.c, d ≠ [] ∧ (∀ x ∈ d, isD x = true) ∧ d.length ≤ 100000
 cl : p.c.length ≤ 200000
 s : ∀ x ∈ p.s, x.1 ∈ zpd ∧ (∀ c ∈ x.2, isD c = true) ∧ x.2.length ≤ 100000
 sl : p.s.length ≤ 200000
def nmL (c : List (List Int)) : List Nm := (c.map strOfNums).map toNm
def sxL (s : List (List Int × List Int)) : List Sx := (s.map convS).map toSx
theorem toNm_dig {d : List Int} (h : ∀ x ∈ d, isD x = true) : toNm (strOfNums d) = ⟨strOfNums d, 0, decL d⟩ := by
 unfold toNm
 rw [dv_all, B_digits h]
theorem numsA_get (c : List (List Int)) (k : Nat) : (numsA c)[k]? = c[k]?.map (fun d => (⟨strOfNums d, ⟨false, magB (decL d)⟩, (k : Int)⟩ : S52)) := by
 unfold numsA
 rw [List.getElem?_map, List.getElem?_zipIdx]
 cases c[k]? <;> simp
theorem zmj {c : List (List Int)} (hc : ∀ d ∈ c, d ≠ [] ∧ (∀ x ∈ d, isD x = true) ∧ d.length ≤ 100000) (k : Nat) :
  zad.f (numsA c) (k : Int) = some (nmO (nmL c) k, false, magB (nmN (nmL c) k), (nmI (nmL c) k : Int)) := by
 unfold zad.f nmO nmN nmI nmL
 rw [zrf]
 have hg : ((c.map strOfNums).map toNm)[k]? = c[k]?.map (fun d => toNm (strOfNums d)) := by simp only [List.getElem?_map, Option.map_map]; rfl
 rw [hg]
 cases e : c[k]? with
 | none =>
  have := List.getElem?_eq_none_iff.1 e
  rw [if_neg (by omega)]
  rfl
 | some d =>
  have hk : k < c.length := (List.getElem?_eq_some_iff.1 e).1
  rw [if_pos (by omega), if_pos (by omega)]
  have hr : zwd (numsA c) (k : Int) = ⟨strOfNums d, ⟨false, magB (decL d)⟩, (k : Int)⟩ := by
   unfold zwd
   rw [Int.toNat_natCast, List.getD_eq_getElem?_getD, numsA_get, e]
   rfl
  rw [hr]
  simp only [Option.map_some]
  rw [toNm_dig (hc d (List.mem_of_getElem? e)).2.1]
theorem nmO_pos' {c : List (List Int)} (hc : ∀ d ∈ c, d ≠ [] ∧ (∀ x ∈ d, isD x = true) ∧ d.length ≤ 100000) (k : Nat) : 0 < (nmO (nmL c) k).size := by
 unfold nmO nmL
 have hg : ((c.map strOfNums).map toNm)[k]? = c[k]?.map (fun d => toNm (strOfNums d)) := by simp only [List.getElem?_map, Option.map_map]; rfl
 rw [hg]
 cases e : c[k]? with
 | none => decide
 | some d =>
  obtain ⟨h0, h1, _⟩ := hc d (List.mem_of_getElem? e)
  show 0 < (toNm (strOfNums d)).o.size
  rw [toNm_dig h1]
  show 0 < (strOfNums d).size
  rw [zfc, B_digits h1]
  exact List.length_pos_iff.2 h0
theorem alpNumbers_from {c c' : List (List Int)} (hc : ∀ d ∈ c, d ≠ [] ∧ (∀ x ∈ d, isD x = true) ∧ d.length ≤ 100000) (hc' : ∀ d ∈ c', d ≠ [] ∧ (∀ x ∈ d, isD x = true) ∧ d.length ≤ 100000) (hl : c.length ≤ 200000) (hl' : c'.length ≤ 200000) : ∀ (n k : Nat), max c.length c'.length - k = n → k ≤ 200000 →
  Ev (fun m => zo.l0 m (numsA c) (numsA c') (k : Int)) (fromC (numD (nmL c) (nmL c')) n k) := by
 intro n
 induction n with
 | zero =>
  intro k hn hk
  refine Ev.succ ?_
  simp only [zo.l0, zrf]
  refine Ev.neg (fun _ => by omega) ?_
  have e : decide ((k : Int) < (c'.length : Int)) = false := decide_eq_false (by omega)
  rw [e]
  refine Ev.succ ?_
  simp only [zo.j1]
  refine Ev.neg (fun _ => Bool.false_ne_true) ?_
  exact Ev.now _
 | succ n ih =>
  intro k hn hk
  have next := ih (k + 1) (by omega) (by omega)
  have hk1 : wrap64 ((k : Int) + 1) = ((k + 1 : Nat) : Int) := by rw [w64 (by omega) (by omega)]; omega
  have main : Ev (fun m => zo.j1 m (numsA c) (numsA c') (k : Int) true) (fromC (numD (nmL c) (nmL c')) (n + 1) k) := by
   refine Ev.succ ?_
   simp only [zo.j1]
   refine Ev.pos (fun _ => by first | rfl | trivial) ?_
   refine Ev.bind0 (zmj hc k) ?_
   refine Ev.bind0 (zmj hc' k) ?_
   refine Ev.bind (zji _ _) ?_
   rw [zaf]
   have byN : ∀ (a1 : ByteArray) (a2 : Bool) (a3 : ByteArray) (a4 : Int) (b1 : ByteArray) (b2 : Bool) (b3 : ByteArray) (b4 : Int), numD (nmL c) (nmL c') k = cmpN (nmN (nmL c) k) (nmN (nmL c') k) →
     Ev (fun m => zo.j2 m (numsA c) (numsA c') (k : Int) (cmpN (nmN (nmL c) k) (nmN (nmL c') k)) false a1 a2 a3 a4 b1 b2 b3 b4) (zkb (numD (nmL c) (nmL c') k) (fromC (numD (nmL c) (nmL c')) n (k + 1))) := by
    intro a1 a2 a3 a4 b1 b2 b3 b4 he
    refine Ev.succ ?_
    simp only [zo.j2]
    refine Ev.neg (fun _ => Bool.false_ne_true) ?_
    rw [he]
    unfold zkb
    by_cases h0 : cmpN (nmN (nmL c) k) (nmN (nmL c') k) = 0
    ·rw [if_pos h0]
     refine Ev.pos (fun _ => h0) ?_
     rw [hk1]
     exact next
    ·rw [if_neg h0]
     refine Ev.neg (fun _ => h0) ?_
     exact Ev.now _
   have byT : ∀ (r : Int) (a2 : Bool) (a3 : ByteArray) (a4 : Int) (b2 : Bool) (b3 : ByteArray) (b4 : Int), numD (nmL c) (nmL c') k = ztf (nmO (nmL c) k) (nmO (nmL c') k) →
     Ev (fun m => zo.j2 m (numsA c) (numsA c') (k : Int) r true (nmO (nmL c) k) a2 a3 a4 (nmO (nmL c') k) b2 b3 b4) (zkb (numD (nmL c) (nmL c') k) (fromC (numD (nmL c) (nmL c')) n (k + 1))) := by
    intro r a2 a3 a4 b2 b3 b4 he
    refine Ev.succ ?_
    simp only [zo.j2]
    refine Ev.pos (fun _ => by first | rfl | trivial) ?_
    refine Ev.bind0 (order_eq _ _) ?_
    rw [he, zpg]
    unfold zkb
    by_cases h0 : cmp_ (bytesOf (nmO (nmL c) k)) (bytesOf (nmO (nmL c') k)) = 0
    ·rw [if_pos h0]
     refine Ev.pos (fun _ => h0) ?_
     rw [hk1]
     exact next
    ·rw [if_neg h0]
     refine Ev.neg (fun _ => h0) ?_
     exact Ev.now _
   by_cases i1 : nmI (nmL c) k = 0
   ·refine Ev.pos (fun _ => by show ((nmI (nmL c) k : Nat) : Int) = 0; omega) ?_
    exact byN _ _ _ _ _ _ _ _ (by unfold numD numC; rw [if_neg (fun h => h.1 i1)])
   refine Ev.neg (fun _ => by show ¬ ((nmI (nmL c) k : Nat) : Int) = 0; omega) ?_
   by_cases i2 : nmI (nmL c') k = 0
   ·refine Ev.pos (fun _ => by show ((nmI (nmL c') k : Nat) : Int) = 0; omega) ?_
    exact byN _ _ _ _ _ _ _ _ (by unfold numD numC; rw [if_neg (fun h => h.2.1 i2)])
   refine Ev.neg (fun _ => by show ¬ ((nmI (nmL c') k : Nat) : Int) = 0; omega) ?_
   have p1 := nmO_pos' hc k
   have p2 := nmO_pos' hc' k
   refine Ev.pos (fun _ => by show (0 : Int) < ((nmO (nmL c) k).size : Int); omega) ?_
   by_cases z1 : bt (nmO (nmL c) k) 0 = 48
   ·refine Ev.pos (fun _ => z1) ?_
    exact byT _ _ _ _ _ _ _ (by unfold numD numC; rw [if_pos ⟨i1, i2, .inl z1⟩])
   refine Ev.neg (fun _ => z1) ?_
   refine Ev.pos (fun _ => by show (0 : Int) < ((nmO (nmL c') k).size : Int); omega) ?_
   by_cases z2 : bt (nmO (nmL c') k) 0 = 48
   ·have e : (bt (nmO (nmL c') k) 0 == 48) = true := beq_iff_eq.2 z2
    show Ev (fun m => zo.j2 m (numsA c) (numsA c') (k : Int) _ (bt (nmO (nmL c') k) 0 == 48) (nmO (nmL c) k) _ _ _ (nmO (nmL c') k) _ _ _) _
    rw [e]
    exact byT _ _ _ _ _ _ _ (by unfold numD numC; rw [if_pos ⟨i1, i2, .inr z2⟩])
   ·have e : (bt (nmO (nmL c') k) 0 == 48) = false := beq_eq_false_iff_ne.2 z2
    show Ev (fun m => zo.j2 m (numsA c) (numsA c') (k : Int) _ (bt (nmO (nmL c') k) 0 == 48) _ _ _ _ _ _ _ _) _
    rw [e]
    exact byN _ _ _ _ _ _ _ _ (by unfold numD numC; rw [if_neg (fun h => h.2.2.elim z1 z2)])
  refine Ev.succ ?_
  simp only [zo.l0, zrf]
  by_cases h : k < c.length
  ·refine Ev.pos (fun _ => by omega) ?_
   exact main
  ·refine Ev.neg (fun _ => by omega) ?_
   have e : decide ((k : Int) < (c'.length : Int)) = true := decide_eq_true (by omega)
   rw [e]
   exact main
theorem alpNumbers_ev {p q : PV} (hp : PG p) (hq : PG q) : Ev (fun m => zo.f m (numsA p.c) (numsA q.c)) (zee (nmL p.c) (nmL q.c)) := by
 have h := alpNumbers_from hp.c hq.c hp.cl hq.cl _ 0 rfl (by omega)
 refine Ev.eq h ?_
 unfold zee nmL
 simp only [List.length_map, Nat.sub_zero]
def Beyond (s : List (List Int × List Int)) (n : Nat) : Prop := ∀ k x, n ≤ k → s[k]? = some x → (wgt x.1 : Int) ≠ 4 ∧ (wgt x.1 : Int) ≠ 5
theorem sufsA_get (s : List (List Int × List Int)) (k : Nat) : (sufsA s)[k]? = s[k]?.map (fun x => (⟨(wgt x.1 : Int), ⟨false, magB (decL x.2)⟩⟩ : S56)) := by
 unfold sufsA
 rw [List.getElem?_map]
theorem zli {s : List (List Int × List Int)} {k : Nat} {x : List Int × List Int} (e : s[k]? = some x) : zhd (sufsA s) (k : Int) = ⟨(wgt x.1 : Int), ⟨false, magB (decL x.2)⟩⟩ := by
 unfold zhd
 rw [Int.toNat_natCast, List.getD_eq_getElem?_getD, sufsA_get, e]
 rfl
theorem sxL_get (s : List (List Int × List Int)) (k : Nat) : (sxL s)[k]? = s[k]?.map (fun x => toSx (convS x)) := by
 unfold sxL
 simp only [List.getElem?_map, Option.map_map]
 rfl
theorem sxL_at {s : List (List Int × List Int)} (hs : ∀ x ∈ s, x.1 ∈ zpd ∧ (∀ c ∈ x.2, isD c = true) ∧ x.2.length ≤ 100000) {k : Nat} {x : List Int × List Int} (e : s[k]? = some x) : sxW (sxL s) k = (wgt x.1 : Int) ∧ sxN (sxL s) k = decL x.2 := by
 obtain ⟨_, h1, h2⟩ := hs x (List.mem_of_getElem? e)
 have ht : toSx (convS x) = ⟨(wgt x.1 : Int), 0, decL x.2⟩ := toSx_at (w := x.1) h1 (by omega)
 unfold sxW sxN
 rw [sxL_get, e]
 simp only [Option.map_some]
 rw [ht]
 exact ⟨rfl, rfl⟩
theorem sxL_none {s : List (List Int × List Int)} {k : Nat} (e : s[k]? = none) : sxW (sxL s) k = 5 ∧ sxN (sxL s) k = 0 := by
 unfold sxW sxN
 rw [sxL_get, e]
 exact ⟨rfl, rfl⟩
theorem orderInts_eq (a b : Int) : zzc.f a b = some (if a > b then 1 else if a < b then -1 else 0) := by
 unfold zzc.f
 repeat' split
 all_goals first | rfl | (exfalso; omega)
theorem suf_j3 (x0 x1 : List S56) (k : Nat) (w1 w2 : Int) (n1 n2 : Nat) {F : Int} (hk : k ≤ 200000) (next : Ev (fun m => zt.l0 m x0 x1 ((k + 1 : Nat) : Int)) F) :
  Ev (fun m => zt.j3 m x0 x1 (k : Int) w1 false (magB n1) w2 false (magB n2)) (zkb (sufC w1 n1 w2 n2) F) := by
 have hk1 : wrap64 ((k : Int) + 1) = ((k + 1 : Nat) : Int) := by rw [w64 (by omega) (by omega)]; omega
 refine Ev.succ ?_
 simp only [zt.j3]
 refine Ev.bind0 (orderInts_eq w1 w2) ?_
 rw [sufC_ne]
 by_cases h0 : (if w1 > w2 then (1 : Int) else if w1 < w2 then -1 else 0) = 0
 ·refine Ev.pos (fun _ => h0) ?_
  refine Ev.bind (zji n1 n2) ?_
  rw [h0]
  unfold zkb
  rw [if_pos rfl]
  by_cases h1 : cmpN n1 n2 = 0
  ·rw [if_pos h1]
   refine Ev.pos (fun _ => h1) ?_
   rw [hk1]
   exact next
  ·rw [if_neg h1]
   refine Ev.neg (fun _ => h1) ?_
   exact Ev.now _
 ·refine Ev.neg (fun _ => h0) ?_
  refine Ev.eq (Ev.now _) ?_
  unfold zkb
  rw [if_neg h0, if_neg h0]
theorem sufC_far {w : Int} (h : w ≠ 4 ∧ w ≠ 5) (n m : Nat) : sufC w n 4 m = sufC w n 5 m ∧ sufC 4 m w n = sufC 5 m w n := by
 unfold sufC
 constructor
 ·by_cases c : w > 5
  ·rw [if_pos (by omega), if_pos c]
  ·rw [if_neg (by omega), if_pos (by omega), if_neg c, if_pos (by omega)]
 ·by_cases c : w > 5
  ·rw [if_neg (by omega), if_pos (by omega), if_neg (by omega), if_pos (by omega)]
  ·rw [if_pos (by omega), if_pos (by omega)]
theorem mag_zero : magB 0 = (⟨#[]⟩ : ByteArray) := rfl
theorem zsj {s s' : List (List Int × List Int)} (hs : ∀ x ∈ s, x.1 ∈ zpd ∧ (∀ c ∈ x.2, isD c = true) ∧ x.2.length ≤ 100000) (hs' : ∀ x ∈ s', x.1 ∈ zpd ∧ (∀ c ∈ x.2, isD c = true) ∧ x.2.length ≤ 100000) (hl : s.length ≤ 200000) (hl' : s'.length ≤ 200000) (hb : Beyond s s'.length) (hb' : Beyond s' s.length) : ∀ (n k : Nat), max s.length s'.length - k = n → k ≤ 200000 →
  Ev (fun m => zt.l0 m (sufsA s) (sufsA s') (k : Int)) (fromC (sufD (sxL s) (sxL s')) n k) := by
 intro n
 induction n with
 | zero =>
  intro k hn hk
  refine Ev.succ ?_
  simp only [zt.l0, zld]
  refine Ev.neg (fun _ => by omega) ?_
  have e : decide ((k : Int) < (s'.length : Int)) = false := decide_eq_false (by omega)
  rw [e]
  refine Ev.succ ?_
  simp only [zt.j1]
  refine Ev.neg (fun _ => Bool.false_ne_true) ?_
  exact Ev.now _
 | succ n ih =>
  intro k hn hk
  have next := ih (k + 1) (by omega) (by omega)
  have main : Ev (fun m => zt.j1 m (sufsA s) (sufsA s') (k : Int) true) (fromC (sufD (sxL s) (sxL s')) (n + 1) k) := by
   refine Ev.succ ?_
   simp only [zt.j1, zld]
   refine Ev.pos (fun _ => by first | rfl | trivial) ?_
   rw [zaf]
   cases e : s[k]? with
   | none =>
    have h1 := List.getElem?_eq_none_iff.1 e
    obtain ⟨a1, a2⟩ := sxL_none e
    refine Ev.neg (fun _ => by omega) ?_
    have hk' : k < s'.length := by omega
    have e' : s'[k]? = some s'[k] := List.getElem?_eq_getElem hk'
    obtain ⟨b1, b2⟩ := sxL_at hs' e'
    refine Ev.succ ?_
    simp only [zt.j2, zld]
    refine Ev.pos (fun _ => by omega) ?_
    refine Ev.pos (fun _ => by omega) ?_
    rw [zli e', ← mag_zero]
    refine Ev.eq (suf_j3 _ _ k 4 _ 0 _ hk next) ?_
    unfold sufD
    rw [a1, a2, b1, b2, (sufC_far (hb' k _ h1 e') _ _).2]
   | some x =>
    have h1 : k < s.length := (List.getElem?_eq_some_iff.1 e).1
    obtain ⟨a1, a2⟩ := sxL_at hs e
    refine Ev.pos (fun _ => by omega) ?_
    refine Ev.pos (fun _ => by omega) ?_
    rw [zli e]
    refine Ev.succ ?_
    simp only [zt.j2, zld]
    cases e' : s'[k]? with
    | none =>
     have h2 := List.getElem?_eq_none_iff.1 e'
     obtain ⟨b1, b2⟩ := sxL_none e'
     refine Ev.neg (fun _ => by omega) ?_
     rw [← mag_zero]
     refine Ev.eq (suf_j3 _ _ k _ 4 _ 0 hk next) ?_
     unfold sufD
     rw [a1, a2, b1, b2, (sufC_far (hb k _ h2 e) _ _).1]
    | some y =>
     have h2 : k < s'.length := (List.getElem?_eq_some_iff.1 e').1
     obtain ⟨b1, b2⟩ := sxL_at hs' e'
     refine Ev.pos (fun _ => by omega) ?_
     refine Ev.pos (fun _ => by omega) ?_
     rw [zli e']
     refine Ev.eq (suf_j3 _ _ k _ _ _ _ hk next) ?_
     unfold sufD
     rw [a1, a2, b1, b2]
  refine Ev.succ ?_
  simp only [zt.l0, zld]
  by_cases h : k < s.length
  ·refine Ev.pos (fun _ => by omega) ?_
   exact main
  ·refine Ev.neg (fun _ => by omega) ?_
   have e : decide ((k : Int) < (s'.length : Int)) = true := decide_eq_true (by omega)
   rw [e]
   exact main
theorem alpSuffixes_ev {p q : PV} (hp : PG p) (hq : PG q) (hb : Beyond p.s q.s.length) (hb' : Beyond q.s p.s.length) : Ev (fun m => zt.f m (sufsA p.s) (sufsA q.s)) (sufsC (sxL p.s) (sxL q.s)) := by
 have h := zsj hp.s hq.s hp.sl hq.sl hb hb' _ 0 rfl (by omega)
 refine Ev.eq h ?_
 unfold sufsC sxL
 simp only [List.length_map, Nat.sub_zero]
theorem beyond_true {s : List (List Int × List Int)} (hl : s.length ≤ 200000) : ∀ (m n : Nat), s.length - n = m → n ≤ 200000 → Ev (fun k => zdb.l0 k (sufsA s) (n : Int)) true → Beyond s n := by
 intro m
 induction m with
 | zero =>
  intro n hm hn _ k x hk e
  have := (List.getElem?_eq_some_iff.1 e).1
  omega
 | succ m ih =>
  intro n hm hn h k x hk e
  have hlt : n < s.length := by omega
  have e0 : s[n]? = some s[n] := List.getElem?_eq_getElem hlt
  obtain ⟨k0, h0⟩ := h
  have h1 := h0 (k0 + 1) (by omega)
  simp only [zdb.l0, zld] at h1
  rw [if_pos (by omega), if_pos (by omega), zli e0] at h1
  by_cases c4 : (wgt s[n].1 : Int) = 4
  ·rw [if_pos c4] at h1; cases h1
  rw [if_neg c4] at h1
  by_cases c5 : (wgt s[n].1 : Int) = 5
  ·rw [if_pos c5] at h1; cases h1
  rw [if_neg c5] at h1
  by_cases hkn : k = n
  ·subst hkn
   rw [e0] at e
   cases e
   exact ⟨c4, c5⟩
  ·refine ih (n + 1) (by omega) (by omega) ⟨k0, fun j hj => ?_⟩ k x (by omega) e
   have h2 := h0 (j + 1) (by omega)
   simp only [zdb.l0, zld] at h2
   rw [if_pos (by omega), if_pos (by omega), zli e0, if_neg c4, if_neg c5, w64 (i := (n : Int) + 1) (by omega) (by omega)] at h2
   exact h2
theorem zui {c : List (List Int)} (hc : ∀ d ∈ c, d ≠ [] ∧ (∀ x ∈ d, isD x = true) ∧ d.length ≤ 100000) (hl : c.length ≤ 200000) : ∀ (m n : Nat), c.length - n = m → n ≤ 200000 → Ev (fun k => zpb.l0 k (numsA c) (n : Int)) true := by
 intro m
 induction m with
 | zero =>
  intro n hm hn
  refine Ev.succ ?_
  simp only [zpb.l0, zrf]
  refine Ev.neg (fun _ => by omega) ?_
  exact Ev.now _
 | succ m ih =>
  intro n hm hn
  have hlt : n < c.length := by omega
  have e : c[n]? = some c[n] := List.getElem?_eq_getElem hlt
  have hr : zwd (numsA c) (n : Int) = ⟨strOfNums c[n], ⟨false, magB (decL c[n])⟩, (n : Int)⟩ := by
   unfold zwd
   rw [Int.toNat_natCast, List.getD_eq_getElem?_getD, numsA_get, e]
   rfl
  obtain ⟨h0, h1, _⟩ := hc c[n] (List.mem_of_getElem? e)
  refine Ev.succ ?_
  simp only [zpb.l0, zrf]
  refine Ev.pos (fun _ => by omega) ?_
  refine Ev.pos (fun _ => by omega) ?_
  rw [hr]
  refine Ev.neg (fun _ e => h0 (by have := (zcc _).1 e; rwa [B_digits h1] at this)) ?_
  rw [w64 (i := (n : Int) + 1) (by omega) (by omega)]
  exact ih (n + 1) (by omega) (by omega)
theorem known_tells {p q : PV} (hp : PG p) (hq : PG q) (o r l h m o' r' l' h' m' : ByteArray) (hb ng hb' ng' : Bool) :
  ∃ t, Ev (fun k => znc.f k o r l h p.i (numsA p.c) (sufsA p.s) hb ng m o' r' l' h' q.i (numsA q.c) (sufsA q.s) hb' ng' m') t ∧ (t = true → p.i = q.i ∧ Beyond p.s q.s.length ∧ Beyond q.s p.s.length) := by
 obtain ⟨q3, e3⟩ := zri (sufsA p.s) (by rw [zld]; have := hp.sl; omega) _ (sufsA q.s).length rfl (by rw [zld]; have := hq.sl; omega)
 obtain ⟨q4, e4⟩ := zri (sufsA q.s) (by rw [zld]; have := hq.sl; omega) _ (sufsA p.s).length rfl (by rw [zld]; have := hp.sl; omega)
 have e1 := zui hp.c hp.cl _ 0 rfl (by omega)
 have e2 := zui hq.c hq.cl _ 0 rfl (by omega)
 simp only [znc.f, zpb.f, zdb.f]
 by_cases c : (p.i == q.i) = true
 case neg => exact ⟨false, Ev.neg (fun _ => c) (Ev.now _), fun h => by cases h⟩
 cases q3
 ·exact ⟨false, Ev.pos (fun _ => c) (Ev.bind e1 (Ev.pos (fun _ => rfl) (Ev.bind e2 (Ev.pos (fun _ => rfl) (Ev.bind e3 (Ev.neg (fun _ => Bool.false_ne_true) (Ev.now _))))))), fun h => by cases h⟩
 refine ⟨q4, Ev.pos (fun _ => c) (Ev.bind e1 (Ev.pos (fun _ => rfl) (Ev.bind e2 (Ev.pos (fun _ => rfl) (Ev.bind e3 (Ev.pos (fun _ => rfl) (Ev.bind e4 (Ev.now _)))))))), fun h => ?_⟩
 subst h
 rw [zld] at e3 e4
 exact ⟨eq_of_beq c, beyond_true hp.sl _ _ rfl hq.sl e3, beyond_true hq.sl _ _ rfl hp.sl e4⟩
theorem firstNe0 (a : Int) : zkb a 0 = a := by
 unfold zkb
 split
 ·rename_i h; exact h.symm
 ·rfl
theorem rem_range (a b : ByteArray) : -1 ≤ zod a b ∧ zod a b ≤ 1 := by
 unfold zod
 repeat' split
 all_goals omega
theorem compare_ev {p q : PV} (hp : PG p) (hq : PG q) (hb : Beyond p.s q.s.length) (hb' : Beyond q.s p.s.length) (h h' : ByteArray) :
  Ev (fun k => ze.f k (strOfNums p.o) (strOfNums p.r) (strOfNums p.l) h p.i (numsA p.c) (sufsA p.s) true false (magB (decL p.b)) (strOfNums q.o) (strOfNums q.r) (strOfNums q.l) h' q.i (numsA q.c) (sufsA q.s) true false (magB (decL q.b))) (apC (apOf p) (apOf q)) := by
 obtain ⟨o, hO⟩ : ∃ o, o = strOfNums p.o := ⟨_, rfl⟩
 obtain ⟨o', hO'⟩ : ∃ o, o = strOfNums q.o := ⟨_, rfl⟩
 obtain ⟨r, hR⟩ : ∃ o, o = strOfNums p.r := ⟨_, rfl⟩
 obtain ⟨r', hR'⟩ : ∃ o, o = strOfNums q.r := ⟨_, rfl⟩
 obtain ⟨l, hL⟩ : ∃ o, o = strOfNums p.l := ⟨_, rfl⟩
 obtain ⟨l', hL'⟩ : ∃ o, o = strOfNums q.l := ⟨_, rfl⟩
 have eN := alpNumbers_ev hp hq
 have eS := alpSuffixes_ev hp hq hb hb'
 have eB := zji (decL p.b) (decL q.b)
 have goal : apC (apOf p) (apOf q) = if p.i = true ∧ q.i = true then ztf o o' else zkb (zee (nmL p.c) (nmL q.c)) (zkb (zpc l l') (zkb (sufsC (sxL p.s) (sxL q.s)) (zkb (cmpN (decL p.b) (decL q.b)) (zkb (zod r r') 0)))) := by
  rw [hO, hO', hR, hR', hL, hL']
  rfl
 rw [goal, ← hO, ← hO', ← hR, ← hR', ← hL, ← hL']
 clear goal hO hO' hR hR' hL hL'
 obtain ⟨n1, e1⟩ : ∃ x, x = numsA p.c := ⟨_, rfl⟩
 obtain ⟨n2, e2⟩ : ∃ x, x = numsA q.c := ⟨_, rfl⟩
 obtain ⟨s1, e3⟩ : ∃ x, x = sufsA p.s := ⟨_, rfl⟩
 obtain ⟨s2, e4⟩ : ∃ x, x = sufsA q.s := ⟨_, rfl⟩
 obtain ⟨m1, e5⟩ : ∃ x, x = magB (decL p.b) := ⟨_, rfl⟩
 obtain ⟨m2, e6⟩ : ∃ x, x = magB (decL q.b) := ⟨_, rfl⟩
 rw [← e1, ← e2] at eN
 rw [← e3, ← e4] at eS
 rw [← e5, ← e6] at eB
 rw [← e1, ← e2, ← e3, ← e4, ← e5, ← e6]
 generalize zee (nmL p.c) (nmL q.c) = C1 at eN ⊢
 generalize sufsC (sxL p.s) (sxL q.s) = C3 at eS ⊢
 generalize cmpN (decL p.b) (decL q.b) = C4 at eB ⊢
 have hr : r.toList = [] ∨ r.toList ≠ [] := Classical.em _
 have hr' : r'.toList = [] ∨ r'.toList ≠ [] := Classical.em _
 have last : Ev (fun k => ze.j4 k 0 o r l h p.i n1 s1 true false m1 o' r' l' h' q.i n2 s2 true false m2) (zkb (zod r r') 0) := by
  refine Ev.succ ?_
  simp only [ze.j4]
  refine Ev.pos (fun _ => by first | rfl | trivial) ?_
  by_cases c1 : r.toList = []
  ·refine Ev.pos (fun _ => c1) ?_
   refine Ev.succ ?_
   simp only [ze.j5]
   refine Ev.neg (fun _ => Bool.false_ne_true) ?_
   refine Ev.pos (fun _ => c1) ?_
   by_cases c2 : r'.toList = []
   ·refine Ev.pos (fun _ => c2) ?_
    refine Ev.eq (Ev.now _) ?_
    rw [firstNe0]
    unfold zod
    rw [if_neg (fun h => h.2 c2), if_neg (fun h => h.1 c1)]
   ·refine Ev.neg (fun _ => c2) ?_
    refine Ev.eq (Ev.now _) ?_
    rw [firstNe0]
    unfold zod
    rw [if_pos ⟨c1, c2⟩]
  ·refine Ev.neg (fun _ => c1) ?_
   by_cases c2 : r'.toList = []
   ·have e : (r'.toList == ([] : List UInt8)) = true := beq_iff_eq.2 c2
    rw [e]
    refine Ev.succ ?_
    simp only [ze.j5]
    refine Ev.pos (fun _ => by first | rfl | trivial) ?_
    refine Ev.eq (Ev.now _) ?_
    rw [firstNe0]
    unfold zod
    rw [if_neg (fun h => c1 h.1), if_pos ⟨c1, c2⟩]
   ·have e : (r'.toList == ([] : List UInt8)) = false := beq_eq_false_iff_ne.2 c2
    rw [e]
    refine Ev.succ ?_
    simp only [ze.j5]
    refine Ev.neg (fun _ => Bool.false_ne_true) ?_
    refine Ev.neg (fun _ => c1) ?_
    refine Ev.eq (Ev.now _) ?_
    rw [firstNe0]
    unfold zod
    rw [if_neg (fun h => c1 h.1), if_neg (fun h => c2 h.2)]
 have j4 : ∀ c : Int, Ev (fun k => ze.j4 k c o r l h p.i n1 s1 true false m1 o' r' l' h' q.i n2 s2 true false m2) (zkb c (zkb (zod r r') 0)) := by
  intro c
  by_cases h0 : c = 0
  ·subst h0
   exact last
  ·refine Ev.succ ?_
   simp only [ze.j4]
   refine Ev.neg (fun _ => h0) ?_
   refine Ev.eq (Ev.now _) ?_
   exact (if_neg h0).symm
 have j2 : ∀ c : Int, Ev (fun k => ze.j2 k c o r l h p.i n1 s1 true false m1 o' r' l' h' q.i n2 s2 true false m2) (zkb c (zkb C4 (zkb (zod r r') 0))) := by
  intro c
  refine Ev.succ ?_
  simp only [ze.j2]
  by_cases h0 : c = 0
  ·subst h0
   refine Ev.pos (fun _ => by first | rfl | trivial) ?_
   refine Ev.pos (fun _ => by first | rfl | trivial) ?_
   refine Ev.succ ?_
   simp only [ze.j3]
   refine Ev.pos (fun _ => by first | rfl | trivial) ?_
   refine Ev.bind eB ?_
   exact j4 C4
  ·refine Ev.neg (fun _ => h0) ?_
   refine Ev.succ ?_
   simp only [ze.j3]
   refine Ev.neg (fun _ => Bool.false_ne_true) ?_
   refine Ev.eq (j4 c) ?_
   unfold zkb
   rw [if_neg h0, if_neg h0]
 have j1 : ∀ c : Int, Ev (fun k => ze.j1 k c o r l h p.i n1 s1 true false m1 o' r' l' h' q.i n2 s2 true false m2) (zkb c (zkb C3 (zkb C4 (zkb (zod r r') 0)))) := by
  intro c
  refine Ev.succ ?_
  simp only [ze.j1]
  by_cases h0 : c = 0
  ·subst h0
   refine Ev.pos (fun _ => by first | rfl | trivial) ?_
   refine Ev.bind eS ?_
   exact j2 C3
  ·refine Ev.neg (fun _ => h0) ?_
   refine Ev.eq (j2 c) ?_
   unfold zkb
   rw [if_neg h0, if_neg h0]
 have j0 : Ev (fun k => ze.j0 k false o r l h p.i n1 s1 true false m1 o' r' l' h' q.i n2 s2 true false m2) (zkb C1 (zkb (zpc l l') (zkb C3 (zkb C4 (zkb (zod r r') 0))))) := by
  refine Ev.succ ?_
  simp only [ze.j0]
  refine Ev.neg (fun _ => Bool.false_ne_true) ?_
  refine Ev.bind eN ?_
  by_cases h0 : C1 = 0
  ·refine Ev.pos (fun _ => h0) ?_
   refine Ev.bind0 (order_eq _ _) ?_
   rw [← zqh, h0]
   exact j1 _
  ·refine Ev.neg (fun _ => h0) ?_
   refine Ev.eq (j1 C1) ?_
   unfold zkb
   rw [if_neg h0, if_neg h0]
 simp only [ze.f]
 cases hi : p.i
 ·rw [hi] at j0
  refine Ev.neg (fun _ => Bool.false_ne_true) ?_
  rw [if_neg (fun h => Bool.false_ne_true h.1)]
  exact j0
 ·refine Ev.pos (fun _ => by first | rfl | trivial) ?_
  cases hj : q.i
  ·rw [if_neg (fun h => Bool.false_ne_true h.2)]
   rw [hi, hj] at j0
   exact j0
  ·rw [if_pos ⟨rfl, rfl⟩]
   refine Ev.succ ?_
   simp only [ze.j0]
   refine Ev.pos (fun _ => by first | rfl | trivial) ?_
   refine Ev.bind0 (order_eq _ _) ?_
   rw [← zpg]
   exact Ev.now _
theorem cmpN_neg (a b : Nat) : cmpN b a = -cmpN a b := cmpV_neg a b
theorem zkf (a b : Int) : zkb (-a) (-b) = -zkb a b := by
 unfold zkb
 by_cases h : a = 0
 ·rw [if_pos (by omega), if_pos h]
 ·rw [if_neg (by omega), if_neg h]
theorem fromC_neg {d e : Nat → Int} (h : ∀ k, e k = -d k) : ∀ n k, fromC e n k = -fromC d n k
 | 0, _ => rfl
 | n + 1, k => by rw [zaf, zaf, h k, fromC_neg h n (k + 1), zkf]
theorem strCmp_neg (a b : ByteArray) : ztf b a = -ztf a b := by rw [zpg, zpg, cmp_neg]
theorem comps_neg (l m : List Nm) : zee m l = -zee l m := by
 unfold zee
 rw [Nat.max_comm m.length l.length]
 refine fromC_neg (fun k => ?_) _ _
 unfold numD numC
 by_cases h : nmI l k ≠ 0 ∧ nmI m k ≠ 0 ∧ (bt (nmO l k) 0 = 48 ∨ bt (nmO m k) 0 = 48)
 ·rw [if_pos h, if_pos ⟨h.2.1, h.1, h.2.2.symm⟩, strCmp_neg]
 ·rw [if_neg h, if_neg (fun e => h ⟨e.2.1, e.1, e.2.2.symm⟩), cmpN_neg]
theorem sufs_neg (l m : List Sx) : sufsC m l = -sufsC l m := by
 unfold sufsC
 rw [Nat.max_comm m.length l.length]
 refine fromC_neg (fun k => ?_) _ _
 unfold sufD sufC
 rw [cmpN_neg (sxN l k) (sxN m k)]
 repeat' split
 all_goals omega
theorem rem_neg (a b : ByteArray) : zod b a = -zod a b := by
 unfold zod
 by_cases h1 : a.toList = [] <;> by_cases h2 : b.toList = [] <;> simp [h1, h2]
theorem apC_neg (p q : AP) : apC q p = -apC p q := by
 unfold apC
 by_cases h : p.i = true ∧ q.i = true
 ·rw [if_pos h, if_pos ⟨h.2, h.1⟩, strCmp_neg]
 ·rw [if_neg h, if_neg (fun e => h ⟨e.2, e.1⟩), comps_neg (p.c.map toNm), zqh q.l p.l, cmp_neg (bytesOf p.l), ← zqh, sufs_neg (p.s.map toSx), cmpN_neg p.b, rem_neg p.r]
  rw [show (0 : Int) = -0 from rfl, zkf, zkf, zkf, zkf, zkf]
  rfl
theorem zde {a b : Int} (h1 : -1 ≤ a ∧ a ≤ 1) (h2 : -1 ≤ b ∧ b ≤ 1) : -1 ≤ zkb a b ∧ zkb a b ≤ 1 := by
 unfold zkb
 split <;> assumption
theorem zdj (a b : Nat) : -1 ≤ cmpN a b ∧ cmpN a b ≤ 1 := by
 unfold cmpN
 repeat' split
 all_goals omega
theorem zgi {d : Nat → Int} (h : ∀ k, -1 ≤ d k ∧ d k ≤ 1) : ∀ n k, -1 ≤ fromC d n k ∧ fromC d n k ≤ 1
 | 0, _ => by simp only [fromC]; omega
 | n + 1, k => by rw [zaf]; exact zde (h k) (zgi h n (k + 1))
theorem zoj (a b : ByteArray) : -1 ≤ ztf a b ∧ ztf a b ≤ 1 := by rw [zpg]; exact zsi _ _
theorem apC_range (p q : AP) : -1 ≤ apC p q ∧ apC p q ≤ 1 := by
 unfold apC
 split
 ·exact zoj _ _
 ·refine zde ?_ (zde ?_ (zde ?_ (zde (zdj _ _) (zde (rem_range _ _) (by omega)))))
  ·refine zgi (fun k => ?_) _ _
   unfold numD numC
   split
   ·exact zoj _ _
   ·exact zdj _ _
  ·rw [zqh]; exact zsi _ _
  ·refine zgi (fun k => ?_) _ _
   unfold sufD
   rw [sufC_ne]
   refine zde ?_ (zdj _ _)
   repeat' split
   all_goals omega
theorem turned_eq (p q : AP) : zrc.f (apC p q) (apC q p) = some true := by
 obtain ⟨h1, h2⟩ := apC_range p q
 unfold zrc.f
 rw [apC_neg p q, w64 (by omega) (by omega), if_pos (by omega), if_pos (by omega), decide_eq_true h2]
theorem parse_PG {l : List Int} (hl : l.length ≤ 100000) : PG (zwc l) := by
 have h1 := zkh l
 have h2 := zlg l
 refine ⟨fun d hd => ?_, ?_, fun x hx => ?_, ?_⟩
 ·obtain ⟨sub, e1, e2, e3, e4⟩ := zif l.length l
  have := zej l.length l d hd
  exact ⟨(e4 d hd).1, (e4 d hd).2, by omega⟩
 ·have := numsP_count l.length l
  show (numsP l.length l).1.length ≤ _
  omega
 ·obtain ⟨a, b, c⟩ := sufsP_mem _ _ x hx
  exact ⟨a, c, by omega⟩
 ·have := zci (rest2 l).length (rest2 l)
  show (sufsP (rest2 l).length (rest2 l)).1.length ≤ _
  omega
end Go.Proofs.YtapaijpglfmfgaaGreatDoor.V
end
section
namespace Go.Proofs.YtapaijpglfmfgaaGreatDoor.V
open Go.RowKit YtapaijpglfmfgaaGreatDoor.Q YtapaijpglfmfgaaGreatDoorG YtapaijpglfmfgaaGreatDoorP YtapaijpglfmfgaaGreatDoorH YtapaijpglfmfgaaGreatDoorB YtapaijpglfmfgaaGreatDoorM YtapaijpglfmfgaaGreatDoorW.PrintWords YtapaijpglfmfgaaGreatDoorW.PrintLast YtapaijpglfmfgaaGreatDoorW.PrintMore
theorem mag_small {l : List Int} (h : ∀ c ∈ l, isD c = true) (hl : l.length ≤ 100000) : (magB (decL l)).size ≤ 1000000 := by
 rw [zfc, B_mag]
 have h1 := decL_lt l h
 have h2 : 10 ^ l.length ≤ 256 ^ l.length := Nat.pow_le_pow_left (by omega) _
 have := mag_len_le (Nat.lt_of_lt_of_le h1 h2)
 omega
theorem build_dig (l : List Int) : (∀ c ∈ (zzd l).2.1, isD c = true) ∧ (zzd l).2.1.length ≤ l.length := by
 unfold zzd
 split
 ·exact ⟨fun c hc => by simp at hc, by simp⟩
 split
 ·exact ⟨fun c hc => ztg hc, by simp only [List.length_take, List.length_drop]; omega⟩
 ·exact ⟨fun c hc => by simp at hc, by simp⟩
theorem sx_inj {a b : List Sx} (h : (sufsT a).map pSuf = (sufsT b).map pSuf) : zuc a = zuc b := by
 have e : ∀ l : List Sx, ((sufsT l).map pSuf).map (fun y => (y.f0, val (bytesOf y.f1.f1).reverse)) = zuc l := fun l => by
  unfold sufsT zuc
  rw [List.map_map, List.map_map]
  refine List.map_congr_left (fun z _ => ?_)
  show (z.wt, val (bytesOf (magB z.n)).reverse) = _
  rw [zth]
 rw [← e a, ← e b, h]
theorem nm_f0 : ∀ (l : List Nm) (k : Nat), (((l.zipIdx k).map fun p => tnN p.1 p.2).map pNum).map (fun y => y.f0) = l.map (·.o)
  | [], _ => rfl
  | x :: l, k => by
    simp only [List.zipIdx_cons, List.map_cons, nm_f0 l (k + 1)]
    rfl
theorem nm_inj {a b : List Nm} (h : (numsT a).map pNum = (numsT b).map pNum) : a.map (·.o) = b.map (·.o) := by
  have e := fun l : List Nm => nm_f0 l 0
  have h2 := congrArg (List.map fun y : S52 => y.f0) h
  unfold numsT at h2
  rwa [e, e] at h2
def xP (p : PV) : AV := ⟨strOfNums p.o, p.i, strOfNums p.r, nmL p.c, strOfNums p.l, sxL p.s, strOfNums p.h, decL p.b⟩
theorem nmL_told {p : PV} (hp : PG p) : (numsT (nmL p.c)).map pNum = numsA p.c :=
 nums_told (by unfold nmL; rw [List.map_map]; exact (List.map_congr_left (fun d _ => rfl)).trans (List.map_id _)) (fun y hy => by
  obtain ⟨d, _, rfl⟩ := List.mem_map.1 hy
  rfl) (fun d hd => digs_asc (hp.c d hd).2.1)
theorem sxL_told {p : PV} (hp : PG p) : (sufsT (sxL p.s)).map pSuf = sufsA p.s :=
 sufs_told2 (by
  unfold sxL zuc zoe
  rw [List.map_map]
  exact List.map_congr_left (fun d _ => rfl)) (fun x hx => ⟨(hp.s x hx).2.1, by have := (hp.s x hx).2.2; omega⟩)
theorem Tl_P {p : PV} (hp : PG p) (hb : (magB (decL p.b)).size ≤ 1000000) : Tl (xP p) (strOfNums p.o) (strOfNums p.r) (strOfNums p.l) (strOfNums p.h) p.i (numsA p.c) (sufsA p.s) true false (magB (decL p.b)) := by
 refine ⟨rfl, rfl, rfl, rfl, rfl, (nmL_told hp).symm, (sxL_told hp).symm, rfl, rfl, rfl, fun y hy => ?_, fun y hy => ?_, hb, ?_, ?_⟩
 ·obtain ⟨e, he, rfl⟩ := List.mem_map.1 hy
  obtain ⟨d, hd, rfl⟩ := List.mem_map.1 he
  obtain ⟨k1, k2, k3⟩ := hp.c d hd
  refine ⟨rfl, ?_, ?_⟩
  ·exact (zwh k1 k2).1.1
  ·rw [toNm_dig k2]; exact mag_small k2 k3
 ·obtain ⟨e, he, rfl⟩ := List.mem_map.1 hy
  obtain ⟨x, hx, rfl⟩ := List.mem_map.1 he
  obtain ⟨_, k2, k3⟩ := hp.s x hx
  have h := (zxi k2 (by omega)).2.2
  show (magB (dv (or0 (strOfNums x.2)) (or0 (strOfNums x.2)).size)).size ≤ _
  rw [h]
  exact mag_small k2 k3
 ·show (nmL p.c).length ≤ _
  unfold nmL; rw [List.length_map, List.length_map]; have := hp.cl; omega
 ·show (sxL p.s).length ≤ _
  unfold sxL; rw [List.length_map, List.length_map]; have := hp.sl; omega
theorem Told_P {p : PV} (hp : PG p) {z : AV} (h : Tl z (strOfNums p.o) (strOfNums p.r) (strOfNums p.l) (strOfNums p.h) p.i (numsA p.c) (sufsA p.s) true false (magB (decL p.b))) : Go.Proofs.YtapaijpglfmfgaaGreatDoorG.Told z (apOf p) := by
 obtain ⟨h0, h1, h2, h3, h4, h5, h6, _, _, h9, t1, _⟩ := h
 refine ⟨h0.symm, h4.symm, h1.symm, ?_, fun y hy => (t1 y hy).1, h2.symm, ?_, h3.symm, (magB_inj h9).symm⟩
 ·rw [← nmL_told hp] at h5
  rw [← nm_inj h5]
  unfold nmL
  rw [List.map_map]
  exact (List.map_congr_left (fun d _ => rfl)).trans (List.map_id _)
 ·rw [← sxL_told hp] at h6
  rw [← sx_inj h6]
  unfold sxL zuc zoe
  rw [List.map_map]
  exact List.map_congr_left (fun d _ => rfl)
theorem compareA_P {p q : PV} (hp : PG p) (hq : PG q) (bp : (magB (decL p.b)).size ≤ 1000000) (bq : (magB (decL q.b)).size ≤ 1000000) :
  zmb.f (strOfNums p.o) (strOfNums p.r) (strOfNums p.l) (strOfNums p.h) p.i (numsA p.c) (sufsA p.s) true false (magB (decL p.b)) (strOfNums q.o) (strOfNums q.r) (strOfNums q.l) (strOfNums q.h) q.i (numsA q.c) (sufsA q.s) true false (magB (decL q.b)) = some (apC (apOf p) (apOf q)) :=
 compareA_eq (Tl_P hp bp) (Tl_P hq bq) (fun _ h => Told_P hp h) (fun _ h => Told_P hq h)
end Go.Proofs.YtapaijpglfmfgaaGreatDoor.V
end
section
namespace Go.Proofs.YtapaijpglfmfgaaGreatDoor.V
open Go.RowKit YtapaijpglfmfgaaGreatDoor.Q YtapaijpglfmfgaaGreatDoorG YtapaijpglfmfgaaGreatDoorP YtapaijpglfmfgaaGreatDoorH YtapaijpglfmfgaaGreatDoorB YtapaijpglfmfgaaGreatDoorM YtapaijpglfmfgaaGreatDoorW.PrintWords YtapaijpglfmfgaaGreatDoorW.PrintLast YtapaijpglfmfgaaGreatDoorW.PrintMore
theorem short_two (a b : ByteArray) : Ev (fun k => zoc.f k [a, b]) (decide (a.size ≤ 1200 ∧ b.size ≤ 1200)) := by
 refine Ev.succ ?_
 simp only [zoc.f, zoc.l0, List.length_cons, List.length_nil]
 refine Ev.pos (fun _ => by omega) ?_
 refine Ev.pos (fun _ => by omega) ?_
 refine Ev.pos (fun _ => by omega) ?_
 have e : rdOf ByteArray.empty [a, b] 0 = a := rfl
 rw [e]
 by_cases h : a.size ≤ 1200
 case neg =>
  refine Ev.pos (fun _ => by omega) ?_
  exact Ev.eq (Ev.now _) (by simp [h])
 refine Ev.neg (fun _ => by omega) ?_
 refine Ev.succ ?_
 simp only [zoc.l0, List.length_cons, List.length_nil]
 refine Ev.pos (fun _ => by unfold wrap64; omega) ?_
 refine Ev.pos (fun _ => by unfold wrap64; omega) ?_
 refine Ev.pos (fun _ => by unfold wrap64; omega) ?_
 have e2 : rdOf ByteArray.empty [a, b] (wrap64 (0 + 1)) = b := by
  rw [show wrap64 (0 + 1) = 1 by unfold wrap64; omega]
  rfl
 rw [e2]
 by_cases h2 : b.size ≤ 1200
 ·refine Ev.neg (fun _ => by omega) ?_
  refine Ev.succ ?_
  simp only [zoc.l0, List.length_cons, List.length_nil]
  refine Ev.neg (fun _ => by unfold wrap64; omega) ?_
  exact Ev.eq (Ev.now _) (by simp [h, h2])
 ·refine Ev.pos (fun _ => by omega) ?_
  exact Ev.eq (Ev.now _) (by simp [h2])
theorem b_small (s : ByteArray) (hs : s.size ≤ 1200) : (magB (decL (zwc (bytesOf s)).b)).size ≤ 1000000 := by
 have h := build_dig (rest4 (bytesOf s))
 have h4 := rest4_len (bytesOf s)
 rw [zfc] at hs
 exact mag_small h.1 (by show (zzd (rest4 (bytesOf s))).2.1.length ≤ 100000; omega)
theorem FnAlpineTexts : zi.Pure := by
 intro a0 a1 _ _
 refine Ev.rounds ?_
 simp only [zi.f]
 have hout0 : Ev (fun k => zi.j0 k a0 a1 true) true := by
  refine Ev.succ ?_
  simp only [zi.j0]
  refine Ev.pos (fun _ => by first | rfl | trivial) ?_
  exact Ev.now _
 have hout1 : Ev (fun k => zi.j1 k a0 a1 true) true := by
  refine Ev.succ ?_
  simp only [zi.j1]
  refine Ev.pos (fun _ => by first | rfl | trivial) ?_
  exact Ev.now _
 have hout2 : ∀ (p1 p2 p3 p4 : ByteArray) (p5 : Bool) (p6 : List S52) (p7 : List S56) (p8 p9 : Bool) (p10 q1 q2 q3 q4 : ByteArray) (q5 : Bool) (q6 : List S52) (q7 : List S56) (q8 q9 : Bool) (q10 : ByteArray),
   Ev (fun k => zi.j2 k a0 a1 true p1 p2 p3 p4 p5 p6 p7 p8 p9 p10 q1 q2 q3 q4 q5 q6 q7 q8 q9 q10) true := by
  intros
  refine Ev.succ ?_
  simp only [zi.j2]
  refine Ev.pos (fun _ => by first | rfl | trivial) ?_
  exact Ev.now _
 by_cases hb0 : (a0.size : Int) > 2147483647
 ·exact Ev.pos (fun _ => hb0) hout0
 refine Ev.neg (fun _ => hb0) ?_
 cases hb1 : decide ((a1.size : Int) > 2147483647)
 case true => exact hout0
 refine Ev.succ ?_
 simp only [zi.j0]
 refine Ev.neg (fun _ => Bool.false_ne_true) ?_
 refine Ev.bind (short_two a0 a1) ?_
 by_cases hs : a0.size ≤ 1200 ∧ a1.size ≤ 1200
 case neg => exact Ev.neg (fun _ e => hs (of_decide_eq_true e)) hout1
 refine Ev.pos (fun _ => decide_eq_true hs) ?_
 obtain ⟨s0, s1⟩ := hs
 refine Ev.bind (known_ev a0 (by omega)) ?_
 cases hk0 : (decide (∀ x ∈ bytesOf a0, x ≤ 127) && zlh (rest3 (bytesOf a0)))
 ·exact Ev.neg (fun _ => Bool.false_ne_true) hout1
 refine Ev.pos (fun _ => by first | rfl | trivial) ?_
 refine Ev.bind (known_ev a1 (by omega)) ?_
 cases hk1 : (decide (∀ x ∈ bytesOf a1, x ≤ 127) && zlh (rest3 (bytesOf a1)))
 ·exact hout1
 have o0 : AOk a0 := ⟨by omega, (Bool.and_eq_true_iff.1 hk0).2⟩
 have o1 : AOk a1 := ⟨by omega, (Bool.and_eq_true_iff.1 hk1).2⟩
 clear hk0 hk1 hb0 hb1
 have P0 := parse_PG (l := bytesOf a0) (by rw [← zfc]; omega)
 have P1 := parse_PG (l := bytesOf a1) (by rw [← zfc]; omega)
 have b0 := b_small a0 s0
 have b1 := b_small a1 s1
 have e0 : strOfNums (zwc (bytesOf a0)).o = a0 := str_B a0
 have e1 : strOfNums (zwc (bytesOf a1)).o = a1 := str_B a1
 have CA := compareA_P P0 P1 b0 b1
 rw [e0, e1] at CA
 refine Ev.succ ?_
 simp only [zi.j1]
 refine Ev.neg (fun _ => Bool.false_ne_true) ?_
 refine Ev.bind (parse_ev a0 (by omega)) ?_
 refine Ev.bind (parse_ev a1 (by omega)) ?_
 refine Ev.pos (fun _ => by first | rfl | trivial) ?_
 refine Ev.pos (fun _ => by first | rfl | trivial) ?_
 obtain ⟨q, hq, hq2⟩ := known_tells P0 P1 a0 (strOfNums (zwc (bytesOf a0)).r) (strOfNums (zwc (bytesOf a0)).l) (strOfNums (zwc (bytesOf a0)).h) (magB (decL (zwc (bytesOf a0)).b)) a1 (strOfNums (zwc (bytesOf a1)).r) (strOfNums (zwc (bytesOf a1)).l) (strOfNums (zwc (bytesOf a1)).h) (magB (decL (zwc (bytesOf a1)).b)) true false true false
 refine Ev.bind hq ?_
 cases q
 ·exact hout2 _ _ _ _ _ _ _ _ _ _ _ _ _ _ _ _ _ _ _ _
 obtain ⟨_, z1, z2⟩ := hq2 rfl
 have CE := compare_ev P0 P1 z1 z2 (strOfNums (zwc (bytesOf a0)).h) (strOfNums (zwc (bytesOf a1)).h)
 rw [e0, e1] at CE
 refine Ev.succ ?_
 simp only [zi.j2]
 refine Ev.neg (fun _ => Bool.false_ne_true) ?_
 refine Ev.bind0 (by unfold zbc.f; rw [if_pos o0]) ?_
 refine Ev.bind0 (by unfold zbc.f; rw [if_pos o1]) ?_
 refine Ev.bind0 (cmp_text o0 o1) ?_
 refine Ev.bind0 (cmp_text o1 o0) ?_
 refine Ev.pos (fun _ => by first | rfl | trivial) ?_
 refine Ev.pos (fun _ => by first | rfl | trivial) ?_
 refine Ev.pos (fun _ => by first | rfl | trivial) ?_
 refine Ev.pos (fun _ => by first | rfl | trivial) ?_
 refine Ev.bind CE ?_
 refine Ev.pos (fun _ => by first | rfl | trivial) ?_
 refine Ev.bind0 CA ?_
 refine Ev.pos (fun _ => by first | rfl | trivial) ?_
 refine Ev.bind0 (turned_eq (apOf (zwc (bytesOf a0))) (apOf (zwc (bytesOf a1)))) ?_
 exact Ev.now _
end Go.Proofs.YtapaijpglfmfgaaGreatDoor.V
end
section
namespace Go.Proofs.YtapaijpglfmfgaaGreatDoor.Pure
theorem FnAlpineTexts : Q.zi.Pure := V.FnAlpineTexts
end Go.Proofs.YtapaijpglfmfgaaGreatDoor.Pure
end
section
namespace Go.Proofs.YtapaijpglfmfgaaGreatDoorG
open Go.RowKit Go.ChangeShapes YtapaijpglfmfgaaGreatDoorW.PrintWords YtapaijpglfmfgaaGreatDoorW.PrintLast
theorem err_star : "*" ++ "errors.errorString" = "*errors.errorString" := by decide
theorem err_row (u : TypeId) (h : Tryz.prog.typeName? 3 u = some "*errors.errorString") : u = 193 :=
 typeName_ptr_named (nm := "errors.errorString") (by rw [err_star]; kernel_rfl) (by kernel_rfl) (by decide) u (by rw [err_star]; exact h)
theorem sent {n : String} {text : List UInt8} {g : Nat} {W : World} (hg : Tryz.prog.globalNamed n = some g) (ht : (Tryz.prog.globals[g]?).map (·.type) = some 73)
    (h : laidMet Tryz.prog [(n, .iface "*errors.errorString" (.ptr (.agg [.lit (.string text)])))] W) : (∃ a, W.cell? ⟨g, 0, none⟩ = some (ErrV a)) ∧ g < W.heap.size := by
  obtain ⟨a, s, hv, _⟩ := laid_sentinel h hg ht Tryz.underlying73 err_row Tryz.underlying193 Tryz.underlying210 rfl rfl Tryz.underlying9 (by kernel_rfl) (by kernel_rfl)
  have hc : W.cell? ⟨g, 0, none⟩ = some (ErrV a) := by
    have h0 := World.var?_cell hg hv 0
    simpa [ErrV] using h0
  refine ⟨⟨a, hc⟩, ?_⟩
  rcases Nat.lt_or_ge g W.heap.size with hl | hl
  · exact hl
  · unfold World.cell? at hc
    rw [Array.getElem?_eq_none hl] at hc
    cases hc
theorem GL_of {l : List (String × DataW Unit)} {W : World} (hL : laidMetH Tryz.prog l W) (hp : (l.all fun x => x.2.handleName?.isNone) = true)
  (e1 : l.filter (fun x => x.1 == "io.EOF") = [("io.EOF", Go.Proofs.YtapaijpglfmfgaaGreatDoor.Rows.laid_io_EOF)])
  (e2 : l.filter (fun x => x.1 == "pub-primogeniture/pub/bigall.errNoDigits") = [("pub-primogeniture/pub/bigall.errNoDigits", Go.Proofs.YtapaijpglfmfgaaGreatDoor.Rows.laid_pub_primogeniture_pub_bigall_errNoDigits)])
  (e3 : l.filter (fun x => x.1 == "pub-primogeniture/pub/scalibr/semantic.ErrInvalidVersion") = [("pub-primogeniture/pub/scalibr/semantic.ErrInvalidVersion", Go.Proofs.YtapaijpglfmfgaaGreatDoor.Rows.laid_pub_primogeniture_pub_scalibr_semantic_ErrInvalidVersion)]) : GL W := by
 have one : ∀ (n : String) (d : DataW Unit), l.filter (fun x => x.1 == n) = [(n, d)] → d.handleName?.isNone = true → laidMet Tryz.prog [(n, d)] W := by
  intro n d e hd
  have h := hL.filter (fun x => x.1 == n)
  rw [e, MakeChecks.laidMetH_plain _ _ _ (by simp [hd])] at h
  exact h
 obtain ⟨h1, g1⟩ := sent (g := 2) (by kernel_rfl) (by kernel_rfl) (one _ _ e1 (by kernel_rfl))
 obtain ⟨h2, g2⟩ := sent (g := 4) (by kernel_rfl) (by kernel_rfl) (one _ _ e2 (by kernel_rfl))
 obtain ⟨h3, g3⟩ := sent (g := 0) (by kernel_rfl) (by kernel_rfl) (one _ _ e3 (by kernel_rfl))
 exact ⟨by omega, h3, h1, h2⟩
end Go.Proofs.YtapaijpglfmfgaaGreatDoorG
end
