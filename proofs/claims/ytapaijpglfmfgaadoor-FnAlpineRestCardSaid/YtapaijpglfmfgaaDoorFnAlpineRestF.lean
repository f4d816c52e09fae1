/- Proved here, for the row of the law FnAlpineRest: contracts of the Go functions that it reaches, each as its theorem 'calls' says, and the words and plain laws that they need (Qx19, BA, BB, BC, BD, BE, BF, BK, PureFnAlpineRest, K19). -/
import Derived.Test.YtapaijpglfmfgaaDoorFnAlpineRestE
import Derived.Test.YtapaijpglfmfgaaDoorRows
import Derived.Stop.LaidErr
import Derived.Stop.Joined
import Derived.LaidSub
import Derived.MakeChecks
set_option linter.unusedVariables false
set_option linter.unusedSimpArgs false
set_option maxHeartbeats 8000000
set_option maxRecDepth 100000
section
namespace Go.Proofs.YtapaijpglfmfgaaDoor.Q
open Go.RowKit YtapaijpglfmfgaaDoorH YtapaijpglfmfgaaDoorG YtapaijpglfmfgaaDoorW.PrintWords YtapaijpglfmfgaaDoorW.PrintLast YtapaijpglfmfgaaDoorW.PrintMore YtapaijpglfmfgaaDoorC
attribute [local go_sem] zsc zrc zbd zad zic zhc zqc ztc
mutual
def zc.j0 : Nat → ByteArray → Bool → List Int → Int → List Int → List Int → ByteArray → Bool → Int → Option (Bool)
 | 0, _, _, _, _, _, _, _, _, _ => none
 | k + 1, x1, x19, x493000, x493001, x493002, x493003, x493004, x493005, x493006 => if x19 = true then (some true) else ((zb.f k x493000 x493001 x493002 x493003 (⟨#[]⟩ : ByteArray) false x493006).bind fun bt494 => (if bt494.2.2.2.2.2.2.2.2.2.2.2 = true then ((zbc.f k (([x1] : List ByteArray))).bind fun t514 => (if t514 = true then ((zlb.f k (([x1] : List ByteArray))).bind fun t518 => (if t518 = true then (if x1.toList = ([] : List UInt8) then (zc.j1 k x1 bt494.1 true bt494.2.1 bt494.2.2.1 bt494.2.2.2.1 bt494.2.2.2.2.1 bt494.2.2.2.2.2.1 bt494.2.2.2.2.2.2.1 bt494.2.2.2.2.2.2.2.1 bt494.2.2.2.2.2.2.2.2.1 bt494.2.2.2.2.2.2.2.2.2.1 bt494.2.2.2.2.2.2.2.2.2.2.1) else (if 0 < (x1.size : Int) then (if (bt x1 0) = 33 then (if bt494.1.size + x1.size ≤ 9223372036854775807 then ((zd.f k (bt494.1 ++ x1)).bind fun t519 => (zc.j1 k x1 bt494.1 (!t519) bt494.2.1 bt494.2.2.1 bt494.2.2.2.1 bt494.2.2.2.2.1 bt494.2.2.2.2.2.1 bt494.2.2.2.2.2.2.1 bt494.2.2.2.2.2.2.2.1 bt494.2.2.2.2.2.2.2.2.1 bt494.2.2.2.2.2.2.2.2.2.1 bt494.2.2.2.2.2.2.2.2.2.2.1)) else (none)) else (if (bt x1 0) = 43 then (if bt494.1.size + x1.size ≤ 9223372036854775807 then ((zd.f k (bt494.1 ++ x1)).bind fun t520 => (zc.j1 k x1 bt494.1 (!t520) bt494.2.1 bt494.2.2.1 bt494.2.2.2.1 bt494.2.2.2.2.1 bt494.2.2.2.2.2.1 bt494.2.2.2.2.2.2.1 bt494.2.2.2.2.2.2.2.1 bt494.2.2.2.2.2.2.2.2.1 bt494.2.2.2.2.2.2.2.2.2.1 bt494.2.2.2.2.2.2.2.2.2.2.1)) else (none)) else (if (bt x1 0) = 61 then (if bt494.1.size + x1.size ≤ 9223372036854775807 then ((zd.f k (bt494.1 ++ x1)).bind fun t521 => (zc.j1 k x1 bt494.1 (!t521) bt494.2.1 bt494.2.2.1 bt494.2.2.2.1 bt494.2.2.2.2.1 bt494.2.2.2.2.2.1 bt494.2.2.2.2.2.2.1 bt494.2.2.2.2.2.2.2.1 bt494.2.2.2.2.2.2.2.2.1 bt494.2.2.2.2.2.2.2.2.2.1 bt494.2.2.2.2.2.2.2.2.2.2.1)) else (none)) else (zc.j1 k x1 bt494.1 true bt494.2.1 bt494.2.2.1 bt494.2.2.2.1 bt494.2.2.2.2.1 bt494.2.2.2.2.2.1 bt494.2.2.2.2.2.2.1 bt494.2.2.2.2.2.2.2.1 bt494.2.2.2.2.2.2.2.2.1 bt494.2.2.2.2.2.2.2.2.2.1 bt494.2.2.2.2.2.2.2.2.2.2.1)))) else (none))) else (zc.j1 k x1 bt494.1 true bt494.2.1 bt494.2.2.1 bt494.2.2.2.1 bt494.2.2.2.2.1 bt494.2.2.2.2.2.1 bt494.2.2.2.2.2.2.1 bt494.2.2.2.2.2.2.2.1 bt494.2.2.2.2.2.2.2.2.1 bt494.2.2.2.2.2.2.2.2.2.1 bt494.2.2.2.2.2.2.2.2.2.2.1))) else (zc.j1 k x1 bt494.1 true bt494.2.1 bt494.2.2.1 bt494.2.2.2.1 bt494.2.2.2.2.1 bt494.2.2.2.2.2.1 bt494.2.2.2.2.2.2.1 bt494.2.2.2.2.2.2.2.1 bt494.2.2.2.2.2.2.2.2.1 bt494.2.2.2.2.2.2.2.2.2.1 bt494.2.2.2.2.2.2.2.2.2.2.1))) else (zc.j1 k x1 bt494.1 true bt494.2.1 bt494.2.2.1 bt494.2.2.2.1 bt494.2.2.2.2.1 bt494.2.2.2.2.2.1 bt494.2.2.2.2.2.2.1 bt494.2.2.2.2.2.2.2.1 bt494.2.2.2.2.2.2.2.2.1 bt494.2.2.2.2.2.2.2.2.2.1 bt494.2.2.2.2.2.2.2.2.2.2.1)))
def zc.j1 : Nat → ByteArray → ByteArray → Bool → ByteArray → ByteArray → ByteArray → ByteArray → Bool → List (S54) → List (S58) → Bool → Bool → ByteArray → Option (Bool)
 | 0, _, _, _, _, _, _, _, _, _, _, _, _, _ => none
 | k + 1, x1, x5, x67, x511000, x511001, x511002, x511003, x511004, x511005, x511006, x511007, x511008, x511009 => if x67 = true then (some true) else (if x5.size + x1.size ≤ 9223372036854775807 then ((znc.f (x5 ++ x1)).bind fun bt522 => ((zg.f k (x5 ++ x1)).bind fun bt538 => (if bt522.2.2.2.2.2.2.2.2.2.2 = true then (if bt538.2.2.2.2.2.2.2.2.2.2 = true then ((zx.f k bt522.1 bt522.2.1 bt522.2.2.1 bt522.2.2.2.1 bt522.2.2.2.2.1 bt522.2.2.2.2.2.1 bt522.2.2.2.2.2.2.1 bt522.2.2.2.2.2.2.2.1 bt522.2.2.2.2.2.2.2.2.1 bt522.2.2.2.2.2.2.2.2.2.1 bt538.1 bt538.2.1 bt538.2.2.1 bt538.2.2.2.1 bt538.2.2.2.2.1 bt538.2.2.2.2.2.1 bt538.2.2.2.2.2.2.1 bt538.2.2.2.2.2.2.2.1 bt538.2.2.2.2.2.2.2.2.1 bt538.2.2.2.2.2.2.2.2.2.1).bind fun t554 => (if t554 = true then (if bt522.2.2.2.2.1 = true then (if bt522.2.2.1.toList = x511002.toList then (some ((bt522.2.2.2.2.2.1.length : Int) == (x511005.length : Int))) else (some false)) else (some false)) else (some false))) else (some false)) else (some false)))) else (none))
end
def zc.f (k : Nat) (l0_0 : List Int) (a0_1 : Int) (l0_2 : List Int) (l0_3 : List Int) (a0_4 : ByteArray) (a0_5 : Bool) (a0_6 : Int) (a1 : ByteArray) : Option (Bool) := (zhd.f l0_0 a0_1 l0_2 l0_3 a0_4 a0_5 a0_6).bind fun t493 => (if t493 = true then (zc.j0 k a1 (decide ((a1.size : Int) > 2147483647)) l0_0 a0_1 l0_2 l0_3 a0_4 a0_5 a0_6) else (zc.j0 k a1 true l0_0 a0_1 l0_2 l0_3 a0_4 a0_5 a0_6))
theorem zc.calls (k : Nat) (A0_0 : Option Addr) (c0_0 : Nat) (l0_0 : List Int) (a0_1 : Int) (A0_2 : Option Addr) (c0_2 : Nat) (l0_2 : List Int) (A0_3 : Option Addr) (c0_3 : Nat) (l0_3 : List Int) (a0_4 : ByteArray) (a0_5 : Bool) (a0_6 : Int) (a1 : ByteArray) (r : Bool) (w : World) (hr0_0 : Kd.C (Kd.int .u16) w A0_0 l0_0.length l0_0) (hc0_0 : l0_0.length ≤ c0_0) (hr0_2 : Kd.C (Kd.int .u8) w A0_2 l0_2.length l0_2) (hc0_2 : l0_2.length ≤ c0_2) (hr0_3 : Kd.C (Kd.int .u16) w A0_3 l0_3.length l0_3) (hc0_3 : l0_3.length ≤ c0_3) (h : zc.f k l0_0 a0_1 l0_2 l0_3 a0_4 a0_5 a0_6 a1 = some r) (hG : GL w) (hr : r = true) :
  Calls Tryd.prog 5 #[.agg #[.slice A0_0 l0_0.length c0_0, .int .u8 a0_1, .slice A0_2 l0_2.length c0_2, .slice A0_3 l0_3.length c0_3, .string a0_4, .bool a0_5, .int .u16 a0_6], .string a1] w fun e w' => e = .returned (.bool r) ∧ Below w.heap.size w w' := by
 have HT := za.mk hr
 clear hr
 have HG := za.mk hG
 clear hG
 have hu26 := Tryd.underlying26
 have hu33 := Tryd.underlying33
 have HR0_0 := za.mk hr0_0
 have HC0_0 := za.mk hc0_0
 clear hr0_0 hc0_0
 have HR0_2 := za.mk hr0_2
 have HC0_2 := za.mk hc0_2
 clear hr0_2 hc0_2
 have HR0_3 := za.mk hr0_3
 have HC0_3 := za.mk hc0_3
 clear hr0_3 hc0_3
 have HB := za.mk (Below.refl w.heap.size w)
 have H : ((zhd.f l0_0 a0_1 l0_2 l0_3 a0_4 a0_5 a0_6).bind fun t493 => (if t493 = true then (zc.j0 k a1 (decide ((a1.size : Int) > 2147483647)) l0_0 a0_1 l0_2 l0_3 a0_4 a0_5 a0_6) else (zc.j0 k a1 true l0_0 a0_1 l0_2 l0_3 a0_4 a0_5 a0_6))) = some r := h
 clear h
 have HC3 := za.mk H
 clear H
 go_enter Tryd.func5, Tryd.ntmps5
 go_upto_region 1 with (((with_reducible refine zjb (N := 2) rfl ?_); (try (refine zyb (by rfl) ?_; dsimp only)); refine zec ?hg (N := 2) ?hd (cs := #[.slice A0_0 l0_0.length c0_0, .int .u8 a0_1, .slice A0_2 l0_2.length c0_2, .slice A0_3 l0_3.length c0_3, .string a0_4, .bool a0_5, .int .u16 a0_6]) (t := 26) ?hr ?_; (case hd => rfl); (case hg => rfl); (case hr => first | (go_simp; done) | (go_simp; rfl)); intro gb492 hg w4 hbox hb; have BK492 := za.mk hbox; have GW492 := za.mk ((by rw [hg]; exact (zl (by (with_reducible exact HB.out))) : w.heap.size ≤ gb492)); have GE492 := za.mk ((by rw [hg]; exact (zl (by (with_reducible exact HB.out))) : w.heap.size ≤ gb492)); replace HB := za.mk (zm (by (with_reducible exact HB.out)) hb); clear hb hbox hg))
 (try simp only [Act.put, List.setIfInBounds_toArray, List.set_cons_zero, List.set_cons_succ])
 go_cut [19] (fun v19 wc => ∃ (kq : Nat) (x19_2 : Bool), v19 = .bool x19_2 ∧ za (zc.j0 kq a1 x19_2 l0_0 a0_1 l0_2 l0_3 a0_4 a0_5 a0_6 = some r) ∧ za (kq ≤ k) ∧ za (wc.heap[gb492]? = some (.cells #[(.slice A0_0 l0_0.length c0_0), .int .u8 a0_1, (.slice A0_2 l0_2.length c0_2), (.slice A0_3 l0_3.length c0_3), .string a0_4, .bool a0_5, .int .u16 a0_6] 26 (0, 0))) ∧ za (Below w.heap.size w wc))
 case first =>
  have H := HC3.out
  clear HC3
  replace H := Option.bind_eq_some_iff.mp H
  obtain ⟨t493, A50, H⟩ := H
  replace H : (if t493 = true then (zc.j0 k a1 (decide ((a1.size : Int) > 2147483647)) l0_0 a0_1 l0_2 l0_3 a0_4 a0_5 a0_6) else (zc.j0 k a1 true l0_0 a0_1 l0_2 l0_3 a0_4 a0_5 a0_6)) = some r := H
  have A5 := za.mk A50
  clear A50
  by_cases c6 : t493 = true
  ·subst c6
   have H1 : (zc.j0 k a1 (decide ((a1.size : Int) > 2147483647)) l0_0 a0_1 l0_2 l0_3 a0_4 a0_5 a0_6) = some r := by rw [if_pos rfl] at H; exact H
   clear H
   have H := H1
   clear H1
   have H' := za.mk H
   clear H
   obtain ⟨hcz7_0, hcz7_1, hcz7_2, hcz7_3, hcz7_4, hcz7_5, hcz7_6, hfz7_0, hfz7_1, hfz7_2, hfz7_3, hfz7_4, hfz7_5, hfz7_6⟩ := cl7 BK492.out
   go_wp2_with (((with_reducible refine zab (f := 9) rfl ?_); refine zjc (some 13) rfl rfl Tryd.func9 (by kernel_rfl) rfl #[.agg #[.slice A0_0 l0_0.length c0_0, .int .u8 a0_1, .slice A0_2 l0_2.length c0_2, .slice A0_3 l0_3.length c0_3, .string a0_4, .bool a0_5, .int .u16 a0_6]] rfl (by (try simp only [List.map_toArray, List.map_cons, List.map_nil]); first | done | rfl | (simp only [List.length_drop, List.length_take]; rfl)) ?_; (with_reducible refine (zhd.calls _ _ l0_0 a0_1 _ _ l0_2 _ _ l0_3 a0_4 a0_5 a0_6 true _ ?side1 ?side2 ?side3 ?side4 ?side5 ?side6 A5.out).mono ?_); (case side1 => repeat (first | exact (Kd.C_below HR0_0.out HB.out) | (with_reducible refine Kd.C_alloc ?_ _) | (with_reducible refine Kd.C_drewN ?_ _) | (with_reducible refine Kd.C_drew ?_))); (case side2 => exact HC0_0.out); (case side3 => repeat (first | exact (Kd.C_below HR0_2.out HB.out) | (with_reducible refine Kd.C_alloc ?_ _) | (with_reducible refine Kd.C_drewN ?_ _) | (with_reducible refine Kd.C_drew ?_))); (case side4 => exact HC0_2.out); (case side5 => repeat (first | exact (Kd.C_below HR0_3.out HB.out) | (with_reducible refine Kd.C_alloc ?_ _) | (with_reducible refine Kd.C_drewN ?_ _) | (with_reducible refine Kd.C_drew ?_))); (case side6 => exact HC0_3.out); rintro e w8 ⟨rfl, hb⟩; refine ⟨_, rfl, ?_⟩; replace BK492 := za.mk (zk BK492.out hb); replace HB := za.mk (zm (by (with_reducible exact HB.out)) hb); (try clear hb); (try clear hb2); (try clear hk); (try clear hi)))
   go_meet
   case rel => exact ⟨_, (decide ((a1.size : Int) > 2147483647)), (by rfl), H', ⟨by omega⟩, ⟨by exact BK492.out⟩, ⟨by (with_reducible exact HB.out)⟩⟩
  ·replace c6 := Bool.eq_false_iff.mpr c6
   subst c6
   have H1 : (zc.j0 k a1 true l0_0 a0_1 l0_2 l0_3 a0_4 a0_5 a0_6) = some r := by rw [if_neg (show ¬ (false = true) by decide)] at H; exact H
   clear H
   have H := H1
   clear H1
   have H' := za.mk H
   clear H
   obtain ⟨hcz9_0, hcz9_1, hcz9_2, hcz9_3, hcz9_4, hcz9_5, hcz9_6, hfz9_0, hfz9_1, hfz9_2, hfz9_3, hfz9_4, hfz9_5, hfz9_6⟩ := cl7 BK492.out
   go_wp2_with (((with_reducible refine zab (f := 9) rfl ?_); refine zjc (some 13) rfl rfl Tryd.func9 (by kernel_rfl) rfl #[.agg #[.slice A0_0 l0_0.length c0_0, .int .u8 a0_1, .slice A0_2 l0_2.length c0_2, .slice A0_3 l0_3.length c0_3, .string a0_4, .bool a0_5, .int .u16 a0_6]] rfl (by (try simp only [List.map_toArray, List.map_cons, List.map_nil]); first | done | rfl | (simp only [List.length_drop, List.length_take]; rfl)) ?_; (with_reducible refine (zhd.calls _ _ l0_0 a0_1 _ _ l0_2 _ _ l0_3 a0_4 a0_5 a0_6 false _ ?side1 ?side2 ?side3 ?side4 ?side5 ?side6 A5.out).mono ?_); (case side1 => repeat (first | exact (Kd.C_below HR0_0.out HB.out) | (with_reducible refine Kd.C_alloc ?_ _) | (with_reducible refine Kd.C_drewN ?_ _) | (with_reducible refine Kd.C_drew ?_))); (case side2 => exact HC0_0.out); (case side3 => repeat (first | exact (Kd.C_below HR0_2.out HB.out) | (with_reducible refine Kd.C_alloc ?_ _) | (with_reducible refine Kd.C_drewN ?_ _) | (with_reducible refine Kd.C_drew ?_))); (case side4 => exact HC0_2.out); (case side5 => repeat (first | exact (Kd.C_below HR0_3.out HB.out) | (with_reducible refine Kd.C_alloc ?_ _) | (with_reducible refine Kd.C_drewN ?_ _) | (with_reducible refine Kd.C_drew ?_))); (case side6 => exact HC0_3.out); rintro e w10 ⟨rfl, hb⟩; refine ⟨_, rfl, ?_⟩; replace BK492 := za.mk (zk BK492.out hb); replace HB := za.mk (zm (by (with_reducible exact HB.out)) hb); (try clear hb); (try clear hb2); (try clear hk); (try clear hi)))
   go_meet
   case rel => exact ⟨_, (true), (by rfl), H', ⟨by omega⟩, ⟨by exact BK492.out⟩, ⟨by (with_reducible exact HB.out)⟩⟩
 case rest =>
  clear HC3
  obtain ⟨kq, x19_2, rfl, HA, HJ2, BK492, HB⟩ := hcut
  cases kq with
  | zero => exact absurd HA.out (by simp [zc.j0])
  | succ kj2 =>
   have H := HA.out
   clear HA
   simp only [zc.j0] at H
   by_cases c11 : x19_2 = true
   ·subst c11
    have H1 : (some true) = some r := by rw [if_pos rfl] at H; exact H
    clear H
    have H := H1
    clear H1
    obtain rfl := Option.some.inj H
    go_wp2
    go_ret
    exact ⟨by rfl, by (with_reducible exact HB.out)⟩
   ·replace c11 := Bool.eq_false_iff.mpr c11
    subst c11
    have H1 : ((zb.f kj2 l0_0 a0_1 l0_2 l0_3 (⟨#[]⟩ : ByteArray) false a0_6).bind fun bt494 => (if bt494.2.2.2.2.2.2.2.2.2.2.2 = true then ((zbc.f kj2 (([a1] : List ByteArray))).bind fun t514 => (if t514 = true then ((zlb.f kj2 (([a1] : List ByteArray))).bind fun t518 => (if t518 = true then (if a1.toList = ([] : List UInt8) then (zc.j1 kj2 a1 bt494.1 true bt494.2.1 bt494.2.2.1 bt494.2.2.2.1 bt494.2.2.2.2.1 bt494.2.2.2.2.2.1 bt494.2.2.2.2.2.2.1 bt494.2.2.2.2.2.2.2.1 bt494.2.2.2.2.2.2.2.2.1 bt494.2.2.2.2.2.2.2.2.2.1 bt494.2.2.2.2.2.2.2.2.2.2.1) else (if 0 < (a1.size : Int) then (if (bt a1 0) = 33 then (if bt494.1.size + a1.size ≤ 9223372036854775807 then ((zd.f kj2 (bt494.1 ++ a1)).bind fun t519 => (zc.j1 kj2 a1 bt494.1 (!t519) bt494.2.1 bt494.2.2.1 bt494.2.2.2.1 bt494.2.2.2.2.1 bt494.2.2.2.2.2.1 bt494.2.2.2.2.2.2.1 bt494.2.2.2.2.2.2.2.1 bt494.2.2.2.2.2.2.2.2.1 bt494.2.2.2.2.2.2.2.2.2.1 bt494.2.2.2.2.2.2.2.2.2.2.1)) else (none)) else (if (bt a1 0) = 43 then (if bt494.1.size + a1.size ≤ 9223372036854775807 then ((zd.f kj2 (bt494.1 ++ a1)).bind fun t520 => (zc.j1 kj2 a1 bt494.1 (!t520) bt494.2.1 bt494.2.2.1 bt494.2.2.2.1 bt494.2.2.2.2.1 bt494.2.2.2.2.2.1 bt494.2.2.2.2.2.2.1 bt494.2.2.2.2.2.2.2.1 bt494.2.2.2.2.2.2.2.2.1 bt494.2.2.2.2.2.2.2.2.2.1 bt494.2.2.2.2.2.2.2.2.2.2.1)) else (none)) else (if (bt a1 0) = 61 then (if bt494.1.size + a1.size ≤ 9223372036854775807 then ((zd.f kj2 (bt494.1 ++ a1)).bind fun t521 => (zc.j1 kj2 a1 bt494.1 (!t521) bt494.2.1 bt494.2.2.1 bt494.2.2.2.1 bt494.2.2.2.2.1 bt494.2.2.2.2.2.1 bt494.2.2.2.2.2.2.1 bt494.2.2.2.2.2.2.2.1 bt494.2.2.2.2.2.2.2.2.1 bt494.2.2.2.2.2.2.2.2.2.1 bt494.2.2.2.2.2.2.2.2.2.2.1)) else (none)) else (zc.j1 kj2 a1 bt494.1 true bt494.2.1 bt494.2.2.1 bt494.2.2.2.1 bt494.2.2.2.2.1 bt494.2.2.2.2.2.1 bt494.2.2.2.2.2.2.1 bt494.2.2.2.2.2.2.2.1 bt494.2.2.2.2.2.2.2.2.1 bt494.2.2.2.2.2.2.2.2.2.1 bt494.2.2.2.2.2.2.2.2.2.2.1)))) else (none))) else (zc.j1 kj2 a1 bt494.1 true bt494.2.1 bt494.2.2.1 bt494.2.2.2.1 bt494.2.2.2.2.1 bt494.2.2.2.2.2.1 bt494.2.2.2.2.2.2.1 bt494.2.2.2.2.2.2.2.1 bt494.2.2.2.2.2.2.2.2.1 bt494.2.2.2.2.2.2.2.2.2.1 bt494.2.2.2.2.2.2.2.2.2.2.1))) else (zc.j1 kj2 a1 bt494.1 true bt494.2.1 bt494.2.2.1 bt494.2.2.2.1 bt494.2.2.2.2.1 bt494.2.2.2.2.2.1 bt494.2.2.2.2.2.2.1 bt494.2.2.2.2.2.2.2.1 bt494.2.2.2.2.2.2.2.2.1 bt494.2.2.2.2.2.2.2.2.2.1 bt494.2.2.2.2.2.2.2.2.2.2.1))) else (zc.j1 kj2 a1 bt494.1 true bt494.2.1 bt494.2.2.1 bt494.2.2.2.1 bt494.2.2.2.2.1 bt494.2.2.2.2.2.1 bt494.2.2.2.2.2.2.1 bt494.2.2.2.2.2.2.2.1 bt494.2.2.2.2.2.2.2.2.1 bt494.2.2.2.2.2.2.2.2.2.1 bt494.2.2.2.2.2.2.2.2.2.2.1))) = some r := by rw [if_neg (show ¬ (false = true) by decide)] at H; exact H
    clear H
    have H := H1
    clear H1
    replace H := Option.bind_eq_some_iff.mp H
    obtain ⟨⟨t494, t495, t496, t497, t498, t499, t500, t503, t506, t507, t508, t509⟩, A120, H⟩ := H
    replace H : (if t509 = true then ((zbc.f kj2 (([a1] : List ByteArray))).bind fun t514 => (if t514 = true then ((zlb.f kj2 (([a1] : List ByteArray))).bind fun t518 => (if t518 = true then (if a1.toList = ([] : List UInt8) then (zc.j1 kj2 a1 t494 true t495 t496 t497 t498 t499 t500 t503 t506 t507 t508) else (if 0 < (a1.size : Int) then (if (bt a1 0) = 33 then (if t494.size + a1.size ≤ 9223372036854775807 then ((zd.f kj2 (t494 ++ a1)).bind fun t519 => (zc.j1 kj2 a1 t494 (!t519) t495 t496 t497 t498 t499 t500 t503 t506 t507 t508)) else (none)) else (if (bt a1 0) = 43 then (if t494.size + a1.size ≤ 9223372036854775807 then ((zd.f kj2 (t494 ++ a1)).bind fun t520 => (zc.j1 kj2 a1 t494 (!t520) t495 t496 t497 t498 t499 t500 t503 t506 t507 t508)) else (none)) else (if (bt a1 0) = 61 then (if t494.size + a1.size ≤ 9223372036854775807 then ((zd.f kj2 (t494 ++ a1)).bind fun t521 => (zc.j1 kj2 a1 t494 (!t521) t495 t496 t497 t498 t499 t500 t503 t506 t507 t508)) else (none)) else (zc.j1 kj2 a1 t494 true t495 t496 t497 t498 t499 t500 t503 t506 t507 t508)))) else (none))) else (zc.j1 kj2 a1 t494 true t495 t496 t497 t498 t499 t500 t503 t506 t507 t508))) else (zc.j1 kj2 a1 t494 true t495 t496 t497 t498 t499 t500 t503 t506 t507 t508))) else (zc.j1 kj2 a1 t494 true t495 t496 t497 t498 t499 t500 t503 t506 t507 t508)) = some r := H
    have A12 := za.mk A120
    clear A120
    have HC13 := za.mk H
    clear H
    obtain ⟨hcz14_0, hcz14_1, hcz14_2, hcz14_3, hcz14_4, hcz14_5, hcz14_6, hfz14_0, hfz14_1, hfz14_2, hfz14_3, hfz14_4, hfz14_5, hfz14_6⟩ := cl7 BK492.out
    go_upto_region 5 with (first | ((with_reducible refine zab (f := 10) rfl ?_); refine zjc (some 24) rfl rfl Tryd.func10 (by kernel_rfl) rfl #[.agg #[.slice A0_0 l0_0.length c0_0, .int .u8 a0_1, .slice A0_2 l0_2.length c0_2, .slice A0_3 l0_3.length c0_3, .string ⟨#[]⟩, .bool false, .int .u16 a0_6]] rfl (by (try simp only [List.map_toArray, List.map_cons, List.map_nil]); first | done | rfl | (simp only [List.length_drop, List.length_take]; rfl)) ?_; (with_reducible refine (zb.calls kj2 _ _ l0_0 a0_1 _ _ l0_2 _ _ l0_3 (⟨#[]⟩ : ByteArray) false a0_6 t494 t495 t496 t497 t498 t499 t500 t503 t506 t507 t508 t509 _ ?side1 ?side2 ?side3 ?side4 ?side5 ?side6 A12.out).mono ?_); (case side1 => exact Kd.C_below HR0_0.out (by (with_reducible refine zi ?_ GE492.out; with_reducible refine zi ?_ GE492.out; with_reducible exact HB.out))); (case side2 => exact HC0_0.out); (case side3 => exact Kd.C_below HR0_2.out (by (with_reducible refine zi ?_ GE492.out; with_reducible refine zi ?_ GE492.out; with_reducible exact HB.out))); (case side4 => exact HC0_2.out); (case side5 => exact Kd.C_below HR0_3.out (by (with_reducible refine zi ?_ GE492.out; with_reducible refine zi ?_ GE492.out; with_reducible exact HB.out))); (case side6 => exact HC0_3.out); rintro e w15 ⟨v501, v504, rfl, ho0, ho1, hb⟩; refine ⟨_, rfl, ?_⟩; have HO502 := za.mk (Kd.R_lower ho0 (zl (by (with_reducible refine zi ?_ GE492.out; with_reducible refine zi ?_ GE492.out; with_reducible exact HB.out)))); have HO505 := za.mk (Kd.R_lower ho1 (zl (by (with_reducible refine zi ?_ GE492.out; with_reducible refine zi ?_ GE492.out; with_reducible exact HB.out)))); replace BK492 := za.mk (zk (g := gb492) (o := .cells #[.slice A0_0 l0_0.length c0_0, .int .u8 a0_1, .slice A0_2 l0_2.length c0_2, .slice A0_3 l0_3.length c0_3, .string ⟨#[]⟩, .bool false, .int .u16 a0_6] 26 (0, 0)) (by refine zv (cs := #[.slice A0_0 l0_0.length c0_0, .int .u8 a0_1, .slice A0_2 l0_2.length c0_2, .slice A0_3 l0_3.length c0_3, .string a0_4, .bool false, .int .u16 a0_6]) ?_ 4 _ rfl; refine zv (cs := #[.slice A0_0 l0_0.length c0_0, .int .u8 a0_1, .slice A0_2 l0_2.length c0_2, .slice A0_3 l0_3.length c0_3, .string a0_4, .bool a0_5, .int .u16 a0_6]) ?_ 5 _ rfl; exact BK492.out) hb); replace HB := za.mk (zm (by (with_reducible refine zi ?_ GE492.out; with_reducible refine zi ?_ GE492.out; with_reducible exact HB.out)) hb); (try clear hb); (try clear hb2); (try clear hk); (try clear hi); (try clear ho0); (try clear ho1)) | ((with_reducible refine zjb (N := 6) rfl ?_); (try (refine zyb (by rfl) ?_; dsimp only)); refine zec ?hg (N := 6) ?hd (cs := #[.string ⟨#[]⟩, .string ⟨#[]⟩, .string ⟨#[]⟩, .string ⟨#[]⟩, .bool false, .slice none 0 0, .slice none 0 0, .bool false, .bool false, .string ⟨#[]⟩]) (t := 33) ?hr ?_; (case hd => rfl); (case hg => rfl); (case hr => first | (go_simp; done) | (go_simp; rfl)); intro gb510 hg w16 hbox hb; have n0_ := za.mk (Kd.R_below (by (with_reducible repeat (first | apply Kd.R_alloc | apply Kd.R_drewN | apply Kd.R_drew)); exact HO502.out) hb); have n1_ := za.mk (Kd.R_below (by (with_reducible repeat (first | apply Kd.R_alloc | apply Kd.R_drewN | apply Kd.R_drew)); exact HO505.out) hb); have n2_ := za.mk (zk BK492.out hb); have n3_ := za.mk (zm (by (with_reducible exact HB.out)) hb); have n4_ := za.mk hbox; have n5_ := za.mk ((by rw [hg]; exact (zl (by (with_reducible exact HB.out))) : w.heap.size ≤ gb510)); have n6_ := za.mk ((by rw [hg]; exact (zl (by (with_reducible exact HB.out))) : w.heap.size ≤ gb510)); have n7_ := za.mk ((by rw [hg]; exact Nat.ne_of_lt (zac BK492.out) : gb492 ≠ gb510)); have n8_ := za.mk ((by rw [hg]; exact Nat.ne_of_gt (zac BK492.out) : gb510 ≠ gb492)); clear HO502; clear HO505; clear BK492; clear HB; have HO502 := n0_; have HO505 := n1_; have BK492 := n2_; have HB := n3_; have BK510 := n4_; have GW510 := n5_; have GE510 := n6_; have NB492_510 := n7_; have NB510_492 := n8_; clear n0_ n1_ n2_ n3_ n4_ n5_ n6_ n7_ n8_; clear hb hbox hg; have hnb17 := NB510_492.out; have hnc17 := NB492_510.out; obtain ⟨hcz18_0, hcz18_1, hcz18_2, hcz18_3, hcz18_4, hcz18_5, hcz18_6, hcz18_7, hcz18_8, hcz18_9, hfz18_0, hfz18_1, hfz18_2, hfz18_3, hfz18_4, hfz18_5, hfz18_6, hfz18_7, hfz18_8, hfz18_9⟩ := cl10 BK510.out; obtain ⟨Ao19, co19, eo19⟩ := Kd.R_slice HO502.out; subst eo19; obtain ⟨Ao20, co20, eo20⟩ := Kd.R_slice HO505.out; subst eo20))
    (try simp only [Act.put, List.setIfInBounds_toArray, List.set_cons_zero, List.set_cons_succ])
    go_cut [67] (fun v67 wc => ∃ (kq : Nat) (x67_12 : Bool), v67 = .bool x67_12 ∧ za (zc.j1 kq a1 t494 x67_12 t495 t496 t497 t498 t499 t500 t503 t506 t507 t508 = some r) ∧ za (kq ≤ kj2) ∧ za (Kd.R k54 54 wc w.heap.size (fun _ => True) (.slice Ao19 t500.length co19) t500) ∧ za (Kd.R k58 58 wc w.heap.size (fun _ => True) (.slice Ao20 t503.length co20) t503) ∧ za (wc.heap[gb492]? = some (.cells #[(.slice A0_0 l0_0.length c0_0), .int .u8 a0_1, (.slice A0_2 l0_2.length c0_2), (.slice A0_3 l0_3.length c0_3), .string ⟨#[]⟩, .bool false, .int .u16 a0_6] 26 (0, 0))) ∧ za (wc.heap[gb510]? = some (.cells #[.string t495, .string t496, .string t497, .string t498, .bool t499, (.slice Ao19 t500.length co19), (.slice Ao20 t503.length co20), .bool t506, .bool t507, .string t508] 33 (0, 0))) ∧ za (Below w.heap.size w wc))
    case first =>
     have H := HC13.out
     clear HC13
     by_cases c21 : t509 = true
     ·subst c21
      have H1 : ((zbc.f kj2 (([a1] : List ByteArray))).bind fun t514 => (if t514 = true then ((zlb.f kj2 (([a1] : List ByteArray))).bind fun t518 => (if t518 = true then (if a1.toList = ([] : List UInt8) then (zc.j1 kj2 a1 t494 true t495 t496 t497 t498 t499 t500 t503 t506 t507 t508) else (if 0 < (a1.size : Int) then (if (bt a1 0) = 33 then (if t494.size + a1.size ≤ 9223372036854775807 then ((zd.f kj2 (t494 ++ a1)).bind fun t519 => (zc.j1 kj2 a1 t494 (!t519) t495 t496 t497 t498 t499 t500 t503 t506 t507 t508)) else (none)) else (if (bt a1 0) = 43 then (if t494.size + a1.size ≤ 9223372036854775807 then ((zd.f kj2 (t494 ++ a1)).bind fun t520 => (zc.j1 kj2 a1 t494 (!t520) t495 t496 t497 t498 t499 t500 t503 t506 t507 t508)) else (none)) else (if (bt a1 0) = 61 then (if t494.size + a1.size ≤ 9223372036854775807 then ((zd.f kj2 (t494 ++ a1)).bind fun t521 => (zc.j1 kj2 a1 t494 (!t521) t495 t496 t497 t498 t499 t500 t503 t506 t507 t508)) else (none)) else (zc.j1 kj2 a1 t494 true t495 t496 t497 t498 t499 t500 t503 t506 t507 t508)))) else (none))) else (zc.j1 kj2 a1 t494 true t495 t496 t497 t498 t499 t500 t503 t506 t507 t508))) else (zc.j1 kj2 a1 t494 true t495 t496 t497 t498 t499 t500 t503 t506 t507 t508))) = some r := by rw [if_pos rfl] at H; exact H
      clear H
      have H := H1
      clear H1
      obtain ⟨y511, hy511⟩ : ∃ y_ : List ByteArray, y_ = (([a1] : List ByteArray)) := ⟨_, rfl⟩
      replace H : ((zbc.f kj2 y511).bind fun t514 => (if t514 = true then ((zlb.f kj2 (([a1] : List ByteArray))).bind fun t518 => (if t518 = true then (if a1.toList = ([] : List UInt8) then (zc.j1 kj2 a1 t494 true t495 t496 t497 t498 t499 t500 t503 t506 t507 t508) else (if 0 < (a1.size : Int) then (if (bt a1 0) = 33 then (if t494.size + a1.size ≤ 9223372036854775807 then ((zd.f kj2 (t494 ++ a1)).bind fun t519 => (zc.j1 kj2 a1 t494 (!t519) t495 t496 t497 t498 t499 t500 t503 t506 t507 t508)) else (none)) else (if (bt a1 0) = 43 then (if t494.size + a1.size ≤ 9223372036854775807 then ((zd.f kj2 (t494 ++ a1)).bind fun t520 => (zc.j1 kj2 a1 t494 (!t520) t495 t496 t497 t498 t499 t500 t503 t506 t507 t508)) else (none)) else (if (bt a1 0) = 61 then (if t494.size + a1.size ≤ 9223372036854775807 then ((zd.f kj2 (t494 ++ a1)).bind fun t521 => (zc.j1 kj2 a1 t494 (!t521) t495 t496 t497 t498 t499 t500 t503 t506 t507 t508)) else (none)) else (zc.j1 kj2 a1 t494 true t495 t496 t497 t498 t499 t500 t503 t506 t507 t508)))) else (none))) else (zc.j1 kj2 a1 t494 true t495 t496 t497 t498 t499 t500 t503 t506 t507 t508))) else (zc.j1 kj2 a1 t494 true t495 t496 t497 t498 t499 t500 t503 t506 t507 t508))) = some r := by (rw [hy511]; with_reducible exact H)
      have Ny511 := za.mk hy511
      clear hy511
      replace H := Option.bind_eq_some_iff.mp H
      obtain ⟨t514, A220, H⟩ := H
      replace H : (if t514 = true then ((zlb.f kj2 (([a1] : List ByteArray))).bind fun t518 => (if t518 = true then (if a1.toList = ([] : List UInt8) then (zc.j1 kj2 a1 t494 true t495 t496 t497 t498 t499 t500 t503 t506 t507 t508) else (if 0 < (a1.size : Int) then (if (bt a1 0) = 33 then (if t494.size + a1.size ≤ 9223372036854775807 then ((zd.f kj2 (t494 ++ a1)).bind fun t519 => (zc.j1 kj2 a1 t494 (!t519) t495 t496 t497 t498 t499 t500 t503 t506 t507 t508)) else (none)) else (if (bt a1 0) = 43 then (if t494.size + a1.size ≤ 9223372036854775807 then ((zd.f kj2 (t494 ++ a1)).bind fun t520 => (zc.j1 kj2 a1 t494 (!t520) t495 t496 t497 t498 t499 t500 t503 t506 t507 t508)) else (none)) else (if (bt a1 0) = 61 then (if t494.size + a1.size ≤ 9223372036854775807 then ((zd.f kj2 (t494 ++ a1)).bind fun t521 => (zc.j1 kj2 a1 t494 (!t521) t495 t496 t497 t498 t499 t500 t503 t506 t507 t508)) else (none)) else (zc.j1 kj2 a1 t494 true t495 t496 t497 t498 t499 t500 t503 t506 t507 t508)))) else (none))) else (zc.j1 kj2 a1 t494 true t495 t496 t497 t498 t499 t500 t503 t506 t507 t508))) else (zc.j1 kj2 a1 t494 true t495 t496 t497 t498 t499 t500 t503 t506 t507 t508)) = some r := H
      have A22 := za.mk A220
      clear A220
      by_cases c23 : t514 = true
      ·subst c23
       have H1 : ((zlb.f kj2 (([a1] : List ByteArray))).bind fun t518 => (if t518 = true then (if a1.toList = ([] : List UInt8) then (zc.j1 kj2 a1 t494 true t495 t496 t497 t498 t499 t500 t503 t506 t507 t508) else (if 0 < (a1.size : Int) then (if (bt a1 0) = 33 then (if t494.size + a1.size ≤ 9223372036854775807 then ((zd.f kj2 (t494 ++ a1)).bind fun t519 => (zc.j1 kj2 a1 t494 (!t519) t495 t496 t497 t498 t499 t500 t503 t506 t507 t508)) else (none)) else (if (bt a1 0) = 43 then (if t494.size + a1.size ≤ 9223372036854775807 then ((zd.f kj2 (t494 ++ a1)).bind fun t520 => (zc.j1 kj2 a1 t494 (!t520) t495 t496 t497 t498 t499 t500 t503 t506 t507 t508)) else (none)) else (if (bt a1 0) = 61 then (if t494.size + a1.size ≤ 9223372036854775807 then ((zd.f kj2 (t494 ++ a1)).bind fun t521 => (zc.j1 kj2 a1 t494 (!t521) t495 t496 t497 t498 t499 t500 t503 t506 t507 t508)) else (none)) else (zc.j1 kj2 a1 t494 true t495 t496 t497 t498 t499 t500 t503 t506 t507 t508)))) else (none))) else (zc.j1 kj2 a1 t494 true t495 t496 t497 t498 t499 t500 t503 t506 t507 t508))) = some r := by rw [if_pos rfl] at H; exact H
       clear H
       have H := H1
       clear H1
       obtain ⟨y515, hy515⟩ : ∃ y_ : List ByteArray, y_ = (([a1] : List ByteArray)) := ⟨_, rfl⟩
       replace H : ((zlb.f kj2 y515).bind fun t518 => (if t518 = true then (if a1.toList = ([] : List UInt8) then (zc.j1 kj2 a1 t494 true t495 t496 t497 t498 t499 t500 t503 t506 t507 t508) else (if 0 < (a1.size : Int) then (if (bt a1 0) = 33 then (if t494.size + a1.size ≤ 9223372036854775807 then ((zd.f kj2 (t494 ++ a1)).bind fun t519 => (zc.j1 kj2 a1 t494 (!t519) t495 t496 t497 t498 t499 t500 t503 t506 t507 t508)) else (none)) else (if (bt a1 0) = 43 then (if t494.size + a1.size ≤ 9223372036854775807 then ((zd.f kj2 (t494 ++ a1)).bind fun t520 => (zc.j1 kj2 a1 t494 (!t520) t495 t496 t497 t498 t499 t500 t503 t506 t507 t508)) else (none)) else (if (bt a1 0) = 61 then (if t494.size + a1.size ≤ 9223372036854775807 then ((zd.f kj2 (t494 ++ a1)).bind fun t521 => (zc.j1 kj2 a1 t494 (!t521) t495 t496 t497 t498 t499 t500 t503 t506 t507 t508)) else (none)) else (zc.j1 kj2 a1 t494 true t495 t496 t497 t498 t499 t500 t503 t506 t507 t508)))) else (none))) else (zc.j1 kj2 a1 t494 true t495 t496 t497 t498 t499 t500 t503 t506 t507 t508))) = some r := by (rw [hy515]; with_reducible exact H)
       have Ny515 := za.mk hy515
       clear hy515
       replace H := Option.bind_eq_some_iff.mp H
       obtain ⟨t518, A240, H⟩ := H
       replace H : (if t518 = true then (if a1.toList = ([] : List UInt8) then (zc.j1 kj2 a1 t494 true t495 t496 t497 t498 t499 t500 t503 t506 t507 t508) else (if 0 < (a1.size : Int) then (if (bt a1 0) = 33 then (if t494.size + a1.size ≤ 9223372036854775807 then ((zd.f kj2 (t494 ++ a1)).bind fun t519 => (zc.j1 kj2 a1 t494 (!t519) t495 t496 t497 t498 t499 t500 t503 t506 t507 t508)) else (none)) else (if (bt a1 0) = 43 then (if t494.size + a1.size ≤ 9223372036854775807 then ((zd.f kj2 (t494 ++ a1)).bind fun t520 => (zc.j1 kj2 a1 t494 (!t520) t495 t496 t497 t498 t499 t500 t503 t506 t507 t508)) else (none)) else (if (bt a1 0) = 61 then (if t494.size + a1.size ≤ 9223372036854775807 then ((zd.f kj2 (t494 ++ a1)).bind fun t521 => (zc.j1 kj2 a1 t494 (!t521) t495 t496 t497 t498 t499 t500 t503 t506 t507 t508)) else (none)) else (zc.j1 kj2 a1 t494 true t495 t496 t497 t498 t499 t500 t503 t506 t507 t508)))) else (none))) else (zc.j1 kj2 a1 t494 true t495 t496 t497 t498 t499 t500 t503 t506 t507 t508)) = some r := H
       have A24 := za.mk A240
       clear A240
       by_cases c25 : t518 = true
       ·subst c25
        have H1 : (if a1.toList = ([] : List UInt8) then (zc.j1 kj2 a1 t494 true t495 t496 t497 t498 t499 t500 t503 t506 t507 t508) else (if 0 < (a1.size : Int) then (if (bt a1 0) = 33 then (if t494.size + a1.size ≤ 9223372036854775807 then ((zd.f kj2 (t494 ++ a1)).bind fun t519 => (zc.j1 kj2 a1 t494 (!t519) t495 t496 t497 t498 t499 t500 t503 t506 t507 t508)) else (none)) else (if (bt a1 0) = 43 then (if t494.size + a1.size ≤ 9223372036854775807 then ((zd.f kj2 (t494 ++ a1)).bind fun t520 => (zc.j1 kj2 a1 t494 (!t520) t495 t496 t497 t498 t499 t500 t503 t506 t507 t508)) else (none)) else (if (bt a1 0) = 61 then (if t494.size + a1.size ≤ 9223372036854775807 then ((zd.f kj2 (t494 ++ a1)).bind fun t521 => (zc.j1 kj2 a1 t494 (!t521) t495 t496 t497 t498 t499 t500 t503 t506 t507 t508)) else (none)) else (zc.j1 kj2 a1 t494 true t495 t496 t497 t498 t499 t500 t503 t506 t507 t508)))) else (none))) = some r := by rw [if_pos rfl] at H; exact H
        clear H
        have H := H1
        clear H1
        by_cases c26 : a1.toList = ([] : List UInt8)
        ·rw [if_pos c26] at H
         have c26b0 : (a1.toList == ([] : List UInt8)) = true := beq_iff_eq.mpr c26
         have c26b1 : (a1.toList != ([] : List UInt8)) = false := bne_eq_false_iff_eq.mpr c26
         try have c26b9 : a1.toList.isEmpty = true := by simpa using c26b0
         clear c26
         (first | rw [c26b0] | (simp only [i64_w, i32_w]; rw [c26b0]) | rw [c26b9] | skip)
         have H' := za.mk H
         clear H
         go_wp2_with (first | ((with_reducible refine zjb (N := 32) rfl ?_); (try (refine zyb (by rfl) ?_; dsimp only)); refine Kd.R_lit Kd.string _ 9 ?hg (N := 32) ?hd (xs := ([a1] : List ByteArray)) (inner := [.string a1]) (ok := fun _ => True) (okp := fun _ => True) ?hr ?hp (fun _ hk => hk) trivial (Below.refl _ _) (Nat.le_refl _) (by simp) ?_; (case hd => rfl); (case hg => rfl); (case hr => first | (go_simp; done) | (go_simp; rfl)); (case hp => exact (Reps.one (show Kd.M Kd.string _ _ _ a1 [.string a1] from rfl) (Reps.none _ _))); intro v512 w27 ho28 hb hg_ hnew_; clear hg_ hnew_; (first | rw [← Ny511.out] at ho28 | (simp only [Int.reduceToNat] at ho28; rw [← Ny511.out] at ho28)); replace HO502 := za.mk (Kd.R_below (by (with_reducible repeat (first | apply Kd.R_alloc | apply Kd.R_drewN | apply Kd.R_drew)); exact (Kd.R_mono (zgc (Kd.R_types HO502.out BK510.out (by decide))) (fun _ h_ => h_.1))) hb); replace HO505 := za.mk (Kd.R_below (by (with_reducible repeat (first | apply Kd.R_alloc | apply Kd.R_drewN | apply Kd.R_drew)); exact (Kd.R_mono (zgc (Kd.R_types HO505.out BK510.out (by decide))) (fun _ h_ => h_.1))) hb); have HO513 := za.mk (Kd.R_lower ho28 (zl (by repeat (first | (with_reducible first | exact HB.out | apply zo | apply ze | apply zy | refine zi ?_ GE492.out | refine zi ?_ GE510.out) | exact HB.out)))); replace BK492 := za.mk (zk (g := gb492) (o := .cells #[.slice A0_0 l0_0.length c0_0, .int .u8 a0_1, .slice A0_2 l0_2.length c0_2, .slice A0_3 l0_3.length c0_3, .string ⟨#[]⟩, .bool false, .int .u16 a0_6] 26 (0, 0)) (by (iterate 10 refine zmb ?_ NB492_510.out _); exact BK492.out) hb); replace BK510 := za.mk (zk (g := gb510) (o := .cells #[.string t495, .string t496, .string t497, .string t498, .bool t499, .slice Ao19 t500.length co19, .slice Ao20 t503.length co20, .bool t506, .bool t507, .string t508] 33 (0, 0)) (by exact put10 BK510.out) hb); replace HB := za.mk (zm (by repeat (first | (with_reducible first | exact HB.out | apply zo | apply ze | apply zy | refine zi ?_ GE492.out | refine zi ?_ GE510.out) | exact HB.out)) hb); clear hb ho28; obtain ⟨Ao29, co29, eo29⟩ := Kd.R_slice HO513.out; subst eo29) | (go_at_call 15; (with_reducible refine (zbc.calls kj2 _ _ y511 true _ ?side1 ?side2 A22.out).mono ?_); (case side1 => repeat (first | exact (Kd.R_reads' HO513.out).2.2 | (with_reducible refine Kd.C_alloc ?_ _) | (with_reducible refine Kd.C_drewN ?_ _) | (with_reducible refine Kd.C_drew ?_))); (case side2 => exact (Kd.R_reads' HO513.out).2.1); rintro e w' ⟨rfl, ⟨nd, rfl⟩⟩) | ((with_reducible refine zjb (N := 38) rfl ?_); (try (refine zyb (by rfl) ?_; dsimp only)); refine Kd.R_lit Kd.string _ 9 ?hg (N := 38) ?hd (xs := ([a1] : List ByteArray)) (inner := [.string a1]) (ok := fun _ => True) (okp := fun _ => True) ?hr ?hp (fun _ hk => hk) trivial (Below.refl _ _) (Nat.le_refl _) (by simp) ?_; (case hd => rfl); (case hg => rfl); (case hr => first | (go_simp; done) | (go_simp; rfl)); (case hp => exact (Reps.one (show Kd.M Kd.string _ _ _ a1 [.string a1] from rfl) (Reps.none _ _))); intro v516 w30 ho31 hb hg_ hnew_; clear hg_ hnew_; (first | rw [← Ny515.out] at ho31 | (simp only [Int.reduceToNat] at ho31; rw [← Ny515.out] at ho31)); have n0_ := za.mk (Kd.R_below (by (with_reducible repeat (first | apply Kd.R_alloc | apply Kd.R_drewN | apply Kd.R_drew)); exact HO502.out) hb); have n1_ := za.mk (Kd.R_below (by (with_reducible repeat (first | apply Kd.R_alloc | apply Kd.R_drewN | apply Kd.R_drew)); exact HO505.out) hb); have n2_ := za.mk (Kd.R_elder' (by (with_reducible repeat (first | apply Kd.R_alloc | apply Kd.R_drewN | apply Kd.R_drew)); exact HO513.out) (Kd.R_base ho31) hb); have n3_ := za.mk (Kd.R_lower (Kd.R_new' ho31 (Kd.R_lt (by (with_reducible repeat (first | apply Kd.R_alloc | apply Kd.R_drewN | apply Kd.R_drew)); exact HO513.out))) (zl (by (with_reducible apply ze; with_reducible exact HB.out)))); have n4_ := za.mk (zk (zz BK492.out _) hb); have n5_ := za.mk (zk (zz BK510.out _) hb); have n6_ := za.mk (zm (by (with_reducible apply ze; with_reducible exact HB.out)) hb); clear HO502; clear HO505; clear HO513; clear BK492; clear BK510; clear HB; have HO502 := n0_; have HO505 := n1_; have HO513 := n2_; have HO517 := n3_; have BK492 := n4_; have BK510 := n5_; have HB := n6_; clear n0_ n1_ n2_ n3_ n4_ n5_ n6_; clear hb ho31; obtain ⟨Ao32, co32, eo32⟩ := Kd.R_slice HO517.out; subst eo32) | (go_at_call 16; (with_reducible refine (zlb.calls kj2 _ _ y515 true _ ?side1 ?side2 A24.out).mono ?_); (case side1 => repeat (first | exact (Kd.R_reads' HO517.out).2.2 | (with_reducible refine Kd.C_alloc ?_ _) | (with_reducible refine Kd.C_drewN ?_ _) | (with_reducible refine Kd.C_drew ?_))); (case side2 => exact (Kd.R_reads' HO517.out).2.1); rintro e w' ⟨rfl, ⟨nd, rfl⟩⟩))
         go_meet
         case rel => exact ⟨_, (true), (by rfl), H', ⟨by have := HJ2.out; first | omega | exact Nat.le_refl _⟩, ⟨by (with_reducible repeat (first | apply Kd.R_alloc | apply Kd.R_drewN | apply Kd.R_drew)); exact HO502.out⟩, ⟨by (with_reducible repeat (first | apply Kd.R_alloc | apply Kd.R_drewN | apply Kd.R_drew)); exact HO505.out⟩, ⟨by (with_reducible (refine zz ?_ _)); exact BK492.out⟩, ⟨by (with_reducible (refine zz ?_ _)); exact BK510.out⟩, ⟨by (with_reducible apply ze; with_reducible exact HB.out)⟩⟩
        ·rw [if_neg c26] at H
         have c26b0 : (a1.toList == ([] : List UInt8)) = false := beq_eq_false_iff_ne.mpr c26
         have c26b1 : (a1.toList != ([] : List UInt8)) = true := bne_iff_ne.mpr c26
         try have c26b9 : a1.toList.isEmpty = false := by simpa using c26b0
         (first | rw [c26b0] | (simp only [i64_w, i32_w]; rw [c26b0]) | rw [c26b9] | skip)
         by_cases c33 : 0 < (a1.size : Int)
         ·rw [if_pos c33] at H
          have c33b0 : decide (0 < (a1.size : Int)) = true := decide_eq_true c33
          have c33b1 : decide (0 < a1.size) = true := decide_eq_true (by omega)
          clear c33
          by_cases c35 : (bt a1 0) = 33
          ·rw [if_pos c35] at H
           have c35b0 : ((bt a1 0) == 33) = true := beq_iff_eq.mpr c35
           have c35b1 : ((bt a1 0) != 33) = false := bne_eq_false_iff_eq.mpr c35
           clear c35
           by_cases c36 : t494.size + a1.size ≤ 9223372036854775807
           ·rw [if_pos c36] at H
            have c36b0 := eq_true c36
            have c36b1 : decide (t494.size + a1.size ≤ 9223372036854775807) = true := decide_eq_true c36
            try have c36b2 : (9223372036854775807 < t494.size + a1.size) = False := eq_false (Nat.not_lt.2 c36)
            replace H := Option.bind_eq_some_iff.mp H
            obtain ⟨t519, A370, H⟩ := H
            replace H : (zc.j1 kj2 a1 t494 (!t519) t495 t496 t497 t498 t499 t500 t503 t506 t507 t508) = some r := H
            have A37 := za.mk A370
            clear A370
            have H' := za.mk H
            clear H
            go_wp2_with (first | ((with_reducible refine zjb (N := 32) rfl ?_); (try (refine zyb (by rfl) ?_; dsimp only)); refine Kd.R_lit Kd.string _ 9 ?hg (N := 32) ?hd (xs := ([a1] : List ByteArray)) (inner := [.string a1]) (ok := fun _ => True) (okp := fun _ => True) ?hr ?hp (fun _ hk => hk) trivial (Below.refl _ _) (Nat.le_refl _) (by simp) ?_; (case hd => rfl); (case hg => rfl); (case hr => first | (go_simp; done) | (go_simp; rfl)); (case hp => exact (Reps.one (show Kd.M Kd.string _ _ _ a1 [.string a1] from rfl) (Reps.none _ _))); intro v512 w38 ho39 hb hg_ hnew_; clear hg_ hnew_; (first | rw [← Ny511.out] at ho39 | (simp only [Int.reduceToNat] at ho39; rw [← Ny511.out] at ho39)); replace HO502 := za.mk (Kd.R_below (by (with_reducible repeat (first | apply Kd.R_alloc | apply Kd.R_drewN | apply Kd.R_drew)); exact (Kd.R_mono (zgc (Kd.R_types HO502.out BK510.out (by decide))) (fun _ h_ => h_.1))) hb); replace HO505 := za.mk (Kd.R_below (by (with_reducible repeat (first | apply Kd.R_alloc | apply Kd.R_drewN | apply Kd.R_drew)); exact (Kd.R_mono (zgc (Kd.R_types HO505.out BK510.out (by decide))) (fun _ h_ => h_.1))) hb); have HO513 := za.mk (Kd.R_lower ho39 (zl (by repeat (first | (with_reducible first | exact HB.out | apply zo | apply ze | apply zy | refine zi ?_ GE492.out | refine zi ?_ GE510.out) | exact HB.out)))); replace BK492 := za.mk (zk (g := gb492) (o := .cells #[.slice A0_0 l0_0.length c0_0, .int .u8 a0_1, .slice A0_2 l0_2.length c0_2, .slice A0_3 l0_3.length c0_3, .string ⟨#[]⟩, .bool false, .int .u16 a0_6] 26 (0, 0)) (by (iterate 10 refine zmb ?_ NB492_510.out _); exact BK492.out) hb); replace BK510 := za.mk (zk (g := gb510) (o := .cells #[.string t495, .string t496, .string t497, .string t498, .bool t499, .slice Ao19 t500.length co19, .slice Ao20 t503.length co20, .bool t506, .bool t507, .string t508] 33 (0, 0)) (by exact put10 BK510.out) hb); replace HB := za.mk (zm (by repeat (first | (with_reducible first | exact HB.out | apply zo | apply ze | apply zy | refine zi ?_ GE492.out | refine zi ?_ GE510.out) | exact HB.out)) hb); clear hb ho39; obtain ⟨Ao40, co40, eo40⟩ := Kd.R_slice HO513.out; subst eo40) | (go_at_call 15; (with_reducible refine (zbc.calls kj2 _ _ y511 true _ ?side1 ?side2 A22.out).mono ?_); (case side1 => repeat (first | exact (Kd.R_reads' HO513.out).2.2 | (with_reducible refine Kd.C_alloc ?_ _) | (with_reducible refine Kd.C_drewN ?_ _) | (with_reducible refine Kd.C_drew ?_))); (case side2 => exact (Kd.R_reads' HO513.out).2.1); rintro e w' ⟨rfl, ⟨nd, rfl⟩⟩) | ((with_reducible refine zjb (N := 38) rfl ?_); (try (refine zyb (by rfl) ?_; dsimp only)); refine Kd.R_lit Kd.string _ 9 ?hg (N := 38) ?hd (xs := ([a1] : List ByteArray)) (inner := [.string a1]) (ok := fun _ => True) (okp := fun _ => True) ?hr ?hp (fun _ hk => hk) trivial (Below.refl _ _) (Nat.le_refl _) (by simp) ?_; (case hd => rfl); (case hg => rfl); (case hr => first | (go_simp; done) | (go_simp; rfl)); (case hp => exact (Reps.one (show Kd.M Kd.string _ _ _ a1 [.string a1] from rfl) (Reps.none _ _))); intro v516 w41 ho42 hb hg_ hnew_; clear hg_ hnew_; (first | rw [← Ny515.out] at ho42 | (simp only [Int.reduceToNat] at ho42; rw [← Ny515.out] at ho42)); have n0_ := za.mk (Kd.R_below (by (with_reducible repeat (first | apply Kd.R_alloc | apply Kd.R_drewN | apply Kd.R_drew)); exact HO502.out) hb); have n1_ := za.mk (Kd.R_below (by (with_reducible repeat (first | apply Kd.R_alloc | apply Kd.R_drewN | apply Kd.R_drew)); exact HO505.out) hb); have n2_ := za.mk (Kd.R_elder' (by (with_reducible repeat (first | apply Kd.R_alloc | apply Kd.R_drewN | apply Kd.R_drew)); exact HO513.out) (Kd.R_base ho42) hb); have n3_ := za.mk (Kd.R_lower (Kd.R_new' ho42 (Kd.R_lt (by (with_reducible repeat (first | apply Kd.R_alloc | apply Kd.R_drewN | apply Kd.R_drew)); exact HO513.out))) (zl (by (with_reducible apply ze; with_reducible exact HB.out)))); have n4_ := za.mk (zk (zz BK492.out _) hb); have n5_ := za.mk (zk (zz BK510.out _) hb); have n6_ := za.mk (zm (by (with_reducible apply ze; with_reducible exact HB.out)) hb); clear HO502; clear HO505; clear HO513; clear BK492; clear BK510; clear HB; have HO502 := n0_; have HO505 := n1_; have HO513 := n2_; have HO517 := n3_; have BK492 := n4_; have BK510 := n5_; have HB := n6_; clear n0_ n1_ n2_ n3_ n4_ n5_ n6_; clear hb ho42; obtain ⟨Ao43, co43, eo43⟩ := Kd.R_slice HO517.out; subst eo43) | (go_at_call 16; (with_reducible refine (zlb.calls kj2 _ _ y515 true _ ?side1 ?side2 A24.out).mono ?_); (case side1 => repeat (first | exact (Kd.R_reads' HO517.out).2.2 | (with_reducible refine Kd.C_alloc ?_ _) | (with_reducible refine Kd.C_drewN ?_ _) | (with_reducible refine Kd.C_drew ?_))); (case side2 => exact (Kd.R_reads' HO517.out).2.1); rintro e w' ⟨rfl, ⟨nd, rfl⟩⟩; have p34 : 0 ≤ (0 : Int) := (by omega); have q34 : 0 < a1.size := (by have : (0 : Int) < (a1.size : Int) := of_decide_eq_true (by (with_reducible assumption)); omega); have hx34 : ∀ h : 0 < a1.size, ((a1[0]'h).toNat : Int) = bt a1 0 := bt_at a1 0; clear p34; have qi34 : (0 < (a1.size : Int)) = True := eq_true (of_decide_eq_true (by (with_reducible assumption))); replace q34 := eq_true q34) | (go_at_call 11; (with_reducible refine (zd.calls kj2 (t494 ++ a1) t519 _ A37.out).mono ?_); rintro e w44 ⟨rfl, hb⟩; replace HO502 := za.mk (Kd.R_below (by (with_reducible repeat (first | apply Kd.R_alloc | apply Kd.R_drewN | apply Kd.R_drew)); exact HO502.out) hb); replace HO505 := za.mk (Kd.R_below (by (with_reducible repeat (first | apply Kd.R_alloc | apply Kd.R_drewN | apply Kd.R_drew)); exact HO505.out) hb); replace HO513 := za.mk (Kd.R_below (by (with_reducible repeat (first | apply Kd.R_alloc | apply Kd.R_drewN | apply Kd.R_drew)); exact HO513.out) hb); replace HO517 := za.mk (Kd.R_below (by (with_reducible repeat (first | apply Kd.R_alloc | apply Kd.R_drewN | apply Kd.R_drew)); exact HO517.out) hb); replace BK492 := za.mk (zk (zz BK492.out _) hb); replace BK510 := za.mk (zk (zz BK510.out _) hb); replace HB := za.mk (zm (by (with_reducible apply ze; with_reducible exact HB.out)) hb); (try clear hb); (try clear hb2); (try clear hk); (try clear hi)))
            go_meet
            case rel => exact ⟨_, (!t519), (by rfl), H', ⟨by have := HJ2.out; first | omega | exact Nat.le_refl _⟩, ⟨by (with_reducible repeat (first | apply Kd.R_alloc | apply Kd.R_drewN | apply Kd.R_drew)); exact HO502.out⟩, ⟨by (with_reducible repeat (first | apply Kd.R_alloc | apply Kd.R_drewN | apply Kd.R_drew)); exact HO505.out⟩, ⟨by exact BK492.out⟩, ⟨by exact BK510.out⟩, ⟨by (with_reducible exact HB.out)⟩⟩
           ·rw [if_neg c36] at H
            exact absurd H (by simp)
          ·rw [if_neg c35] at H
           have c35b0 : ((bt a1 0) == 33) = false := beq_eq_false_iff_ne.mpr c35
           have c35b1 : ((bt a1 0) != 33) = true := bne_iff_ne.mpr c35
           by_cases c46 : (bt a1 0) = 43
           ·rw [if_pos c46] at H
            have c46b0 : ((bt a1 0) == 43) = true := beq_iff_eq.mpr c46
            have c46b1 : ((bt a1 0) != 43) = false := bne_eq_false_iff_eq.mpr c46
            clear c46
            by_cases c47 : t494.size + a1.size ≤ 9223372036854775807
            ·rw [if_pos c47] at H
             have c47b0 := eq_true c47
             have c47b1 : decide (t494.size + a1.size ≤ 9223372036854775807) = true := decide_eq_true c47
             try have c47b2 : (9223372036854775807 < t494.size + a1.size) = False := eq_false (Nat.not_lt.2 c47)
             replace H := Option.bind_eq_some_iff.mp H
             obtain ⟨t520, A480, H⟩ := H
             replace H : (zc.j1 kj2 a1 t494 (!t520) t495 t496 t497 t498 t499 t500 t503 t506 t507 t508) = some r := H
             have A48 := za.mk A480
             clear A480
             have H' := za.mk H
             clear H
             go_wp2_with (first | ((with_reducible refine zjb (N := 32) rfl ?_); (try (refine zyb (by rfl) ?_; dsimp only)); refine Kd.R_lit Kd.string _ 9 ?hg (N := 32) ?hd (xs := ([a1] : List ByteArray)) (inner := [.string a1]) (ok := fun _ => True) (okp := fun _ => True) ?hr ?hp (fun _ hk => hk) trivial (Below.refl _ _) (Nat.le_refl _) (by simp) ?_; (case hd => rfl); (case hg => rfl); (case hr => first | (go_simp; done) | (go_simp; rfl)); (case hp => exact (Reps.one (show Kd.M Kd.string _ _ _ a1 [.string a1] from rfl) (Reps.none _ _))); intro v512 w49 ho50 hb hg_ hnew_; clear hg_ hnew_; (first | rw [← Ny511.out] at ho50 | (simp only [Int.reduceToNat] at ho50; rw [← Ny511.out] at ho50)); replace HO502 := za.mk (Kd.R_below (by (with_reducible repeat (first | apply Kd.R_alloc | apply Kd.R_drewN | apply Kd.R_drew)); exact (Kd.R_mono (zgc (Kd.R_types HO502.out BK510.out (by decide))) (fun _ h_ => h_.1))) hb); replace HO505 := za.mk (Kd.R_below (by (with_reducible repeat (first | apply Kd.R_alloc | apply Kd.R_drewN | apply Kd.R_drew)); exact (Kd.R_mono (zgc (Kd.R_types HO505.out BK510.out (by decide))) (fun _ h_ => h_.1))) hb); have HO513 := za.mk (Kd.R_lower ho50 (zl (by repeat (first | (with_reducible first | exact HB.out | apply zo | apply ze | apply zy | refine zi ?_ GE492.out | refine zi ?_ GE510.out) | exact HB.out)))); replace BK492 := za.mk (zk (g := gb492) (o := .cells #[.slice A0_0 l0_0.length c0_0, .int .u8 a0_1, .slice A0_2 l0_2.length c0_2, .slice A0_3 l0_3.length c0_3, .string ⟨#[]⟩, .bool false, .int .u16 a0_6] 26 (0, 0)) (by (iterate 10 refine zmb ?_ NB492_510.out _); exact BK492.out) hb); replace BK510 := za.mk (zk (g := gb510) (o := .cells #[.string t495, .string t496, .string t497, .string t498, .bool t499, .slice Ao19 t500.length co19, .slice Ao20 t503.length co20, .bool t506, .bool t507, .string t508] 33 (0, 0)) (by exact put10 BK510.out) hb); replace HB := za.mk (zm (by repeat (first | (with_reducible first | exact HB.out | apply zo | apply ze | apply zy | refine zi ?_ GE492.out | refine zi ?_ GE510.out) | exact HB.out)) hb); clear hb ho50; obtain ⟨Ao51, co51, eo51⟩ := Kd.R_slice HO513.out; subst eo51) | (go_at_call 15; (with_reducible refine (zbc.calls kj2 _ _ y511 true _ ?side1 ?side2 A22.out).mono ?_); (case side1 => repeat (first | exact (Kd.R_reads' HO513.out).2.2 | (with_reducible refine Kd.C_alloc ?_ _) | (with_reducible refine Kd.C_drewN ?_ _) | (with_reducible refine Kd.C_drew ?_))); (case side2 => exact (Kd.R_reads' HO513.out).2.1); rintro e w' ⟨rfl, ⟨nd, rfl⟩⟩) | ((with_reducible refine zjb (N := 38) rfl ?_); (try (refine zyb (by rfl) ?_; dsimp only)); refine Kd.R_lit Kd.string _ 9 ?hg (N := 38) ?hd (xs := ([a1] : List ByteArray)) (inner := [.string a1]) (ok := fun _ => True) (okp := fun _ => True) ?hr ?hp (fun _ hk => hk) trivial (Below.refl _ _) (Nat.le_refl _) (by simp) ?_; (case hd => rfl); (case hg => rfl); (case hr => first | (go_simp; done) | (go_simp; rfl)); (case hp => exact (Reps.one (show Kd.M Kd.string _ _ _ a1 [.string a1] from rfl) (Reps.none _ _))); intro v516 w52 ho53 hb hg_ hnew_; clear hg_ hnew_; (first | rw [← Ny515.out] at ho53 | (simp only [Int.reduceToNat] at ho53; rw [← Ny515.out] at ho53)); have n0_ := za.mk (Kd.R_below (by (with_reducible repeat (first | apply Kd.R_alloc | apply Kd.R_drewN | apply Kd.R_drew)); exact HO502.out) hb); have n1_ := za.mk (Kd.R_below (by (with_reducible repeat (first | apply Kd.R_alloc | apply Kd.R_drewN | apply Kd.R_drew)); exact HO505.out) hb); have n2_ := za.mk (Kd.R_elder' (by (with_reducible repeat (first | apply Kd.R_alloc | apply Kd.R_drewN | apply Kd.R_drew)); exact HO513.out) (Kd.R_base ho53) hb); have n3_ := za.mk (Kd.R_lower (Kd.R_new' ho53 (Kd.R_lt (by (with_reducible repeat (first | apply Kd.R_alloc | apply Kd.R_drewN | apply Kd.R_drew)); exact HO513.out))) (zl (by (with_reducible apply ze; with_reducible exact HB.out)))); have n4_ := za.mk (zk (zz BK492.out _) hb); have n5_ := za.mk (zk (zz BK510.out _) hb); have n6_ := za.mk (zm (by (with_reducible apply ze; with_reducible exact HB.out)) hb); clear HO502; clear HO505; clear HO513; clear BK492; clear BK510; clear HB; have HO502 := n0_; have HO505 := n1_; have HO513 := n2_; have HO517 := n3_; have BK492 := n4_; have BK510 := n5_; have HB := n6_; clear n0_ n1_ n2_ n3_ n4_ n5_ n6_; clear hb ho53; obtain ⟨Ao54, co54, eo54⟩ := Kd.R_slice HO517.out; subst eo54) | (go_at_call 16; (with_reducible refine (zlb.calls kj2 _ _ y515 true _ ?side1 ?side2 A24.out).mono ?_); (case side1 => repeat (first | exact (Kd.R_reads' HO517.out).2.2 | (with_reducible refine Kd.C_alloc ?_ _) | (with_reducible refine Kd.C_drewN ?_ _) | (with_reducible refine Kd.C_drew ?_))); (case side2 => exact (Kd.R_reads' HO517.out).2.1); rintro e w' ⟨rfl, ⟨nd, rfl⟩⟩; have p34 : 0 ≤ (0 : Int) := (by omega); have q34 : 0 < a1.size := (by have : (0 : Int) < (a1.size : Int) := of_decide_eq_true (by (with_reducible assumption)); omega); have hx34 : ∀ h : 0 < a1.size, ((a1[0]'h).toNat : Int) = bt a1 0 := bt_at a1 0; clear p34; have qi34 : (0 < (a1.size : Int)) = True := eq_true (of_decide_eq_true (by (with_reducible assumption))); replace q34 := eq_true q34; have p45 : 0 ≤ (0 : Int) := (by omega); have q45 : 0 < a1.size := (by have : (0 : Int) < (a1.size : Int) := of_decide_eq_true (by (with_reducible assumption)); omega); have hx45 : ∀ h : 0 < a1.size, ((a1[0]'h).toNat : Int) = bt a1 0 := bt_at a1 0; clear p45; have qi45 : (0 < (a1.size : Int)) = True := eq_true (of_decide_eq_true (by (with_reducible assumption))); replace q45 := eq_true q45) | (go_at_call 11; (with_reducible refine (zd.calls kj2 (t494 ++ a1) t520 _ A48.out).mono ?_); rintro e w55 ⟨rfl, hb⟩; replace HO502 := za.mk (Kd.R_below (by (with_reducible repeat (first | apply Kd.R_alloc | apply Kd.R_drewN | apply Kd.R_drew)); exact HO502.out) hb); replace HO505 := za.mk (Kd.R_below (by (with_reducible repeat (first | apply Kd.R_alloc | apply Kd.R_drewN | apply Kd.R_drew)); exact HO505.out) hb); replace HO513 := za.mk (Kd.R_below (by (with_reducible repeat (first | apply Kd.R_alloc | apply Kd.R_drewN | apply Kd.R_drew)); exact HO513.out) hb); replace HO517 := za.mk (Kd.R_below (by (with_reducible repeat (first | apply Kd.R_alloc | apply Kd.R_drewN | apply Kd.R_drew)); exact HO517.out) hb); replace BK492 := za.mk (zk (zz BK492.out _) hb); replace BK510 := za.mk (zk (zz BK510.out _) hb); replace HB := za.mk (zm (by (with_reducible apply ze; with_reducible exact HB.out)) hb); (try clear hb); (try clear hb2); (try clear hk); (try clear hi)))
             go_meet
             case rel => exact ⟨_, (!t520), (by rfl), H', ⟨by have := HJ2.out; first | omega | exact Nat.le_refl _⟩, ⟨by (with_reducible repeat (first | apply Kd.R_alloc | apply Kd.R_drewN | apply Kd.R_drew)); exact HO502.out⟩, ⟨by (with_reducible repeat (first | apply Kd.R_alloc | apply Kd.R_drewN | apply Kd.R_drew)); exact HO505.out⟩, ⟨by exact BK492.out⟩, ⟨by exact BK510.out⟩, ⟨by (with_reducible exact HB.out)⟩⟩
            ·rw [if_neg c47] at H
             exact absurd H (by simp)
           ·rw [if_neg c46] at H
            have c46b0 : ((bt a1 0) == 43) = false := beq_eq_false_iff_ne.mpr c46
            have c46b1 : ((bt a1 0) != 43) = true := bne_iff_ne.mpr c46
            by_cases c57 : (bt a1 0) = 61
            ·rw [if_pos c57] at H
             have c57b0 : ((bt a1 0) == 61) = true := beq_iff_eq.mpr c57
             have c57b1 : ((bt a1 0) != 61) = false := bne_eq_false_iff_eq.mpr c57
             clear c57
             by_cases c58 : t494.size + a1.size ≤ 9223372036854775807
             ·rw [if_pos c58] at H
              have c58b0 := eq_true c58
              have c58b1 : decide (t494.size + a1.size ≤ 9223372036854775807) = true := decide_eq_true c58
              try have c58b2 : (9223372036854775807 < t494.size + a1.size) = False := eq_false (Nat.not_lt.2 c58)
              replace H := Option.bind_eq_some_iff.mp H
              obtain ⟨t521, A590, H⟩ := H
              replace H : (zc.j1 kj2 a1 t494 (!t521) t495 t496 t497 t498 t499 t500 t503 t506 t507 t508) = some r := H
              have A59 := za.mk A590
              clear A590
              have H' := za.mk H
              clear H
              go_wp2_with (first | ((with_reducible refine zjb (N := 32) rfl ?_); (try (refine zyb (by rfl) ?_; dsimp only)); refine Kd.R_lit Kd.string _ 9 ?hg (N := 32) ?hd (xs := ([a1] : List ByteArray)) (inner := [.string a1]) (ok := fun _ => True) (okp := fun _ => True) ?hr ?hp (fun _ hk => hk) trivial (Below.refl _ _) (Nat.le_refl _) (by simp) ?_; (case hd => rfl); (case hg => rfl); (case hr => first | (go_simp; done) | (go_simp; rfl)); (case hp => exact (Reps.one (show Kd.M Kd.string _ _ _ a1 [.string a1] from rfl) (Reps.none _ _))); intro v512 w60 ho61 hb hg_ hnew_; clear hg_ hnew_; (first | rw [← Ny511.out] at ho61 | (simp only [Int.reduceToNat] at ho61; rw [← Ny511.out] at ho61)); replace HO502 := za.mk (Kd.R_below (by (with_reducible repeat (first | apply Kd.R_alloc | apply Kd.R_drewN | apply Kd.R_drew)); exact (Kd.R_mono (zgc (Kd.R_types HO502.out BK510.out (by decide))) (fun _ h_ => h_.1))) hb); replace HO505 := za.mk (Kd.R_below (by (with_reducible repeat (first | apply Kd.R_alloc | apply Kd.R_drewN | apply Kd.R_drew)); exact (Kd.R_mono (zgc (Kd.R_types HO505.out BK510.out (by decide))) (fun _ h_ => h_.1))) hb); have HO513 := za.mk (Kd.R_lower ho61 (zl (by repeat (first | (with_reducible first | exact HB.out | apply zo | apply ze | apply zy | refine zi ?_ GE492.out | refine zi ?_ GE510.out) | exact HB.out)))); replace BK492 := za.mk (zk (g := gb492) (o := .cells #[.slice A0_0 l0_0.length c0_0, .int .u8 a0_1, .slice A0_2 l0_2.length c0_2, .slice A0_3 l0_3.length c0_3, .string ⟨#[]⟩, .bool false, .int .u16 a0_6] 26 (0, 0)) (by (iterate 10 refine zmb ?_ NB492_510.out _); exact BK492.out) hb); replace BK510 := za.mk (zk (g := gb510) (o := .cells #[.string t495, .string t496, .string t497, .string t498, .bool t499, .slice Ao19 t500.length co19, .slice Ao20 t503.length co20, .bool t506, .bool t507, .string t508] 33 (0, 0)) (by exact put10 BK510.out) hb); replace HB := za.mk (zm (by repeat (first | (with_reducible first | exact HB.out | apply zo | apply ze | apply zy | refine zi ?_ GE492.out | refine zi ?_ GE510.out) | exact HB.out)) hb); clear hb ho61; obtain ⟨Ao62, co62, eo62⟩ := Kd.R_slice HO513.out; subst eo62) | (go_at_call 15; (with_reducible refine (zbc.calls kj2 _ _ y511 true _ ?side1 ?side2 A22.out).mono ?_); (case side1 => repeat (first | exact (Kd.R_reads' HO513.out).2.2 | (with_reducible refine Kd.C_alloc ?_ _) | (with_reducible refine Kd.C_drewN ?_ _) | (with_reducible refine Kd.C_drew ?_))); (case side2 => exact (Kd.R_reads' HO513.out).2.1); rintro e w' ⟨rfl, ⟨nd, rfl⟩⟩) | ((with_reducible refine zjb (N := 38) rfl ?_); (try (refine zyb (by rfl) ?_; dsimp only)); refine Kd.R_lit Kd.string _ 9 ?hg (N := 38) ?hd (xs := ([a1] : List ByteArray)) (inner := [.string a1]) (ok := fun _ => True) (okp := fun _ => True) ?hr ?hp (fun _ hk => hk) trivial (Below.refl _ _) (Nat.le_refl _) (by simp) ?_; (case hd => rfl); (case hg => rfl); (case hr => first | (go_simp; done) | (go_simp; rfl)); (case hp => exact (Reps.one (show Kd.M Kd.string _ _ _ a1 [.string a1] from rfl) (Reps.none _ _))); intro v516 w63 ho64 hb hg_ hnew_; clear hg_ hnew_; (first | rw [← Ny515.out] at ho64 | (simp only [Int.reduceToNat] at ho64; rw [← Ny515.out] at ho64)); have n0_ := za.mk (Kd.R_below (by (with_reducible repeat (first | apply Kd.R_alloc | apply Kd.R_drewN | apply Kd.R_drew)); exact HO502.out) hb); have n1_ := za.mk (Kd.R_below (by (with_reducible repeat (first | apply Kd.R_alloc | apply Kd.R_drewN | apply Kd.R_drew)); exact HO505.out) hb); have n2_ := za.mk (Kd.R_elder' (by (with_reducible repeat (first | apply Kd.R_alloc | apply Kd.R_drewN | apply Kd.R_drew)); exact HO513.out) (Kd.R_base ho64) hb); have n3_ := za.mk (Kd.R_lower (Kd.R_new' ho64 (Kd.R_lt (by (with_reducible repeat (first | apply Kd.R_alloc | apply Kd.R_drewN | apply Kd.R_drew)); exact HO513.out))) (zl (by (with_reducible apply ze; with_reducible exact HB.out)))); have n4_ := za.mk (zk (zz BK492.out _) hb); have n5_ := za.mk (zk (zz BK510.out _) hb); have n6_ := za.mk (zm (by (with_reducible apply ze; with_reducible exact HB.out)) hb); clear HO502; clear HO505; clear HO513; clear BK492; clear BK510; clear HB; have HO502 := n0_; have HO505 := n1_; have HO513 := n2_; have HO517 := n3_; have BK492 := n4_; have BK510 := n5_; have HB := n6_; clear n0_ n1_ n2_ n3_ n4_ n5_ n6_; clear hb ho64; obtain ⟨Ao65, co65, eo65⟩ := Kd.R_slice HO517.out; subst eo65) | (go_at_call 16; (with_reducible refine (zlb.calls kj2 _ _ y515 true _ ?side1 ?side2 A24.out).mono ?_); (case side1 => repeat (first | exact (Kd.R_reads' HO517.out).2.2 | (with_reducible refine Kd.C_alloc ?_ _) | (with_reducible refine Kd.C_drewN ?_ _) | (with_reducible refine Kd.C_drew ?_))); (case side2 => exact (Kd.R_reads' HO517.out).2.1); rintro e w' ⟨rfl, ⟨nd, rfl⟩⟩; have p34 : 0 ≤ (0 : Int) := (by omega); have q34 : 0 < a1.size := (by have : (0 : Int) < (a1.size : Int) := of_decide_eq_true (by (with_reducible assumption)); omega); have hx34 : ∀ h : 0 < a1.size, ((a1[0]'h).toNat : Int) = bt a1 0 := bt_at a1 0; clear p34; have qi34 : (0 < (a1.size : Int)) = True := eq_true (of_decide_eq_true (by (with_reducible assumption))); replace q34 := eq_true q34; have p45 : 0 ≤ (0 : Int) := (by omega); have q45 : 0 < a1.size := (by have : (0 : Int) < (a1.size : Int) := of_decide_eq_true (by (with_reducible assumption)); omega); have hx45 : ∀ h : 0 < a1.size, ((a1[0]'h).toNat : Int) = bt a1 0 := bt_at a1 0; clear p45; have qi45 : (0 < (a1.size : Int)) = True := eq_true (of_decide_eq_true (by (with_reducible assumption))); replace q45 := eq_true q45; have p56 : 0 ≤ (0 : Int) := (by omega); have q56 : 0 < a1.size := (by have : (0 : Int) < (a1.size : Int) := of_decide_eq_true (by (with_reducible assumption)); omega); have hx56 : ∀ h : 0 < a1.size, ((a1[0]'h).toNat : Int) = bt a1 0 := bt_at a1 0; clear p56; have qi56 : (0 < (a1.size : Int)) = True := eq_true (of_decide_eq_true (by (with_reducible assumption))); replace q56 := eq_true q56) | (go_at_call 11; (with_reducible refine (zd.calls kj2 (t494 ++ a1) t521 _ A59.out).mono ?_); rintro e w66 ⟨rfl, hb⟩; replace HO502 := za.mk (Kd.R_below (by (with_reducible repeat (first | apply Kd.R_alloc | apply Kd.R_drewN | apply Kd.R_drew)); exact HO502.out) hb); replace HO505 := za.mk (Kd.R_below (by (with_reducible repeat (first | apply Kd.R_alloc | apply Kd.R_drewN | apply Kd.R_drew)); exact HO505.out) hb); replace HO513 := za.mk (Kd.R_below (by (with_reducible repeat (first | apply Kd.R_alloc | apply Kd.R_drewN | apply Kd.R_drew)); exact HO513.out) hb); replace HO517 := za.mk (Kd.R_below (by (with_reducible repeat (first | apply Kd.R_alloc | apply Kd.R_drewN | apply Kd.R_drew)); exact HO517.out) hb); replace BK492 := za.mk (zk (zz BK492.out _) hb); replace BK510 := za.mk (zk (zz BK510.out _) hb); replace HB := za.mk (zm (by (with_reducible apply ze; with_reducible exact HB.out)) hb); (try clear hb); (try clear hb2); (try clear hk); (try clear hi)))
              go_meet
              case rel => exact ⟨_, (!t521), (by rfl), H', ⟨by have := HJ2.out; first | omega | exact Nat.le_refl _⟩, ⟨by (with_reducible repeat (first | apply Kd.R_alloc | apply Kd.R_drewN | apply Kd.R_drew)); exact HO502.out⟩, ⟨by (with_reducible repeat (first | apply Kd.R_alloc | apply Kd.R_drewN | apply Kd.R_drew)); exact HO505.out⟩, ⟨by exact BK492.out⟩, ⟨by exact BK510.out⟩, ⟨by (with_reducible exact HB.out)⟩⟩
             ·rw [if_neg c58] at H
              exact absurd H (by simp)
            ·rw [if_neg c57] at H
             have c57b0 : ((bt a1 0) == 61) = false := beq_eq_false_iff_ne.mpr c57
             have c57b1 : ((bt a1 0) != 61) = true := bne_iff_ne.mpr c57
             have H' := za.mk H
             clear H
             go_wp2_with (first | ((with_reducible refine zjb (N := 32) rfl ?_); (try (refine zyb (by rfl) ?_; dsimp only)); refine Kd.R_lit Kd.string _ 9 ?hg (N := 32) ?hd (xs := ([a1] : List ByteArray)) (inner := [.string a1]) (ok := fun _ => True) (okp := fun _ => True) ?hr ?hp (fun _ hk => hk) trivial (Below.refl _ _) (Nat.le_refl _) (by simp) ?_; (case hd => rfl); (case hg => rfl); (case hr => first | (go_simp; done) | (go_simp; rfl)); (case hp => exact (Reps.one (show Kd.M Kd.string _ _ _ a1 [.string a1] from rfl) (Reps.none _ _))); intro v512 w67 ho68 hb hg_ hnew_; clear hg_ hnew_; (first | rw [← Ny511.out] at ho68 | (simp only [Int.reduceToNat] at ho68; rw [← Ny511.out] at ho68)); replace HO502 := za.mk (Kd.R_below (by (with_reducible repeat (first | apply Kd.R_alloc | apply Kd.R_drewN | apply Kd.R_drew)); exact (Kd.R_mono (zgc (Kd.R_types HO502.out BK510.out (by decide))) (fun _ h_ => h_.1))) hb); replace HO505 := za.mk (Kd.R_below (by (with_reducible repeat (first | apply Kd.R_alloc | apply Kd.R_drewN | apply Kd.R_drew)); exact (Kd.R_mono (zgc (Kd.R_types HO505.out BK510.out (by decide))) (fun _ h_ => h_.1))) hb); have HO513 := za.mk (Kd.R_lower ho68 (zl (by repeat (first | (with_reducible first | exact HB.out | apply zo | apply ze | apply zy | refine zi ?_ GE492.out | refine zi ?_ GE510.out) | exact HB.out)))); replace BK492 := za.mk (zk (g := gb492) (o := .cells #[.slice A0_0 l0_0.length c0_0, .int .u8 a0_1, .slice A0_2 l0_2.length c0_2, .slice A0_3 l0_3.length c0_3, .string ⟨#[]⟩, .bool false, .int .u16 a0_6] 26 (0, 0)) (by (iterate 10 refine zmb ?_ NB492_510.out _); exact BK492.out) hb); replace BK510 := za.mk (zk (g := gb510) (o := .cells #[.string t495, .string t496, .string t497, .string t498, .bool t499, .slice Ao19 t500.length co19, .slice Ao20 t503.length co20, .bool t506, .bool t507, .string t508] 33 (0, 0)) (by exact put10 BK510.out) hb); replace HB := za.mk (zm (by repeat (first | (with_reducible first | exact HB.out | apply zo | apply ze | apply zy | refine zi ?_ GE492.out | refine zi ?_ GE510.out) | exact HB.out)) hb); clear hb ho68; obtain ⟨Ao69, co69, eo69⟩ := Kd.R_slice HO513.out; subst eo69) | (go_at_call 15; (with_reducible refine (zbc.calls kj2 _ _ y511 true _ ?side1 ?side2 A22.out).mono ?_); (case side1 => repeat (first | exact (Kd.R_reads' HO513.out).2.2 | (with_reducible refine Kd.C_alloc ?_ _) | (with_reducible refine Kd.C_drewN ?_ _) | (with_reducible refine Kd.C_drew ?_))); (case side2 => exact (Kd.R_reads' HO513.out).2.1); rintro e w' ⟨rfl, ⟨nd, rfl⟩⟩) | ((with_reducible refine zjb (N := 38) rfl ?_); (try (refine zyb (by rfl) ?_; dsimp only)); refine Kd.R_lit Kd.string _ 9 ?hg (N := 38) ?hd (xs := ([a1] : List ByteArray)) (inner := [.string a1]) (ok := fun _ => True) (okp := fun _ => True) ?hr ?hp (fun _ hk => hk) trivial (Below.refl _ _) (Nat.le_refl _) (by simp) ?_; (case hd => rfl); (case hg => rfl); (case hr => first | (go_simp; done) | (go_simp; rfl)); (case hp => exact (Reps.one (show Kd.M Kd.string _ _ _ a1 [.string a1] from rfl) (Reps.none _ _))); intro v516 w70 ho71 hb hg_ hnew_; clear hg_ hnew_; (first | rw [← Ny515.out] at ho71 | (simp only [Int.reduceToNat] at ho71; rw [← Ny515.out] at ho71)); have n0_ := za.mk (Kd.R_below (by (with_reducible repeat (first | apply Kd.R_alloc | apply Kd.R_drewN | apply Kd.R_drew)); exact HO502.out) hb); have n1_ := za.mk (Kd.R_below (by (with_reducible repeat (first | apply Kd.R_alloc | apply Kd.R_drewN | apply Kd.R_drew)); exact HO505.out) hb); have n2_ := za.mk (Kd.R_elder' (by (with_reducible repeat (first | apply Kd.R_alloc | apply Kd.R_drewN | apply Kd.R_drew)); exact HO513.out) (Kd.R_base ho71) hb); have n3_ := za.mk (Kd.R_lower (Kd.R_new' ho71 (Kd.R_lt (by (with_reducible repeat (first | apply Kd.R_alloc | apply Kd.R_drewN | apply Kd.R_drew)); exact HO513.out))) (zl (by (with_reducible apply ze; with_reducible exact HB.out)))); have n4_ := za.mk (zk (zz BK492.out _) hb); have n5_ := za.mk (zk (zz BK510.out _) hb); have n6_ := za.mk (zm (by (with_reducible apply ze; with_reducible exact HB.out)) hb); clear HO502; clear HO505; clear HO513; clear BK492; clear BK510; clear HB; have HO502 := n0_; have HO505 := n1_; have HO513 := n2_; have HO517 := n3_; have BK492 := n4_; have BK510 := n5_; have HB := n6_; clear n0_ n1_ n2_ n3_ n4_ n5_ n6_; clear hb ho71; obtain ⟨Ao72, co72, eo72⟩ := Kd.R_slice HO517.out; subst eo72) | (go_at_call 16; (with_reducible refine (zlb.calls kj2 _ _ y515 true _ ?side1 ?side2 A24.out).mono ?_); (case side1 => repeat (first | exact (Kd.R_reads' HO517.out).2.2 | (with_reducible refine Kd.C_alloc ?_ _) | (with_reducible refine Kd.C_drewN ?_ _) | (with_reducible refine Kd.C_drew ?_))); (case side2 => exact (Kd.R_reads' HO517.out).2.1); rintro e w' ⟨rfl, ⟨nd, rfl⟩⟩; have p34 : 0 ≤ (0 : Int) := (by omega); have q34 : 0 < a1.size := (by have : (0 : Int) < (a1.size : Int) := of_decide_eq_true (by (with_reducible assumption)); omega); have hx34 : ∀ h : 0 < a1.size, ((a1[0]'h).toNat : Int) = bt a1 0 := bt_at a1 0; clear p34; have qi34 : (0 < (a1.size : Int)) = True := eq_true (of_decide_eq_true (by (with_reducible assumption))); replace q34 := eq_true q34; have p45 : 0 ≤ (0 : Int) := (by omega); have q45 : 0 < a1.size := (by have : (0 : Int) < (a1.size : Int) := of_decide_eq_true (by (with_reducible assumption)); omega); have hx45 : ∀ h : 0 < a1.size, ((a1[0]'h).toNat : Int) = bt a1 0 := bt_at a1 0; clear p45; have qi45 : (0 < (a1.size : Int)) = True := eq_true (of_decide_eq_true (by (with_reducible assumption))); replace q45 := eq_true q45; have p56 : 0 ≤ (0 : Int) := (by omega); have q56 : 0 < a1.size := (by have : (0 : Int) < (a1.size : Int) := of_decide_eq_true (by (with_reducible assumption)); omega); have hx56 : ∀ h : 0 < a1.size, ((a1[0]'h).toNat : Int) = bt a1 0 := bt_at a1 0; clear p56; have qi56 : (0 < (a1.size : Int)) = True := eq_true (of_decide_eq_true (by (with_reducible assumption))); replace q56 := eq_true q56))
             go_meet
             case rel => exact ⟨_, (true), (by rfl), H', ⟨by have := HJ2.out; first | omega | exact Nat.le_refl _⟩, ⟨by (with_reducible repeat (first | apply Kd.R_alloc | apply Kd.R_drewN | apply Kd.R_drew)); exact HO502.out⟩, ⟨by (with_reducible repeat (first | apply Kd.R_alloc | apply Kd.R_drewN | apply Kd.R_drew)); exact HO505.out⟩, ⟨by (with_reducible (refine zz ?_ _)); exact BK492.out⟩, ⟨by (with_reducible (refine zz ?_ _)); exact BK510.out⟩, ⟨by (with_reducible apply ze; with_reducible exact HB.out)⟩⟩
         ·rw [if_neg c33] at H
          exact absurd H (by simp)
       ·replace c25 := Bool.eq_false_iff.mpr c25
        subst c25
        have H1 : (zc.j1 kj2 a1 t494 true t495 t496 t497 t498 t499 t500 t503 t506 t507 t508) = some r := by rw [if_neg (show ¬ (false = true) by decide)] at H; exact H
        clear H
        have H := H1
        clear H1
        have H' := za.mk H
        clear H
        go_wp2_with (first | ((with_reducible refine zjb (N := 32) rfl ?_); (try (refine zyb (by rfl) ?_; dsimp only)); refine Kd.R_lit Kd.string _ 9 ?hg (N := 32) ?hd (xs := ([a1] : List ByteArray)) (inner := [.string a1]) (ok := fun _ => True) (okp := fun _ => True) ?hr ?hp (fun _ hk => hk) trivial (Below.refl _ _) (Nat.le_refl _) (by simp) ?_; (case hd => rfl); (case hg => rfl); (case hr => first | (go_simp; done) | (go_simp; rfl)); (case hp => exact (Reps.one (show Kd.M Kd.string _ _ _ a1 [.string a1] from rfl) (Reps.none _ _))); intro v512 w73 ho74 hb hg_ hnew_; clear hg_ hnew_; (first | rw [← Ny511.out] at ho74 | (simp only [Int.reduceToNat] at ho74; rw [← Ny511.out] at ho74)); replace HO502 := za.mk (Kd.R_below (by (with_reducible repeat (first | apply Kd.R_alloc | apply Kd.R_drewN | apply Kd.R_drew)); exact (Kd.R_mono (zgc (Kd.R_types HO502.out BK510.out (by decide))) (fun _ h_ => h_.1))) hb); replace HO505 := za.mk (Kd.R_below (by (with_reducible repeat (first | apply Kd.R_alloc | apply Kd.R_drewN | apply Kd.R_drew)); exact (Kd.R_mono (zgc (Kd.R_types HO505.out BK510.out (by decide))) (fun _ h_ => h_.1))) hb); have HO513 := za.mk (Kd.R_lower ho74 (zl (by repeat (first | (with_reducible first | exact HB.out | apply zo | apply ze | apply zy | refine zi ?_ GE492.out | refine zi ?_ GE510.out) | exact HB.out)))); replace BK492 := za.mk (zk (g := gb492) (o := .cells #[.slice A0_0 l0_0.length c0_0, .int .u8 a0_1, .slice A0_2 l0_2.length c0_2, .slice A0_3 l0_3.length c0_3, .string ⟨#[]⟩, .bool false, .int .u16 a0_6] 26 (0, 0)) (by (iterate 10 refine zmb ?_ NB492_510.out _); exact BK492.out) hb); replace BK510 := za.mk (zk (g := gb510) (o := .cells #[.string t495, .string t496, .string t497, .string t498, .bool t499, .slice Ao19 t500.length co19, .slice Ao20 t503.length co20, .bool t506, .bool t507, .string t508] 33 (0, 0)) (by exact put10 BK510.out) hb); replace HB := za.mk (zm (by repeat (first | (with_reducible first | exact HB.out | apply zo | apply ze | apply zy | refine zi ?_ GE492.out | refine zi ?_ GE510.out) | exact HB.out)) hb); clear hb ho74; obtain ⟨Ao75, co75, eo75⟩ := Kd.R_slice HO513.out; subst eo75) | (go_at_call 15; (with_reducible refine (zbc.calls kj2 _ _ y511 true _ ?side1 ?side2 A22.out).mono ?_); (case side1 => repeat (first | exact (Kd.R_reads' HO513.out).2.2 | (with_reducible refine Kd.C_alloc ?_ _) | (with_reducible refine Kd.C_drewN ?_ _) | (with_reducible refine Kd.C_drew ?_))); (case side2 => exact (Kd.R_reads' HO513.out).2.1); rintro e w' ⟨rfl, ⟨nd, rfl⟩⟩) | ((with_reducible refine zjb (N := 38) rfl ?_); (try (refine zyb (by rfl) ?_; dsimp only)); refine Kd.R_lit Kd.string _ 9 ?hg (N := 38) ?hd (xs := ([a1] : List ByteArray)) (inner := [.string a1]) (ok := fun _ => True) (okp := fun _ => True) ?hr ?hp (fun _ hk => hk) trivial (Below.refl _ _) (Nat.le_refl _) (by simp) ?_; (case hd => rfl); (case hg => rfl); (case hr => first | (go_simp; done) | (go_simp; rfl)); (case hp => exact (Reps.one (show Kd.M Kd.string _ _ _ a1 [.string a1] from rfl) (Reps.none _ _))); intro v516 w76 ho77 hb hg_ hnew_; clear hg_ hnew_; (first | rw [← Ny515.out] at ho77 | (simp only [Int.reduceToNat] at ho77; rw [← Ny515.out] at ho77)); have n0_ := za.mk (Kd.R_below (by (with_reducible repeat (first | apply Kd.R_alloc | apply Kd.R_drewN | apply Kd.R_drew)); exact HO502.out) hb); have n1_ := za.mk (Kd.R_below (by (with_reducible repeat (first | apply Kd.R_alloc | apply Kd.R_drewN | apply Kd.R_drew)); exact HO505.out) hb); have n2_ := za.mk (Kd.R_elder' (by (with_reducible repeat (first | apply Kd.R_alloc | apply Kd.R_drewN | apply Kd.R_drew)); exact HO513.out) (Kd.R_base ho77) hb); have n3_ := za.mk (Kd.R_lower (Kd.R_new' ho77 (Kd.R_lt (by (with_reducible repeat (first | apply Kd.R_alloc | apply Kd.R_drewN | apply Kd.R_drew)); exact HO513.out))) (zl (by (with_reducible apply ze; with_reducible exact HB.out)))); have n4_ := za.mk (zk (zz BK492.out _) hb); have n5_ := za.mk (zk (zz BK510.out _) hb); have n6_ := za.mk (zm (by (with_reducible apply ze; with_reducible exact HB.out)) hb); clear HO502; clear HO505; clear HO513; clear BK492; clear BK510; clear HB; have HO502 := n0_; have HO505 := n1_; have HO513 := n2_; have HO517 := n3_; have BK492 := n4_; have BK510 := n5_; have HB := n6_; clear n0_ n1_ n2_ n3_ n4_ n5_ n6_; clear hb ho77; obtain ⟨Ao78, co78, eo78⟩ := Kd.R_slice HO517.out; subst eo78) | (go_at_call 16; (with_reducible refine (zlb.calls kj2 _ _ y515 false _ ?side1 ?side2 A24.out).mono ?_); (case side1 => repeat (first | exact (Kd.R_reads' HO517.out).2.2 | (with_reducible refine Kd.C_alloc ?_ _) | (with_reducible refine Kd.C_drewN ?_ _) | (with_reducible refine Kd.C_drew ?_))); (case side2 => exact (Kd.R_reads' HO517.out).2.1); rintro e w' ⟨rfl, ⟨nd, rfl⟩⟩))
        go_meet
        case rel => exact ⟨_, (true), (by rfl), H', ⟨by have := HJ2.out; first | omega | exact Nat.le_refl _⟩, ⟨by (with_reducible repeat (first | apply Kd.R_alloc | apply Kd.R_drewN | apply Kd.R_drew)); exact HO502.out⟩, ⟨by (with_reducible repeat (first | apply Kd.R_alloc | apply Kd.R_drewN | apply Kd.R_drew)); exact HO505.out⟩, ⟨by (with_reducible (refine zz ?_ _)); exact BK492.out⟩, ⟨by (with_reducible (refine zz ?_ _)); exact BK510.out⟩, ⟨by (with_reducible apply ze; with_reducible exact HB.out)⟩⟩
      ·replace c23 := Bool.eq_false_iff.mpr c23
       subst c23
       have H1 : (zc.j1 kj2 a1 t494 true t495 t496 t497 t498 t499 t500 t503 t506 t507 t508) = some r := by rw [if_neg (show ¬ (false = true) by decide)] at H; exact H
       clear H
       have H := H1
       clear H1
       have H' := za.mk H
       clear H
       go_wp2_with (first | ((with_reducible refine zjb (N := 32) rfl ?_); (try (refine zyb (by rfl) ?_; dsimp only)); refine Kd.R_lit Kd.string _ 9 ?hg (N := 32) ?hd (xs := ([a1] : List ByteArray)) (inner := [.string a1]) (ok := fun _ => True) (okp := fun _ => True) ?hr ?hp (fun _ hk => hk) trivial (Below.refl _ _) (Nat.le_refl _) (by simp) ?_; (case hd => rfl); (case hg => rfl); (case hr => first | (go_simp; done) | (go_simp; rfl)); (case hp => exact (Reps.one (show Kd.M Kd.string _ _ _ a1 [.string a1] from rfl) (Reps.none _ _))); intro v512 w79 ho80 hb hg_ hnew_; clear hg_ hnew_; (first | rw [← Ny511.out] at ho80 | (simp only [Int.reduceToNat] at ho80; rw [← Ny511.out] at ho80)); replace HO502 := za.mk (Kd.R_below (by (with_reducible repeat (first | apply Kd.R_alloc | apply Kd.R_drewN | apply Kd.R_drew)); exact (Kd.R_mono (zgc (Kd.R_types HO502.out BK510.out (by decide))) (fun _ h_ => h_.1))) hb); replace HO505 := za.mk (Kd.R_below (by (with_reducible repeat (first | apply Kd.R_alloc | apply Kd.R_drewN | apply Kd.R_drew)); exact (Kd.R_mono (zgc (Kd.R_types HO505.out BK510.out (by decide))) (fun _ h_ => h_.1))) hb); have HO513 := za.mk (Kd.R_lower ho80 (zl (by repeat (first | (with_reducible first | exact HB.out | apply zo | apply ze | apply zy | refine zi ?_ GE492.out | refine zi ?_ GE510.out) | exact HB.out)))); replace BK492 := za.mk (zk (g := gb492) (o := .cells #[.slice A0_0 l0_0.length c0_0, .int .u8 a0_1, .slice A0_2 l0_2.length c0_2, .slice A0_3 l0_3.length c0_3, .string ⟨#[]⟩, .bool false, .int .u16 a0_6] 26 (0, 0)) (by (iterate 10 refine zmb ?_ NB492_510.out _); exact BK492.out) hb); replace BK510 := za.mk (zk (g := gb510) (o := .cells #[.string t495, .string t496, .string t497, .string t498, .bool t499, .slice Ao19 t500.length co19, .slice Ao20 t503.length co20, .bool t506, .bool t507, .string t508] 33 (0, 0)) (by exact put10 BK510.out) hb); replace HB := za.mk (zm (by repeat (first | (with_reducible first | exact HB.out | apply zo | apply ze | apply zy | refine zi ?_ GE492.out | refine zi ?_ GE510.out) | exact HB.out)) hb); clear hb ho80; obtain ⟨Ao81, co81, eo81⟩ := Kd.R_slice HO513.out; subst eo81) | (go_at_call 15; (with_reducible refine (zbc.calls kj2 _ _ y511 false _ ?side1 ?side2 A22.out).mono ?_); (case side1 => repeat (first | exact (Kd.R_reads' HO513.out).2.2 | (with_reducible refine Kd.C_alloc ?_ _) | (with_reducible refine Kd.C_drewN ?_ _) | (with_reducible refine Kd.C_drew ?_))); (case side2 => exact (Kd.R_reads' HO513.out).2.1); rintro e w' ⟨rfl, ⟨nd, rfl⟩⟩))
       go_meet
       case rel => exact ⟨_, (true), (by rfl), H', ⟨by have := HJ2.out; first | omega | exact Nat.le_refl _⟩, ⟨by (with_reducible repeat (first | apply Kd.R_alloc | apply Kd.R_drewN | apply Kd.R_drew)); exact HO502.out⟩, ⟨by (with_reducible repeat (first | apply Kd.R_alloc | apply Kd.R_drewN | apply Kd.R_drew)); exact HO505.out⟩, ⟨by (with_reducible (refine zz ?_ _)); exact BK492.out⟩, ⟨by (with_reducible (refine zz ?_ _)); exact BK510.out⟩, ⟨by (with_reducible apply ze; with_reducible exact HB.out)⟩⟩
     ·replace c21 := Bool.eq_false_iff.mpr c21
      subst c21
      have H1 : (zc.j1 kj2 a1 t494 true t495 t496 t497 t498 t499 t500 t503 t506 t507 t508) = some r := by rw [if_neg (show ¬ (false = true) by decide)] at H; exact H
      clear H
      have H := H1
      clear H1
      have H' := za.mk H
      clear H
      go_wp2
      go_meet
      case rel => exact ⟨_, (true), (by rfl), H', ⟨by have := HJ2.out; first | omega | exact Nat.le_refl _⟩, ⟨by (with_reducible repeat (first | apply Kd.R_alloc | apply Kd.R_drewN | apply Kd.R_drew)); exact Kd.R_mono (zgc (Kd.R_types HO502.out BK510.out (by decide))) (fun _ hk => trivial)⟩, ⟨by (with_reducible repeat (first | apply Kd.R_alloc | apply Kd.R_drewN | apply Kd.R_drew)); exact Kd.R_mono (zgc (Kd.R_types HO505.out BK510.out (by decide))) (fun _ hk => trivial)⟩, ⟨by (iterate 10 refine zmb ?_ NB492_510.out _); exact BK492.out⟩, ⟨by exact put10 BK510.out⟩, ⟨by repeat (first | (with_reducible first | exact HB.out | apply zo | apply ze | apply zy | refine zi ?_ GE492.out | refine zi ?_ GE510.out) | exact HB.out)⟩⟩
    case rest =>
     clear HC13
     clear hcz14_0 hcz14_1 hcz14_2 hcz14_3 hcz14_4 hcz14_5 hcz14_6 hcz18_0 hcz18_1 hcz18_2 hcz18_3 hcz18_4 hcz18_5 hcz18_6 hcz18_7 hcz18_8 hcz18_9 hfz14_0 hfz14_1 hfz14_2 hfz14_3 hfz14_4 hfz14_5 hfz14_6 hfz18_0 hfz18_1 hfz18_2 hfz18_3 hfz18_4 hfz18_5 hfz18_6 hfz18_7 hfz18_8 hfz18_9
     obtain ⟨kq, x67_12, rfl, HA, HJ12, HO_511005, HO_511006, BK492, BK510, HB⟩ := hcut
     cases kq with
     | zero => exact absurd HA.out (by simp [zc.j1])
     | succ kj12 =>
      have H := HA.out
      clear HA
      simp only [zc.j1] at H
      by_cases c82 : x67_12 = true
      ·subst c82
       have H1 : (some true) = some r := by rw [if_pos rfl] at H; exact H
       clear H
       have H := H1
       clear H1
       obtain rfl := Option.some.inj H
       go_wp2
       go_ret
       exact ⟨by rfl, by (with_reducible exact HB.out)⟩
      ·replace c82 := Bool.eq_false_iff.mpr c82
       subst c82
       have H1 : (if t494.size + a1.size ≤ 9223372036854775807 then ((znc.f (t494 ++ a1)).bind fun bt522 => ((zg.f kj12 (t494 ++ a1)).bind fun bt538 => (if bt522.2.2.2.2.2.2.2.2.2.2 = true then (if bt538.2.2.2.2.2.2.2.2.2.2 = true then ((zx.f kj12 bt522.1 bt522.2.1 bt522.2.2.1 bt522.2.2.2.1 bt522.2.2.2.2.1 bt522.2.2.2.2.2.1 bt522.2.2.2.2.2.2.1 bt522.2.2.2.2.2.2.2.1 bt522.2.2.2.2.2.2.2.2.1 bt522.2.2.2.2.2.2.2.2.2.1 bt538.1 bt538.2.1 bt538.2.2.1 bt538.2.2.2.1 bt538.2.2.2.2.1 bt538.2.2.2.2.2.1 bt538.2.2.2.2.2.2.1 bt538.2.2.2.2.2.2.2.1 bt538.2.2.2.2.2.2.2.2.1 bt538.2.2.2.2.2.2.2.2.2.1).bind fun t554 => (if t554 = true then (if bt522.2.2.2.2.1 = true then (if bt522.2.2.1.toList = t497.toList then (some ((bt522.2.2.2.2.2.1.length : Int) == (t500.length : Int))) else (some false)) else (some false)) else (some false))) else (some false)) else (some false)))) else (none)) = some r := by rw [if_neg (show ¬ (false = true) by decide)] at H; exact H
       clear H
       have H := H1
       clear H1
       by_cases c83 : t494.size + a1.size ≤ 9223372036854775807
       ·rw [if_pos c83] at H
        have c83b0 := eq_true c83
        have c83b1 : decide (t494.size + a1.size ≤ 9223372036854775807) = true := decide_eq_true c83
        try have c83b2 : (9223372036854775807 < t494.size + a1.size) = False := eq_false (Nat.not_lt.2 c83)
        replace H := Option.bind_eq_some_iff.mp H
        obtain ⟨⟨t522, t523, t524, t525, t526, t527, t530, t533, t534, t535, t536⟩, A840, H⟩ := H
        replace H : ((zg.f kj12 (t494 ++ a1)).bind fun bt538 => (if t536 = true then (if bt538.2.2.2.2.2.2.2.2.2.2 = true then ((zx.f kj12 t522 t523 t524 t525 t526 t527 t530 t533 t534 t535 bt538.1 bt538.2.1 bt538.2.2.1 bt538.2.2.2.1 bt538.2.2.2.2.1 bt538.2.2.2.2.2.1 bt538.2.2.2.2.2.2.1 bt538.2.2.2.2.2.2.2.1 bt538.2.2.2.2.2.2.2.2.1 bt538.2.2.2.2.2.2.2.2.2.1).bind fun t554 => (if t554 = true then (if t526 = true then (if t524.toList = t497.toList then (some ((t527.length : Int) == (t500.length : Int))) else (some false)) else (some false)) else (some false))) else (some false)) else (some false))) = some r := H
        have A84 := za.mk A840
        clear A840
        replace H := Option.bind_eq_some_iff.mp H
        obtain ⟨⟨t538, t539, t540, t541, t542, t543, t546, t549, t550, t551, t552⟩, A850, H⟩ := H
        replace H : (if t536 = true then (if t552 = true then ((zx.f kj12 t522 t523 t524 t525 t526 t527 t530 t533 t534 t535 t538 t539 t540 t541 t542 t543 t546 t549 t550 t551).bind fun t554 => (if t554 = true then (if t526 = true then (if t524.toList = t497.toList then (some ((t527.length : Int) == (t500.length : Int))) else (some false)) else (some false)) else (some false))) else (some false)) else (some false)) = some r := H
        have A85 := za.mk A850
        clear A850
        by_cases c86 : t536 = true
        ·subst c86
         have H1 : (if t552 = true then ((zx.f kj12 t522 t523 t524 t525 t526 t527 t530 t533 t534 t535 t538 t539 t540 t541 t542 t543 t546 t549 t550 t551).bind fun t554 => (if t554 = true then (if t526 = true then (if t524.toList = t497.toList then (some ((t527.length : Int) == (t500.length : Int))) else (some false)) else (some false)) else (some false))) else (some false)) = some r := by rw [if_pos rfl] at H; exact H
         clear H
         have H := H1
         clear H1
         by_cases c87 : t552 = true
         ·subst c87
          have H1 : ((zx.f kj12 t522 t523 t524 t525 t526 t527 t530 t533 t534 t535 t538 t539 t540 t541 t542 t543 t546 t549 t550 t551).bind fun t554 => (if t554 = true then (if t526 = true then (if t524.toList = t497.toList then (some ((t527.length : Int) == (t500.length : Int))) else (some false)) else (some false)) else (some false))) = some r := by rw [if_pos rfl] at H; exact H
          clear H
          have H := H1
          clear H1
          replace H := Option.bind_eq_some_iff.mp H
          obtain ⟨t554, A880, H⟩ := H
          replace H : (if t554 = true then (if t526 = true then (if t524.toList = t497.toList then (some ((t527.length : Int) == (t500.length : Int))) else (some false)) else (some false)) else (some false)) = some r := H
          have A88 := za.mk A880
          clear A880
          by_cases c89 : t554 = true
          ·subst c89
           have H1 : (if t526 = true then (if t524.toList = t497.toList then (some ((t527.length : Int) == (t500.length : Int))) else (some false)) else (some false)) = some r := by rw [if_pos rfl] at H; exact H
           clear H
           have H := H1
           clear H1
           by_cases c90 : t526 = true
           ·subst c90
            have H1 : (if t524.toList = t497.toList then (some ((t527.length : Int) == (t500.length : Int))) else (some false)) = some r := by rw [if_pos rfl] at H; exact H
            clear H
            have H := H1
            clear H1
            by_cases c91 : t524.toList = t497.toList
            ·rw [if_pos c91] at H
             have c91b0 : (t524.toList == t497.toList) = true := beq_iff_eq.mpr c91
             have c91b1 : (t524.toList != t497.toList) = false := bne_eq_false_iff_eq.mpr c91
             clear c91
             obtain rfl := Option.some.inj H
             go_wp2_with (first | ((with_reducible refine zab (f := 12) rfl ?_); refine zjc (some 72) rfl rfl Tryd.func12 (by kernel_rfl) rfl #[.string (t494 ++ a1)] rfl (by (try simp only [List.map_toArray, List.map_cons, List.map_nil]); first | done | rfl | (simp only [List.length_drop, List.length_take]; rfl)) ?_; (with_reducible refine (znc.calls (t494 ++ a1) t522 t523 t524 t525 true t527 t530 t533 t534 t535 true _ A84.out (by exact GL.at HG.out (by repeat (first | (with_reducible first | exact HB.out | apply zo | apply ze | apply zy) | exact HB.out)))).mono ?_); rintro e w92 ⟨v528, v531, rfl, ho0, ho1, hb⟩; refine ⟨_, rfl, ?_⟩; have n0_ := za.mk (Kd.R_elder' (by (with_reducible repeat (first | apply Kd.R_alloc | apply Kd.R_drewN | apply Kd.R_drew)); exact HO_511005.out) (Kd.R_base ho0) hb); have n1_ := za.mk (Kd.R_elder' (by (with_reducible repeat (first | apply Kd.R_alloc | apply Kd.R_drewN | apply Kd.R_drew)); exact HO_511006.out) (Kd.R_base ho1) hb); have n2_ := za.mk (Kd.R_lower (Kd.R_new' ho0 (Kd.R_lt (by (with_reducible repeat (first | apply Kd.R_alloc | apply Kd.R_drewN | apply Kd.R_drew)); exact HO_511005.out))) (zl (by (with_reducible exact HB.out)))); have n3_ := za.mk (Kd.R_lower (Kd.R_new' ho1 (Kd.R_lt (by (with_reducible repeat (first | apply Kd.R_alloc | apply Kd.R_drewN | apply Kd.R_drew)); exact HO_511006.out))) (zl (by (with_reducible exact HB.out)))); have n4_ := za.mk (zk BK492.out hb); have n5_ := za.mk (zk BK510.out hb); have n6_ := za.mk (zm (by (with_reducible exact HB.out)) hb); clear HO_511005; clear HO_511006; clear BK492; clear BK510; clear HB; have HO_511005 := n0_; have HO_511006 := n1_; have HO529 := n2_; have HO532 := n3_; have BK492 := n4_; have BK510 := n5_; have HB := n6_; clear n0_ n1_ n2_ n3_ n4_ n5_ n6_; (try clear hb); (try clear hb2); (try clear hk); (try clear hi); (try clear ho0); (try clear ho1)) | ((with_reducible refine zjb (N := 8) rfl ?_); (try (refine zyb (by rfl) ?_; dsimp only)); refine zec ?hg (N := 8) ?hd (cs := #[.string ⟨#[]⟩, .string ⟨#[]⟩, .string ⟨#[]⟩, .string ⟨#[]⟩, .bool false, .slice none 0 0, .slice none 0 0, .bool false, .bool false, .string ⟨#[]⟩]) (t := 33) ?hr ?_; (case hd => rfl); (case hg => rfl); (case hr => first | (go_simp; done) | (go_simp; rfl)); intro gb537 hg w93 hbox hb; have n0_ := za.mk (Kd.R_below (by (with_reducible repeat (first | apply Kd.R_alloc | apply Kd.R_drewN | apply Kd.R_drew)); exact HO_511005.out) hb); have n1_ := za.mk (Kd.R_below (by (with_reducible repeat (first | apply Kd.R_alloc | apply Kd.R_drewN | apply Kd.R_drew)); exact HO_511006.out) hb); have n2_ := za.mk (Kd.R_below (by (with_reducible repeat (first | apply Kd.R_alloc | apply Kd.R_drewN | apply Kd.R_drew)); exact HO529.out) hb); have n3_ := za.mk (Kd.R_below (by (with_reducible repeat (first | apply Kd.R_alloc | apply Kd.R_drewN | apply Kd.R_drew)); exact HO532.out) hb); have n4_ := za.mk (zk BK492.out hb); have n5_ := za.mk (zk BK510.out hb); have n6_ := za.mk (zm (by (with_reducible exact HB.out)) hb); have n7_ := za.mk hbox; have n8_ := za.mk ((by rw [hg]; exact (zl (by (with_reducible exact HB.out))) : w.heap.size ≤ gb537)); have n9_ := za.mk ((by rw [hg]; exact (zl (by (with_reducible exact HB.out))) : w.heap.size ≤ gb537)); have n10_ := za.mk ((by rw [hg]; exact Nat.ne_of_lt (zac BK492.out) : gb492 ≠ gb537)); have n11_ := za.mk ((by rw [hg]; exact Nat.ne_of_gt (zac BK492.out) : gb537 ≠ gb492)); have n12_ := za.mk ((by rw [hg]; exact Nat.ne_of_lt (zac BK510.out) : gb510 ≠ gb537)); have n13_ := za.mk ((by rw [hg]; exact Nat.ne_of_gt (zac BK510.out) : gb537 ≠ gb510)); clear HO_511005; clear HO_511006; clear HO529; clear HO532; clear BK492; clear BK510; clear HB; have HO_511005 := n0_; have HO_511006 := n1_; have HO529 := n2_; have HO532 := n3_; have BK492 := n4_; have BK510 := n5_; have HB := n6_; have BK537 := n7_; have GW537 := n8_; have GE537 := n9_; have NB492_537 := n10_; have NB537_492 := n11_; have NB510_537 := n12_; have NB537_510 := n13_; clear n0_ n1_ n2_ n3_ n4_ n5_ n6_ n7_ n8_ n9_ n10_ n11_ n12_ n13_; clear hb hbox hg; have hnb94 := NB537_492.out; have hnc94 := NB492_537.out; have hnb95 := NB537_510.out; have hnc95 := NB510_537.out; obtain ⟨hcz96_0, hcz96_1, hcz96_2, hcz96_3, hcz96_4, hcz96_5, hcz96_6, hcz96_7, hcz96_8, hcz96_9, hfz96_0, hfz96_1, hfz96_2, hfz96_3, hfz96_4, hfz96_5, hfz96_6, hfz96_7, hfz96_8, hfz96_9⟩ := cl10 BK537.out; obtain ⟨Ao97, co97, eo97⟩ := Kd.R_slice HO529.out; subst eo97; obtain ⟨Ao98, co98, eo98⟩ := Kd.R_slice HO532.out; subst eo98) | ((with_reducible refine zab (f := 13) rfl ?_); refine zjc (some 79) rfl rfl Tryd.func13 (by kernel_rfl) rfl #[.string (t494 ++ a1)] rfl (by (try simp only [List.map_toArray, List.map_cons, List.map_nil]); first | done | rfl | (simp only [List.length_drop, List.length_take]; rfl)) ?_; (with_reducible refine (zg.calls kj12 (t494 ++ a1) t538 t539 t540 t541 t542 t543 t546 t549 t550 t551 true _ A85.out).mono ?_); rintro e w99 ⟨v544, v547, rfl, ho0, ho1, hb⟩; refine ⟨_, rfl, ?_⟩; have n0_ := za.mk (Kd.R_elder' (by (with_reducible repeat (first | apply Kd.R_alloc | apply Kd.R_drewN | apply Kd.R_drew)); exact (Kd.R_mono (zgc (Kd.R_types HO_511005.out BK537.out (by decide))) (fun _ h_ => h_.1))) (Kd.R_base ho0) hb); have n1_ := za.mk (Kd.R_elder' (by (with_reducible repeat (first | apply Kd.R_alloc | apply Kd.R_drewN | apply Kd.R_drew)); exact (Kd.R_mono (zgc (Kd.R_types HO_511006.out BK537.out (by decide))) (fun _ h_ => h_.1))) (Kd.R_base ho1) hb); have n2_ := za.mk (Kd.R_elder' (by (with_reducible repeat (first | apply Kd.R_alloc | apply Kd.R_drewN | apply Kd.R_drew)); exact (Kd.R_mono (zgc (Kd.R_types HO529.out BK537.out (by decide))) (fun _ h_ => h_.1))) (Kd.R_base ho0) hb); have n3_ := za.mk (Kd.R_elder' (by (with_reducible repeat (first | apply Kd.R_alloc | apply Kd.R_drewN | apply Kd.R_drew)); exact (Kd.R_mono (zgc (Kd.R_types HO532.out BK537.out (by decide))) (fun _ h_ => h_.1))) (Kd.R_base ho1) hb); have n4_ := za.mk (Kd.R_lower (Kd.R_new' (Kd.R_new' ho0 (Kd.R_lt (by (with_reducible repeat (first | apply Kd.R_alloc | apply Kd.R_drewN | apply Kd.R_drew)); exact (Kd.R_mono (zgc (Kd.R_types HO_511005.out BK537.out (by decide))) (fun _ h_ => h_.1))))) (Kd.R_lt (by (with_reducible repeat (first | apply Kd.R_alloc | apply Kd.R_drewN | apply Kd.R_drew)); exact (Kd.R_mono (zgc (Kd.R_types HO529.out BK537.out (by decide))) (fun _ h_ => h_.1))))) (zl (by repeat (first | (with_reducible first | exact HB.out | apply zo | apply ze | apply zy | refine zi ?_ GE492.out | refine zi ?_ GE510.out | refine zi ?_ GE537.out) | exact HB.out)))); have n5_ := za.mk (Kd.R_lower (Kd.R_new' (Kd.R_new' ho1 (Kd.R_lt (by (with_reducible repeat (first | apply Kd.R_alloc | apply Kd.R_drewN | apply Kd.R_drew)); exact (Kd.R_mono (zgc (Kd.R_types HO_511006.out BK537.out (by decide))) (fun _ h_ => h_.1))))) (Kd.R_lt (by (with_reducible repeat (first | apply Kd.R_alloc | apply Kd.R_drewN | apply Kd.R_drew)); exact (Kd.R_mono (zgc (Kd.R_types HO532.out BK537.out (by decide))) (fun _ h_ => h_.1))))) (zl (by repeat (first | (with_reducible first | exact HB.out | apply zo | apply ze | apply zy | refine zi ?_ GE492.out | refine zi ?_ GE510.out | refine zi ?_ GE537.out) | exact HB.out)))); have n6_ := za.mk (zk (g := gb492) (o := .cells #[.slice A0_0 l0_0.length c0_0, .int .u8 a0_1, .slice A0_2 l0_2.length c0_2, .slice A0_3 l0_3.length c0_3, .string ⟨#[]⟩, .bool false, .int .u16 a0_6] 26 (0, 0)) (by (iterate 10 refine zmb ?_ NB492_537.out _); exact BK492.out) hb); have n7_ := za.mk (zk (g := gb510) (o := .cells #[.string t495, .string t496, .string t497, .string t498, .bool t499, .slice Ao19 t500.length co19, .slice Ao20 t503.length co20, .bool t506, .bool t507, .string t508] 33 (0, 0)) (by (iterate 10 refine zmb ?_ NB510_537.out _); exact BK510.out) hb); have n8_ := za.mk (zk (g := gb537) (o := .cells #[.string t522, .string t523, .string t524, .string t525, .bool true, .slice Ao97 t527.length co97, .slice Ao98 t530.length co98, .bool t533, .bool t534, .string t535] 33 (0, 0)) (by exact put10 BK537.out) hb); have n9_ := za.mk (zm (by repeat (first | (with_reducible first | exact HB.out | apply zo | apply ze | apply zy | refine zi ?_ GE492.out | refine zi ?_ GE510.out | refine zi ?_ GE537.out) | exact HB.out)) hb); clear HO_511005; clear HO_511006; clear HO529; clear HO532; clear BK492; clear BK510; clear BK537; clear HB; have HO_511005 := n0_; have HO_511006 := n1_; have HO529 := n2_; have HO532 := n3_; have HO545 := n4_; have HO548 := n5_; have BK492 := n6_; have BK510 := n7_; have BK537 := n8_; have HB := n9_; clear n0_ n1_ n2_ n3_ n4_ n5_ n6_ n7_ n8_ n9_; (try clear hb); (try clear hb2); (try clear hk); (try clear hi); (try clear ho0); (try clear ho1)) | ((with_reducible refine zjb (N := 10) rfl ?_); (try (refine zyb (by rfl) ?_; dsimp only)); refine zec ?hg (N := 10) ?hd (cs := #[.string ⟨#[]⟩, .string ⟨#[]⟩, .string ⟨#[]⟩, .string ⟨#[]⟩, .bool false, .slice none 0 0, .slice none 0 0, .bool false, .bool false, .string ⟨#[]⟩]) (t := 33) ?hr ?_; (case hd => rfl); (case hg => rfl); (case hr => first | (go_simp; done) | (go_simp; rfl)); intro gb553 hg w100 hbox hb; have n0_ := za.mk (Kd.R_below (by (with_reducible repeat (first | apply Kd.R_alloc | apply Kd.R_drewN | apply Kd.R_drew)); exact HO_511005.out) hb); have n1_ := za.mk (Kd.R_below (by (with_reducible repeat (first | apply Kd.R_alloc | apply Kd.R_drewN | apply Kd.R_drew)); exact HO_511006.out) hb); have n2_ := za.mk (Kd.R_below (by (with_reducible repeat (first | apply Kd.R_alloc | apply Kd.R_drewN | apply Kd.R_drew)); exact HO529.out) hb); have n3_ := za.mk (Kd.R_below (by (with_reducible repeat (first | apply Kd.R_alloc | apply Kd.R_drewN | apply Kd.R_drew)); exact HO532.out) hb); have n4_ := za.mk (Kd.R_below (by (with_reducible repeat (first | apply Kd.R_alloc | apply Kd.R_drewN | apply Kd.R_drew)); exact HO545.out) hb); have n5_ := za.mk (Kd.R_below (by (with_reducible repeat (first | apply Kd.R_alloc | apply Kd.R_drewN | apply Kd.R_drew)); exact HO548.out) hb); have n6_ := za.mk (zk BK492.out hb); have n7_ := za.mk (zk BK510.out hb); have n8_ := za.mk (zk BK537.out hb); have n9_ := za.mk (zm (by (with_reducible exact HB.out)) hb); have n10_ := za.mk hbox; have n11_ := za.mk ((by rw [hg]; exact (zl (by (with_reducible exact HB.out))) : w.heap.size ≤ gb553)); have n12_ := za.mk ((by rw [hg]; exact (zl (by (with_reducible exact HB.out))) : w.heap.size ≤ gb553)); have n13_ := za.mk ((by rw [hg]; exact Nat.ne_of_lt (zac BK492.out) : gb492 ≠ gb553)); have n14_ := za.mk ((by rw [hg]; exact Nat.ne_of_gt (zac BK492.out) : gb553 ≠ gb492)); have n15_ := za.mk ((by rw [hg]; exact Nat.ne_of_lt (zac BK510.out) : gb510 ≠ gb553)); have n16_ := za.mk ((by rw [hg]; exact Nat.ne_of_gt (zac BK510.out) : gb553 ≠ gb510)); have n17_ := za.mk ((by rw [hg]; exact Nat.ne_of_lt (zac BK537.out) : gb537 ≠ gb553)); have n18_ := za.mk ((by rw [hg]; exact Nat.ne_of_gt (zac BK537.out) : gb553 ≠ gb537)); clear HO_511005; clear HO_511006; clear HO529; clear HO532; clear HO545; clear HO548; clear BK492; clear BK510; clear BK537; clear HB; have HO_511005 := n0_; have HO_511006 := n1_; have HO529 := n2_; have HO532 := n3_; have HO545 := n4_; have HO548 := n5_; have BK492 := n6_; have BK510 := n7_; have BK537 := n8_; have HB := n9_; have BK553 := n10_; have GW553 := n11_; have GE553 := n12_; have NB492_553 := n13_; have NB553_492 := n14_; have NB510_553 := n15_; have NB553_510 := n16_; have NB537_553 := n17_; have NB553_537 := n18_; clear n0_ n1_ n2_ n3_ n4_ n5_ n6_ n7_ n8_ n9_ n10_ n11_ n12_ n13_ n14_ n15_ n16_ n17_ n18_; clear hb hbox hg; have hnb101 := NB553_492.out; have hnc101 := NB492_553.out; have hnb102 := NB553_510.out; have hnc102 := NB510_553.out; have hnb103 := NB553_537.out; have hnc103 := NB537_553.out; obtain ⟨hcz104_0, hcz104_1, hcz104_2, hcz104_3, hcz104_4, hcz104_5, hcz104_6, hcz104_7, hcz104_8, hcz104_9, hfz104_0, hfz104_1, hfz104_2, hfz104_3, hfz104_4, hfz104_5, hfz104_6, hfz104_7, hfz104_8, hfz104_9⟩ := cl10 BK553.out; obtain ⟨Ao105, co105, eo105⟩ := Kd.R_slice HO545.out; subst eo105; obtain ⟨Ao106, co106, eo106⟩ := Kd.R_slice HO548.out; subst eo106; obtain ⟨hcz107_0, hcz107_1, hcz107_2, hcz107_3, hcz107_4, hcz107_5, hcz107_6, hcz107_7, hcz107_8, hcz107_9, hfz107_0, hfz107_1, hfz107_2, hfz107_3, hfz107_4, hfz107_5, hfz107_6, hfz107_7, hfz107_8, hfz107_9⟩ := cl10 BK537.out) | (go_at_call 14; (with_reducible refine (zx.calls kj12 t522 t523 t524 t525 true _ _ t527 _ _ t530 t533 t534 t535 t538 t539 t540 t541 t542 _ _ t543 _ _ t546 t549 t550 t551 true _ ?side1 ?side2 ?side3 ?side4 ?side5 ?side6 ?side7 ?side8 A88.out).mono ?_); (case side1 => refine (Kd.R_reads' (e := 54) (base := w.heap.size) (ok := fun k_ => ((True ∧ some k_ ≠ (.slice Ao19 t500.length co19 : Value).ownBlock) ∧ some k_ ≠ (.slice Ao105 t543.length co105 : Value).ownBlock)) (n := t527.length) (c := co97) ?_).2.2; exact (by (with_reducible repeat (first | apply Kd.R_alloc | apply Kd.R_drewN | apply Kd.R_drew)); exact (Kd.R_mono (zgc (Kd.R_types HO529.out BK553.out (by decide))) (fun _ h_ => h_.1)))); (case side2 => exact (Kd.R_reads' HO529.out).2.1); (case side3 => refine (Kd.R_reads' (e := 58) (base := w.heap.size) (ok := fun k_ => ((True ∧ some k_ ≠ (.slice Ao20 t503.length co20 : Value).ownBlock) ∧ some k_ ≠ (.slice Ao106 t546.length co106 : Value).ownBlock)) (n := t530.length) (c := co98) ?_).2.2; exact (by (with_reducible repeat (first | apply Kd.R_alloc | apply Kd.R_drewN | apply Kd.R_drew)); exact (Kd.R_mono (zgc (Kd.R_types HO532.out BK553.out (by decide))) (fun _ h_ => h_.1)))); (case side4 => exact (Kd.R_reads' HO532.out).2.1); (case side5 => refine (Kd.R_reads' (e := 54) (base := w.heap.size) (ok := fun k_ => ((True ∧ some k_ ≠ (.slice Ao19 t500.length co19 : Value).ownBlock) ∧ some k_ ≠ (.slice Ao97 t527.length co97 : Value).ownBlock)) (n := t543.length) (c := co105) ?_).2.2; exact (by (with_reducible repeat (first | apply Kd.R_alloc | apply Kd.R_drewN | apply Kd.R_drew)); exact (Kd.R_mono (zgc (Kd.R_types HO545.out BK553.out (by decide))) (fun _ h_ => h_.1)))); (case side6 => exact (Kd.R_reads' HO545.out).2.1); (case side7 => refine (Kd.R_reads' (e := 58) (base := w.heap.size) (ok := fun k_ => ((True ∧ some k_ ≠ (.slice Ao20 t503.length co20 : Value).ownBlock) ∧ some k_ ≠ (.slice Ao98 t530.length co98 : Value).ownBlock)) (n := t546.length) (c := co106) ?_).2.2; exact (by (with_reducible repeat (first | apply Kd.R_alloc | apply Kd.R_drewN | apply Kd.R_drew)); exact (Kd.R_mono (zgc (Kd.R_types HO548.out BK553.out (by decide))) (fun _ h_ => h_.1)))); (case side8 => exact (Kd.R_reads' HO548.out).2.1); rintro e w108 ⟨rfl, hb⟩; replace HO_511005 := za.mk (Kd.R_below (by (with_reducible repeat (first | apply Kd.R_alloc | apply Kd.R_drewN | apply Kd.R_drew)); exact (Kd.R_mono (zgc (Kd.R_types HO_511005.out BK553.out (by decide))) (fun _ h_ => h_.1))) hb); replace HO_511006 := za.mk (Kd.R_below (by (with_reducible repeat (first | apply Kd.R_alloc | apply Kd.R_drewN | apply Kd.R_drew)); exact (Kd.R_mono (zgc (Kd.R_types HO_511006.out BK553.out (by decide))) (fun _ h_ => h_.1))) hb); replace HO529 := za.mk (Kd.R_below (by (with_reducible repeat (first | apply Kd.R_alloc | apply Kd.R_drewN | apply Kd.R_drew)); exact (Kd.R_mono (zgc (Kd.R_types HO529.out BK553.out (by decide))) (fun _ h_ => h_.1))) hb); replace HO532 := za.mk (Kd.R_below (by (with_reducible repeat (first | apply Kd.R_alloc | apply Kd.R_drewN | apply Kd.R_drew)); exact (Kd.R_mono (zgc (Kd.R_types HO532.out BK553.out (by decide))) (fun _ h_ => h_.1))) hb); replace HO545 := za.mk (Kd.R_below (by (with_reducible repeat (first | apply Kd.R_alloc | apply Kd.R_drewN | apply Kd.R_drew)); exact (Kd.R_mono (zgc (Kd.R_types HO545.out BK553.out (by decide))) (fun _ h_ => h_.1))) hb); replace HO548 := za.mk (Kd.R_below (by (with_reducible repeat (first | apply Kd.R_alloc | apply Kd.R_drewN | apply Kd.R_drew)); exact (Kd.R_mono (zgc (Kd.R_types HO548.out BK553.out (by decide))) (fun _ h_ => h_.1))) hb); replace BK492 := za.mk (zk (g := gb492) (o := .cells #[.slice A0_0 l0_0.length c0_0, .int .u8 a0_1, .slice A0_2 l0_2.length c0_2, .slice A0_3 l0_3.length c0_3, .string ⟨#[]⟩, .bool false, .int .u16 a0_6] 26 (0, 0)) (by (iterate 10 refine zmb ?_ NB492_553.out _); exact BK492.out) hb); replace BK510 := za.mk (zk (g := gb510) (o := .cells #[.string t495, .string t496, .string t497, .string t498, .bool t499, .slice Ao19 t500.length co19, .slice Ao20 t503.length co20, .bool t506, .bool t507, .string t508] 33 (0, 0)) (by (iterate 10 refine zmb ?_ NB510_553.out _); exact BK510.out) hb); replace BK537 := za.mk (zk (g := gb537) (o := .cells #[.string t522, .string t523, .string t524, .string t525, .bool true, .slice Ao97 t527.length co97, .slice Ao98 t530.length co98, .bool t533, .bool t534, .string t535] 33 (0, 0)) (by (iterate 10 refine zmb ?_ NB537_553.out _); exact BK537.out) hb); replace BK553 := za.mk (zk (g := gb553) (o := .cells #[.string t538, .string t539, .string t540, .string t541, .bool t542, .slice Ao105 t543.length co105, .slice Ao106 t546.length co106, .bool t549, .bool t550, .string t551] 33 (0, 0)) (by exact put10 BK553.out) hb); replace HB := za.mk (zm (by repeat (first | (with_reducible first | exact HB.out | apply zo | apply ze | apply zy | refine zi ?_ GE492.out | refine zi ?_ GE510.out | refine zi ?_ GE537.out | refine zi ?_ GE553.out) | exact HB.out)) hb); (try clear hb); (try clear hb2); (try clear hk); (try clear hi); obtain ⟨hcz109_0, hcz109_1, hcz109_2, hcz109_3, hcz109_4, hcz109_5, hcz109_6, hcz109_7, hcz109_8, hcz109_9, hfz109_0, hfz109_1, hfz109_2, hfz109_3, hfz109_4, hfz109_5, hfz109_6, hfz109_7, hfz109_8, hfz109_9⟩ := cl10 BK537.out; have hnb110 := NB510_492.out; have hnc110 := NB492_510.out; obtain ⟨hcz111_0, hcz111_1, hcz111_2, hcz111_3, hcz111_4, hcz111_5, hcz111_6, hcz111_7, hcz111_8, hcz111_9, hfz111_0, hfz111_1, hfz111_2, hfz111_3, hfz111_4, hfz111_5, hfz111_6, hfz111_7, hfz111_8, hfz111_9⟩ := cl10 BK510.out))
             go_ret
             exact ⟨by rfl, by (with_reducible exact HB.out)⟩
            ·rw [if_neg c91] at H
             have c91b0 : (t524.toList == t497.toList) = false := beq_eq_false_iff_ne.mpr c91
             have c91b1 : (t524.toList != t497.toList) = true := bne_iff_ne.mpr c91
             obtain rfl := Option.some.inj H
             go_wp2_with (first | ((with_reducible refine zab (f := 12) rfl ?_); refine zjc (some 72) rfl rfl Tryd.func12 (by kernel_rfl) rfl #[.string (t494 ++ a1)] rfl (by (try simp only [List.map_toArray, List.map_cons, List.map_nil]); first | done | rfl | (simp only [List.length_drop, List.length_take]; rfl)) ?_; (with_reducible refine (znc.calls (t494 ++ a1) t522 t523 t524 t525 true t527 t530 t533 t534 t535 true _ A84.out (by exact GL.at HG.out (by repeat (first | (with_reducible first | exact HB.out | apply zo | apply ze | apply zy) | exact HB.out)))).mono ?_); rintro e w112 ⟨v528, v531, rfl, ho0, ho1, hb⟩; refine ⟨_, rfl, ?_⟩; have n0_ := za.mk (Kd.R_elder' (by (with_reducible repeat (first | apply Kd.R_alloc | apply Kd.R_drewN | apply Kd.R_drew)); exact HO_511005.out) (Kd.R_base ho0) hb); have n1_ := za.mk (Kd.R_elder' (by (with_reducible repeat (first | apply Kd.R_alloc | apply Kd.R_drewN | apply Kd.R_drew)); exact HO_511006.out) (Kd.R_base ho1) hb); have n2_ := za.mk (Kd.R_lower (Kd.R_new' ho0 (Kd.R_lt (by (with_reducible repeat (first | apply Kd.R_alloc | apply Kd.R_drewN | apply Kd.R_drew)); exact HO_511005.out))) (zl (by (with_reducible exact HB.out)))); have n3_ := za.mk (Kd.R_lower (Kd.R_new' ho1 (Kd.R_lt (by (with_reducible repeat (first | apply Kd.R_alloc | apply Kd.R_drewN | apply Kd.R_drew)); exact HO_511006.out))) (zl (by (with_reducible exact HB.out)))); have n4_ := za.mk (zk BK492.out hb); have n5_ := za.mk (zk BK510.out hb); have n6_ := za.mk (zm (by (with_reducible exact HB.out)) hb); clear HO_511005; clear HO_511006; clear BK492; clear BK510; clear HB; have HO_511005 := n0_; have HO_511006 := n1_; have HO529 := n2_; have HO532 := n3_; have BK492 := n4_; have BK510 := n5_; have HB := n6_; clear n0_ n1_ n2_ n3_ n4_ n5_ n6_; (try clear hb); (try clear hb2); (try clear hk); (try clear hi); (try clear ho0); (try clear ho1)) | ((with_reducible refine zjb (N := 8) rfl ?_); (try (refine zyb (by rfl) ?_; dsimp only)); refine zec ?hg (N := 8) ?hd (cs := #[.string ⟨#[]⟩, .string ⟨#[]⟩, .string ⟨#[]⟩, .string ⟨#[]⟩, .bool false, .slice none 0 0, .slice none 0 0, .bool false, .bool false, .string ⟨#[]⟩]) (t := 33) ?hr ?_; (case hd => rfl); (case hg => rfl); (case hr => first | (go_simp; done) | (go_simp; rfl)); intro gb537 hg w113 hbox hb; have n0_ := za.mk (Kd.R_below (by (with_reducible repeat (first | apply Kd.R_alloc | apply Kd.R_drewN | apply Kd.R_drew)); exact HO_511005.out) hb); have n1_ := za.mk (Kd.R_below (by (with_reducible repeat (first | apply Kd.R_alloc | apply Kd.R_drewN | apply Kd.R_drew)); exact HO_511006.out) hb); have n2_ := za.mk (Kd.R_below (by (with_reducible repeat (first | apply Kd.R_alloc | apply Kd.R_drewN | apply Kd.R_drew)); exact HO529.out) hb); have n3_ := za.mk (Kd.R_below (by (with_reducible repeat (first | apply Kd.R_alloc | apply Kd.R_drewN | apply Kd.R_drew)); exact HO532.out) hb); have n4_ := za.mk (zk BK492.out hb); have n5_ := za.mk (zk BK510.out hb); have n6_ := za.mk (zm (by (with_reducible exact HB.out)) hb); have n7_ := za.mk hbox; have n8_ := za.mk ((by rw [hg]; exact (zl (by (with_reducible exact HB.out))) : w.heap.size ≤ gb537)); have n9_ := za.mk ((by rw [hg]; exact (zl (by (with_reducible exact HB.out))) : w.heap.size ≤ gb537)); have n10_ := za.mk ((by rw [hg]; exact Nat.ne_of_lt (zac BK492.out) : gb492 ≠ gb537)); have n11_ := za.mk ((by rw [hg]; exact Nat.ne_of_gt (zac BK492.out) : gb537 ≠ gb492)); have n12_ := za.mk ((by rw [hg]; exact Nat.ne_of_lt (zac BK510.out) : gb510 ≠ gb537)); have n13_ := za.mk ((by rw [hg]; exact Nat.ne_of_gt (zac BK510.out) : gb537 ≠ gb510)); clear HO_511005; clear HO_511006; clear HO529; clear HO532; clear BK492; clear BK510; clear HB; have HO_511005 := n0_; have HO_511006 := n1_; have HO529 := n2_; have HO532 := n3_; have BK492 := n4_; have BK510 := n5_; have HB := n6_; have BK537 := n7_; have GW537 := n8_; have GE537 := n9_; have NB492_537 := n10_; have NB537_492 := n11_; have NB510_537 := n12_; have NB537_510 := n13_; clear n0_ n1_ n2_ n3_ n4_ n5_ n6_ n7_ n8_ n9_ n10_ n11_ n12_ n13_; clear hb hbox hg; have hnb114 := NB537_492.out; have hnc114 := NB492_537.out; have hnb115 := NB537_510.out; have hnc115 := NB510_537.out; obtain ⟨hcz116_0, hcz116_1, hcz116_2, hcz116_3, hcz116_4, hcz116_5, hcz116_6, hcz116_7, hcz116_8, hcz116_9, hfz116_0, hfz116_1, hfz116_2, hfz116_3, hfz116_4, hfz116_5, hfz116_6, hfz116_7, hfz116_8, hfz116_9⟩ := cl10 BK537.out; obtain ⟨Ao117, co117, eo117⟩ := Kd.R_slice HO529.out; subst eo117; obtain ⟨Ao118, co118, eo118⟩ := Kd.R_slice HO532.out; subst eo118) | ((with_reducible refine zab (f := 13) rfl ?_); refine zjc (some 79) rfl rfl Tryd.func13 (by kernel_rfl) rfl #[.string (t494 ++ a1)] rfl (by (try simp only [List.map_toArray, List.map_cons, List.map_nil]); first | done | rfl | (simp only [List.length_drop, List.length_take]; rfl)) ?_; (with_reducible refine (zg.calls kj12 (t494 ++ a1) t538 t539 t540 t541 t542 t543 t546 t549 t550 t551 true _ A85.out).mono ?_); rintro e w119 ⟨v544, v547, rfl, ho0, ho1, hb⟩; refine ⟨_, rfl, ?_⟩; have n0_ := za.mk (Kd.R_elder' (by (with_reducible repeat (first | apply Kd.R_alloc | apply Kd.R_drewN | apply Kd.R_drew)); exact (Kd.R_mono (zgc (Kd.R_types HO_511005.out BK537.out (by decide))) (fun _ h_ => h_.1))) (Kd.R_base ho0) hb); have n1_ := za.mk (Kd.R_elder' (by (with_reducible repeat (first | apply Kd.R_alloc | apply Kd.R_drewN | apply Kd.R_drew)); exact (Kd.R_mono (zgc (Kd.R_types HO_511006.out BK537.out (by decide))) (fun _ h_ => h_.1))) (Kd.R_base ho1) hb); have n2_ := za.mk (Kd.R_elder' (by (with_reducible repeat (first | apply Kd.R_alloc | apply Kd.R_drewN | apply Kd.R_drew)); exact (Kd.R_mono (zgc (Kd.R_types HO529.out BK537.out (by decide))) (fun _ h_ => h_.1))) (Kd.R_base ho0) hb); have n3_ := za.mk (Kd.R_elder' (by (with_reducible repeat (first | apply Kd.R_alloc | apply Kd.R_drewN | apply Kd.R_drew)); exact (Kd.R_mono (zgc (Kd.R_types HO532.out BK537.out (by decide))) (fun _ h_ => h_.1))) (Kd.R_base ho1) hb); have n4_ := za.mk (Kd.R_lower (Kd.R_new' (Kd.R_new' ho0 (Kd.R_lt (by (with_reducible repeat (first | apply Kd.R_alloc | apply Kd.R_drewN | apply Kd.R_drew)); exact (Kd.R_mono (zgc (Kd.R_types HO_511005.out BK537.out (by decide))) (fun _ h_ => h_.1))))) (Kd.R_lt (by (with_reducible repeat (first | apply Kd.R_alloc | apply Kd.R_drewN | apply Kd.R_drew)); exact (Kd.R_mono (zgc (Kd.R_types HO529.out BK537.out (by decide))) (fun _ h_ => h_.1))))) (zl (by repeat (first | (with_reducible first | exact HB.out | apply zo | apply ze | apply zy | refine zi ?_ GE492.out | refine zi ?_ GE510.out | refine zi ?_ GE537.out) | exact HB.out)))); have n5_ := za.mk (Kd.R_lower (Kd.R_new' (Kd.R_new' ho1 (Kd.R_lt (by (with_reducible repeat (first | apply Kd.R_alloc | apply Kd.R_drewN | apply Kd.R_drew)); exact (Kd.R_mono (zgc (Kd.R_types HO_511006.out BK537.out (by decide))) (fun _ h_ => h_.1))))) (Kd.R_lt (by (with_reducible repeat (first | apply Kd.R_alloc | apply Kd.R_drewN | apply Kd.R_drew)); exact (Kd.R_mono (zgc (Kd.R_types HO532.out BK537.out (by decide))) (fun _ h_ => h_.1))))) (zl (by repeat (first | (with_reducible first | exact HB.out | apply zo | apply ze | apply zy | refine zi ?_ GE492.out | refine zi ?_ GE510.out | refine zi ?_ GE537.out) | exact HB.out)))); have n6_ := za.mk (zk (g := gb492) (o := .cells #[.slice A0_0 l0_0.length c0_0, .int .u8 a0_1, .slice A0_2 l0_2.length c0_2, .slice A0_3 l0_3.length c0_3, .string ⟨#[]⟩, .bool false, .int .u16 a0_6] 26 (0, 0)) (by (iterate 10 refine zmb ?_ NB492_537.out _); exact BK492.out) hb); have n7_ := za.mk (zk (g := gb510) (o := .cells #[.string t495, .string t496, .string t497, .string t498, .bool t499, .slice Ao19 t500.length co19, .slice Ao20 t503.length co20, .bool t506, .bool t507, .string t508] 33 (0, 0)) (by (iterate 10 refine zmb ?_ NB510_537.out _); exact BK510.out) hb); have n8_ := za.mk (zk (g := gb537) (o := .cells #[.string t522, .string t523, .string t524, .string t525, .bool true, .slice Ao117 t527.length co117, .slice Ao118 t530.length co118, .bool t533, .bool t534, .string t535] 33 (0, 0)) (by exact put10 BK537.out) hb); have n9_ := za.mk (zm (by repeat (first | (with_reducible first | exact HB.out | apply zo | apply ze | apply zy | refine zi ?_ GE492.out | refine zi ?_ GE510.out | refine zi ?_ GE537.out) | exact HB.out)) hb); clear HO_511005; clear HO_511006; clear HO529; clear HO532; clear BK492; clear BK510; clear BK537; clear HB; have HO_511005 := n0_; have HO_511006 := n1_; have HO529 := n2_; have HO532 := n3_; have HO545 := n4_; have HO548 := n5_; have BK492 := n6_; have BK510 := n7_; have BK537 := n8_; have HB := n9_; clear n0_ n1_ n2_ n3_ n4_ n5_ n6_ n7_ n8_ n9_; (try clear hb); (try clear hb2); (try clear hk); (try clear hi); (try clear ho0); (try clear ho1)) | ((with_reducible refine zjb (N := 10) rfl ?_); (try (refine zyb (by rfl) ?_; dsimp only)); refine zec ?hg (N := 10) ?hd (cs := #[.string ⟨#[]⟩, .string ⟨#[]⟩, .string ⟨#[]⟩, .string ⟨#[]⟩, .bool false, .slice none 0 0, .slice none 0 0, .bool false, .bool false, .string ⟨#[]⟩]) (t := 33) ?hr ?_; (case hd => rfl); (case hg => rfl); (case hr => first | (go_simp; done) | (go_simp; rfl)); intro gb553 hg w120 hbox hb; have n0_ := za.mk (Kd.R_below (by (with_reducible repeat (first | apply Kd.R_alloc | apply Kd.R_drewN | apply Kd.R_drew)); exact HO_511005.out) hb); have n1_ := za.mk (Kd.R_below (by (with_reducible repeat (first | apply Kd.R_alloc | apply Kd.R_drewN | apply Kd.R_drew)); exact HO_511006.out) hb); have n2_ := za.mk (Kd.R_below (by (with_reducible repeat (first | apply Kd.R_alloc | apply Kd.R_drewN | apply Kd.R_drew)); exact HO529.out) hb); have n3_ := za.mk (Kd.R_below (by (with_reducible repeat (first | apply Kd.R_alloc | apply Kd.R_drewN | apply Kd.R_drew)); exact HO532.out) hb); have n4_ := za.mk (Kd.R_below (by (with_reducible repeat (first | apply Kd.R_alloc | apply Kd.R_drewN | apply Kd.R_drew)); exact HO545.out) hb); have n5_ := za.mk (Kd.R_below (by (with_reducible repeat (first | apply Kd.R_alloc | apply Kd.R_drewN | apply Kd.R_drew)); exact HO548.out) hb); have n6_ := za.mk (zk BK492.out hb); have n7_ := za.mk (zk BK510.out hb); have n8_ := za.mk (zk BK537.out hb); have n9_ := za.mk (zm (by (with_reducible exact HB.out)) hb); have n10_ := za.mk hbox; have n11_ := za.mk ((by rw [hg]; exact (zl (by (with_reducible exact HB.out))) : w.heap.size ≤ gb553)); have n12_ := za.mk ((by rw [hg]; exact (zl (by (with_reducible exact HB.out))) : w.heap.size ≤ gb553)); have n13_ := za.mk ((by rw [hg]; exact Nat.ne_of_lt (zac BK492.out) : gb492 ≠ gb553)); have n14_ := za.mk ((by rw [hg]; exact Nat.ne_of_gt (zac BK492.out) : gb553 ≠ gb492)); have n15_ := za.mk ((by rw [hg]; exact Nat.ne_of_lt (zac BK510.out) : gb510 ≠ gb553)); have n16_ := za.mk ((by rw [hg]; exact Nat.ne_of_gt (zac BK510.out) : gb553 ≠ gb510)); have n17_ := za.mk ((by rw [hg]; exact Nat.ne_of_lt (zac BK537.out) : gb537 ≠ gb553)); have n18_ := za.mk ((by rw [hg]; exact Nat.ne_of_gt (zac BK537.out) : gb553 ≠ gb537)); clear HO_511005; clear HO_511006; clear HO529; clear HO532; clear HO545; clear HO548; clear BK492; clear BK510; clear BK537; clear HB; have HO_511005 := n0_; have HO_511006 := n1_; have HO529 := n2_; have HO532 := n3_; have HO545 := n4_; have HO548 := n5_; have BK492 := n6_; have BK510 := n7_; have BK537 := n8_; have HB := n9_; have BK553 := n10_; have GW553 := n11_; have GE553 := n12_; have NB492_553 := n13_; have NB553_492 := n14_; have NB510_553 := n15_; have NB553_510 := n16_; have NB537_553 := n17_; have NB553_537 := n18_; clear n0_ n1_ n2_ n3_ n4_ n5_ n6_ n7_ n8_ n9_ n10_ n11_ n12_ n13_ n14_ n15_ n16_ n17_ n18_; clear hb hbox hg; have hnb121 := NB553_492.out; have hnc121 := NB492_553.out; have hnb122 := NB553_510.out; have hnc122 := NB510_553.out; have hnb123 := NB553_537.out; have hnc123 := NB537_553.out; obtain ⟨hcz124_0, hcz124_1, hcz124_2, hcz124_3, hcz124_4, hcz124_5, hcz124_6, hcz124_7, hcz124_8, hcz124_9, hfz124_0, hfz124_1, hfz124_2, hfz124_3, hfz124_4, hfz124_5, hfz124_6, hfz124_7, hfz124_8, hfz124_9⟩ := cl10 BK553.out; obtain ⟨Ao125, co125, eo125⟩ := Kd.R_slice HO545.out; subst eo125; obtain ⟨Ao126, co126, eo126⟩ := Kd.R_slice HO548.out; subst eo126; obtain ⟨hcz127_0, hcz127_1, hcz127_2, hcz127_3, hcz127_4, hcz127_5, hcz127_6, hcz127_7, hcz127_8, hcz127_9, hfz127_0, hfz127_1, hfz127_2, hfz127_3, hfz127_4, hfz127_5, hfz127_6, hfz127_7, hfz127_8, hfz127_9⟩ := cl10 BK537.out) | (go_at_call 14; (with_reducible refine (zx.calls kj12 t522 t523 t524 t525 true _ _ t527 _ _ t530 t533 t534 t535 t538 t539 t540 t541 t542 _ _ t543 _ _ t546 t549 t550 t551 true _ ?side1 ?side2 ?side3 ?side4 ?side5 ?side6 ?side7 ?side8 A88.out).mono ?_); (case side1 => refine (Kd.R_reads' (e := 54) (base := w.heap.size) (ok := fun k_ => ((True ∧ some k_ ≠ (.slice Ao19 t500.length co19 : Value).ownBlock) ∧ some k_ ≠ (.slice Ao125 t543.length co125 : Value).ownBlock)) (n := t527.length) (c := co117) ?_).2.2; exact (by (with_reducible repeat (first | apply Kd.R_alloc | apply Kd.R_drewN | apply Kd.R_drew)); exact (Kd.R_mono (zgc (Kd.R_types HO529.out BK553.out (by decide))) (fun _ h_ => h_.1)))); (case side2 => exact (Kd.R_reads' HO529.out).2.1); (case side3 => refine (Kd.R_reads' (e := 58) (base := w.heap.size) (ok := fun k_ => ((True ∧ some k_ ≠ (.slice Ao20 t503.length co20 : Value).ownBlock) ∧ some k_ ≠ (.slice Ao126 t546.length co126 : Value).ownBlock)) (n := t530.length) (c := co118) ?_).2.2; exact (by (with_reducible repeat (first | apply Kd.R_alloc | apply Kd.R_drewN | apply Kd.R_drew)); exact (Kd.R_mono (zgc (Kd.R_types HO532.out BK553.out (by decide))) (fun _ h_ => h_.1)))); (case side4 => exact (Kd.R_reads' HO532.out).2.1); (case side5 => refine (Kd.R_reads' (e := 54) (base := w.heap.size) (ok := fun k_ => ((True ∧ some k_ ≠ (.slice Ao19 t500.length co19 : Value).ownBlock) ∧ some k_ ≠ (.slice Ao117 t527.length co117 : Value).ownBlock)) (n := t543.length) (c := co125) ?_).2.2; exact (by (with_reducible repeat (first | apply Kd.R_alloc | apply Kd.R_drewN | apply Kd.R_drew)); exact (Kd.R_mono (zgc (Kd.R_types HO545.out BK553.out (by decide))) (fun _ h_ => h_.1)))); (case side6 => exact (Kd.R_reads' HO545.out).2.1); (case side7 => refine (Kd.R_reads' (e := 58) (base := w.heap.size) (ok := fun k_ => ((True ∧ some k_ ≠ (.slice Ao20 t503.length co20 : Value).ownBlock) ∧ some k_ ≠ (.slice Ao118 t530.length co118 : Value).ownBlock)) (n := t546.length) (c := co126) ?_).2.2; exact (by (with_reducible repeat (first | apply Kd.R_alloc | apply Kd.R_drewN | apply Kd.R_drew)); exact (Kd.R_mono (zgc (Kd.R_types HO548.out BK553.out (by decide))) (fun _ h_ => h_.1)))); (case side8 => exact (Kd.R_reads' HO548.out).2.1); rintro e w128 ⟨rfl, hb⟩; replace HO_511005 := za.mk (Kd.R_below (by (with_reducible repeat (first | apply Kd.R_alloc | apply Kd.R_drewN | apply Kd.R_drew)); exact (Kd.R_mono (zgc (Kd.R_types HO_511005.out BK553.out (by decide))) (fun _ h_ => h_.1))) hb); replace HO_511006 := za.mk (Kd.R_below (by (with_reducible repeat (first | apply Kd.R_alloc | apply Kd.R_drewN | apply Kd.R_drew)); exact (Kd.R_mono (zgc (Kd.R_types HO_511006.out BK553.out (by decide))) (fun _ h_ => h_.1))) hb); replace HO529 := za.mk (Kd.R_below (by (with_reducible repeat (first | apply Kd.R_alloc | apply Kd.R_drewN | apply Kd.R_drew)); exact (Kd.R_mono (zgc (Kd.R_types HO529.out BK553.out (by decide))) (fun _ h_ => h_.1))) hb); replace HO532 := za.mk (Kd.R_below (by (with_reducible repeat (first | apply Kd.R_alloc | apply Kd.R_drewN | apply Kd.R_drew)); exact (Kd.R_mono (zgc (Kd.R_types HO532.out BK553.out (by decide))) (fun _ h_ => h_.1))) hb); replace HO545 := za.mk (Kd.R_below (by (with_reducible repeat (first | apply Kd.R_alloc | apply Kd.R_drewN | apply Kd.R_drew)); exact (Kd.R_mono (zgc (Kd.R_types HO545.out BK553.out (by decide))) (fun _ h_ => h_.1))) hb); replace HO548 := za.mk (Kd.R_below (by (with_reducible repeat (first | apply Kd.R_alloc | apply Kd.R_drewN | apply Kd.R_drew)); exact (Kd.R_mono (zgc (Kd.R_types HO548.out BK553.out (by decide))) (fun _ h_ => h_.1))) hb); replace BK492 := za.mk (zk (g := gb492) (o := .cells #[.slice A0_0 l0_0.length c0_0, .int .u8 a0_1, .slice A0_2 l0_2.length c0_2, .slice A0_3 l0_3.length c0_3, .string ⟨#[]⟩, .bool false, .int .u16 a0_6] 26 (0, 0)) (by (iterate 10 refine zmb ?_ NB492_553.out _); exact BK492.out) hb); replace BK510 := za.mk (zk (g := gb510) (o := .cells #[.string t495, .string t496, .string t497, .string t498, .bool t499, .slice Ao19 t500.length co19, .slice Ao20 t503.length co20, .bool t506, .bool t507, .string t508] 33 (0, 0)) (by (iterate 10 refine zmb ?_ NB510_553.out _); exact BK510.out) hb); replace BK537 := za.mk (zk (g := gb537) (o := .cells #[.string t522, .string t523, .string t524, .string t525, .bool true, .slice Ao117 t527.length co117, .slice Ao118 t530.length co118, .bool t533, .bool t534, .string t535] 33 (0, 0)) (by (iterate 10 refine zmb ?_ NB537_553.out _); exact BK537.out) hb); replace BK553 := za.mk (zk (g := gb553) (o := .cells #[.string t538, .string t539, .string t540, .string t541, .bool t542, .slice Ao125 t543.length co125, .slice Ao126 t546.length co126, .bool t549, .bool t550, .string t551] 33 (0, 0)) (by exact put10 BK553.out) hb); replace HB := za.mk (zm (by repeat (first | (with_reducible first | exact HB.out | apply zo | apply ze | apply zy | refine zi ?_ GE492.out | refine zi ?_ GE510.out | refine zi ?_ GE537.out | refine zi ?_ GE553.out) | exact HB.out)) hb); (try clear hb); (try clear hb2); (try clear hk); (try clear hi); obtain ⟨hcz129_0, hcz129_1, hcz129_2, hcz129_3, hcz129_4, hcz129_5, hcz129_6, hcz129_7, hcz129_8, hcz129_9, hfz129_0, hfz129_1, hfz129_2, hfz129_3, hfz129_4, hfz129_5, hfz129_6, hfz129_7, hfz129_8, hfz129_9⟩ := cl10 BK537.out; have hnb130 := NB510_492.out; have hnc130 := NB492_510.out; obtain ⟨hcz131_0, hcz131_1, hcz131_2, hcz131_3, hcz131_4, hcz131_5, hcz131_6, hcz131_7, hcz131_8, hcz131_9, hfz131_0, hfz131_1, hfz131_2, hfz131_3, hfz131_4, hfz131_5, hfz131_6, hfz131_7, hfz131_8, hfz131_9⟩ := cl10 BK510.out))
             go_ret
             exact ⟨by rfl, by (with_reducible exact HB.out)⟩
           ·replace c90 := Bool.eq_false_iff.mpr c90
            subst c90
            have H1 : (some false) = some r := by rw [if_neg (show ¬ (false = true) by decide)] at H; exact H
            clear H
            have H := H1
            clear H1
            obtain rfl := Option.some.inj H
            exact absurd HT.out Bool.false_ne_true
          ·replace c89 := Bool.eq_false_iff.mpr c89
           subst c89
           have H1 : (some false) = some r := by rw [if_neg (show ¬ (false = true) by decide)] at H; exact H
           clear H
           have H := H1
           clear H1
           obtain rfl := Option.some.inj H
           exact absurd HT.out Bool.false_ne_true
         ·replace c87 := Bool.eq_false_iff.mpr c87
          subst c87
          have H1 : (some false) = some r := by rw [if_neg (show ¬ (false = true) by decide)] at H; exact H
          clear H
          have H := H1
          clear H1
          obtain rfl := Option.some.inj H
          exact absurd HT.out Bool.false_ne_true
        ·replace c86 := Bool.eq_false_iff.mpr c86
         subst c86
         have H1 : (some false) = some r := by rw [if_neg (show ¬ (false = true) by decide)] at H; exact H
         clear H
         have H := H1
         clear H1
         obtain rfl := Option.some.inj H
         exact absurd HT.out Bool.false_ne_true
       ·rw [if_neg c83] at H
        exact absurd H (by simp)
def zc.Pure : Prop := ∀ (l0_0 : List Int) (a0_1 : Int) (l0_2 : List Int) (l0_3 : List Int) (a0_4 : ByteArray) (a0_5 : Bool) (a0_6 : Int) (a1 : ByteArray), l0_0.length ≤ maxLen → (∀ x ∈ l0_0, (Lit.int .u16 x).wf = true) → (Lit.int .u8 a0_1).wf = true → l0_2.length ≤ maxLen → (∀ x ∈ l0_2, (Lit.int .u8 x).wf = true) → l0_3.length ≤ maxLen → (∀ x ∈ l0_3, (Lit.int .u16 x).wf = true) → a0_4.size ≤ maxLen → (Lit.int .u16 a0_6).wf = true → a1.size ≤ 140737488351232 → ∃ k, zc.f k l0_0 a0_1 l0_2 l0_3 a0_4 a0_5 a0_6 a1 = some true
theorem zc.walk (P : zc.Pure) (a0_0 : Option Addr) (len0_0 cap0_0 : Nat) (z0_0 : List Int) (a0_1 : Int) (a0_2 : Option Addr) (len0_2 cap0_2 : Nat) (z0_2 : List Int) (a0_3 : Option Addr) (len0_3 cap0_3 : Nat) (z0_3 : List Int) (a0_4 : ByteArray) (a0_5 : Bool) (a0_6 : Int) (a1 : ByteArray) (w : World) (w0_0 : ((a0_0 = none ∧ len0_0 = 0 ∧ cap0_0 = 0 ∧ z0_0 = []) ∨ ∃ x, a0_0 = some x ∧ len0_0 ≤ cap0_0 ∧ cap0_0 ≤ maxLen ∧ z0_0.length = cap0_0 ∧ (∀ i, i < z0_0.length → w.cell? (x.add i) = some (.int .u16 (z0_0.getD i 0))) ∧ ∀ n ∈ z0_0, (Lit.int .u16 n).wf = true)) (w0_1 : (Lit.int .u8 a0_1).wf = true) (w0_2 : ((a0_2 = none ∧ len0_2 = 0 ∧ cap0_2 = 0 ∧ z0_2 = []) ∨ ∃ x, a0_2 = some x ∧ len0_2 ≤ cap0_2 ∧ cap0_2 ≤ maxLen ∧ z0_2.length = cap0_2 ∧ (∀ i, i < z0_2.length → w.cell? (x.add i) = some (.int .u8 (z0_2.getD i 0))) ∧ ∀ n ∈ z0_2, (Lit.int .u8 n).wf = true)) (w0_3 : ((a0_3 = none ∧ len0_3 = 0 ∧ cap0_3 = 0 ∧ z0_3 = []) ∨ ∃ x, a0_3 = some x ∧ len0_3 ≤ cap0_3 ∧ cap0_3 ≤ maxLen ∧ z0_3.length = cap0_3 ∧ (∀ i, i < z0_3.length → w.cell? (x.add i) = some (.int .u16 (z0_3.getD i 0))) ∧ ∀ n ∈ z0_3, (Lit.int .u16 n).wf = true)) (w0_4 : a0_4.size ≤ maxLen) (w0_6 : (Lit.int .u16 a0_6).wf = true) (w1 : a1.size ≤ 140737488351232) (hG : GL w) :
  Calls Tryd.prog 5 #[.agg #[.slice a0_0 len0_0 cap0_0, .int .u8 a0_1, .slice a0_2 len0_2 cap0_2, .slice a0_3 len0_3 cap0_3, .string a0_4, .bool a0_5, .int .u16 a0_6], .string a1] w fun e w' => e = .returned (.bool true) ∧ Below w.heap.size w w' := by
 obtain ⟨l0_0, rfl, hr0_0, hm0_0, hw0_0, hc0_0⟩ := zud.ofRowC w0_0
 obtain ⟨l0_2, rfl, hr0_2, hm0_2, hw0_2, hc0_2⟩ := zud.ofRowC w0_2
 obtain ⟨l0_3, rfl, hr0_3, hm0_3, hw0_3, hc0_3⟩ := zud.ofRowC w0_3
 obtain ⟨k, h⟩ := P l0_0 a0_1 l0_2 l0_3 a0_4 a0_5 a0_6 a1 hm0_0 hw0_0 w0_1 hm0_2 hw0_2 hm0_3 hw0_3 w0_4 w0_6 w1
 refine (zc.calls k _ _ l0_0 a0_1 _ _ l0_2 _ _ l0_3 a0_4 a0_5 a0_6 a1 true w (Kd.C_of_reads (d := (0 : Int)) (h1 := fun _ => rfl) hr0_0) hc0_0 (Kd.C_of_reads (d := (0 : Int)) (h1 := fun _ => rfl) hr0_2) hc0_2 (Kd.C_of_reads (d := (0 : Int)) (h1 := fun _ => rfl) hr0_3) hc0_3 h hG rfl).mono ?_
 rintro e w' ⟨rfl, hd⟩
 exact ⟨rfl, hd⟩
end Go.Proofs.YtapaijpglfmfgaaDoor.Q
end
section
namespace Go.Proofs.YtapaijpglfmfgaaDoor.V
open Go.RowKit YtapaijpglfmfgaaDoor.Q YtapaijpglfmfgaaDoorG YtapaijpglfmfgaaDoorP YtapaijpglfmfgaaDoorH YtapaijpglfmfgaaDoorB YtapaijpglfmfgaaDoorM YtapaijpglfmfgaaDoorW.PrintWords YtapaijpglfmfgaaDoorW.PrintLast
theorem rd_nat (l : List Int) (i : Nat) : rd l (i : Int) = l.getD i 0 := by simp [rd]
theorem intOf_l2 (m : List Int) (hm : m.length ≤ 1000000) : ∀ (n k : Nat), m.length - k = n → k ≤ m.length →
  Ev (fun q => zbb.l2 q m (ztd m.length (m.take k)) (k : Int)) (false, strOfNums m.reverse) := by
 intro n
 induction n with
 | zero =>
  intro k hn hk
  obtain rfl : k = m.length := by omega
  refine Ev.succ ?_
  simp only [zbb.l2]
  refine Ev.neg (fun _ => by first | omega | assumption | nofun) ?_
  refine Ev.eq (Ev.now _) ?_
  rw [List.take_length, zhi _ rfl]
 | succ n ih =>
  intro k hn hk
  have hlt : k < m.length := by omega
  have htl : (m.take k).length = k := by rw [List.length_take]; omega
  have hcl : (ztd m.length (m.take k)).length = m.length := content_len (by omega)
  refine Ev.succ ?_
  simp only [zbb.l2, rd_nat]
  refine Ev.pos (fun _ => by first | omega | trivial | assumption) ?_
  refine Ev.pos (fun _ => by first | omega | trivial | assumption) ?_
  rw [w64 (i := (m.length : Int) - 1) (by omega) (by omega), w64 (i := (m.length : Int) - 1 - (k : Int)) (by omega) (by omega), w64 (i := (k : Int) + 1) (by omega) (by omega)]
  refine Ev.pos (fun _ => by omega) ?_
  refine Ev.pos (fun _ => by rw [hcl]; omega) ?_
  have e1 : ((m.length : Int) - 1 - (k : Int)).toNat = m.length - (m.take k).length - 1 := by rw [htl]; omega
  rw [e1, zii _ (by rw [htl]; exact hlt)]
  have e2 : m.take k ++ [m.getD k 0] = m.take (k + 1) := by
   rw [List.take_add_one, List.getElem?_eq_getElem hlt, List.getD_eq_getElem?_getD, List.getElem?_eq_getElem hlt]
   rfl
  rw [e2]
  exact ih (k + 1) (by omega) (by omega)
theorem intOf_l1 (s : ByteArray) (i : Int) {r : Bool × ByteArray} : ∀ (rest done : List Int) (c : Nat), Byt rest → c ≤ 300 → done.length + rest.length ≤ 1000000 →
  Ev (fun q => zbb.l1 q s (done ++ (mul10 rest c).1) i ((mul10 rest c).2 : Int) ((done.length + rest.length : Nat) : Int)) r → Ev (fun q => zbb.l1 q s (done ++ rest) i (c : Int) (done.length : Int)) r
 | [], done, c, _, _, _, h => by simpa [mul10] using h
 | x :: rest, done, c, hb, hc, hl, h => by
  have hx := hb.cons.1
  simp only [List.length_cons] at hl
  refine Ev.succ ?_
  simp only [zbb.l1, rd_nat]
  refine Ev.pos (fun _ => by rw [List.length_append, List.length_cons]; omega) ?_
  refine Ev.pos (fun _ => by omega) ?_
  have hg : (done ++ x :: rest).getD done.length 0 = x := by simp [List.getD_eq_getElem?_getD]
  rw [hg, w64 (i := x) (by omega) (by omega), w64 (i := 10 * x) (by omega) (by omega), w64 (i := (c : Int) + 10 * x) (by omega) (by omega), w64 (i := (done.length : Int) + 1) (by omega) (by omega), Int.toNat_natCast]
  have e0 : (c : Int) + 10 * x = ((c + 10 * x.toNat : Nat) : Int) := by omega
  have e1 : Int.tmod ((c : Int) + 10 * x) 256 % 256 = (((c + 10 * x.toNat) % 256 : Nat) : Int) := by
   rw [e0, Int.tmod_eq_emod_of_nonneg (by omega)]
   omega
  have e2 : wrap64 (Int.tdiv ((c : Int) + 10 * x) 256) = (((c + 10 * x.toNat) / 256 : Nat) : Int) := by
   rw [e0, Int.tdiv_eq_ediv_of_nonneg (by omega), w64 (by omega) (by omega)]
   omega
  rw [e1, e2]
  have e3 : (done ++ x :: rest).set done.length (((c + 10 * x.toNat) % 256 : Nat) : Int) = (done ++ [(((c + 10 * x.toNat) % 256 : Nat) : Int)]) ++ rest := by simp
  rw [e3]
  have ih := intOf_l1 s i (r := r) rest (done ++ [(((c + 10 * x.toNat) % 256 : Nat) : Int)]) ((c + 10 * x.toNat) / 256) hb.cons.2 (by omega) (by simp; omega)
  have e4 : ((done ++ [(((c + 10 * x.toNat) % 256 : Nat) : Int)]).length : Int) = (done.length : Int) + 1 := by simp
  rw [e4] at ih
  refine ih ?_
  simp only [mul10] at h
  have e5 : (((done ++ [(((c + 10 * x.toNat) % 256 : Nat) : Int)]).length + rest.length : Nat) : Int) = ((done.length + (x :: rest).length : Nat) : Int) := by simp; omega
  rw [e5, List.append_assoc]
  exact h
theorem pushD_len (m : List Int) (d : Nat) : (pushD m d).length ≤ m.length + 1 := by
 unfold pushD
 split
 ·simp [zkg]
 ·rw [zkg]; omega
theorem intOf_l0 (s : ByteArray) (hs : s.size ≤ 200000) (hd : ∀ c ∈ bytesOf s, isD c = true) : ∀ (n i : Nat) (m : List Int), s.size - i = n → i ≤ s.size → m.length ≤ i → Tight m (decL ((bytesOf s).take i)) →
  Ev (fun q => zbb.l0 q s m (i : Int)) (false, magB (decL (bytesOf s))) := by
 intro n
 induction n with
 | zero =>
  intro i m hn hi hm ht
  obtain rfl : i = s.size := by omega
  rw [List.take_of_length_le (by rw [bytesOf_length]; exact Nat.le_refl _)] at ht
  refine Ev.succ ?_
  simp only [zbb.l0]
  refine Ev.neg (fun _ => by first | omega | assumption | nofun) ?_
  refine Ev.pos (fun _ => by omega) ?_
  refine Ev.pos (fun _ => by omega) ?_
  have h := intOf_l2 m (by omega) _ 0 rfl (Nat.zero_le _)
  have e : ztd m.length (m.take 0) = List.replicate ((m.length : Int)).toNat 0 := by simp [ztd]
  rw [e] at h
  refine Ev.eq h ?_
  rw [ht.mag]
  rfl
 | succ n ih =>
  intro i m hn hi hm ht
  have hl : i < (bytesOf s).length := by rw [bytesOf_length]; omega
  have hc : isD ((bytesOf s).getD i 0) = true := hd _ (by rw [List.getD_eq_getElem?_getD, List.getElem?_eq_getElem hl]; exact List.getElem_mem hl)
  unfold isD at hc
  have hc2 := of_decide_eq_true hc
  obtain ⟨d, hdd⟩ : ∃ d, d = ((bytesOf s).getD i 0 - 48).toNat := ⟨_, rfl⟩
  refine Ev.succ ?_
  simp only [zbb.l0, zif]
  refine Ev.pos (fun _ => by first | omega | trivial | assumption) ?_
  refine Ev.pos (fun _ => by first | omega | trivial | assumption) ?_
  have e1 : ((bytesOf s).getD i 0 - 48) % 256 = (d : Int) := by omega
  rw [e1]
  have htk : decL ((bytesOf s).take (i + 1)) = 10 * decL ((bytesOf s).take i) + d := by
   rw [List.take_add_one, List.getElem?_eq_getElem hl, hdd, List.getD_eq_getElem?_getD, List.getElem?_eq_getElem hl]
   exact decL_snoc _ _
  have hp : Tight (pushD m d) (decL ((bytesOf s).take (i + 1))) := by rw [htk]; exact push_tight ht (by omega)
  have hcar := znh m d ht.byt (by omega)
  have hpl := pushD_len m d
  have next := ih (i + 1) (pushD m d) (by omega) (by omega) (by omega) hp
  have h := intOf_l1 s (i : Int) (r := (false, magB (decL (bytesOf s)))) m [] d ht.byt (by omega) (by simp; omega)
  simp only [List.nil_append, List.length_nil, Nat.zero_add] at h
  refine h ?_
  refine Ev.succ ?_
  simp only [zbb.l1]
  refine Ev.neg (fun _ => by rw [zkg]; omega) ?_
  rw [w64 (i := (i : Int) + 1) (by omega) (by omega)]
  unfold pushD at next
  by_cases hq : (mul10 m d).2 > 0
  ·rw [if_pos hq] at next
   refine Ev.pos (fun _ => by omega) ?_
   refine Ev.pos (fun _ => by rw [zkg]; omega) ?_
   have e2 : ((mul10 m d).2 : Int) % 256 = ((mul10 m d).2 : Int) := by omega
   rw [e2]
   exact next
  ·rw [if_neg hq] at next
   refine Ev.neg (fun _ => by omega) ?_
   exact next
theorem intOf_ev (s : ByteArray) (hs : s.size ≤ 200000) (hd : ∀ c ∈ bytesOf s, isD c = true) : Ev (fun q => zbb.f q s) (false, magB (decL (bytesOf s))) :=
 intOf_l0 s hs hd _ 0 [] rfl (Nat.zero_le _) (Nat.le_refl _) ⟨fun x hx => by simp at hx, rfl, fun h => absurd rfl h⟩
theorem isDigit_eq (c : Int) : E1.zib.f c = some (isD c) := by
 unfold E1.zib.f isD
 by_cases h : c ≥ 48
 ·rw [if_pos h]; simp; omega
 ·rw [if_neg h]; simp; omega
theorem isDigit2_eq (c : Int) : E2.zib.f c = some (isD c) := by
 unfold E2.zib.f isD
 by_cases h : c ≥ 48
 ·rw [if_pos h]; simp; omega
 ·rw [if_neg h]; simp; omega
theorem alpHex2_eq (c : Int) : E2.zwc.f c = some (isX c) := by
 unfold E2.zwc.f isX
 rw [isDigit2_eq]
 simp only [Option.bind_some]
 cases isD c
 ·rw [if_neg Bool.false_ne_true, Bool.false_or]
  by_cases h : c ≥ 97
  ·rw [if_pos h]; congr 1; rw [decide_eq_decide]; omega
  ·rw [if_neg h]; congr 1; symm; rw [decide_eq_false_iff_not]; omega
 ·rfl
theorem run1_from (s : ByteArray) (hs : s.size ≤ 2000000) : ∀ (n i : Nat), s.size - i = n → i ≤ s.size → Ev (fun k => E1.zcb.l0 k s (i : Int)) ((i + run isD ((bytesOf s).drop i) : Nat) : Int) := by
 intro n
 induction n with
 | zero =>
  intro i hn hi
  refine Ev.succ ?_
  simp only [E1.zcb.l0]
  refine Ev.neg (fun _ => by first | omega | assumption | nofun) ?_
  refine Ev.eq (Ev.now _) ?_
  rw [List.drop_of_length_le (by rw [bytesOf_length]; omega), run_nil]
  rfl
 | succ n ih =>
  intro i hn hi
  have hl : i < (bytesOf s).length := by rw [bytesOf_length]; omega
  refine Ev.succ ?_
  simp only [E1.zcb.l0, zif, isDigit_eq, Option.bind_some]
  refine Ev.pos (fun _ => by first | omega | trivial | assumption) ?_
  refine Ev.pos (fun _ => by first | omega | trivial | assumption) ?_
  rw [zwf _ _ hl]
  cases hd : isD ((bytesOf s).getD i 0)
  ·refine Ev.neg (fun _ => Bool.false_ne_true) ?_
   refine Ev.eq (Ev.now _) ?_
   rw [zmf hd]
   rfl
  ·refine Ev.pos (fun _ => rfl) ?_
   rw [w64 (by omega) (by omega), zeg hd]
   refine Ev.eq (ih (i + 1) (by omega) (by omega)) ?_
   have : i + 1 + run isD ((bytesOf s).drop (i + 1)) = i + (run isD ((bytesOf s).drop (i + 1)) + 1) := by omega
   rw [this]
theorem run1_ev (s : ByteArray) (hs : s.size ≤ 2000000) : Ev (fun k => E1.zcb.f k s) ((run isD (bytesOf s) : Nat) : Int) := by
 have h := run1_from s hs _ 0 rfl (Nat.zero_le _)
 simpa [E1.zcb.f] using h
theorem run2_from (s : ByteArray) (hs : s.size ≤ 2000000) : ∀ (n i : Nat), s.size - i = n → i ≤ s.size → Ev (fun k => E2.zcb.l0 k s (i : Int)) ((i + run isX ((bytesOf s).drop i) : Nat) : Int) := by
 intro n
 induction n with
 | zero =>
  intro i hn hi
  refine Ev.succ ?_
  simp only [E2.zcb.l0]
  refine Ev.neg (fun _ => by first | omega | assumption | nofun) ?_
  refine Ev.eq (Ev.now _) ?_
  rw [List.drop_of_length_le (by rw [bytesOf_length]; omega), run_nil]
  rfl
 | succ n ih =>
  intro i hn hi
  have hl : i < (bytesOf s).length := by rw [bytesOf_length]; omega
  refine Ev.succ ?_
  simp only [E2.zcb.l0, zif, alpHex2_eq, Option.bind_some]
  refine Ev.pos (fun _ => by first | omega | trivial | assumption) ?_
  refine Ev.pos (fun _ => by first | omega | trivial | assumption) ?_
  rw [zwf _ _ hl]
  cases hd : isX ((bytesOf s).getD i 0)
  ·refine Ev.neg (fun _ => Bool.false_ne_true) ?_
   refine Ev.eq (Ev.now _) ?_
   rw [zmf hd]
   rfl
  ·refine Ev.pos (fun _ => rfl) ?_
   rw [w64 (by omega) (by omega), zeg hd]
   refine Ev.eq (ih (i + 1) (by omega) (by omega)) ?_
   have : i + 1 + run isX ((bytesOf s).drop (i + 1)) = i + (run isX ((bytesOf s).drop (i + 1)) + 1) := by omega
   rw [this]
theorem run2_ev (s : ByteArray) (hs : s.size ≤ 2000000) : Ev (fun k => E2.zcb.f k s) ((run isX (bytesOf s) : Nat) : Int) := by
 have h := run2_from s hs _ 0 rfl (Nat.zero_le _)
 simpa [E2.zcb.f] using h
theorem alpHex_eq (c : Int) : zwc.f c = some (isX c) := by
 unfold zwc.f isX
 have h : zib.f c = some (isD c) := by
  unfold zib.f isD
  by_cases h : c ≥ 48
  ·rw [if_pos h]; simp; omega
  ·rw [if_neg h]; simp; omega
 rw [h]
 simp only [Option.bind_some]
 cases isD c
 ·rw [if_neg Bool.false_ne_true, Bool.false_or]
  by_cases h : c ≥ 97
  ·rw [if_pos h]; congr 1; rw [decide_eq_decide]; omega
  ·rw [if_neg h]; congr 1; symm; rw [decide_eq_false_iff_not]; omega
 ·rfl
def zff (k : Nat) (c : List (List Int)) : List S54 := (c.zipIdx k).map fun p => ⟨strOfNums p.1, ⟨false, magB (decL p.1)⟩, (p.2 : Int)⟩
theorem zuh (k : Nat) (d : List Int) (c : List (List Int)) : zff k (d :: c) = ⟨strOfNums d, ⟨false, magB (decL d)⟩, (k : Int)⟩ :: zff (k + 1) c := rfl
theorem str_take (s : ByteArray) (n : Nat) : s.extract 0 n = strOfNums ((bytesOf s).take n) := by rw [← zof, str_B]
theorem str_drop (s : ByteArray) (n : Nat) : s.extract n s.size = strOfNums ((bytesOf s).drop n) := by rw [← zlg, str_B]
theorem zki : ∀ (n : Nat) (s : ByteArray) (acc : List S54), s.size ≤ n → n ≤ 100000 → acc.length + n ≤ 200000 →
  Ev (fun k => zn.l0 k s acc) (acc ++ zff acc.length (numsP n (bytesOf s)).1, strOfNums (numsP n (bytesOf s)).2) := by
 intro n
 induction n with
 | zero =>
  intro s acc hs hn ha
  have h0 : bytesOf s = [] := (size_nil s).1 (by omega)
  have hr := run1_ev s (by omega)
  rw [h0] at hr ⊢
  refine Ev.succ ?_
  simp only [zn.l0]
  refine Ev.bind hr ?_
  refine Ev.pos (fun _ => rfl) ?_
  refine Ev.eq (Ev.now _) ?_
  have : s = strOfNums [] := by rw [← h0, str_B]
  rw [this]
  simp [numsP, zff]
 | succ n ih =>
  intro s acc hs hn ha
  have hr := run1_ev s (by omega)
  have hrl := run_le isD (bytesOf s)
  rw [bytesOf_length] at hrl
  refine Ev.succ ?_
  simp only [zn.l0]
  refine Ev.bind hr ?_
  simp only [numsP]
  by_cases h0 : run isD (bytesOf s) = 0
  ·rw [if_pos h0]
   refine Ev.pos (fun _ => by omega) ?_
   refine Ev.eq (Ev.now _) ?_
   rw [str_B]
   simp [zff]
  ·rw [if_neg h0]
   refine Ev.neg (fun _ => by omega) ?_
   refine Ev.pos (fun _ => by omega) ?_
   refine Ev.pos (fun _ => by omega) ?_
   rw [Int.toNat_natCast]
   have hdig : ∀ c ∈ (bytesOf s).take (run isD (bytesOf s)), isD c = true := fun c hc => zdh hc
   have hio := intOf_ev (s.extract 0 (run isD (bytesOf s))) (by rw [zwb, zof, List.length_take, bytesOf_length]; omega) (by rw [zof]; exact hdig)
   rw [zof] at hio
   refine Ev.bind hio ?_
   refine Ev.pos (fun _ => by omega) ?_
   refine Ev.bind0 rfl ?_
   refine Ev.bind0 rfl ?_
   have hb : bytesOf (s.extract (run isD (bytesOf s)) s.size) = (bytesOf s).drop (run isD (bytesOf s)) := zlg _ _
   obtain ⟨Y, hY⟩ : ∃ Y, Y = s.extract (run isD (bytesOf s)) s.size := ⟨_, rfl⟩
   rw [← hY] at hb ⊢
   have hYs : Y.size ≤ n := by rw [zwb, hb, List.length_drop, bytesOf_length]; omega
   have hYe : Y = strOfNums ((bytesOf s).drop (run isD (bytesOf s))) := by rw [← hb, str_B]
   rw [str_take]
   by_cases h1 : Y.toList = []
   ·have h1b : (bytesOf s).drop (run isD (bytesOf s)) = [] := hb.symm.trans ((zrb Y).1 h1)
    refine Ev.pos (fun _ => h1) ?_
    refine Ev.eq (Ev.now _) ?_
    rw [h1b]
    rw [if_neg (by decide)]
    rw [zuh, hYe, h1b]
    rfl
   ·have hpos : 0 < Y.size := by
     rw [zwb]
     exact List.length_pos_iff.2 (fun e => h1 ((zrb Y).2 e))
    refine Ev.neg (fun _ => h1) ?_
    refine Ev.pos (fun _ => by omega) ?_
    rw [zbh, hb]
    by_cases h2 : ((bytesOf s).drop (run isD (bytesOf s))).getD 0 0 = 46
    ·rw [if_pos h2]
     refine Ev.pos (fun _ => h2) ?_
     refine Ev.pos (fun _ => by omega) ?_
     have hb1 : bytesOf (Y.extract 1 Y.size) = (bytesOf s).drop (run isD (bytesOf s) + 1) := by rw [zlg, hb, List.drop_drop]
     have := ih (Y.extract 1 Y.size) (acc ++ [⟨strOfNums ((bytesOf s).take (run isD (bytesOf s))), ⟨false, magB (decL ((bytesOf s).take (run isD (bytesOf s))))⟩, (acc.length : Int)⟩]) (by rw [zwb, hb1, List.length_drop, bytesOf_length]; omega) (by omega) (by simp; omega)
     rw [hb1] at this
     refine Ev.eq this ?_
     rw [List.append_assoc, List.length_append]
     rfl
    ·rw [if_neg h2]
     refine Ev.neg (fun _ => h2) ?_
     refine Ev.eq (Ev.now _) ?_
     rw [hYe]
     rfl
theorem zkh (s : ByteArray) (hs : s.size ≤ 100000) : Ev (fun k => zn.f k s) (numsA (numsP (bytesOf s).length (bytesOf s)).1, strOfNums (rest1 (bytesOf s))) := by
 have h := zki (bytesOf s).length s [] (by rw [bytesOf_length]; exact Nat.le_refl _) (by rw [bytesOf_length]; exact hs) (by rw [bytesOf_length]; simp; omega)
 rw [List.nil_append] at h
 exact h
end Go.Proofs.YtapaijpglfmfgaaDoor.V
end
section
namespace Go.Proofs.YtapaijpglfmfgaaDoor.V
open Go.RowKit YtapaijpglfmfgaaDoor.Q YtapaijpglfmfgaaDoorG YtapaijpglfmfgaaDoorP YtapaijpglfmfgaaDoorH YtapaijpglfmfgaaDoorB YtapaijpglfmfgaaDoorM YtapaijpglfmfgaaDoorW.PrintWords YtapaijpglfmfgaaDoorW.PrintLast
theorem rdOf_at (ws : List ByteArray) (j : Nat) (h : j < ws.length) : rdOf ByteArray.empty ws (j : Int) = ws[j] := by
 simp only [rdOf, Int.toNat_natCast, List.getD_eq_getElem?_getD, List.getElem?_eq_getElem h, Option.getD_some]
theorem word_from (s : ByteArray) (hs : s.size ≤ 2000000) (ws : List ByteArray) (hw : ∀ w ∈ ws, w.size ≤ 100 ∧ 1 ≤ w.size) (hl : ws.length ≤ 100) : ∀ (m j : Nat), ws.length - j = m → j ≤ ws.length →
  Ev (fun k => zqb.l0 k s ws (j : Int)) (strOfNums ((if (bytesOf s).getD 0 0 = 95 then ((ws.drop j).map bytesOf).find? (fun w => pre w ((bytesOf s).drop 1)) else none).getD [])) := by
 intro m
 induction m with
 | zero =>
  intro j hm hj
  obtain rfl : j = ws.length := by omega
  refine Ev.succ ?_
  simp only [zqb.l0]
  refine Ev.neg (fun _ => by first | omega | assumption | nofun) ?_
  refine Ev.eq (Ev.now _) ?_
  rw [List.drop_length, List.map_nil, List.find?_nil]
  split <;> rfl
 | succ m ih =>
  intro j hm hj
  have hlt : j < ws.length := by omega
  have hd : ws.drop j = ws[j] :: ws.drop (j + 1) := List.drop_eq_getElem_cons hlt
  have next := ih (j + 1) (by omega) (by omega)
  obtain ⟨h100, h1⟩ := hw _ (List.getElem_mem hlt)
  rw [hd, List.map_cons, List.find?_cons]
  obtain ⟨W, hW⟩ : ∃ W, W = ws[j] := ⟨_, rfl⟩
  have hrd := rdOf_at ws j hlt
  rw [← hW] at h100 h1 hrd ⊢
  refine Ev.succ ?_
  simp only [zqb.l0]
  refine Ev.pos (fun _ => by first | omega | trivial | assumption) ?_
  refine Ev.pos (fun _ => by first | omega | trivial | assumption) ?_
  rw [hrd, w64 (i := (j : Int) + 1) (by omega) (by omega), w64 (i := (W.size : Int) + 1) (by omega) (by omega), zbh]
  have hnone : ¬ (s.size > W.size) → pre (bytesOf W) ((bytesOf s).drop 1) = false := fun h => by
   unfold pre
   rw [decide_eq_false_iff_not]
   intro e
   have := congrArg List.length e
   rw [List.length_take, List.length_drop, bytesOf_length, bytesOf_length] at this
   omega
  by_cases hsz : s.size > W.size
  ·refine Ev.pos (fun _ => by omega) ?_
   refine Ev.pos (fun _ => by omega) ?_
   by_cases h95 : (bytesOf s).getD 0 0 = 95
   ·rw [if_pos h95] at next ⊢
    refine Ev.pos (fun _ => h95) ?_
    refine Ev.pos (fun _ => by omega) ?_
    refine Ev.pos (fun _ => by omega) ?_
    have e1 : ((W.size : Int) + 1).toNat = 1 + W.size := by omega
    have e2 : (s.extract 1 ((W.size : Int) + 1).toNat).toList = W.toList ↔ pre (bytesOf W) ((bytesOf s).drop 1) = true := by
     rw [e1, zzc, zre, Nat.add_sub_cancel_left]
     unfold pre
     rw [decide_eq_true_iff, zwb]
    by_cases hp : pre (bytesOf W) ((bytesOf s).drop 1) = true
    ·rw [hp]
     refine Ev.pos (fun _ => e2.2 hp) ?_
     refine Ev.eq (Ev.now _) ?_
     exact (str_B W).symm
    ·rw [Bool.eq_false_iff.2 hp]
     refine Ev.neg (fun _ e => hp (e2.1 e)) ?_
     exact next
   ·rw [if_neg h95] at next ⊢
    refine Ev.neg (fun _ => h95) ?_
    exact next
  ·refine Ev.neg (fun _ => by omega) ?_
   rw [hnone hsz]
   exact next
theorem word_ev (s : ByteArray) (hs : s.size ≤ 2000000) : Ev (fun k => zqb.f k s) (strOfNums ((zld (bytesOf s)).getD [])) := by
 simp only [zqb.f]
 refine Ev.bind0 rfl ?_
 have h := word_from s hs sufBs (fun w hw => ⟨sufBs_size w hw, by
  have h1 : bytesOf w ∈ zdc := by rw [← sufBs_B]; exact List.mem_map_of_mem hw
  rw [zwb]
  exact (zid h1).1⟩) (by decide) 9 0 rfl (by decide)
 rw [List.drop_zero, sufBs_B] at h
 exact h
theorem sweight_from (x : ByteArray) (ws : List ByteArray) (hl : ws.length ≤ 100) : ∀ (m j : Nat), ws.length - j = m → j ≤ ws.length →
  Ev (fun k => zhb.l0 k x ws (j : Int)) ((j + ((ws.drop j).map bytesOf).idxOf (bytesOf x) : Nat) : Int) := by
 intro m
 induction m with
 | zero =>
  intro j hm hj
  obtain rfl : j = ws.length := by omega
  refine Ev.succ ?_
  simp only [zhb.l0]
  refine Ev.neg (fun _ => by first | omega | assumption | nofun) ?_
  refine Ev.eq (Ev.now _) ?_
  rw [List.drop_length]
  rfl
 | succ m ih =>
  intro j hm hj
  have hlt : j < ws.length := by omega
  have hd : ws.drop j = ws[j] :: ws.drop (j + 1) := List.drop_eq_getElem_cons hlt
  refine Ev.succ ?_
  simp only [zhb.l0]
  refine Ev.pos (fun _ => by first | omega | trivial | assumption) ?_
  refine Ev.pos (fun _ => by first | omega | trivial | assumption) ?_
  rw [rdOf_at ws j hlt, hd, List.map_cons, List.idxOf_cons]
  by_cases h : bytesOf x = bytesOf ws[j]
  ·refine Ev.pos (fun _ => (zzc _ _).2 h.symm) ?_
   refine Ev.eq (Ev.now _) ?_
   have : (bytesOf ws[j] == bytesOf x) = true := by rw [beq_iff_eq]; exact h.symm
   rw [this]
   rfl
  ·refine Ev.neg (fun _ e => h ((zzc _ _).1 e).symm) ?_
   rw [w64 (i := (j : Int) + 1) (by omega) (by omega)]
   refine Ev.eq (ih (j + 1) (by omega) (by omega)) ?_
   have : (bytesOf ws[j] == bytesOf x) = false := by rw [beq_eq_false_iff_ne]; exact fun e => h e.symm
   rw [this]
   simp only [cond_false]
   omega
theorem sweight_ev (x : ByteArray) : Ev (fun k => zhb.f k x) (wgt (bytesOf x) : Int) := by
 simp only [zhb.f]
 have h := sweight_from x wgtBs (by decide) 9 0 rfl (by decide)
 rw [List.drop_zero, wgtBs_B] at h
 refine Ev.eq h ?_
 unfold wgt
 rw [Nat.zero_add]
theorem B_word {w : List Int} (h : w ∈ zdc) : bytesOf (strOfNums w) = w := B_str (fun c hc => by have := zxf h c hc; omega)
theorem zzh : ∀ (n : Nat) (s : ByteArray) (acc : List S58), s.size ≤ n → n ≤ 100000 → acc.length + n ≤ 200000 →
  Ev (fun k => zq.l0 k s acc) (acc ++ sufsA (sufsP n (bytesOf s)).1, strOfNums (sufsP n (bytesOf s)).2) := by
 intro n
 induction n with
 | zero =>
  intro s acc hs hn ha
  have h0 : bytesOf s = [] := (size_nil s).1 (by omega)
  have hr := word_ev s (by omega)
  refine Ev.succ ?_
  simp only [zq.l0]
  refine Ev.bind hr ?_
  have e : zld (bytesOf s) = none := by rw [h0]; rfl
  rw [e]
  refine Ev.pos (fun _ => (zrb _).2 rfl) ?_
  refine Ev.eq (Ev.now _) ?_
  simp only [sufsP]
  rw [str_B]
  simp [sufsA]
 | succ n ih =>
  intro s acc hs hn ha
  have hr := word_ev s (by omega)
  refine Ev.succ ?_
  simp only [zq.l0]
  refine Ev.bind hr ?_
  cases hq : zld (bytesOf s) with
  | none =>
   rw [zle hq]
   refine Ev.pos (fun _ => (zrb _).2 rfl) ?_
   refine Ev.eq (Ev.now _) ?_
   rw [str_B]
   simp [sufsA]
  | some w =>
   obtain ⟨k1, k2⟩ := zje hq
   have hlen := zid k1
   have hbw := B_word k1
   rw [zme hq]
   have htot := congrArg List.length k2
   simp only [List.length_cons, List.length_append, List.length_drop, bytesOf_length] at htot
   have hWs : (strOfNums w).size = w.length := by rw [zwb, hbw]
   show Ev _ _
   simp only [Option.getD_some]
   refine Ev.neg (fun _ e => by have := (zrb _).1 e; rw [hbw] at this; rw [this] at hlen; simp at hlen) ?_
   rw [hWs, w64 (i := (w.length : Int) + 1) (by omega) (by omega)]
   refine Ev.pos (fun _ => by omega) ?_
   refine Ev.pos (fun _ => by omega) ?_
   refine Ev.bind0 rfl ?_
   have e1 : ((w.length : Int) + 1).toNat = 1 + w.length := by omega
   rw [e1]
   have hb : bytesOf (s.extract (1 + w.length) s.size) = (bytesOf s).drop (1 + w.length) := zlg _ _
   obtain ⟨Y, hY⟩ : ∃ Y, Y = s.extract (1 + w.length) s.size := ⟨_, rfl⟩
   rw [← hY] at hb ⊢
   have hYs : Y.size = s.size - (1 + w.length) := by rw [zwb, hb, List.length_drop, bytesOf_length]
   have hru := run1_ev Y (by omega)
   have hrl := run_le isD (bytesOf Y)
   rw [bytesOf_length] at hrl
   refine Ev.bind hru ?_
   have hsw := sweight_ev (strOfNums w)
   rw [hbw] at hsw
   refine Ev.bind hsw ?_
   refine Ev.pos (fun _ => by omega) ?_
   refine Ev.pos (fun _ => by omega) ?_
   rw [Int.toNat_natCast]
   have hdig : ∀ c ∈ (bytesOf Y).take (run isD (bytesOf Y)), isD c = true := fun c hc => zdh hc
   have hio := intOf_ev (Y.extract 0 (run isD (bytesOf Y))) (by rw [zwb, zof, List.length_take, bytesOf_length]; omega) (by rw [zof]; exact hdig)
   rw [zof] at hio
   refine Ev.bind hio ?_
   refine Ev.pos (fun _ => by omega) ?_
   have hbz : bytesOf (Y.extract (run isD (bytesOf Y)) Y.size) = (bytesOf Y).drop (run isD (bytesOf Y)) := zlg _ _
   have := ih (Y.extract (run isD (bytesOf Y)) Y.size) (acc ++ [⟨(wgt w : Int), ⟨false, magB (decL ((bytesOf Y).take (run isD (bytesOf Y))))⟩⟩]) (by rw [zwb, hbz, List.length_drop, bytesOf_length]; omega) (by omega) (by simp; omega)
   rw [hbz, hb] at this
   rw [hb]
   refine Ev.eq this ?_
   rw [List.append_assoc]
   rfl
theorem zxg (s : ByteArray) (hs : s.size ≤ 100000) : Ev (fun k => zq.f k s) (sufsA (sufsP (bytesOf s).length (bytesOf s)).1, strOfNums (sufsP (bytesOf s).length (bytesOf s)).2) := by
 have h := zzh (bytesOf s).length s [] (by rw [bytesOf_length]; exact Nat.le_refl _) (by rw [bytesOf_length]; exact hs) (by rw [bytesOf_length]; simp; omega)
 rw [List.nil_append] at h
 exact h
theorem ascii_from (s : ByteArray) (hs : s.size ≤ 2000000000) : ∀ (n i : Nat), s.size - i = n → i ≤ s.size →
  Ev (fun k => zuc.l0 k s i) (decide (∀ x ∈ (bytesOf s).drop i, x ≤ 127)) := by
 intro n
 induction n with
 | zero =>
  intro i hn hi
  refine Ev.succ ?_
  simp only [zuc.l0]
  refine Ev.neg (fun _ => by omega) ?_
  refine Ev.eq (Ev.now _) ?_
  rw [List.drop_of_length_le (by rw [bytesOf_length]; omega)]
  simp
 | succ n ih =>
  intro i hn hi
  have hl : i < (bytesOf s).length := by rw [bytesOf_length]; omega
  refine Ev.succ ?_
  simp only [zuc.l0]
  refine Ev.pos (fun _ => by omega) ?_
  refine Ev.pos (fun _ => by omega) ?_
  rw [zif, zwf _ _ hl]
  by_cases h : (bytesOf s).getD i 0 > 127
  ·refine Ev.pos (fun _ => h) ?_
   refine Ev.eq (Ev.now _) ?_
   symm
   simp only [decide_eq_false_iff_not]
   intro hx
   have := hx _ List.mem_cons_self
   omega
  ·refine Ev.neg (fun _ => h) ?_
   rw [w64 (by omega) (by omega)]
   refine Ev.eq (ih (i + 1) (by omega) (by omega)) ?_
   rw [decide_eq_decide]
   simp only [List.mem_cons, forall_eq_or_imp]
   exact ⟨fun hx => ⟨by omega, hx⟩, fun hx => hx.2⟩
theorem ascii_ev (s : ByteArray) (hs : s.size ≤ 2000000000) : Ev (fun k => zuc.f k s) (decide (∀ x ∈ bytesOf s, x ≤ 127)) := by
 have h := ascii_from s hs _ 0 rfl (Nat.zero_le _)
 simpa [zuc.f] using h
theorem clear_from (s : ByteArray) (hs : s.size ≤ 2000000) : ∀ (n i : Nat), s.size - i = n → i ≤ s.size → Ev (fun k => zd.l0 k s (i : Int)) (clearB ((bytesOf s).drop i)) := by
 intro n
 induction n with
 | zero =>
  intro i hn hi
  refine Ev.succ ?_
  simp only [zd.l0]
  refine Ev.neg (fun _ => by first | omega | assumption | nofun) ?_
  refine Ev.eq (Ev.now _) ?_
  rw [List.drop_of_length_le (by rw [bytesOf_length]; omega)]
  rfl
 | succ n ih =>
  intro i hn hi
  have hl : i < (bytesOf s).length := by rw [bytesOf_length]; omega
  have hb : bytesOf (s.extract i s.size) = (bytesOf s).drop i := zlg _ _
  have hw := word_ev (s.extract i s.size) (by rw [zwb, hb, List.length_drop, bytesOf_length]; omega)
  rw [hb] at hw
  refine Ev.succ ?_
  simp only [zd.l0, Int.toNat_natCast]
  refine Ev.pos (fun _ => by first | omega | trivial | assumption) ?_
  refine Ev.pos (fun _ => by first | omega | trivial | assumption) ?_
  refine Ev.pos (fun _ => by first | omega | trivial | assumption) ?_
  refine Ev.bind hw ?_
  rw [w64 (i := (i : Int) + 1) (by omega) (by omega)]
  have e : clearB ((bytesOf s).drop i) = ((zld ((bytesOf s).drop i)).isNone && clearB ((bytesOf s).drop (i + 1))) := by
   rw [zwf _ _ hl]
   rfl
  rw [e]
  cases hq : zld ((bytesOf s).drop i) with
  | none =>
   refine Ev.pos (fun _ => (zrb _).2 rfl) ?_
   exact ih (i + 1) (by omega) (by omega)
  | some w =>
   have k1 := (zje hq).1
   have hlen := zid k1
   refine Ev.neg (fun _ e => by have := (zrb _).1 e; rw [show (some w).getD [] = w from rfl, B_word k1] at this; rw [this] at hlen; simp at hlen) ?_
   exact Ev.now _
theorem zfi {α : Type} (s : ByteArray) {g : Bool → Nat → Option α} {r : α} (h : Ev (g (isL ((bytesOf s).getD 0 0))) r) : Ev (fun k => if s.toList = ([] : List UInt8) then g false k else if 0 < (s.size : Int) then (if (bt s 0) ≥ 97 then g (decide ((bt s 0) ≤ 122)) k else g false k) else none) r := by
 by_cases h0 : bytesOf s = []
 ·refine Ev.pos (fun _ => (zrb s).2 h0) ?_
  rw [h0] at h
  exact h
 ·have hpos : 0 < s.size := by rw [zwb]; exact List.length_pos_iff.2 h0
  refine Ev.neg (fun _ e => h0 ((zrb s).1 e)) ?_
  refine Ev.pos (fun _ => by omega) ?_
  rw [zbh]
  unfold isL at h
  by_cases h1 : (bytesOf s).getD 0 0 ≥ 97
  ·refine Ev.pos (fun _ => h1) ?_
   have e : decide ((bytesOf s).getD 0 0 ≤ 122) = decide (97 ≤ (bytesOf s).getD 0 0 ∧ (bytesOf s).getD 0 0 ≤ 122) := by rw [decide_eq_decide]; omega
   rw [e]
   exact h
  ·refine Ev.neg (fun _ => h1) ?_
   rw [decide_eq_false (by omega)] at h
   exact h
theorem B_rest {l r : List Int} (hl : ∀ x ∈ l, 0 ≤ x ∧ x ≤ 255) (h : ∃ a, l = a ++ r) : bytesOf (strOfNums r) = r := by
 obtain ⟨a, rfl⟩ := h
 exact B_str (fun c hc => hl c (List.mem_append_right _ hc))
theorem zah (l : List Int) : ∃ a, l = a ++ rest1 l := by
 obtain ⟨sub, e, _⟩ := ztf l.length l
 exact ⟨sub, e⟩
theorem rest2_suffix (l : List Int) : ∃ a, l = a ++ rest2 l := by
 obtain ⟨a, e⟩ := zah l
 unfold rest2 zyd
 split
 ·exact ⟨a ++ (rest1 l).take 1, by rw [List.append_assoc, List.take_append_drop]; exact e⟩
 ·exact ⟨a, e⟩
theorem zug : ∀ (n : Nat) (l : List Int), ∃ a, l = a ++ (sufsP n l).2
 | 0, l => ⟨[], rfl⟩
 | n + 1, l => by
  cases hq : zld l with
  | none => rw [zle hq]; exact ⟨[], rfl⟩
  | some w =>
   rw [zme hq]
   obtain ⟨a, e⟩ := zug n ((l.drop (1 + w.length)).drop (run isD (l.drop (1 + w.length))))
   refine ⟨l.take (1 + w.length + run isD (l.drop (1 + w.length))) ++ a, ?_⟩
   simp only
   rw [List.append_assoc, ← e, List.drop_drop, List.take_append_drop]
theorem rest3_suffix (l : List Int) : ∃ a, l = a ++ rest3 l := by
 obtain ⟨a, e⟩ := rest2_suffix l
 obtain ⟨b, e2⟩ := zug (rest2 l).length (rest2 l)
 exact ⟨a ++ b, by rw [List.append_assoc]; unfold rest3; rw [← e2]; exact e⟩
theorem known_ev (s : ByteArray) (hs : s.size ≤ 100000) : Ev (fun k => zd.f k s) (decide (∀ x ∈ bytesOf s, x ≤ 127) && clearB (rest3 (bytesOf s))) := by
 simp only [zd.f]
 refine Ev.bind (ascii_ev s (by omega)) ?_
 cases ha : decide (∀ x ∈ bytesOf s, x ≤ 127)
 ·refine Ev.neg (fun _ => Bool.false_ne_true) ?_
  exact Ev.now _
 ·refine Ev.pos (fun _ => rfl) ?_
  rw [Bool.true_and]
  refine Ev.bind (zkh s hs) ?_
  have hb1 := B_rest (zcg s) (zah (bytesOf s))
  have hl1 := zph (bytesOf s)
  have hz := hs
  rw [zwb] at hz
  refine zfi (strOfNums (rest1 (bytesOf s))) (g := fun b k => zd.j0 k (strOfNums (rest1 (bytesOf s))) b) ?_
  rw [hb1]
  have hj1 : ∀ (t : ByteArray), bytesOf t = rest2 (bytesOf s) → Ev (fun k => zd.j1 k t) (clearB (rest3 (bytesOf s))) := by
   intro t ht
   have hl2 := zyg (bytesOf s)
   have hl3 := rest3_len (bytesOf s)
   refine Ev.succ ?_
   simp only [zd.j1]
   have h := zxg t (by rw [zwb, ht]; omega)
   rw [ht] at h
   refine Ev.bind h ?_
   have hb3 := B_rest (zcg s) (rest3_suffix (bytesOf s))
   have h2 := clear_from (strOfNums (rest3 (bytesOf s))) (by rw [zwb, hb3]; omega) _ 0 rfl (Nat.zero_le _)
   rw [hb3, List.drop_zero] at h2
   exact h2
  refine Ev.succ ?_
  simp only [zd.j0]
  cases hc : isL ((rest1 (bytesOf s)).getD 0 0)
  ·refine Ev.neg (fun _ => Bool.false_ne_true) ?_
   refine hj1 _ ?_
   rw [hb1]
   unfold rest2 zyd
   rw [hc]
   rfl
  ·have hne : rest1 (bytesOf s) ≠ [] := by intro e; rw [e] at hc; exact absurd hc (by decide)
   have hpos : 0 < (strOfNums (rest1 (bytesOf s))).size := by rw [zwb, hb1]; exact List.length_pos_iff.2 hne
   refine Ev.pos (fun _ => rfl) ?_
   refine Ev.pos (fun _ => by omega) ?_
   refine hj1 _ ?_
   rw [zlg, hb1]
   unfold rest2 zyd
   rw [hc]
   rfl
end Go.Proofs.YtapaijpglfmfgaaDoor.V
end
section
namespace Go.Proofs.YtapaijpglfmfgaaDoor.V
open Go.RowKit YtapaijpglfmfgaaDoor.Q YtapaijpglfmfgaaDoorG YtapaijpglfmfgaaDoorP YtapaijpglfmfgaaDoorH YtapaijpglfmfgaaDoorB YtapaijpglfmfgaaDoorM YtapaijpglfmfgaaDoorW.PrintWords YtapaijpglfmfgaaDoorW.PrintLast
theorem short_one (s : ByteArray) : Ev (fun k => zbc.f k [s]) (decide (s.size ≤ 1200)) := by
 refine Ev.succ ?_
 simp only [zbc.f, zbc.l0, List.length_cons, List.length_nil]
 refine Ev.pos (fun _ => by omega) ?_
 refine Ev.pos (fun _ => by omega) ?_
 refine Ev.pos (fun _ => by omega) ?_
 have e : rdOf ByteArray.empty [s] 0 = s := rfl
 rw [e]
 by_cases h : s.size ≤ 1200
 ·refine Ev.neg (fun _ => by omega) ?_
  refine Ev.succ ?_
  simp only [zbc.l0]
  refine Ev.neg (fun _ => by unfold wrap64; omega) ?_
  exact Ev.eq (Ev.now _) (by simp [h])
 ·refine Ev.pos (fun _ => by omega) ?_
  exact Ev.eq (Ev.now _) (by simp [h])
theorem p4_ev (x : ByteArray) (hx : x.size ≤ 100000) (o l h : ByteArray) (ns : List S54) (ss : List S58) :
  Ev (fun k => zg.j3 k x o ⟨#[]⟩ l h false ns ss true false ⟨#[]⟩)
   (o, strOfNums (znd (bytesOf x)).2.2, l, h, (znd (bytesOf x)).1, ns, ss, true, false, magB (decL (znd (bytesOf x)).2.1), true) := by
 have e0 : (⟨#[]⟩ : ByteArray) = magB (decL []) := rfl
 have last : bytesOf x ≠ [45, 114] → (bytesOf x).take 2 ≠ [45, 114] → Ev (fun k => zg.j4 k x false o ⟨#[]⟩ l h false ns ss true false ⟨#[]⟩)
   (o, strOfNums (znd (bytesOf x)).2.2, l, h, (znd (bytesOf x)).1, ns, ss, true, false, magB (decL (znd (bytesOf x)).2.1), true) := by
  intro _ h2
  refine Ev.succ ?_
  simp only [zg.j4]
  refine Ev.neg (fun _ => Bool.false_ne_true) ?_
  unfold znd
  by_cases h0 : bytesOf x = []
  ·refine Ev.pos (fun _ => (zrb x).2 h0) ?_
   rw [if_pos h0]
   exact Ev.now _
  ·refine Ev.neg (fun _ e => h0 ((zrb x).1 e)) ?_
   rw [if_neg h0, if_neg h2, str_B]
   exact Ev.now _
 refine Ev.succ ?_
 simp only [zg.j3]
 by_cases h1 : x.size > 1
 ·refine Ev.pos (fun _ => by omega) ?_
  refine Ev.pos (fun _ => by first | trivial | decide) ?_
  refine Ev.pos (fun _ => by omega) ?_
  have e2 : (x.extract 0 2).toList = ([45, 114] : List UInt8) ↔ (bytesOf x).take 2 = [45, 114] := by
   rw [toList_lit, zof]
   rfl
  by_cases h2 : (bytesOf x).take 2 = [45, 114]
  ·have : ((x.extract 0 2).toList == ([45, 114] : List UInt8)) = true := beq_iff_eq.2 (e2.2 h2)
   rw [this]
   refine Ev.succ ?_
   simp only [zg.j4]
   refine Ev.pos (fun _ => by first | rfl | trivial) ?_
   refine Ev.pos (fun _ => by omega) ?_
   have hb : bytesOf (x.extract 2 x.size) = (bytesOf x).drop 2 := zlg _ _
   have hxz := hx
   rw [zwb] at hxz h1
   have hr := run1_ev (x.extract 2 x.size) (by rw [zwb, hb, List.length_drop]; omega)
   have hrl := run_le isD ((bytesOf x).drop 2)
   rw [List.length_drop] at hrl
   rw [hb] at hr
   refine Ev.bind hr ?_
   have hsz := zwb x
   rw [w64 (i := 2 + ((run isD ((bytesOf x).drop 2) : Nat) : Int)) (by omega) (by omega)]
   refine Ev.pos (fun _ => by omega) ?_
   refine Ev.pos (fun _ => by omega) ?_
   have e3 : (2 + ((run isD ((bytesOf x).drop 2) : Nat) : Int)).toNat = 2 + run isD ((bytesOf x).drop 2) := by omega
   rw [e3]
   have hb2 : bytesOf (x.extract 2 (2 + run isD ((bytesOf x).drop 2))) = ((bytesOf x).drop 2).take (run isD ((bytesOf x).drop 2)) := by rw [zre, Nat.add_sub_cancel_left]
   have hio := intOf_ev (x.extract 2 (2 + run isD ((bytesOf x).drop 2))) (by rw [zwb, hb2, List.length_take, List.length_drop]; omega) (by rw [hb2]; exact fun c hc => zdh hc)
   rw [hb2] at hio
   refine Ev.bind hio ?_
   refine Ev.pos (fun _ => by omega) ?_
   unfold znd
   have h0 : bytesOf x ≠ [] := by intro e; rw [e] at h1; simp at h1
   rw [if_neg h0, if_pos h2]
   refine Ev.eq (Ev.now _) ?_
   rw [str_drop, List.drop_drop]
  ·have : ((x.extract 0 2).toList == ([45, 114] : List UInt8)) = false := by rw [beq_eq_false_iff_ne]; exact fun e => h2 (e2.1 e)
   rw [this]
   exact last (fun e => h2 (by rw [e]; rfl)) h2
 ·refine Ev.neg (fun _ => by omega) ?_
  have hl : (bytesOf x).length ≤ 1 := by rw [bytesOf_length]; omega
  refine last (fun e => by rw [e] at hl; simp at hl) (fun e => ?_)
  have := congrArg List.length e
  rw [List.length_take] at this
  simp at this
  omega
theorem run_head {p : Int → Bool} {l : List Int} (h : l ≠ []) : run p l ≠ 0 ↔ p (l.getD 0 0) = true := by
 cases l with
 | nil => exact absurd rfl h
 | cons c r =>
  show _ ↔ p c = true
  cases hc : p c
  ·rw [zmf hc]; simp
  ·rw [zeg hc]; simp
theorem p2_ev (x : ByteArray) (hx : x.size ≤ 100000) (o l : ByteArray) (ns : List S54) :
  Ev (fun k => zg.j1 k x o ⟨#[]⟩ l ⟨#[]⟩ false ns true false ⟨#[]⟩)
   (o, strOfNums (znd (hashP (sufsP (bytesOf x).length (bytesOf x)).2).2).2.2, l, strOfNums (hashP (sufsP (bytesOf x).length (bytesOf x)).2).1, (znd (hashP (sufsP (bytesOf x).length (bytesOf x)).2).2).1, ns,
    sufsA (sufsP (bytesOf x).length (bytesOf x)).1, true, false, magB (decL (znd (hashP (sufsP (bytesOf x).length (bytesOf x)).2).2).2.1), true) := by
 refine Ev.succ ?_
 simp only [zg.j1]
 refine Ev.bind (zxg x hx) ?_
 have hbz : bytesOf (strOfNums (sufsP (bytesOf x).length (bytesOf x)).2) = (sufsP (bytesOf x).length (bytesOf x)).2 := B_rest (zcg x) (zug _ _)
 have hlz := sufsP_len (bytesOf x).length (bytesOf x)
 rw [bytesOf_length] at hlz
 obtain ⟨ss, hss⟩ : ∃ ss, ss = sufsA (sufsP (bytesOf x).length (bytesOf x)).1 := ⟨_, rfl⟩
 obtain ⟨q, hq⟩ : ∃ q, q = (sufsP (bytesOf x).length (bytesOf x)).2 := ⟨_, rfl⟩
 rw [← hss]
 simp only [← hq] at hbz hlz ⊢
 rw [bytesOf_length] at hq
 obtain ⟨y, hy⟩ : ∃ y, y = strOfNums q := ⟨_, rfl⟩
 have hlz2 : q.length ≤ x.size := by rw [hq]; exact hlz
 rw [← hy] at hbz ⊢
 have hysz : y.size = q.length := by rw [zwb, hbz]
 have hno : ¬ (q.getD 0 0 = 126 ∧ run isX (q.drop 1) ≠ 0) → Ev (fun k => zg.j2 k y false o ⟨#[]⟩ l ⟨#[]⟩ false ns ss true false ⟨#[]⟩)
   (o, strOfNums (znd (hashP q).2).2.2, l, strOfNums (hashP q).1, (znd (hashP q).2).1, ns, ss, true, false, magB (decL (znd (hashP q).2).2.1), true) := by
  intro hn
  refine Ev.succ ?_
  simp only [zg.j2]
  refine Ev.neg (fun _ => Bool.false_ne_true) ?_
  have h := p4_ev y (by omega) o l ⟨#[]⟩ ns ss
  unfold hashP
  rw [if_neg hn, ← hbz]
  exact h
 by_cases h1 : y.size > 1
 ·refine Ev.pos (fun _ => by omega) ?_
  refine Ev.pos (fun _ => by omega) ?_
  rw [zbh, hbz]
  by_cases h2 : q.getD 0 0 = 126
  ·refine Ev.pos (fun _ => h2) ?_
   refine Ev.pos (fun _ => by omega) ?_
   have e1 : bt y 1 = (q.drop 1).getD 0 0 := by
    have := zif y 1
    rw [hbz] at this
    rw [show bt y 1 = bt y ((1 : Nat) : Int) from rfl, this]
    simp [List.getD_eq_getElem?_getD, List.getElem?_drop]
   rw [e1, alpHex_eq]
   simp only [Option.bind_some]
   have hne : q.drop 1 ≠ [] := by
    intro e
    have := congrArg List.length e
    rw [List.length_drop] at this
    simp at this
    omega
   cases hc : isX ((q.drop 1).getD 0 0)
   ·exact hno (fun hn => by rw [run_head hne, hc] at hn; exact absurd hn.2 Bool.false_ne_true)
   ·have hrun : run isX (q.drop 1) ≠ 0 := (run_head hne).2 hc
    refine Ev.succ ?_
    simp only [zg.j2]
    refine Ev.pos (fun _ => by first | rfl | trivial) ?_
    refine Ev.pos (fun _ => by omega) ?_
    have hb : bytesOf (y.extract 1 y.size) = q.drop 1 := by rw [zlg, hbz]
    have hr := run2_ev (y.extract 1 y.size) (by rw [zwb, hb, List.length_drop]; omega)
    rw [hb] at hr
    have hrl := run_le isX (q.drop 1)
    rw [List.length_drop] at hrl
    refine Ev.bind hr ?_
    rw [w64 (i := 1 + ((run isX (q.drop 1) : Nat) : Int)) (by omega) (by omega)]
    refine Ev.pos (fun _ => by omega) ?_
    refine Ev.pos (fun _ => by omega) ?_
    have e3 : (1 + ((run isX (q.drop 1) : Nat) : Int)).toNat = 1 + run isX (q.drop 1) := by omega
    rw [e3]
    unfold hashP
    rw [if_pos ⟨h2, hrun⟩]
    have hb2 : bytesOf (y.extract (1 + run isX (q.drop 1)) y.size) = q.drop (1 + run isX (q.drop 1)) := by rw [zlg, hbz]
    have h := p4_ev (y.extract (1 + run isX (q.drop 1)) y.size) (by rw [zwb, hb2, List.length_drop]; omega) o l (y.extract 0 (1 + run isX (q.drop 1))) ns ss
    rw [hb2, str_take, hbz] at h
    rw [str_take, hbz]
    exact h
  ·refine Ev.neg (fun _ => h2) ?_
   exact hno (fun hn => h2 hn.1)
 ·refine Ev.neg (fun _ => by omega) ?_
  refine hno (fun hn => hn.2 ?_)
  have : q.drop 1 = [] := List.drop_of_length_le (by omega)
  rw [this]
  rfl
theorem parse_ev (s : ByteArray) (hs : s.size ≤ 100000) : Ev (fun k => zg.f k s)
  (s, strOfNums (zyc (bytesOf s)).r, strOfNums (zyc (bytesOf s)).l, strOfNums (zyc (bytesOf s)).h, (zyc (bytesOf s)).i, numsA (zyc (bytesOf s)).c, sufsA (zyc (bytesOf s)).s, true, false, magB (decL (zyc (bytesOf s)).b), true) := by
 simp only [zg.f]
 refine Ev.bind (zkh s hs) ?_
 have hb1 := B_rest (zcg s) (zah (bytesOf s))
 have hl1 := zph (bytesOf s)
 rw [bytesOf_length] at hl1
 refine zfi (strOfNums (rest1 (bytesOf s))) (g := fun b k => zg.j0 k (strOfNums (rest1 (bytesOf s))) b s ⟨#[]⟩ ⟨#[]⟩ ⟨#[]⟩ false _ true false ⟨#[]⟩) ?_
 rw [hb1]
 have key : ∀ (t l : ByteArray), bytesOf t = rest2 (bytesOf s) → l = strOfNums (zyd (rest1 (bytesOf s))).1 → Ev (fun k => zg.j1 k t s ⟨#[]⟩ l ⟨#[]⟩ false (numsA (numsP (bytesOf s).length (bytesOf s)).1) true false ⟨#[]⟩)
   (s, strOfNums (zyc (bytesOf s)).r, strOfNums (zyc (bytesOf s)).l, strOfNums (zyc (bytesOf s)).h, (zyc (bytesOf s)).i, numsA (zyc (bytesOf s)).c, sufsA (zyc (bytesOf s)).s, true, false, magB (decL (zyc (bytesOf s)).b), true) := by
  intro t l ht hl
  have hl2 := zyg (bytesOf s)
  rw [bytesOf_length] at hl2
  have h := p2_ev t (by rw [zwb, ht]; omega) s l (numsA (numsP (bytesOf s).length (bytesOf s)).1)
  rw [ht] at h
  rw [hl] at h ⊢
  exact h
 refine Ev.succ ?_
 simp only [zg.j0]
 cases hc : isL ((rest1 (bytesOf s)).getD 0 0)
 ·refine Ev.neg (fun _ => Bool.false_ne_true) ?_
  refine key _ _ ?_ ?_
  ·rw [hb1]
   unfold rest2 zyd
   rw [hc]
   rfl
  ·unfold zyd
   rw [hc]
   rfl
 ·have hne : rest1 (bytesOf s) ≠ [] := by intro e; rw [e] at hc; exact absurd hc (by decide)
  have hpos : 0 < (strOfNums (rest1 (bytesOf s))).size := by rw [zwb, hb1]; exact List.length_pos_iff.2 hne
  refine Ev.pos (fun _ => by first | rfl | trivial) ?_
  refine Ev.pos (fun _ => by first | trivial | decide) ?_
  refine Ev.pos (fun _ => by omega) ?_
  refine key _ _ ?_ ?_
  ·rw [zlg, hb1]
   unfold rest2 zyd
   rw [hc]
   rfl
  ·unfold zyd
   rw [hc, str_take, hb1]
   rfl
theorem same_l1 (o r l h : ByteArray) (i : Bool) (ns : List S54) (ss : List S58) (hn1 : ns.length ≤ 200000) (hs1 : ss.length ≤ 200000) (hb ng : Bool) (m : ByteArray) : ∀ (n j : Nat), ss.length - j = n → j ≤ ss.length →
  Ev (fun k => zx.l1 k (ss.length : Int) (j : Int) o r l h i ns ss hb ng m o r l h i ns ss hb ng m) true := by
 intro n
 induction n with
 | zero =>
  intro j hn hj
  refine Ev.succ ?_
  simp only [zx.l1]
  refine Ev.neg (fun _ => by omega) ?_
  exact Ev.now _
 | succ n ih =>
  intro j hn hj
  refine Ev.succ ?_
  simp only [zx.l1]
  refine Ev.pos (fun _ => by omega) ?_
  refine Ev.pos (fun _ => by omega) ?_
  refine Ev.pos (fun _ => by omega) ?_
  refine Ev.pos (fun _ => by omega) ?_
  refine Ev.neg (fun _ => by simp) ?_
  rw [w64 (by omega) (by omega)]
  exact ih (j + 1) (by omega) (by omega)
theorem same_l0 (o r l h : ByteArray) (i : Bool) (ns : List S54) (ss : List S58) (hn1 : ns.length ≤ 200000) (hs1 : ss.length ≤ 200000) (hb ng : Bool) (m : ByteArray) : ∀ (n j : Nat), ns.length - j = n → j ≤ ns.length →
  Ev (fun k => zx.l0 k (ns.length : Int) (j : Int) o r l h i ns ss hb ng m o r l h i ns ss hb ng m) true := by
 intro n
 induction n with
 | zero =>
  intro j hn hj
  refine Ev.succ ?_
  simp only [zx.l0]
  refine Ev.neg (fun _ => by omega) ?_
  exact same_l1 o r l h i ns ss hn1 hs1 hb ng m _ 0 rfl (Nat.zero_le _)
 | succ n ih =>
  intro j hn hj
  refine Ev.succ ?_
  simp only [zx.l0]
  refine Ev.pos (fun _ => by omega) ?_
  refine Ev.pos (fun _ => by omega) ?_
  refine Ev.pos (fun _ => by omega) ?_
  refine Ev.pos (fun _ => by omega) ?_
  refine Ev.neg (fun _ => by simp) ?_
  rw [w64 (by omega) (by omega)]
  exact ih (j + 1) (by omega) (by omega)
theorem same_ev (o r l h : ByteArray) (i : Bool) (ns : List S54) (ss : List S58) (hn1 : ns.length ≤ 200000) (hs1 : ss.length ≤ 200000) (hb ng : Bool) (m : ByteArray) :
  Ev (fun k => zx.f k o r l h i ns ss hb ng m o r l h i ns ss hb ng m) true := by
 simp only [zx.f]
 refine Ev.pos (fun _ => by first | rfl | trivial) ?_
 refine Ev.pos (fun _ => by first | rfl | trivial) ?_
 refine Ev.pos (fun _ => by first | rfl | trivial) ?_
 refine Ev.pos (fun _ => by first | rfl | trivial) ?_
 refine Ev.neg (fun _ => by simp) ?_
 refine Ev.neg (fun _ => by simp) ?_
 have e : (!(ng == ng) || !(m.toList == m.toList)) = false := by simp
 rw [e]
 refine Ev.succ ?_
 simp only [zx.j0]
 refine Ev.neg (fun _ => Bool.false_ne_true) ?_
 refine Ev.pos (fun _ => by first | rfl | trivial) ?_
 have e2 : ((ss.length : Int) != (ss.length : Int)) = false := by simp
 rw [e2]
 refine Ev.succ ?_
 simp only [zx.j1]
 refine Ev.neg (fun _ => Bool.false_ne_true) ?_
 exact same_l0 o r l h i ns ss hn1 hs1 hb ng m _ 0 rfl (Nat.zero_le _)
theorem numsA_length (c : List (List Int)) : (numsA c).length = c.length := by simp [numsA]
theorem sufsA_length (c : List (List Int × List Int)) : (sufsA c).length = c.length := by simp [sufsA]
end Go.Proofs.YtapaijpglfmfgaaDoor.V
end
section
namespace Go.Proofs.YtapaijpglfmfgaaDoor.V
open Go.RowKit YtapaijpglfmfgaaDoor.Q YtapaijpglfmfgaaDoorG YtapaijpglfmfgaaDoorP YtapaijpglfmfgaaDoorH YtapaijpglfmfgaaDoorB YtapaijpglfmfgaaDoorM YtapaijpglfmfgaaDoorW.PrintWords YtapaijpglfmfgaaDoorW.PrintLast
def decD (n : Nat) : List Int := if n < 10 then [48 + (n : Int)] else decD (n / 10) ++ [48 + ((n % 10 : Nat) : Int)]
theorem zgh {n : Nat} (h : n < 10) : decD n = [48 + (n : Int)] := by rw [decD, if_pos h]
theorem decD_big {n : Nat} (h : ¬ n < 10) : decD n = decD (n / 10) ++ [48 + ((n % 10 : Nat) : Int)] := by rw [decD, if_neg h]
theorem decD_spec (n : Nat) : decD n ≠ [] ∧ (∀ c ∈ decD n, isD c = true) ∧ decL (decD n) = n := by
 induction n using Nat.strongRecOn with
 | ind n ih =>
  by_cases h : n < 10
  ·rw [zgh h]
   refine ⟨by simp, fun c hc => ?_, ?_⟩
   ·have e : c = 48 + (n : Int) := by simpa using hc
    rw [e]; unfold isD; apply decide_eq_true; omega
   ·simp [decL]; omega
  ·rw [decD_big h]
   obtain ⟨_, h2, h3⟩ := ih (n / 10) (by omega)
   refine ⟨by simp, fun c hc => ?_, ?_⟩
   ·rcases List.mem_append.1 hc with hc | hc
    ·exact h2 c hc
    ·have e : c = 48 + ((n % 10 : Nat) : Int) := by simpa using hc
     rw [e]; unfold isD; apply decide_eq_true; omega
   ·rw [decL_snoc, h3]; omega
theorem decD_len : ∀ (k n : Nat), n < 10 ^ (k + 1) → (decD n).length ≤ k + 1
 | 0, n, h => by rw [zgh (by simpa using h)]; simp
 | k + 1, n, h => by
  by_cases h0 : n < 10
  ·rw [zgh h0]; simp
  ·rw [decD_big h0]
   have := decD_len k (n / 10) (by rw [Nat.pow_succ] at h; omega)
   simp; omega
theorem wrap_u16 {x : Int} (h0 : 0 ≤ x) (h1 : x ≤ 65535) : IntKind.u16.wrap x = x := by
 simp [IntKind.wrap, IntKind.signed, IntKind.bits]
 omega
theorem decimal_from (n : Nat) : n ≤ 65535 → ∀ acc : ByteArray, acc.size + (decD n).length ≤ 1000 → ∃ r, Ev (fun k => zfb.l0 k n acc) r ∧ bytesOf r = decD n ++ bytesOf acc := by
 induction n using Nat.strongRecOn with
 | ind n ih =>
  intro hn acc hacc
  have e1 : Int.tmod (n : Int) 10 = ((n % 10 : Nat) : Int) := by rw [Int.tmod_eq_emod_of_nonneg (by omega)]; omega
  have e2 : Int.tdiv (n : Int) 10 = ((n / 10 : Nat) : Int) := by rw [Int.tdiv_eq_ediv_of_nonneg (by omega)]; omega
  have e3 : IntKind.u16.wrap (48 + ((n % 10 : Nat) : Int)) = 48 + ((n % 10 : Nat) : Int) := wrap_u16 (by omega) (by omega)
  have e4 : IntKind.u16.wrap ((n / 10 : Nat) : Int) = ((n / 10 : Nat) : Int) := wrap_u16 (by omega) (by omega)
  have e5 : wrap32 (48 + ((n % 10 : Nat) : Int)) = 48 + ((n % 10 : Nat) : Int) := w32 (by omega) (by omega)
  have hb : bytesOf (Utf8.encode (48 + ((n % 10 : Nat) : Int))) = [48 + ((n % 10 : Nat) : Int)] := B_encode (by omega) (by omega)
  have hsz : (Utf8.encode (48 + ((n % 10 : Nat) : Int))).size = 1 := by rw [zwb, hb]; rfl
  by_cases h : n < 10
  ·refine ⟨Utf8.encode (48 + ((n % 10 : Nat) : Int)) ++ acc, Ev.succ ?_, ?_⟩
   ·simp only [zfb.l0, e1, e2, e3, e4, e5]
    refine Ev.pos (fun _ => by rw [hsz]; omega) ?_
    refine Ev.pos (fun _ => by omega) ?_
    exact Ev.now _
   ·rw [zde, hb, zgh h, Nat.mod_eq_of_lt h]
  ·rw [decD_big h, List.length_append, List.length_singleton] at hacc
   have hs2 : (Utf8.encode (48 + ((n % 10 : Nat) : Int)) ++ acc).size = 1 + acc.size := by rw [ByteArray.size_append, hsz]
   obtain ⟨r, hr, h1⟩ := ih (n / 10) (by omega) (by omega) (Utf8.encode (48 + ((n % 10 : Nat) : Int)) ++ acc) (by omega)
   refine ⟨r, Ev.succ ?_, ?_⟩
   ·simp only [zfb.l0, e1, e2, e3, e4, e5]
    refine Ev.pos (fun _ => by rw [hsz]; omega) ?_
    refine Ev.neg (fun _ => by omega) ?_
    exact hr
   ·rw [h1, zde, hb, decD_big h, List.append_assoc]
def dec (a : Int) : List Int := decD a.toNat
theorem zdg (a : Int) : ∀ c ∈ dec a, isD c = true := (decD_spec _).2.1
theorem dec_ne (a : Int) : dec a ≠ [] := (decD_spec _).1
theorem dec_val (a : Int) : decL (dec a) = a.toNat := (decD_spec _).2.2
def U16 (a : Int) : Prop := 0 ≤ a ∧ a ≤ 65535
theorem u16_of {a : Int} (h : (Lit.int .u16 a).wf = true) : U16 a := by
 unfold U16
 simp [Lit.wf, IntKind.min, IntKind.max, IntKind.signed, IntKind.bits] at h
 omega
theorem dec_len {a : Int} (h : U16 a) : (dec a).length ≤ 5 := by
 obtain ⟨h0, h1⟩ := h
 refine decD_len 4 _ ?_
 have e : (10 : Nat) ^ (4 + 1) = 100000 := by decide
 omega
theorem isD_byte {c : Int} (h : isD c = true) : 0 ≤ c ∧ c ≤ 255 := by
 unfold isD at h
 have := of_decide_eq_true h
 omega
theorem zrh {l : List Int} (h : ∀ c ∈ l, isD c = true) : bytesOf (strOfNums l) = l := B_str (fun c hc => isD_byte (h c hc))
theorem zaf {a : Int} (h : U16 a) : Ev (fun k => zfb.f k a) (strOfNums (dec a)) := by
 have hl := dec_len h
 obtain ⟨h0, h1⟩ := h
 have e0 : bytesOf (⟨#[]⟩ : ByteArray) = [] := rfl
 obtain ⟨r, hr, hb⟩ := decimal_from a.toNat (by omega) (⟨#[]⟩ : ByteArray) (by
  have e : (⟨#[]⟩ : ByteArray).size = 0 := rfl
  have : (decD a.toNat).length ≤ 5 := hl
  omega)
 rw [e0, List.append_nil] at hb
 have e1 : ((a.toNat : Nat) : Int) = a := by omega
 rw [e1] at hr
 refine Ev.eq hr ?_
 rw [← str_B r, hb]
 rfl
theorem dec_size {a : Int} (h : U16 a) : (strOfNums (dec a)).size ≤ 5 := by rw [zwb, zrh (zdg a)]; exact dec_len h
theorem digit_eq (c : Int) : zib.f c = some (isD c) := by
 unfold zib.f isD
 by_cases h : c ≥ 48
 ·rw [if_pos h]; simp; omega
 ·rw [if_neg h]; simp; omega
theorem allDigits_from (s : ByteArray) (hs : s.size ≤ 2000000) (hd : ∀ c ∈ bytesOf s, isD c = true) (hp : 0 < s.size) : ∀ (n i : Nat), s.size - i = n → i ≤ s.size → Ev (fun k => zsb.l0 k s (i : Int)) true := by
 intro n
 induction n with
 | zero =>
  intro i hn hi
  refine Ev.succ ?_
  simp only [zsb.l0]
  refine Ev.neg (fun _ => by omega) ?_
  refine Ev.eq (Ev.now _) ?_
  exact decide_eq_true (by omega)
 | succ n ih =>
  intro i hn hi
  have hl : i < (bytesOf s).length := by rw [bytesOf_length]; omega
  refine Ev.succ ?_
  simp only [zsb.l0, zif, digit_eq, Option.bind_some]
  refine Ev.pos (fun _ => by first | trivial | assumption | omega) ?_
  refine Ev.pos (fun _ => by first | trivial | assumption | omega) ?_
  refine Ev.pos (fun _ => hd _ (by rw [List.getD_eq_getElem?_getD, List.getElem?_eq_getElem hl]; exact List.getElem_mem hl)) ?_
  rw [w64 (by omega) (by omega)]
  exact ih (i + 1) (by omega) (by omega)
theorem number_ev (s : ByteArray) (hs : s.size ≤ 200000) (hd : ∀ c ∈ bytesOf s, isD c = true) (hp : 0 < s.size) : Ev (fun k => zlc.f k s) (false, magB (decL (bytesOf s))) := by
 have hl : 0 < (bytesOf s).length := by rw [bytesOf_length]; exact hp
 have hc : isD ((bytesOf s).getD 0 0) = true := hd _ (by rw [List.getD_eq_getElem?_getD, List.getElem?_eq_getElem hl]; exact List.getElem_mem hl)
 unfold isD at hc
 have hc2 := of_decide_eq_true hc
 simp only [zlc.f, zce.f, ztb.f]
 refine Ev.bind (a := (false, magB (decL (bytesOf s)), true)) ?_ (Ev.now _)
 refine Ev.bind (a := (false, magB (decL (bytesOf s)), true)) ?_ (Ev.now _)
 refine Ev.pos (fun _ => by omega) ?_
 refine Ev.pos (fun _ => by omega) ?_
 rw [zbh]
 refine Ev.neg (fun _ => by omega) ?_
 have e : ((bytesOf s).getD 0 0 == 45) = false := by rw [beq_eq_false_iff_ne]; omega
 rw [e]
 refine Ev.succ ?_
 simp only [ztb.j0]
 refine Ev.neg (fun _ => Bool.false_ne_true) ?_
 refine Ev.succ ?_
 simp only [ztb.j1]
 have h := allDigits_from s (by omega) hd hp _ 0 rfl (Nat.zero_le _)
 refine Ev.bind (a := true) (by simpa [zsb.f] using h) ?_
 refine Ev.pos (fun _ => by first | rfl | trivial) ?_
 refine Ev.bind (intOf_ev s hs hd) ?_
 refine Ev.neg (fun _ => Bool.false_ne_true) ?_
 exact Ev.now _
theorem zbi {a : Int} (h : U16 a) : Ev (fun k => zlc.f k (strOfNums (dec a))) (false, magB a.toNat) := by
 have hs := dec_size h
 have hb := zrh (zdg a)
 have := number_ev (strOfNums (dec a)) (by omega) (by rw [hb]; exact zdg a) (by rw [zwb, hb]; exact List.length_pos_iff.2 (dec_ne a))
 rw [hb, dec_val] at this
 exact this
end Go.Proofs.YtapaijpglfmfgaaDoor.V
end
section
namespace Go.Proofs.YtapaijpglfmfgaaDoor.V
open Go.RowKit YtapaijpglfmfgaaDoor.Q YtapaijpglfmfgaaDoorG YtapaijpglfmfgaaDoorP YtapaijpglfmfgaaDoorH YtapaijpglfmfgaaDoorB YtapaijpglfmfgaaDoorM YtapaijpglfmfgaaDoorW.PrintWords YtapaijpglfmfgaaDoorW.PrintLast
def tC (ns : List Int) : List (List Int) := ns.map dec
def tL (l : Int) : List Int := if Int.tmod l 27 > 0 then [96 + Int.tmod l 27] else []
def sW (i : Int) : List Int := zdc.getD (Int.tmod i 9).toNat []
def znf (j : Nat) (ss sn : List Int) : List (List Int × List Int) := (ss.zipIdx j).map fun p => (sW p.1, if 0 < sn.getD p.2 0 then dec (sn.getD p.2 0) else [])
def tS (ss sn : List Int) : List (List Int × List Int) := znf 0 ss sn
def tH (h : List Int) : List Int := if h = [] then [] else 126 :: h
def tB (b : Bool) (n : Int) : List Int := if b then dec n else []
def tE (b : Bool) (n : Int) : List Int := if b then 45 :: 114 :: dec n else []
def zte : List (List Int) → List Int
 | [] => []
 | d :: r => d ++ r.flatMap fun x => 46 :: x
def joinS (s : List (List Int × List Int)) : List Int := s.flatMap fun x => 95 :: (x.1 ++ x.2)
def textL (ns : List Int) (l : Int) (ss sn h : List Int) (b : Bool) (n : Int) : List Int := zte (tC ns) ++ (tL l ++ (joinS (tS ss sn) ++ (tH h ++ tE b n)))
def tOk (ns ss h : List Int) : Prop := ns ≠ [] ∧ ns.length ≤ 60 ∧ ss.length ≤ 60 ∧ h.length ≤ 1200 ∧ ∀ c ∈ h, isX c = true
abbrev Texted := ByteArray × ByteArray × ByteArray × ByteArray × ByteArray × Bool × List S54 × List S58 × Bool × Bool × ByteArray × Bool
def failT : Texted := (⟨#[]⟩, ⟨#[]⟩, ⟨#[]⟩, ⟨#[]⟩, ⟨#[]⟩, false, [], [], false, false, ⟨#[]⟩, false)
def goodT (ns : List Int) (l : Int) (ss sn h : List Int) (b : Bool) (n : Int) : Texted :=
 (strOfNums (textL ns l ss sn h b n), strOfNums (textL ns l ss sn h b n), ⟨#[]⟩, strOfNums (tL l), strOfNums (tH h), false, numsA (tC ns), sufsA (tS ss sn), true, false, magB (decL (tB b n)), true)
theorem size_of {s : ByteArray} {l : List Int} (h : bytesOf s = l) : s.size = l.length := by rw [zwb, h]
theorem zie (s t : ByteArray) : (s ++ t).size = s.size + t.size := ByteArray.size_append
theorem t7_ev (T : ByteArray) (hT : T.size ≤ 1000000) (ns : List Int) (l : Int) (ss sn : List Int) (h : ByteArray) (b : Bool) (n : Int) (hn : b = true → U16 n) (L H : ByteArray) (N : List S54) (S : List S58) (R : ByteArray) (hR : bytesOf R = bytesOf T ++ tE b n) :
  Ev (fun k => zb.j7 k T ns l ss sn h b n ⟨#[]⟩ ⟨#[]⟩ L H false N S false false ⟨#[]⟩) (R, R, ⟨#[]⟩, L, H, false, N, S, true, false, magB (decL (tB b n)), true) := by
 refine Ev.succ ?_
 simp only [zb.j7]
 cases b
 ·refine Ev.neg (fun _ => Bool.false_ne_true) ?_
  have e : R = T := B_inj (by rw [hR]; simp [tE])
  rw [e]
  exact Ev.now _
 ·have hu := hn rfl
  have hds := dec_size hu
  have hdb := zrh (zdg n)
  refine Ev.pos (fun _ => by first | rfl | trivial) ?_
  refine Ev.bind (zaf hu) ?_
  refine Ev.bind (zbi hu) ?_
  refine Ev.bind (zaf hu) ?_
  refine Ev.pos (fun _ => by omega) ?_
  have e2 : (⟨#[45, 114]⟩ : ByteArray).size = 2 := rfl
  refine Ev.pos (fun _ => by rw [zie, e2]; omega) ?_
  have e : T ++ ((⟨#[45, 114]⟩ : ByteArray) ++ strOfNums (dec n)) = R := B_inj (by
   rw [hR, zde, zde, hdb]
   rfl)
  rw [e]
  refine Ev.eq (Ev.now _) ?_
  rw [show decL (tB true n) = n.toNat from dec_val n]
theorem t2_bad (T : ByteArray) (ns : List Int) (l : Int) (ss sn : List Int) (h : ByteArray) (hs : h.size ≤ 1200) (b : Bool) (n : Int) (L : ByteArray) (N : List S54) (S : List S58) : ∀ (m i : Nat), h.size - i = m → i ≤ h.size → ¬ (∀ c ∈ (bytesOf h).drop i, isX c = true) →
  Ev (fun k => zb.l2 k T (i : Int) ns l ss sn h b n ⟨#[]⟩ ⟨#[]⟩ L ⟨#[]⟩ false N S false false ⟨#[]⟩) failT := by
 intro m
 induction m with
 | zero =>
  intro i hm hi hx
  refine absurd (fun c hc => ?_) hx
  rw [List.drop_of_length_le (by rw [bytesOf_length]; omega)] at hc
  simp at hc
 | succ m ih =>
  intro i hm hi hx
  have hl : i < (bytesOf h).length := by rw [bytesOf_length]; omega
  refine Ev.succ ?_
  simp only [zb.l2, zif]
  refine Ev.pos (fun _ => by omega) ?_
  refine Ev.pos (fun _ => by omega) ?_
  rw [w64 (i := (i : Int) + 1) (by omega) (by omega)]
  rw [zwf _ _ hl] at hx
  have next := fun hx2 => ih (i + 1) (by omega) (by omega) hx2
  obtain ⟨c, hc⟩ : ∃ c, c = (bytesOf h).getD i 0 := ⟨_, rfl⟩
  rw [← hc] at hx ⊢
  have hnx : isX c = true → ¬ (∀ c ∈ (bytesOf h).drop (i + 1), isX c = true) := fun h1 h2 => hx (fun d hd => by
   rcases List.mem_cons.1 hd with e | hd
   ·rw [e]; exact h1
   ·exact h2 d hd)
  have hX : isX c = true ↔ (48 ≤ c ∧ c ≤ 57) ∨ (97 ≤ c ∧ c ≤ 102) := by simp [isX, isD]
  have hi2 : ((i : Int) + 1) = ((i + 1 : Nat) : Int) := by omega
  rw [hi2]
  by_cases h1 : c ≥ 48
  ·refine Ev.pos (fun _ => h1) ?_
   by_cases h2 : c ≤ 57
   ·refine Ev.pos (fun _ => h2) ?_
    exact next (hnx (hX.2 (by omega)))
   ·refine Ev.neg (fun _ => h2) ?_
    by_cases h3 : c ≥ 97
    ·refine Ev.pos (fun _ => h3) ?_
     by_cases h4 : c ≤ 102
     ·refine Ev.pos (fun _ => h4) ?_
      exact next (hnx (hX.2 (by omega)))
     ·refine Ev.neg (fun _ => h4) ?_
      exact Ev.now _
    ·refine Ev.neg (fun _ => h3) ?_
     exact Ev.now _
  ·refine Ev.neg (fun _ => h1) ?_
   by_cases h3 : c ≥ 97
   ·refine Ev.pos (fun _ => h3) ?_
    by_cases h4 : c ≤ 102
    ·refine Ev.pos (fun _ => h4) ?_
     exact next (hnx (hX.2 (by omega)))
    ·refine Ev.neg (fun _ => h4) ?_
     exact Ev.now _
   ·refine Ev.neg (fun _ => h3) ?_
    exact Ev.now _
theorem t2_good (T : ByteArray) (hT : T.size ≤ 900000) (ns : List Int) (l : Int) (ss sn : List Int) (h : ByteArray) (hs : h.size ≤ 1200) (b : Bool) (n : Int) (hn : b = true → U16 n) (L : ByteArray) (N : List S54) (S : List S58) (hx : ∀ c ∈ bytesOf h, isX c = true) (R : ByteArray) (hR : bytesOf R = bytesOf T ++ (tH (bytesOf h) ++ tE b n)) : ∀ (m i : Nat), h.size - i = m → i ≤ h.size →
  Ev (fun k => zb.l2 k T (i : Int) ns l ss sn h b n ⟨#[]⟩ ⟨#[]⟩ L ⟨#[]⟩ false N S false false ⟨#[]⟩) (R, R, ⟨#[]⟩, L, strOfNums (tH (bytesOf h)), false, N, S, true, false, magB (decL (tB b n)), true) := by
 intro m
 induction m with
 | zero =>
  intro i hm hi
  refine Ev.succ ?_
  simp only [zb.l2]
  refine Ev.neg (fun _ => by omega) ?_
  by_cases h0 : bytesOf h = []
  ·refine Ev.pos (fun _ => (zrb h).2 h0) ?_
   have e : strOfNums (tH (bytesOf h)) = ⟨#[]⟩ := by rw [h0]; rfl
   rw [e]
   exact t7_ev T (by omega) ns l ss sn h b n hn L _ N S R (by rw [hR, h0]; rfl)
  ·refine Ev.neg (fun _ e => h0 ((zrb h).1 e)) ?_
   have e1 : (⟨#[126]⟩ : ByteArray).size = 1 := rfl
   refine Ev.pos (fun _ => by omega) ?_
   refine Ev.pos (fun _ => by rw [zie, e1]; omega) ?_
   have hb : bytesOf ((⟨#[126]⟩ : ByteArray) ++ h) = tH (bytesOf h) := by
    rw [zde]
    unfold tH
    rw [if_neg h0]
    rfl
   have e : strOfNums (tH (bytesOf h)) = (⟨#[126]⟩ : ByteArray) ++ h := by rw [← hb, str_B]
   rw [e]
   exact t7_ev (T ++ ((⟨#[126]⟩ : ByteArray) ++ h)) (by rw [zie, zie, e1]; omega) ns l ss sn h b n hn L _ N S R (by rw [hR, zde, hb, List.append_assoc])
 | succ m ih =>
  intro i hm hi
  have hl : i < (bytesOf h).length := by rw [bytesOf_length]; omega
  have hc := hx ((bytesOf h).getD i 0) (by rw [List.getD_eq_getElem?_getD, List.getElem?_eq_getElem hl]; exact List.getElem_mem hl)
  have next := ih (i + 1) (by omega) (by omega)
  have hX : isX ((bytesOf h).getD i 0) = true ↔ (48 ≤ (bytesOf h).getD i 0 ∧ (bytesOf h).getD i 0 ≤ 57) ∨ (97 ≤ (bytesOf h).getD i 0 ∧ (bytesOf h).getD i 0 ≤ 102) := by simp [isX, isD]
  have hi2 : ((i : Int) + 1) = ((i + 1 : Nat) : Int) := by omega
  refine Ev.succ ?_
  simp only [zb.l2, zif]
  refine Ev.pos (fun _ => by omega) ?_
  refine Ev.pos (fun _ => by omega) ?_
  rw [w64 (i := (i : Int) + 1) (by omega) (by omega), hi2]
  rcases hX.1 hc with h1 | h1
  ·refine Ev.pos (fun _ => by omega) ?_
   refine Ev.pos (fun _ => by omega) ?_
   exact next
  ·refine Ev.pos (fun _ => by omega) ?_
   refine Ev.neg (fun _ => by omega) ?_
   refine Ev.pos (fun _ => by omega) ?_
   refine Ev.pos (fun _ => by omega) ?_
   exact next
theorem tSfrom_cons (j : Nat) (s : Int) (ss sn : List Int) : znf j (s :: ss) sn = (sW s, if 0 < sn.getD j 0 then dec (sn.getD j 0) else []) :: znf (j + 1) ss sn := rfl
theorem zfh (x : List Int × List Int) (s : List (List Int × List Int)) : joinS (x :: s) = 95 :: (x.1 ++ x.2) ++ joinS s := rfl
theorem mod9 (i : Int) (h : 0 ≤ i) : 0 ≤ Int.tmod i 9 ∧ Int.tmod i 9 < 9 := by
 rw [Int.tmod_eq_emod_of_nonneg h]
 omega
theorem sW_mem (i : Int) (h : 0 ≤ i) : sW i ∈ zdc := by
 obtain ⟨h0, h1⟩ := mod9 i h
 unfold sW
 have hl : (Int.tmod i 9).toNat < zdc.length := by show _ < 9; omega
 rw [List.getD_eq_getElem?_getD, List.getElem?_eq_getElem hl]
 exact List.getElem_mem hl
theorem nine {P : Nat → Prop} (h : P 0 ∧ P 1 ∧ P 2 ∧ P 3 ∧ P 4 ∧ P 5 ∧ P 6 ∧ P 7 ∧ P 8) : ∀ i, i < 9 → P i := by
 intro i hi
 obtain ⟨a0, a1, a2, a3, a4, a5, a6, a7, a8⟩ := h
 match i, hi with
 | 0, _ => exact a0
 | 1, _ => exact a1
 | 2, _ => exact a2
 | 3, _ => exact a3
 | 4, _ => exact a4
 | 5, _ => exact a5
 | 6, _ => exact a6
 | 7, _ => exact a7
 | 8, _ => exact a8
theorem weights_at (i : Int) (h : 0 ≤ i) : rd [0, 1, 2, 3, 5, 6, 7, 8, 9] (Int.tmod i 9) = (wgt (sW i) : Int) := by
 obtain ⟨h0, h1⟩ := mod9 i h
 unfold sW
 obtain ⟨q, hq⟩ : ∃ q : Nat, Int.tmod i 9 = (q : Int) := ⟨(Int.tmod i 9).toNat, by omega⟩
 rw [hq, Int.toNat_natCast]
 revert q
 have := nine (P := fun q => rd [0, 1, 2, 3, 5, 6, 7, 8, 9] (q : Int) = (wgt (zdc.getD q []) : Int)) (by decide)
 intro q hq
 exact this q (by omega)
theorem words_at (i : Int) (h : 0 ≤ i) : bytesOf (rdOf ByteArray.empty sufBs (Int.tmod i 9)) = sW i := by
 obtain ⟨h0, h1⟩ := mod9 i h
 obtain ⟨q, hq⟩ : ∃ q : Nat, Int.tmod i 9 = (q : Int) := ⟨(Int.tmod i 9).toNat, by omega⟩
 unfold sW
 rw [hq, Int.toNat_natCast, rdOf_B, sufBs_B]
theorem t1_ev {r : Texted} (ns : List Int) (l : Int) (ss sn : List Int) (hss : ss.length ≤ 60) (hse : ∀ x ∈ ss, 0 ≤ x) (hsn : ∀ x ∈ sn, U16 x) (h : ByteArray) (b : Bool) (n : Int) (L : ByteArray) (N : List S54) : ∀ (m j : Nat) (T : ByteArray) (S : List S58), ss.length - j = m → j ≤ ss.length → T.size ≤ 100000 + 100 * j → S.length ≤ 1000 + j →
  (∀ T' : ByteArray, bytesOf T' = bytesOf T ++ joinS (znf j (ss.drop j) sn) → T'.size ≤ 110000 → Ev (fun k => zb.l2 k T' 0 ns l ss sn h b n ⟨#[]⟩ ⟨#[]⟩ L ⟨#[]⟩ false N (S ++ sufsA (znf j (ss.drop j) sn)) false false ⟨#[]⟩) r) →
  Ev (fun k => zb.l1 k T ss (ss.length : Int) (j : Int) ns l ss sn h b n ⟨#[]⟩ ⟨#[]⟩ L ⟨#[]⟩ false N S false false ⟨#[]⟩) r := by
 intro m
 induction m with
 | zero =>
  intro j T S hm hj hT hS hk
  refine Ev.succ ?_
  simp only [zb.l1]
  refine Ev.neg (fun _ => by omega) ?_
  have e : ss.drop j = [] := List.drop_of_length_le (by omega)
  rw [e] at hk
  have := hk T (by simp [joinS, znf]) (by omega)
  simpa [znf, sufsA] using this
 | succ m ih =>
  intro j T S hm hj hT hS hk
  have hlt : j < ss.length := by omega
  have hd : ss.drop j = ss[j] :: ss.drop (j + 1) := List.drop_eq_getElem_cons hlt
  have h0 := hse _ (List.getElem_mem hlt)
  have hrd : rd ss (j : Int) = ss[j] := by rw [rd_nat, List.getD_eq_getElem?_getD, List.getElem?_eq_getElem hlt]; rfl
  obtain ⟨x, hx⟩ : ∃ x, x = ss[j] := ⟨_, rfl⟩
  rw [hd, ← hx, tSfrom_cons] at hk
  rw [← hx] at hrd h0
  obtain ⟨m0, m1⟩ := mod9 x h0
  have hwb := words_at x h0
  have hmem := sW_mem x h0
  have hwl := zid hmem
  have hww := weights_at x h0
  obtain ⟨W, hW⟩ : ∃ W, W = rdOf ByteArray.empty sufBs (Int.tmod x 9) := ⟨_, rfl⟩
  rw [← hW] at hwb
  have hWs : W.size = (sW x).length := size_of hwb
  have e95 : (⟨#[95]⟩ : ByteArray).size = 1 := rfl
  have hbW : bytesOf (T ++ ((⟨#[95]⟩ : ByteArray) ++ W)) = bytesOf T ++ (95 :: sW x) := by rw [zde, zde, hwb]; rfl
  have hj2 : ((j : Int) + 1) = ((j + 1 : Nat) : Int) := by omega
  refine Ev.succ ?_
  simp only [zb.l1, hrd]
  refine Ev.pos (fun _ => by omega) ?_
  refine Ev.pos (fun _ => by omega) ?_
  refine Ev.pos (fun _ => by omega) ?_
  refine Ev.bind0 rfl ?_
  refine Ev.pos (fun _ => by omega) ?_
  refine Ev.pos (fun _ => by show Int.tmod x 9 < ((9 : Nat) : Int); omega) ?_
  refine Ev.bind0 (a := sufBs) rfl ?_
  rw [← hW]
  refine Ev.pos (fun _ => by show Int.tmod x 9 < ((9 : Nat) : Int); omega) ?_
  refine Ev.pos (fun _ => by omega) ?_
  refine Ev.pos (fun _ => by rw [zie, e95]; omega) ?_
  rw [hww]
  have hT2 : (T ++ ((⟨#[95]⟩ : ByteArray) ++ W)).size = T.size + (1 + W.size) := by rw [zie, zie, e95]
  have hjoin : ∀ (d : List Int) (T' : ByteArray), bytesOf T' = (bytesOf T ++ (95 :: sW x)) ++ d ++ joinS (znf (j + 1) (ss.drop (j + 1)) sn) → bytesOf T' = bytesOf T ++ joinS ((sW x, d) :: znf (j + 1) (ss.drop (j + 1)) sn) := by
   intro d T' h
   rw [h, zfh]
   simp only [List.append_assoc, List.cons_append]
  have key : ∀ (q : Bool), q = decide (0 < sn.getD j 0) → Ev (fun k => zb.j5 k (T ++ ((⟨#[95]⟩ : ByteArray) ++ W)) (j : Int) ss (ss.length : Int) (j : Int) q ns l ss sn h b n ⟨#[]⟩ ⟨#[]⟩ L ⟨#[]⟩ false N S false false ⟨#[]⟩ (wgt (sW x) : Int) false ⟨#[]⟩) r := by
   intro q hq
   refine Ev.succ ?_
   simp only [zb.j5]
   by_cases hp : 0 < sn.getD j 0
   ·rw [hq, decide_eq_true hp]
    have hlt2 : j < sn.length := by
     by_cases h : j < sn.length
     ·exact h
     ·rw [List.getD_eq_getElem?_getD, List.getElem?_eq_none (by omega)] at hp
      exact absurd hp (by decide)
    have hu : U16 (sn.getD j 0) := by
     rw [List.getD_eq_getElem?_getD, List.getElem?_eq_getElem hlt2]
     exact hsn _ (List.getElem_mem hlt2)
    have hds := dec_size hu
    have hdb := zrh (zdg (sn.getD j 0))
    rw [if_pos hp] at hk
    refine Ev.pos (fun _ => by first | rfl | trivial) ?_
    refine Ev.pos (fun _ => by omega) ?_
    refine Ev.pos (fun _ => by omega) ?_
    rw [rd_nat]
    refine Ev.bind (zaf hu) ?_
    refine Ev.bind (zbi hu) ?_
    refine Ev.bind (zaf hu) ?_
    refine Ev.pos (fun _ => by omega) ?_
    refine Ev.pos (fun _ => by omega) ?_
    rw [w64 (i := (j : Int) + 1) (by omega) (by omega), hj2]
    refine ih (j + 1) _ _ (by omega) (by omega) (by rw [zie, hT2]; omega) (by simp; omega) ?_
    intro T' hT' hs'
    have := hk T' (hjoin _ T' (by rw [hT', zde, hbW, hdb])) hs'
    rw [List.append_assoc]
    have e : (sufsA ((sW x, dec (sn.getD j 0)) :: znf (j + 1) (ss.drop (j + 1)) sn)) = [⟨(wgt (sW x) : Int), ⟨false, magB (sn.getD j 0).toNat⟩⟩] ++ sufsA (znf (j + 1) (ss.drop (j + 1)) sn) := by
     simp only [sufsA, List.map_cons, dec_val]
     rfl
    rw [e] at this
    exact this
   ·rw [hq, decide_eq_false hp]
    rw [if_neg hp] at hk
    refine Ev.neg (fun _ => Bool.false_ne_true) ?_
    refine Ev.pos (fun _ => by omega) ?_
    rw [w64 (i := (j : Int) + 1) (by omega) (by omega), hj2]
    refine ih (j + 1) _ _ (by omega) (by omega) (by rw [hT2]; omega) (by simp; omega) ?_
    intro T' hT' hs'
    have := hk T' (hjoin _ T' (by rw [hT', hbW, List.append_nil])) hs'
    rw [List.append_assoc]
    exact this
  by_cases hlt2 : j < sn.length
  ·refine Ev.pos (fun _ => by omega) ?_
   rw [rd_nat]
   exact key _ (by rw [decide_eq_decide])
  ·refine Ev.neg (fun _ => by omega) ?_
   refine key _ ?_
   rw [List.getD_eq_getElem?_getD, List.getElem?_eq_none (by omega)]
   rfl
theorem t3_ev {r : Texted} (ns : List Int) (l : Int) (hl : 0 ≤ l) (ss sn : List Int) (hss : ss.length ≤ 60) (hse : ∀ x ∈ ss, 0 ≤ x) (hsn : ∀ x ∈ sn, U16 x) (h : ByteArray) (b : Bool) (n : Int) (N : List S54) (T : ByteArray) (hT : T.size ≤ 50000)
  (hk : ∀ T' : ByteArray, bytesOf T' = bytesOf T ++ (tL l ++ joinS (tS ss sn)) → T'.size ≤ 110000 → Ev (fun k => zb.l2 k T' 0 ns l ss sn h b n ⟨#[]⟩ ⟨#[]⟩ (strOfNums (tL l)) ⟨#[]⟩ false N (sufsA (tS ss sn)) false false ⟨#[]⟩) r) :
  Ev (fun k => zb.l0 k T ns (ns.length : Int) (ns.length : Int) ns l ss sn h b n ⟨#[]⟩ ⟨#[]⟩ ⟨#[]⟩ ⟨#[]⟩ false N false false ⟨#[]⟩) r := by
 have go : ∀ (T1 L : ByteArray), bytesOf T1 = bytesOf T ++ tL l → T1.size ≤ 60000 → L = strOfNums (tL l) → Ev (fun k => zb.j3 k T1 ns l ss sn h b n ⟨#[]⟩ ⟨#[]⟩ L ⟨#[]⟩ false N false false ⟨#[]⟩) r := by
  intro T1 L h1 h2 hL
  refine Ev.succ ?_
  simp only [zb.j3]
  refine t1_ev ns l ss sn hss hse hsn h b n L N _ 0 T1 [] rfl (Nat.zero_le _) (by omega) (by simp) ?_
  intro T' hT' hs'
  rw [hL, List.nil_append, List.drop_zero]
  exact hk T' (by rw [hT', h1, List.append_assoc, List.drop_zero]; rfl) hs'
 refine Ev.succ ?_
 simp only [zb.l0]
 refine Ev.neg (fun _ => by omega) ?_
 have hm : 0 ≤ Int.tmod l 27 ∧ Int.tmod l 27 < 27 := by rw [Int.tmod_eq_emod_of_nonneg hl]; omega
 by_cases h0 : Int.tmod l 27 > 0
 ·refine Ev.pos (fun _ => h0) ?_
  have e : (97 + Int.tmod l 27 - 1) % 256 = 96 + Int.tmod l 27 := by omega
  rw [e]
  have hb : bytesOf (Utf8.encode (96 + Int.tmod l 27)) = tL l := by
   unfold tL
   rw [if_pos h0]
   exact B_encode (by omega) (by omega)
  have hz : (Utf8.encode (96 + Int.tmod l 27)).size = 1 := by
   rw [zwb, hb]
   unfold tL
   rw [if_pos h0]
   rfl
  refine Ev.pos (fun _ => by omega) ?_
  refine go _ _ (by rw [zde, hb]) (by rw [zie]; omega) (by rw [← hb, str_B])
 ·refine Ev.neg (fun _ => h0) ?_
  have e : tL l = [] := by unfold tL; rw [if_neg h0]
  refine go _ _ (by rw [e, List.append_nil]) (by omega) (by rw [e]; rfl)
theorem t0_ev {r : Texted} (ns : List Int) (hns : ns.length ≤ 60) (hne : ∀ x ∈ ns, U16 x) (l : Int) (ss sn : List Int) (h : ByteArray) (b : Bool) (n : Int) : ∀ (m j : Nat) (T : ByteArray) (N : List S54), ns.length - j = m → j ≤ ns.length → T.size ≤ 10 * j → N.length = j →
  (∀ T' : ByteArray, bytesOf T' = bytesOf T ++ (if j = 0 then zte (tC (ns.drop j)) else (tC (ns.drop j)).flatMap fun x => 46 :: x) → T'.size ≤ 50000 → Ev (fun k => zb.l0 k T' ns (ns.length : Int) (ns.length : Int) ns l ss sn h b n ⟨#[]⟩ ⟨#[]⟩ ⟨#[]⟩ ⟨#[]⟩ false (N ++ zff j (tC (ns.drop j))) false false ⟨#[]⟩) r) →
  Ev (fun k => zb.l0 k T ns (ns.length : Int) (j : Int) ns l ss sn h b n ⟨#[]⟩ ⟨#[]⟩ ⟨#[]⟩ ⟨#[]⟩ false N false false ⟨#[]⟩) r := by
 intro m
 induction m with
 | zero =>
  intro j T N hm hj hT hN hk
  obtain rfl : j = ns.length := by omega
  have e : ns.drop ns.length = [] := List.drop_length
  rw [e] at hk
  have := hk T (by split <;> simp [tC, zte]) (by omega)
  simpa [tC, zff] using this
 | succ m ih =>
  intro j T N hm hj hT hN hk
  have hlt : j < ns.length := by omega
  have hd : ns.drop j = ns[j] :: ns.drop (j + 1) := List.drop_eq_getElem_cons hlt
  have hu := hne _ (List.getElem_mem hlt)
  have hrd : rd ns (j : Int) = ns[j] := by rw [rd_nat, List.getD_eq_getElem?_getD, List.getElem?_eq_getElem hlt]; rfl
  obtain ⟨x, hx⟩ : ∃ x, x = ns[j] := ⟨_, rfl⟩
  rw [hd, ← hx] at hk
  rw [← hx] at hrd hu
  have hds := dec_size hu
  have hdb := zrh (zdg x)
  have hj2 : ((j : Int) + 1) = ((j + 1 : Nat) : Int) := by omega
  have key : ∀ (T1 : ByteArray), T1.size ≤ 10 * j + 1 → bytesOf T1 = bytesOf T ++ (if j = 0 then [] else [46]) → Ev (fun k => zb.j2 k T1 (j : Int) x ns (ns.length : Int) (j : Int) ns l ss sn h b n ⟨#[]⟩ ⟨#[]⟩ ⟨#[]⟩ ⟨#[]⟩ false N false false ⟨#[]⟩) r := by
   intro T1 hT1 hb1
   refine Ev.succ ?_
   simp only [zb.j2]
   refine Ev.bind (zaf hu) ?_
   refine Ev.pos (fun _ => by omega) ?_
   refine Ev.bind (zaf hu) ?_
   refine Ev.bind (zaf hu) ?_
   refine Ev.bind (zbi hu) ?_
   refine Ev.pos (fun _ => by omega) ?_
   rw [w64 (i := (j : Int) + 1) (by omega) (by omega), hj2]
   refine ih (j + 1) _ _ (by omega) (by omega) (by rw [zie]; omega) (by simp; omega) ?_
   intro T' hT' hs'
   rw [if_neg (by omega)] at hT'
   have := hk T' (by
    rw [hT', zde, hb1, hdb]
    simp only [tC, List.map_cons]
    by_cases hj0 : j = 0
    ·rw [if_pos hj0, if_pos hj0]
     simp [zte]
    ·rw [if_neg hj0, if_neg hj0]
     simp) hs'
   have e : zff j (tC (x :: ns.drop (j + 1))) = [⟨strOfNums (dec x), ⟨false, magB x.toNat⟩, (j : Int)⟩] ++ zff (j + 1) (tC (ns.drop (j + 1))) := by
    show zff j (dec x :: tC (ns.drop (j + 1))) = _
    rw [zuh, dec_val]
    rfl
   rw [e, ← List.append_assoc] at this
   exact this
  refine Ev.succ ?_
  simp only [zb.l0, hrd]
  refine Ev.pos (fun _ => by omega) ?_
  refine Ev.pos (fun _ => by omega) ?_
  refine Ev.pos (fun _ => by omega) ?_
  by_cases hj0 : j = 0
  ·refine Ev.neg (fun _ => by omega) ?_
   exact key T (by omega) (by rw [if_pos hj0, List.append_nil])
  ·refine Ev.pos (fun _ => by omega) ?_
   refine Ev.pos (fun _ => by omega) ?_
   have e46 : (⟨#[46]⟩ : ByteArray).size = 1 := rfl
   exact key _ (by rw [zie, e46]; omega) (by rw [zde, if_neg hj0]; rfl)
theorem text_ev (ns : List Int) (hne : ∀ x ∈ ns, U16 x) (l : Int) (hl : 0 ≤ l) (ss sn : List Int) (hse : ∀ x ∈ ss, 0 ≤ x) (hsn : ∀ x ∈ sn, U16 x) (h : ByteArray) (b : Bool) (n : Int) (hn : b = true → U16 n) :
  (tOk ns ss (bytesOf h) → Ev (fun k => zb.f k ns l ss sn h b n) (goodT ns l ss sn (bytesOf h) b n)) ∧ (¬ tOk ns ss (bytesOf h) → Ev (fun k => zb.f k ns l ss sn h b n) failT) := by
 have bad : Ev (fun k => zb.j0 k true ns l ss sn h b n) failT := by
  refine Ev.succ ?_
  simp only [zb.j0]
  refine Ev.pos (fun _ => by first | rfl | trivial) ?_
  exact Ev.now _
 have hz := bytesOf_length h
 by_cases h0 : ns = []
 ·refine ⟨fun hk => absurd h0 hk.1, fun _ => ?_⟩
  simp only [zb.f]
  refine Ev.pos (fun _ => by rw [h0]; rfl) ?_
  exact bad
 have hp : 0 < ns.length := List.length_pos_iff.2 h0
 by_cases h1 : ns.length ≤ 60
 case neg =>
  refine ⟨fun hk => absurd hk.2.1 h1, fun _ => ?_⟩
  simp only [zb.f]
  refine Ev.neg (fun _ => by omega) ?_
  refine Ev.pos (fun _ => by omega) ?_
  exact bad
 by_cases h2 : ss.length ≤ 60
 case neg =>
  refine ⟨fun hk => absurd hk.2.2.1 h2, fun _ => ?_⟩
  simp only [zb.f]
  refine Ev.neg (fun _ => by omega) ?_
  refine Ev.neg (fun _ => by omega) ?_
  refine Ev.pos (fun _ => by omega) ?_
  exact bad
 by_cases h3 : h.size ≤ 1200
 case neg =>
  refine ⟨fun hk => absurd hk.2.2.2.1 (by omega), fun _ => ?_⟩
  simp only [zb.f]
  refine Ev.neg (fun _ => by omega) ?_
  refine Ev.neg (fun _ => by omega) ?_
  refine Ev.neg (fun _ => by omega) ?_
  have : decide ((h.size : Int) > 1200) = true := decide_eq_true (by omega)
  rw [this]
  exact bad
 have go : ∀ {r : Texted}, (∀ T' : ByteArray, bytesOf T' = zte (tC ns) ++ (tL l ++ joinS (tS ss sn)) → T'.size ≤ 110000 → Ev (fun k => zb.l2 k T' 0 ns l ss sn h b n ⟨#[]⟩ ⟨#[]⟩ (strOfNums (tL l)) ⟨#[]⟩ false (numsA (tC ns)) (sufsA (tS ss sn)) false false ⟨#[]⟩) r) → Ev (fun k => zb.f k ns l ss sn h b n) r := by
  intro r hk
  simp only [zb.f]
  refine Ev.neg (fun _ => by omega) ?_
  refine Ev.neg (fun _ => by omega) ?_
  refine Ev.neg (fun _ => by omega) ?_
  have : decide ((h.size : Int) > 1200) = false := decide_eq_false (by omega)
  rw [this]
  refine Ev.succ ?_
  simp only [zb.j0]
  refine Ev.neg (fun _ => Bool.false_ne_true) ?_
  refine t0_ev ns h1 hne l ss sn h b n _ 0 ⟨#[]⟩ [] rfl (Nat.zero_le _) (Nat.le_refl _) rfl ?_
  intro T' hT' hs'
  rw [if_pos rfl, List.drop_zero] at hT'
  rw [List.nil_append, List.drop_zero]
  refine t3_ev ns l hl ss sn h2 hse hsn h b n _ T' hs' ?_
  intro T2 hT2 hs2
  refine hk T2 ?_ hs2
  rw [hT2, hT']
  rfl
 by_cases hx : ∀ c ∈ bytesOf h, isX c = true
 ·refine ⟨fun _ => ?_, fun hk => absurd ⟨h0, h1, h2, by omega, hx⟩ hk⟩
  refine go ?_
  intro T' hT' hs'
  have hr : ∀ c ∈ textL ns l ss sn (bytesOf h) b n, 0 ≤ c ∧ c ≤ 255 := by
   intro c hc
   unfold textL at hc
   rcases List.mem_append.1 hc with hc | hc
   ·exact zcg T' c (by rw [hT']; exact List.mem_append_left _ hc)
   ·rcases List.mem_append.1 hc with hc | hc
    ·exact zcg T' c (by rw [hT']; exact List.mem_append_right _ (List.mem_append_left _ hc))
    ·rcases List.mem_append.1 hc with hc | hc
     ·exact zcg T' c (by rw [hT']; exact List.mem_append_right _ (List.mem_append_right _ hc))
     ·rcases List.mem_append.1 hc with hc | hc
      ·unfold tH at hc
       split at hc
       ·simp at hc
       ·rcases List.mem_cons.1 hc with e | hc
        ·omega
        ·exact zcg h c hc
      ·unfold tE at hc
       split at hc
       ·rcases List.mem_cons.1 hc with e | hc
        ·omega
        ·rcases List.mem_cons.1 hc with e | hc
         ·omega
         ·exact isD_byte (zdg n c hc)
       ·simp at hc
  have := t2_good T' (by omega) ns l ss sn h h3 b n hn (strOfNums (tL l)) (numsA (tC ns)) (sufsA (tS ss sn)) hx (strOfNums (textL ns l ss sn (bytesOf h) b n)) (by
   rw [B_str hr, hT']
   unfold textL
   simp only [List.append_assoc]) _ 0 rfl (Nat.zero_le _)
  exact this
 ·refine ⟨fun hk => absurd hk.2.2.2.2 hx, fun _ => ?_⟩
  refine go ?_
  intro T' hT' hs'
  exact t2_bad T' ns l ss sn h h3 b n (strOfNums (tL l)) (numsA (tC ns)) (sufsA (tS ss sn)) _ 0 rfl (Nat.zero_le _) hx
end Go.Proofs.YtapaijpglfmfgaaDoor.V
end
section
namespace Go.Proofs.YtapaijpglfmfgaaDoor.V
open Go.RowKit YtapaijpglfmfgaaDoor.Q YtapaijpglfmfgaaDoorG YtapaijpglfmfgaaDoorP YtapaijpglfmfgaaDoorH YtapaijpglfmfgaaDoorB YtapaijpglfmfgaaDoorM YtapaijpglfmfgaaDoorW.PrintWords YtapaijpglfmfgaaDoorW.PrintLast
def hd (l : List Int) : Int := l.getD 0 0
theorem hd_nil (b : List Int) : hd ([] ++ b) = hd b := rfl
structure Stop (l : List Int) : Prop where
 d : isD (hd l) = false
 p : hd l ≠ 46
 let_ : isL (hd l) = false
 u : hd l ≠ 95
 t : hd l ≠ 126
theorem Stop.x {l : List Int} (h : Stop l) : isX (hd l) = false := by
 have h1 := h.d
 have h2 := h.let_
 unfold isX
 rw [h1]
 unfold isL at h2
 have := of_decide_eq_false h2
 simp
 omega
theorem run_hd {p : Int → Bool} {a b : List Int} (h : ∀ c ∈ a, p c = true) (hb : p (hd b) = false) : run p (a ++ b) = a.length := run_stop_append h (.inr hb)
theorem numsP_join : ∀ (c : List (List Int)) (n : Nat) (X : List Int), c ≠ [] → (∀ d ∈ c, d ≠ [] ∧ ∀ x ∈ d, isD x = true) → isD (hd X) = false → hd X ≠ 46 → c.length ≤ n → numsP n (zte c ++ X) = (c, X)
 | [], _, _, h, _, _, _, _ => absurd rfl h
 | _ :: _, 0, _, _, _, _, _, h => by simp at h
 | [d], n + 1, X, _, hc, h1, h2, _ => by
  obtain ⟨d0, d1⟩ := hc d List.mem_cons_self
  have e : zte [d] ++ X = d ++ X := by simp [zte]
  have hr : run isD (d ++ X) = d.length := run_hd d1 h1
  have hp : d.length ≠ 0 := by have := List.length_pos_iff.2 d0; omega
  rw [e]
  simp only [numsP]
  rw [hr, if_neg hp, List.drop_left, if_neg (show ¬ X.getD 0 0 = 46 from h2), List.take_left]
 | d :: d' :: r, n + 1, X, _, hc, h1, h2, hn => by
  obtain ⟨d0, d1⟩ := hc d List.mem_cons_self
  have e : zte (d :: d' :: r) ++ X = d ++ (46 :: (zte (d' :: r) ++ X)) := by simp [zte]
  have hr : run isD (d ++ (46 :: (zte (d' :: r) ++ X))) = d.length := run_hd d1 (show isD 46 = false by decide)
  have hp : d.length ≠ 0 := by have := List.length_pos_iff.2 d0; omega
  have ih := numsP_join (d' :: r) n X (by simp) (fun x hx => hc x (List.mem_cons_of_mem _ hx)) h1 h2 (by simpa using hn)
  rw [e]
  simp only [numsP]
  rw [hr, if_neg hp, List.drop_left, if_pos (show (46 :: (zte (d' :: r) ++ X)).getD 0 0 = 46 from rfl), List.take_left, ← List.drop_drop, List.drop_left]
  show (d :: (numsP n (zte (d' :: r) ++ X)).1, (numsP n (zte (d' :: r) ++ X)).2) = _
  rw [ih]
theorem letterP_at {t Y : List Int} (h : (t = [] ∧ isL (hd Y) = false) ∨ ∃ x, t = [x] ∧ isL x = true) : zyd (t ++ Y) = (t, Y) := by
 unfold zyd
 rcases h with ⟨rfl, h⟩ | ⟨x, rfl, h⟩
 ·have h2 : isL (([] ++ Y).getD 0 0) = false := h
  rw [h2]
  rfl
 ·have h2 : isL (([x] ++ Y).getD 0 0) = true := h
  rw [h2]
  rfl
theorem wordAt_word {w y : List Int} (hw : w ∈ zdc) (hy : hd y ≠ 114) : zld (95 :: (w ++ y)) = some w := by
 unfold zld
 rw [if_pos (show (95 :: (w ++ y)).getD 0 0 = 95 from rfl)]
 show zdc.find? (fun w' => pre w' (w ++ y)) = some w
 simp only [zdc, List.mem_cons, List.not_mem_nil, or_false] at hw
 rcases hw with rfl | rfl | rfl | rfl | rfl | rfl | rfl | rfl | rfl
 ·simp [zdc, List.find?_cons, pre]
 ·simp [zdc, List.find?_cons, pre]
 ·simp [zdc, List.find?_cons, pre]
 ·simp [zdc, List.find?_cons, pre]
 ·simp [zdc, List.find?_cons, pre]
 ·simp [zdc, List.find?_cons, pre]
 ·simp [zdc, List.find?_cons, pre]
 ·simp [zdc, List.find?_cons, pre]
 ·cases y with
  | nil => decide
  | cons a y =>
   have ha : a ≠ 114 := hy
   simp [zdc, List.find?_cons, pre, ha]
theorem wordAt_no {Z : List Int} (h : hd Z ≠ 95) : zld Z = none := by unfold zld; rw [if_neg (show ¬ Z.getD 0 0 = 95 from h)]
theorem hd_joinS {s : List (List Int × List Int)} {Z : List Int} (h : s ≠ []) : hd (joinS s ++ Z) = 95 := by
 cases s with
 | nil => exact absurd rfl h
 | cons x s => rfl
theorem sufsP_join : ∀ (s : List (List Int × List Int)) (n : Nat) (Z : List Int), (∀ x ∈ s, x.1 ∈ zdc ∧ ∀ c ∈ x.2, isD c = true) → hd Z ≠ 95 → hd Z ≠ 114 → isD (hd Z) = false → s.length ≤ n → sufsP n (joinS s ++ Z) = (s, Z)
  | [], n, Z, _, h1, _, _, _ => by
    show sufsP n Z = ([], Z)
    exact zle (wordAt_no h1) n
  | _ :: _, 0, _, _, _, _, _, h => by simp at h
  | (w, dg) :: s, n + 1, Z, hs, h1, h2, h3, hn => by
    obtain ⟨hw, hdg⟩ := hs _ List.mem_cons_self
    have ih := sufsP_join s n Z (fun x hx => hs x (List.mem_cons_of_mem _ hx)) h1 h2 h3 (by simpa using hn)
    obtain ⟨R, hR⟩ : ∃ R, R = joinS s ++ Z := ⟨_, rfl⟩
    have e : joinS ((w, dg) :: s) ++ Z = 95 :: (w ++ (dg ++ R)) := by rw [hR, zfh]; simp
    have hRh : hd R = 95 ∨ hd R = hd Z := by
      rw [hR]
      by_cases h0 : s = []
      · right; rw [h0]; rfl
      · left; exact hd_joinS h0
    have hRd : isD (hd R) = false := by rcases hRh with e | e <;> rw [e]; · rfl
                                        · exact h3
    have hy : hd (dg ++ R) ≠ 114 := by
      cases dg with
      | nil => rcases hRh with e | e
               · rw [hd_nil, e]; decide
               · rw [hd_nil, e]; exact h2
      | cons a q =>
        have ha := hdg a List.mem_cons_self
        intro e
        have e2 : a = 114 := e
        rw [e2] at ha
        exact absurd ha (by decide)
    rw [e, zme (wordAt_word hw hy)]
    have ed : (95 :: (w ++ (dg ++ R))).drop (1 + w.length) = dg ++ R := by
      rw [Nat.add_comm, List.drop_succ_cons, List.drop_left]
    rw [ed, run_hd hdg hRd, List.take_left, List.drop_left, hR, ih]
theorem hashP_at {h E : List Int} (hh : (h = [] ∧ hd E ≠ 126) ∨ ∃ x, h = 126 :: x ∧ x ≠ [] ∧ (∀ c ∈ x, isX c = true) ∧ isX (hd E) = false) : hashP (h ++ E) = (h, E) := by
 unfold hashP
 rcases hh with ⟨rfl, h0⟩ | ⟨x, rfl, x0, hx, h0⟩
 ·rw [if_neg (fun e => h0 e.1)]
  rfl
 ·have e : (126 :: x ++ E).drop 1 = x ++ E := rfl
  rw [e, run_hd hx h0]
  have hp : x.length ≠ 0 := by have := List.length_pos_iff.2 x0; omega
  rw [if_pos ⟨rfl, hp⟩]
  have e1 : (126 :: x ++ E).take (1 + x.length) = 126 :: x := by
   rw [Nat.add_comm, List.cons_append, List.take_succ_cons, List.take_left]
  have e2 : (126 :: x ++ E).drop (1 + x.length) = E := by
   rw [Nat.add_comm, List.cons_append, List.drop_succ_cons, List.drop_left]
  rw [e1, e2]
theorem parse_join {c : List (List Int)} {t : List Int} {s : List (List Int × List Int)} {h E : List Int} (hc0 : c ≠ []) (hc : ∀ d ∈ c, d ≠ [] ∧ ∀ x ∈ d, isD x = true) (ht : t = [] ∨ ∃ x, t = [x] ∧ isL x = true)
    (hs : ∀ x ∈ s, x.1 ∈ zdc ∧ ∀ c ∈ x.2, isD c = true) (hh : h = [] ∨ ∃ x, h = 126 :: x ∧ x ≠ [] ∧ ∀ c ∈ x, isX c = true) (hE : Stop E) :
    zyc (zte c ++ (t ++ (joinS s ++ (h ++ E)))) = ⟨zte c ++ (t ++ (joinS s ++ (h ++ E))), c, t, s, h, (znd E).1, (znd E).2.1, (znd E).2.2⟩ ∧ rest3 (zte c ++ (t ++ (joinS s ++ (h ++ E)))) = h ++ E := by
  -- heads
  have hZ : hd (h ++ E) = 126 ∨ hd (h ++ E) = hd E := by
    rcases hh with rfl | ⟨x, rfl, _, _⟩
    · right; rfl
    · left; rfl
  have hY : hd (joinS s ++ (h ++ E)) = 95 ∨ hd (joinS s ++ (h ++ E)) = hd (h ++ E) := by
    by_cases h0 : s = []
    · right; rw [h0]; rfl
    · left; exact hd_joinS h0
  have hZl : isL (hd (h ++ E)) = false := by rcases hZ with e | e <;> rw [e]; · rfl
                                             · exact hE.let_
  have hZd : isD (hd (h ++ E)) = false := by rcases hZ with e | e <;> rw [e]; · rfl
                                             · exact hE.d
  have hZu : hd (h ++ E) ≠ 95 := by rcases hZ with e | e <;> rw [e]; · decide
                                    · exact hE.u
  have hZp : hd (h ++ E) ≠ 46 := by rcases hZ with e | e <;> rw [e]; · decide
                                    · exact hE.p
  have hYl : isL (hd (joinS s ++ (h ++ E))) = false := by rcases hY with e | e <;> rw [e]; · rfl
                                                          · exact hZl
  have hYd : isD (hd (joinS s ++ (h ++ E))) = false := by rcases hY with e | e <;> rw [e]; · rfl
                                                          · exact hZd
  have hYp : hd (joinS s ++ (h ++ E)) ≠ 46 := by rcases hY with e | e <;> rw [e]; · decide
                                                 · exact hZp
  have hX : isD (hd (t ++ (joinS s ++ (h ++ E)))) = false ∧ hd (t ++ (joinS s ++ (h ++ E))) ≠ 46 := by
    rcases ht with rfl | ⟨x, rfl, hx⟩
    · exact ⟨hYd, hYp⟩
    · have e : hd ([x] ++ (joinS s ++ (h ++ E))) = x := rfl
      rw [e]
      unfold isL at hx
      have := of_decide_eq_true hx
      refine ⟨?_, by omega⟩
      unfold isD
      exact decide_eq_false (by omega)
  have hlenc : c.length ≤ (zte c ++ (t ++ (joinS s ++ (h ++ E)))).length := by
    have : ∀ r : List (List Int), r.length ≤ (r.flatMap fun x => 46 :: x).length := by
      intro r
      induction r with
      | nil => exact Nat.le_refl _
      | cons a r ih => simp only [List.flatMap_cons, List.length_append, List.length_cons]; omega
    cases c with
    | nil => exact absurd rfl hc0
    | cons d r =>
      have h1 := this r
      have h2 := List.length_pos_iff.2 (hc d List.mem_cons_self).1
      simp only [zte, List.length_append, List.length_cons]
      omega
  have e1 := numsP_join c _ (t ++ (joinS s ++ (h ++ E))) hc0 hc hX.1 hX.2 hlenc
  have e2 : zyd (t ++ (joinS s ++ (h ++ E))) = (t, joinS s ++ (h ++ E)) := letterP_at (by
    rcases ht with e | ⟨x, e, hx⟩
    · exact .inl ⟨e, hYl⟩
    · exact .inr ⟨x, e, hx⟩)
  have hlens : s.length ≤ (joinS s ++ (h ++ E)).length := by
    have : ∀ r : List (List Int × List Int), r.length ≤ (joinS r).length := by
      intro r
      induction r with
      | nil => exact Nat.le_refl _
      | cons a r ih => rw [zfh]; simp only [List.length_append, List.length_cons]; omega
    have := this s
    rw [List.length_append]
    omega
  have e3 := sufsP_join s _ (h ++ E) hs hZu (fun e => by rw [e] at hZl; exact absurd hZl (by decide)) hZd hlens
  have e4 : hashP (h ++ E) = (h, E) := hashP_at (by
    rcases hh with e | ⟨x, e, x0, hx⟩
    · exact .inl ⟨e, hE.t⟩
    · exact .inr ⟨x, e, x0, hx, hE.x⟩)
  have r1 : rest1 (zte c ++ (t ++ (joinS s ++ (h ++ E)))) = t ++ (joinS s ++ (h ++ E)) := by unfold rest1; rw [e1]
  have r2 : rest2 (zte c ++ (t ++ (joinS s ++ (h ++ E)))) = joinS s ++ (h ++ E) := by unfold rest2; rw [r1, e2]
  have r3 : rest3 (zte c ++ (t ++ (joinS s ++ (h ++ E)))) = h ++ E := by unfold rest3; rw [r2, e3]
  have r4 : rest4 (zte c ++ (t ++ (joinS s ++ (h ++ E)))) = E := by unfold rest4; rw [r3, e4]
  refine ⟨?_, r3⟩
  unfold zyc
  rw [e1, r1, e2, r2, e3, r3, e4, r4]
theorem Stop.cons {x : Int} {l : List Int} (h1 : isD x = false) (h2 : x ≠ 46) (h3 : isL x = false) (h4 : x ≠ 95) (h5 : x ≠ 126) : Stop (x :: l) := ⟨h1, h2, h3, h4, h5⟩
theorem tC_good (ns : List Int) : ∀ d ∈ tC ns, d ≠ [] ∧ ∀ x ∈ d, isD x = true := by
 intro d hd
 obtain ⟨x, _, rfl⟩ := List.mem_map.1 hd
 exact ⟨dec_ne x, zdg x⟩
theorem tC_ne {ns : List Int} (h : ns ≠ []) : tC ns ≠ [] := by
 intro e
 exact h (List.map_eq_nil_iff.1 e)
theorem tL_good {l : Int} (hl : 0 ≤ l) : tL l = [] ∨ ∃ x, tL l = [x] ∧ isL x = true := by
 unfold tL
 have hm : 0 ≤ Int.tmod l 27 ∧ Int.tmod l 27 < 27 := by rw [Int.tmod_eq_emod_of_nonneg hl]; omega
 split
 ·refine .inr ⟨_, rfl, ?_⟩
  unfold isL
  exact decide_eq_true (by omega)
 ·exact .inl rfl
theorem tS_good {ss sn : List Int} (hse : ∀ x ∈ ss, 0 ≤ x) : ∀ x ∈ tS ss sn, x.1 ∈ zdc ∧ ∀ c ∈ x.2, isD c = true := by
 intro x hx
 unfold tS znf at hx
 obtain ⟨p, hp, rfl⟩ := List.mem_map.1 hx
 have h1 : p.1 ∈ ss := by
  have := List.mem_map_of_mem (f := Prod.fst) hp
  rwa [List.zipIdx_map_fst] at this
 refine ⟨sW_mem _ (hse _ h1), fun c hc => ?_⟩
 simp only at hc
 split at hc
 ·exact zdg _ c hc
 ·simp at hc
def U8 (a : Int) : Prop := 0 ≤ a ∧ a ≤ 255
theorem u8_of {a : Int} (h : (Lit.int .u8 a).wf = true) : U8 a := by
 unfold U8
 simp [Lit.wf, IntKind.min, IntKind.max, IntKind.signed, IntKind.bits] at h
 omega
theorem joinP_len (c : List (List Int)) (h : ∀ d ∈ c, d.length ≤ 5) : (zte c).length ≤ 6 * c.length := by
 have aux : ∀ r : List (List Int), (∀ d ∈ r, d.length ≤ 5) → (r.flatMap fun x => 46 :: x).length ≤ 6 * r.length := by
  intro r hr
  induction r with
  | nil => exact Nat.zero_le _
  | cons a r ih =>
   have h1 := hr a List.mem_cons_self
   have h2 := ih (fun d hd => hr d (List.mem_cons_of_mem _ hd))
   simp only [List.flatMap_cons, List.length_append, List.length_cons]
   omega
 cases c with
 | nil => exact Nat.zero_le _
 | cons d r =>
  have h1 := h d List.mem_cons_self
  have h2 := aux r (fun d hd => h d (List.mem_cons_of_mem _ hd))
  simp only [zte, List.length_append, List.length_cons]
  omega
theorem joinS_len (s : List (List Int × List Int)) (h : ∀ x ∈ s, x.1.length ≤ 5 ∧ x.2.length ≤ 5) : (joinS s).length ≤ 11 * s.length := by
 induction s with
 | nil => exact Nat.zero_le _
 | cons a r ih =>
  have h1 := h a List.mem_cons_self
  have h2 := ih (fun d hd => h d (List.mem_cons_of_mem _ hd))
  rw [zfh]
  simp only [List.length_append, List.length_cons]
  omega
theorem joinP_mem {c : List (List Int)} {x : Int} (h : x ∈ zte c) : x = 46 ∨ ∃ d ∈ c, x ∈ d := by
 cases c with
 | nil => simp [zte] at h
 | cons d r =>
  rcases List.mem_append.1 h with h | h
  ·exact .inr ⟨d, List.mem_cons_self, h⟩
  ·obtain ⟨e, he, hx⟩ := List.mem_flatMap.1 h
   rcases List.mem_cons.1 hx with e1 | e1
   ·exact .inl e1
   ·exact .inr ⟨e, List.mem_cons_of_mem _ he, e1⟩
theorem isD_asc {c : Int} (h : isD c = true) : 0 ≤ c ∧ c ≤ 127 := by
 unfold isD at h
 have := of_decide_eq_true h
 omega
theorem textL_good {ns ss sn h : List Int} {l n : Int} {b : Bool} (hk : tOk ns ss h) (hne : ∀ x ∈ ns, U16 x) (hl : 0 ≤ l) (hse : ∀ x ∈ ss, 0 ≤ x) (hsn : ∀ x ∈ sn, U16 x) (hn : U16 n) :
  (∀ c ∈ textL ns l ss sn h b n, 0 ≤ c ∧ c ≤ 127) ∧ (textL ns l ss sn h b n).length ≤ 3000 := by
 obtain ⟨k0, k1, k2, k3, k4⟩ := hk
 have hC := tC_good ns
 have hS := tS_good (sn := sn) hse
 have hS2 : ∀ x ∈ tS ss sn, x.1.length ≤ 5 ∧ x.2.length ≤ 5 := by
  intro x hx
  refine ⟨(zid (hS x hx).1).2, ?_⟩
  unfold tS znf at hx
  obtain ⟨p, hp, rfl⟩ := List.mem_map.1 hx
  simp only
  split
  ·rename_i h0
   refine dec_len ?_
   by_cases hlt : p.2 < sn.length
   ·rw [List.getD_eq_getElem?_getD, List.getElem?_eq_getElem hlt]
    exact hsn _ (List.getElem_mem hlt)
   ·rw [List.getD_eq_getElem?_getD, List.getElem?_eq_none (by omega)] at h0
    exact absurd h0 (by decide)
  ·exact Nat.zero_le _
 constructor
 ·intro c hc
  unfold textL at hc
  rcases List.mem_append.1 hc with hc | hc
  ·rcases joinP_mem hc with e | ⟨d, hd, hx⟩
   ·omega
   ·exact isD_asc ((hC d hd).2 c hx)
  rcases List.mem_append.1 hc with hc | hc
  ·rcases tL_good hl with e | ⟨x, e, hx⟩
   ·rw [e] at hc; simp at hc
   ·rw [e] at hc
    have e2 : c = x := by simpa using hc
    rw [e2]
    unfold isL at hx
    have := of_decide_eq_true hx
    omega
  rcases List.mem_append.1 hc with hc | hc
  ·obtain ⟨x, hx, hc⟩ := List.mem_flatMap.1 hc
   obtain ⟨h1, h2⟩ := hS x hx
   rcases List.mem_cons.1 hc with e | hc
   ·omega
   rcases List.mem_append.1 hc with hc | hc
   ·have := zxf h1 c hc; omega
   ·exact isD_asc (h2 c hc)
  rcases List.mem_append.1 hc with hc | hc
  ·unfold tH at hc
   split at hc
   ·simp at hc
   ·rcases List.mem_cons.1 hc with e | hc
    ·omega
    ·have hX := k4 c hc
     have : (48 ≤ c ∧ c ≤ 57) ∨ (97 ≤ c ∧ c ≤ 102) := by simpa [isX, isD] using hX
     omega
  ·unfold tE at hc
   split at hc
   ·rcases List.mem_cons.1 hc with e | hc
    ·omega
    rcases List.mem_cons.1 hc with e | hc
    ·omega
    ·exact isD_asc (zdg n c hc)
   ·simp at hc
 ·have h1 := joinP_len (tC ns) (fun d hd => by
   obtain ⟨x, hx, rfl⟩ := List.mem_map.1 hd
   exact dec_len (hne x hx))
  have h2 := joinS_len (tS ss sn) hS2
  have e1 : (tC ns).length = ns.length := by simp [tC]
  have e2 : (tS ss sn).length = ss.length := by simp [tS, znf]
  have h3 : (tL l).length ≤ 1 := by unfold tL; split <;> simp
  have h4 : (tH h).length ≤ 1 + h.length := by unfold tH; split <;> simp; omega
  have h5 : (tE b n).length ≤ 7 := by
   have := dec_len hn
   unfold tE
   split
   ·simp; omega
   ·simp
  unfold textL
  simp only [List.length_append]
  omega
end Go.Proofs.YtapaijpglfmfgaaDoor.V
end
section
namespace Go.Proofs.YtapaijpglfmfgaaDoor.V
open Go.RowKit YtapaijpglfmfgaaDoor.Q YtapaijpglfmfgaaDoorG YtapaijpglfmfgaaDoorP YtapaijpglfmfgaaDoorH YtapaijpglfmfgaaDoorB YtapaijpglfmfgaaDoorM YtapaijpglfmfgaaDoorW.PrintWords YtapaijpglfmfgaaDoorW.PrintLast
theorem fits_ev (ns : List Int) (l : Int) (ss sn : List Int) (h : ByteArray) (b : Bool) (n : Int) : ∃ q, zhd.f ns l ss sn h b n = some q := by
 unfold zhd.f
 repeat' split
 all_goals exact ⟨_, rfl⟩
theorem ascii_run (x : ByteArray) (hx : x.size ≤ 2000000) : ∀ (m i : Nat), x.size - i = m → i ≤ x.size → ∃ q, Ev (fun k => zlb.l1 k x (i : Int) [x] 1 0) q := by
 intro m
 induction m with
 | zero =>
  intro i hm hi
  refine ⟨true, Ev.succ ?_⟩
  simp only [zlb.l1]
  refine Ev.neg (fun _ => by omega) ?_
  refine Ev.succ ?_
  rw [w64 (i := (0 : Int) + 1) (by omega) (by omega)]
  simp only [zlb.l0]
  refine Ev.neg (fun _ => by omega) ?_
  exact Ev.now _
 | succ m ih =>
  intro i hm hi
  by_cases h : (bytesOf x).getD i 0 > 127
  ·refine ⟨false, Ev.succ ?_⟩
   simp only [zlb.l1, zif]
   refine Ev.pos (fun _ => by omega) ?_
   refine Ev.pos (fun _ => by omega) ?_
   refine Ev.pos (fun _ => h) ?_
   exact Ev.now _
  ·obtain ⟨q, hq⟩ := ih (i + 1) (by omega) (by omega)
   refine ⟨q, Ev.succ ?_⟩
   simp only [zlb.l1, zif]
   refine Ev.pos (fun _ => by omega) ?_
   refine Ev.pos (fun _ => by omega) ?_
   refine Ev.neg (fun _ => h) ?_
   rw [w64 (i := (i : Int) + 1) (by omega) (by omega)]
   exact hq
theorem asciiOne_ev (x : ByteArray) (hx : x.size ≤ 2000000) : ∃ q, Ev (fun k => zlb.f k [x]) q := by
 obtain ⟨q, hq⟩ := ascii_run x hx _ 0 rfl (Nat.zero_le _)
 refine ⟨q, ?_⟩
 simp only [zlb.f, List.length_cons, List.length_nil]
 refine Ev.succ ?_
 simp only [zlb.l0, List.length_cons, List.length_nil]
 refine Ev.pos (fun _ => by omega) ?_
 refine Ev.pos (fun _ => by omega) ?_
 refine Ev.pos (fun _ => by omega) ?_
 have e : rdOf ByteArray.empty [x] 0 = x := rfl
 rw [e]
 exact hq
theorem rest_parse {ns ss sn E : List Int} {l : Int} (hk : tOk ns ss []) (hl : 0 ≤ l) (hse : ∀ x ∈ ss, 0 ≤ x) (hE : Stop E) (h0 : E ≠ []) (hb : E.getD 0 0 ≠ 45) {n : Int} :
  zyc (textL ns l ss sn [] false n ++ E) = ⟨textL ns l ss sn [] false n ++ E, tC ns, tL l, tS ss sn, [], true, [], E⟩ ∧ rest3 (textL ns l ss sn [] false n ++ E) = E := by
 obtain ⟨k0, _, _, _, _⟩ := hk
 have e : textL ns l ss sn [] false n ++ E = zte (tC ns) ++ (tL l ++ (joinS (tS ss sn) ++ ([] ++ E))) := by
  unfold textL
  simp [tH, tE]
 have hB : znd E = (true, [], E) := by
  unfold znd
  rw [if_neg h0, if_neg (fun h => hb (by
   cases E with
   | nil => exact absurd rfl h0
   | cons a r =>
    rw [List.take_succ_cons] at h
    injection h))]
 have := parse_join (h := []) (tC_ne k0) (tC_good ns) (tL_good hl) (tS_good (sn := sn) hse) (.inl rfl) hE
 rw [hB] at this
 rw [e]
 exact this
theorem FnAlpineRest : zc.Pure := by
 intro ns l ss sn h b n x _ hns hl _ hss _ hsn _ hn hx
 have hne : ∀ x ∈ ns, U16 x := fun x hx => u16_of (hns x hx)
 have hl0 := u8_of hl
 have hse : ∀ x ∈ ss, 0 ≤ x := fun x hx => (u8_of (hss x hx)).1
 have hsn' : ∀ x ∈ sn, U16 x := fun x hx => u16_of (hsn x hx)
 have hn' := u16_of hn
 have hz : bytesOf (⟨#[]⟩ : ByteArray) = [] := rfl
 obtain ⟨t1, t2⟩ := text_ev ns hne l hl0.1 ss sn hse hsn' ⟨#[]⟩ false n (fun _ => hn')
 rw [hz] at t1 t2
 refine Ev.rounds ?_
 simp only [zc.f]
 obtain ⟨q, hq⟩ := fits_ev ns l ss sn h b n
 refine Ev.bind0 hq ?_
 have hout0 : Ev (fun k => zc.j0 k x true ns l ss sn h b n) true := by
  refine Ev.succ ?_
  simp only [zc.j0]
  refine Ev.pos (fun _ => by first | rfl | trivial) ?_
  exact Ev.now _
 have hout1 : ∀ (t : ByteArray) (a c d e : ByteArray) (f : Bool) (g : List S54) (i : List S58) (j m : Bool) (o : ByteArray), Ev (fun k => zc.j1 k x t true a c d e f g i j m o) true := by
  intro t a c d e f g i j m o
  refine Ev.succ ?_
  simp only [zc.j1]
  refine Ev.pos (fun _ => by first | rfl | trivial) ?_
  exact Ev.now _
 cases q
 ·refine Ev.neg (fun _ => Bool.false_ne_true) ?_
  exact hout0
 refine Ev.pos (fun _ => by first | rfl | trivial) ?_
 cases hbig : decide ((x.size : Int) > 2147483647)
 case true => exact hout0
 refine Ev.succ ?_
 simp only [zc.j0]
 refine Ev.neg (fun _ => Bool.false_ne_true) ?_
 by_cases hk : tOk ns ss []
 case neg =>
  refine Ev.bind (t2 hk) ?_
  refine Ev.neg (fun _ => Bool.false_ne_true) ?_
  exact hout1 _ _ _ _ _ _ _ _ _ _ _
 refine Ev.bind (t1 hk) ?_
 refine Ev.pos (fun _ => by first | rfl | trivial) ?_
 refine Ev.bind (short_one x) ?_
 by_cases h1 : x.size ≤ 1200
 case neg =>
  refine Ev.neg (fun _ e => h1 (of_decide_eq_true e)) ?_
  exact hout1 _ _ _ _ _ _ _ _ _ _ _
 refine Ev.pos (fun _ => decide_eq_true h1) ?_
 obtain ⟨qa, hqa⟩ := asciiOne_ev x (by omega)
 refine Ev.bind hqa ?_
 cases qa
 ·refine Ev.neg (fun _ => Bool.false_ne_true) ?_
  exact hout1 _ _ _ _ _ _ _ _ _ _ _
 refine Ev.pos (fun _ => by first | rfl | trivial) ?_
 by_cases h0 : bytesOf x = []
 ·refine Ev.pos (fun _ => (zrb x).2 h0) ?_
  exact hout1 _ _ _ _ _ _ _ _ _ _ _
 refine Ev.neg (fun _ e => h0 ((zrb x).1 e)) ?_
 have hp : 0 < x.size := by rw [zwb]; exact List.length_pos_iff.2 h0
 refine Ev.pos (fun _ => by omega) ?_
 obtain ⟨hr, hlen⟩ := textL_good (l := l) (sn := sn) (b := false) (n := n) hk hne hl0.1 hse hsn' hn'
 obtain ⟨T, hT⟩ : ∃ T, T = strOfNums (textL ns l ss sn [] false n) := ⟨_, rfl⟩
 have hB : bytesOf T = textL ns l ss sn [] false n := by rw [hT]; exact B_str (fun c hc => by have := hr c hc; omega)
 have hTs : T.size ≤ 3000 := by rw [zwb, hB]; exact hlen
 unfold goodT
 rw [← hT]
 have hXs : (T ++ x).size ≤ 5000 := by rw [zie]; omega
 have hsz : T.size + x.size ≤ 9223372036854775807 := by omega
 -- what follows where the head is one of the three
 have main : (bt x 0 = 33 ∨ bt x 0 = 43 ∨ bt x 0 = 61) → Ev (fun k => (zd.f k (T ++ x)).bind fun t519 => zc.j1 k x T (!t519) T ⟨#[]⟩ (strOfNums (tL l)) (strOfNums (tH [])) false (numsA (tC ns)) (sufsA (tS ss sn)) true false (magB (decL (tB false n)))) true := by
  intro hh
  rw [zbh] at hh
  have hhd : ∃ r, bytesOf x = (bytesOf x).getD 0 0 :: r := by
   cases e : bytesOf x with
   | nil => exact absurd e h0
   | cons c r => exact ⟨r, rfl⟩
  obtain ⟨r, hr2⟩ := hhd
  have hS : Stop (bytesOf x) := by
   rw [hr2]
   rcases hh with e | e | e <;> rw [e] <;> exact Stop.cons (by decide) (by decide) (by decide) (by decide) (by decide)
  obtain ⟨p1, p2⟩ := rest_parse (sn := sn) (n := n) hk hl0.1 hse hS h0 (by rcases hh with e | e | e <;> rw [e] <;> decide)
  have hBX : bytesOf (T ++ x) = textL ns l ss sn [] false n ++ bytesOf x := by rw [zde, hB]
  rw [← hBX] at p1 p2
  refine Ev.bind (known_ev (T ++ x) (by omega)) ?_
  cases hkn : (decide (∀ y ∈ bytesOf (T ++ x), y ≤ 127) && clearB (rest3 (bytesOf (T ++ x))))
  ·exact hout1 _ _ _ _ _ _ _ _ _ _ _
  have hok : AOk (T ++ x) := ⟨by omega, (Bool.and_eq_true_iff.1 hkn).2⟩
  refine Ev.succ ?_
  simp only [zc.j1]
  refine Ev.neg (fun _ => Bool.false_ne_true) ?_
  refine Ev.pos (fun _ => hsz) ?_
  refine Ev.bind0 (by unfold znc.f; rw [if_pos hok]) ?_
  refine Ev.bind (parse_ev (T ++ x) (by omega)) ?_
  refine Ev.pos (fun _ => by first | rfl | trivial) ?_
  refine Ev.pos (fun _ => by first | rfl | trivial) ?_
  obtain ⟨_, k2, k3, _, _⟩ := hk
  have h := same_ev (T ++ x) (strOfNums (zyc (bytesOf (T ++ x))).r) (strOfNums (zyc (bytesOf (T ++ x))).l) (strOfNums (zyc (bytesOf (T ++ x))).h) (zyc (bytesOf (T ++ x))).i (numsA (zyc (bytesOf (T ++ x))).c) (sufsA (zyc (bytesOf (T ++ x))).s)
   (by rw [numsA_length, p1]; simp [tC]; omega) (by rw [sufsA_length, p1]; simp [tS, znf]; omega) true false (magB (decL (zyc (bytesOf (T ++ x))).b))
  refine Ev.bind h ?_
  refine Ev.pos (fun _ => by first | rfl | trivial) ?_
  rw [p1]
  refine Ev.pos (fun _ => by first | rfl | trivial) ?_
  refine Ev.pos (fun _ => by first | rfl | trivial) ?_
  refine Ev.eq (Ev.now _) ?_
  exact beq_self_eq_true _
 by_cases c1 : bt x 0 = 33
 ·refine Ev.pos (fun _ => c1) ?_
  refine Ev.pos (fun _ => hsz) ?_
  exact main (.inl c1)
 refine Ev.neg (fun _ => c1) ?_
 by_cases c2 : bt x 0 = 43
 ·refine Ev.pos (fun _ => c2) ?_
  refine Ev.pos (fun _ => hsz) ?_
  exact main (.inr (.inl c2))
 refine Ev.neg (fun _ => c2) ?_
 by_cases c3 : bt x 0 = 61
 ·refine Ev.pos (fun _ => c3) ?_
  refine Ev.pos (fun _ => hsz) ?_
  exact main (.inr (.inr c3))
 refine Ev.neg (fun _ => c3) ?_
 exact hout1 _ _ _ _ _ _ _ _ _ _ _
end Go.Proofs.YtapaijpglfmfgaaDoor.V
end
section
namespace Go.Proofs.YtapaijpglfmfgaaDoor.Pure
theorem FnAlpineRest : Q.zc.Pure := V.FnAlpineRest
end Go.Proofs.YtapaijpglfmfgaaDoor.Pure
end
section
namespace Go.Proofs.YtapaijpglfmfgaaDoorG
open Go.RowKit Go.ChangeShapes YtapaijpglfmfgaaDoorW.PrintWords YtapaijpglfmfgaaDoorW.PrintLast
theorem err_star : "*" ++ "errors.errorString" = "*errors.errorString" := by decide
theorem err_row (u : TypeId) (h : Tryd.prog.typeName? 3 u = some "*errors.errorString") : u = 177 :=
 typeName_ptr_named (nm := "errors.errorString") (by rw [err_star]; kernel_rfl) (by kernel_rfl) (by decide) u (by rw [err_star]; exact h)
theorem sent {n : String} {text : List UInt8} {g : Nat} {W : World} (hg : Tryd.prog.globalNamed n = some g) (ht : (Tryd.prog.globals[g]?).map (·.type) = some 71)
    (h : laidMet Tryd.prog [(n, .iface "*errors.errorString" (.ptr (.agg [.lit (.string text)])))] W) : (∃ a, W.cell? ⟨g, 0, none⟩ = some (ErrV a)) ∧ g < W.heap.size := by
  obtain ⟨a, s, hv, _⟩ := laid_sentinel h hg ht Tryd.underlying71 err_row Tryd.underlying177 Tryd.underlying194 rfl rfl Tryd.underlying9 (by kernel_rfl) (by kernel_rfl)
  have hc : W.cell? ⟨g, 0, none⟩ = some (ErrV a) := by
    have h0 := World.var?_cell hg hv 0
    simpa [ErrV] using h0
  refine ⟨⟨a, hc⟩, ?_⟩
  rcases Nat.lt_or_ge g W.heap.size with hl | hl
  · exact hl
  · unfold World.cell? at hc
    rw [Array.getElem?_eq_none hl] at hc
    cases hc
theorem GL_of {l : List (String × DataW Unit)} {W : World} (hL : laidMetH Tryd.prog l W) (hp : (l.all fun x => x.2.handleName?.isNone) = true)
  (e1 : l.filter (fun x => x.1 == "io.EOF") = [("io.EOF", Go.Proofs.YtapaijpglfmfgaaDoor.Rows.laid_io_EOF)])
  (e2 : l.filter (fun x => x.1 == "pub-primogeniture/pub/bigall.errNoDigits") = [("pub-primogeniture/pub/bigall.errNoDigits", Go.Proofs.YtapaijpglfmfgaaDoor.Rows.laid_pub_primogeniture_pub_bigall_errNoDigits)])
  (e3 : l.filter (fun x => x.1 == "pub-primogeniture/pub/scalibr/semantic.ErrInvalidVersion") = [("pub-primogeniture/pub/scalibr/semantic.ErrInvalidVersion", Go.Proofs.YtapaijpglfmfgaaDoor.Rows.laid_pub_primogeniture_pub_scalibr_semantic_ErrInvalidVersion)]) : GL W := by
 have one : ∀ (n : String) (d : DataW Unit), l.filter (fun x => x.1 == n) = [(n, d)] → d.handleName?.isNone = true → laidMet Tryd.prog [(n, d)] W := by
  intro n d e hd
  have h := hL.filter (fun x => x.1 == n)
  rw [e, MakeChecks.laidMetH_plain _ _ _ (by simp [hd])] at h
  exact h
 obtain ⟨h1, g1⟩ := sent (g := 2) (by kernel_rfl) (by kernel_rfl) (one _ _ e1 (by kernel_rfl))
 obtain ⟨h2, g2⟩ := sent (g := 4) (by kernel_rfl) (by kernel_rfl) (one _ _ e2 (by kernel_rfl))
 obtain ⟨h3, g3⟩ := sent (g := 0) (by kernel_rfl) (by kernel_rfl) (one _ _ e3 (by kernel_rfl))
 exact ⟨by omega, h3, h1, h2⟩
end Go.Proofs.YtapaijpglfmfgaaDoorG
end
