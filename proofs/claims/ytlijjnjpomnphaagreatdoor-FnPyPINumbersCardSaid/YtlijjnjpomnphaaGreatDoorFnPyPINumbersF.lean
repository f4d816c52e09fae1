/- Proved here, for the row of the law FnPyPINumbers: contracts of the Go functions that it reaches, each as its theorem 'calls' says, and the words and plain laws that they need (SC, SD, ND, K19, WSized). -/
import Derived.Test.YtlijjnjpomnphaaGreatDoorFnPyPINumbersE
import Derived.Test.YtlijjnjpomnphaaGreatDoorRows
import Derived.Stop.LaidErr
import Derived.Stop.Joined
import Derived.LaidSub
import Derived.MakeChecks
import Derived.SizedLaws
import Derived.ChangeSlices
set_option linter.unusedVariables false
set_option linter.unusedSimpArgs false
set_option maxHeartbeats 8000000
set_option maxRecDepth 100000
section
namespace Go.Proofs.YtlijjnjpomnphaaGreatDoor.V
open Go.RowKit YtlijjnjpomnphaaGreatDoor.Q YtlijjnjpomnphaaGreatDoorG YtlijjnjpomnphaaGreatDoorH YtlijjnjpomnphaaGreatDoorB YtlijjnjpomnphaaGreatDoorC YtlijjnjpomnphaaGreatDoorM YtlijjnjpomnphaaGreatDoorY YtlijjnjpomnphaaGreatDoorP YtlijjnjpomnphaaGreatDoorW.PrintWords YtlijjnjpomnphaaGreatDoorW.PrintLast YtlijjnjpomnphaaGreatDoorW.PrintMore
set_option pp.deepTerms true
set_option pp.maxSteps 1000000
theorem stage_ (w : World) (e k a b c : Int) (hp hd : Bool) (A1 A8 : Option Addr) (c1 c8 : Nat) (ns : List Int) (l : List ByteArray) (hr1 : Kd.C (Kd.int .u16) w A1 ns.length ns) (hc1 : ns.length ≤ c1) (hr8 : Kd.C Kd.string w A8 l.length l) (hc8 : l.length ≤ c8) (he : U16 e) (hne : ∀ x ∈ ns, U16 x) (hk0 : 0 ≤ k) (ha : U16 a) (hb : U16 b) (hc : U16 c) (hl : l.length ≤ 2147483647) :
  Calls Tryz.prog 15 #[.agg #[.int .u16 e, .slice A1 ns.length c1, .int .u8 k, .int .u16 a, .int .u16 b, .int .u16 c, .bool hp, .bool hd, .slice A8 l.length c8]] w (StageP w (if tOk ns l then (strOfNums (zcf e ns k a b c hp hd l), toldY (stageV e ns k a b c hp hd l)) else failT)) := by
 have HR1 := za.mk hr1
 have HR8 := za.mk hr8
 have HC := za.mk (And.intro hc1 hc8)
 have HE := za.mk he
 have HN := za.mk hne
 have HK0 := za.mk hk0
 have HA := za.mk ha
 have HBb := za.mk hb
 have HCc := za.mk hc
 have HL := za.mk hl
 obtain ⟨RR, hRR⟩ : ∃ r : TextT, r = (if tOk ns l then (strOfNums (zcf e ns k a b c hp hd l), toldY (stageV e ns k a b c hp hd l)) else failT) := ⟨_, rfl⟩
 rw [← hRR]
 have HRR := za.mk hRR
 obtain ⟨De, hDe⟩ : ∃ s, s = dS e := ⟨_, rfl⟩
 obtain ⟨Me, hMe⟩ : ∃ s, s = magB e.toNat := ⟨_, rfl⟩
 have HDE := za.mk (fun W : World => by have := zhf W he; rewrite [← hDe] at this; exact this)
 have HNE := za.mk (fun W : World => by have := number_ W he; rewrite [← hDe, ← hMe] at this; exact this)
 have HDe : za (bytesOf De = dec e ∧ De.size ≤ 5 ∧ Me = magB e.toNat) := ⟨by rw [hDe]; exact dS_B e, by rw [hDe]; exact zag he, hMe⟩
 obtain ⟨pb, pl, pm, hP⟩ : ∃ (pb : Bool) (pl pm : ByteArray), pb = (preO k a).isSome ∧ pl = letB (hasP (preO k a)) ∧ pm = magO (hasP (preO k a)) := ⟨_, _, _, rfl, rfl, rfl⟩
 obtain ⟨qb, ql, qm, hQ⟩ : ∃ (pb : Bool) (pl pm : ByteArray), pb = (numO hp b).isSome ∧ pl = letB (hasL (numO hp b) wPost) ∧ pm = magO (hasL (numO hp b) wPost) := ⟨_, _, _, rfl, rfl, rfl⟩
 obtain ⟨db, dl, dm, hD⟩ : ∃ (pb : Bool) (pl pm : ByteArray), pb = (numO hd c).isSome ∧ pl = letB (hasL (numO hd c) wDev) ∧ pm = magO (hasL (numO hd c) wDev) := ⟨_, _, _, rfl, rfl, rfl⟩
 have HPP := za.mk hP
 have HQQ := za.mk hQ
 have HDD := za.mk hD
 clear hr1 hr8 hc1 hc8 he hne hk0 ha hb hc hl hRR hDe hMe hP hQ hD
 go_enter Tryz.func15, Tryz.ntmps15
 go_upto_region 1 with (first | ((with_reducible refine zvc (N := 1) rfl ?_); (try (refine zoc (by rfl) ?_; dsimp only)); refine zdd ?hg (N := 1) ?hd (cs := #[.int .u16 e, .slice A1 ns.length c1, .int .u8 k, .int .u16 a, .int .u16 b, .int .u16 c, .bool hp, .bool hd, .slice A8 l.length c8]) (t := 26) ?hr ?_; (case hd => rfl); (case hg => rfl); (case hr => first | (go_simp; done) | (go_simp; rfl)); intro g1 hg w3 hbox hb; have B1 := za.mk hb; have K1 := za.mk hbox; have L1 := za.mk hg; clear hb hbox hg) | ((with_reducible refine zvc (N := 3) rfl ?_); (try (refine zoc (by rfl) ?_; dsimp only)); refine zdd ?hg (N := 3) ?hd (cs := #[.bool false, .string ⟨#[]⟩, .slice none 0 0, .bool false, .string ⟨#[]⟩, .bool false, .string ⟨#[]⟩, .bool false, .string ⟨#[]⟩, .bool false, .string ⟨#[]⟩, .bool false, .string ⟨#[]⟩, .bool false, .string ⟨#[]⟩, .slice none 0 0, .slice none 0 0]) (t := 34) ?hr ?_; (case hd => rfl); (case hg => rfl); (case hr => first | (go_simp; done) | (go_simp; rfl)); intro g3 hg w4 hbox hb; have K3 := za.mk (And.intro hbox (And.intro hb hg)); clear hb hbox hg))
 have I0 : za (T0 w w4 g1 g3 #[.int .u16 e, .slice A1 ns.length c1, .int .u8 k, .int .u16 a, .int .u16 b, .int .u16 c, .bool hp, .bool hd, .slice A8 l.length c8]) := ⟨⟨zj K1.out K3.out.2.1, K3.out.1, zcb B1.out K3.out.2.1⟩⟩
 have L3 : za (w.heap.size ≤ g1 ∧ w.heap.size ≤ g3 ∧ g3 < w4.heap.size ∧ g1 < w4.heap.size) := ⟨by rw [L1.out]; exact Nat.le_refl _, by rw [K3.out.2.2]; exact B1.out.size, blk_lt K3.out.1, blk_lt (zj K1.out K3.out.2.1)⟩
 clear K1 K3 B1 L1
 go_cut [27] (fun v27 wc => v27 = .bool (!(decide (ns ≠ [] ∧ ns.length ≤ 60) && shortB l)) ∧ za (T0 w wc g1 g3 #[.int .u16 e, .slice A1 ns.length c1, .int .u8 k, .int .u16 a, .int .u16 b, .int .u16 c, .bool hp, .bool hd, .slice A8 l.length c8]) ∧ za (w4.heap.size ≤ wc.heap.size))
 case first =>
  have y1 := cellAt I0.out.b1 1 rfl
  have y8 := cellAt I0.out.b1 8 rfl
  by_cases h1 : ns = []
  ·have e1 : ((ns.length : Int) == 0) = true := by rw [h1]; rfl
   have e2 : ((ns.length : Int) != 0) = false := by rw [h1]; rfl
   have GG : (!(decide (ns ≠ [] ∧ ns.length ≤ 60) && shortB l)) = true := by rw [decide_eq_false (fun h => h.1 h1)]; rfl
   (first | rewrite [e1] | rewrite [e2] | skip)
   go_wp2_with (fail)
   go_meet
   exact ⟨by rw [GG], I0, ⟨Nat.le_refl _⟩⟩
  ·have h1' : ns.length ≠ 0 := fun h => h1 (List.length_eq_zero_iff.1 h)
   have e1 : ((ns.length : Int) == 0) = false := beq_eq_false_iff_ne.mpr (by omega)
   have e2 : ((ns.length : Int) != 0) = true := bne_iff_ne.mpr (by omega)
   (first | rewrite [e1] | rewrite [e2] | skip)
   by_cases h2 : ns.length ≤ 60
   ·have e3 : decide (60 < (ns.length : Int)) = false := decide_eq_false (by omega)
    have e4 : decide (60 < ns.length) = false := decide_eq_false (by omega)
    have GG : (!(decide (ns ≠ [] ∧ ns.length ≤ 60) && shortB l)) = !(shortB l) := by rw [decide_eq_true ⟨h1, h2⟩]; rfl
    go_wp2_with (first | (go_at_call 18; (with_reducible refine (short_ _ (Kd.C_below HR8.out I0.out.below) HC.out.2 HL.out).mono ?_); rintro e' w5 ⟨rfl, hb⟩; have I1 := za.mk (I0.out.to hb); have Z1 := za.mk hb.size; clear hb))
    go_meet
    exact ⟨by rw [GG], I1, Z1⟩
   ·have e3 : decide (60 < (ns.length : Int)) = true := decide_eq_true (by omega)
    have e4 : decide (60 < ns.length) = true := decide_eq_true (by omega)
    have GG : (!(decide (ns ≠ [] ∧ ns.length ≤ 60) && shortB l)) = true := by rw [decide_eq_false (fun h => h2 h.2)]; rfl
    go_wp2_with (fail)
    go_meet
    exact ⟨by rw [GG], I0, ⟨Nat.le_refl _⟩⟩
 case rest =>
  clear I0
  obtain ⟨rfl, I1, Z1⟩ := hcut
  by_cases hg : (decide (ns ≠ [] ∧ ns.length ≤ 60) && shortB l) = true
  case neg =>
   have hg' := Bool.eq_false_iff.mpr hg
   rw [hg']
   have hf : RR = failT := by
    rw [HRR.out, if_neg]
    rintro ⟨t1, t2, t3, t4, _⟩
    exact hg (by unfold shortB; rw [decide_eq_true ⟨t1, t2⟩, decide_eq_true t4, decide_eq_true t3]; rfl)
   subst hf
   simp only [Bool.not_false, Bool.not_true]
   go_wp2_with (((with_reducible refine zee (t := 34) rfl ?_); refine ztf rfl 34 _ _ rfl _ _ #[_, _, _, _, _, _, _, _, _, _, _, _, _, _, _, _, _] 34 rfl rfl (by with_reducible exact I1.out.b3) (by rfl) zqe rfl ?_))
   refine bodyPost_ret (zbg (rs := [.tmp 2, .cell 3 34, .tmp 4]) rfl (by simp) (.tmp (.cell g3 34 #[.bool false, .string ⟨#[]⟩, .slice none 0 0, .bool false, .string ⟨#[]⟩, .bool false, .string ⟨#[]⟩, .bool false, .string ⟨#[]⟩, .bool false, .string ⟨#[]⟩, .bool false, .string ⟨#[]⟩, .bool false, .string ⟨#[]⟩, .slice none 0 0, .slice none 0 0] (0, 0) _ rfl (zch (bs := #[.bool false, .string ⟨#[]⟩, .slice none 0 0, .bool false, .string ⟨#[]⟩, .bool false, .string ⟨#[]⟩, .bool false, .string ⟨#[]⟩, .bool false, .string ⟨#[]⟩, .bool false, .string ⟨#[]⟩, .bool false, .string ⟨#[]⟩, .slice none 0 0, .slice none 0 0]) I1.out.b3 rfl) Tryz.underlying34 rfl (by kernel_rfl) (.tmp .nil)))) rfl ?_
   exact stage_fail I1.out L3.out.2.1
  case pos =>
   rw [hg]
   have HGD : za ((ns ≠ [] ∧ ns.length ≤ 60) ∧ (∀ w ∈ l, w.size ≤ 1200) ∧ l.length ≤ 60) := ⟨by
    unfold shortB at hg
    simp only [Bool.and_eq_true, decide_eq_true_eq] at hg
    exact hg⟩
   clear hg
   simp only [Bool.not_false, Bool.not_true]
   have y0 := cellAt I1.out.b1 0 rfl
   go_upto_if 37 with (first | (go_at_call 21; (with_reducible refine (HDE.out _).mono ?_); rintro e' w5 ⟨rfl, hb⟩; have I2 := za.mk (I1.out.to hb); have Z2 := za.mk hb.size; clear hb y0 I1) | (go_at_call 36; (with_reducible refine (HNE.out _).mono ?_); rintro e' w6 ⟨rfl, hb⟩; have I3 := za.mk (I2.out.to hb); have Z3 := za.mk hb.size; clear hb I2) | ((with_reducible refine zvc (N := 33) rfl ?_); (try (refine zoc (by rfl) ?_; dsimp only)); refine Kd.R_lit Kd.string _ 9 ?hg (N := 33) ?hd (xs := ([(⟨#[]⟩ : ByteArray)] : List ByteArray)) (inner := [.string (⟨#[]⟩ : ByteArray)]) (ok := fun _ => True) (okp := fun _ => True) ?hr ?hp (fun _ hk => hk) trivial (Below.refl _ _) (Nat.le_refl _) (by simp) ?_; (case hd => rfl); (case hg => rfl); (case hr => first | (go_simp; done) | (go_simp; rfl)); (case hp => exact (Reps.one (show Kd.M Kd.string _ _ _ (⟨#[]⟩ : ByteArray) [.string (⟨#[]⟩ : ByteArray)] from rfl) (Reps.none _ _))); intro v33 w7 ho hb hg_ hnew_; clear hg_ hnew_; obtain ⟨A5, cp5, rfl⟩ := Kd.R_slice ho; have I4 := za.mk (I3.out.to hb); have O4 := za.mk (Kd.R_lower ho I3.out.below.size); have Z4 := za.mk hb.size; clear ho hb I3) | ((with_reducible refine zvc (N := 5) rfl ?_); (try (refine zoc (by rfl) ?_; dsimp only)); refine zdd ?hg (N := 5) ?hd (cs := #[.bool false, .string ⟨#[]⟩, .slice none 0 0, .bool false, .string ⟨#[]⟩, .bool false, .string ⟨#[]⟩, .bool false, .string ⟨#[]⟩, .bool false, .string ⟨#[]⟩, .bool false, .string ⟨#[]⟩, .bool false, .string ⟨#[]⟩, .slice none 0 0, .slice none 0 0]) (t := 34) ?hr ?_; (case hd => rfl); (case hg => rfl); (case hr => first | (go_simp; done) | (go_simp; rfl)); intro g5 hg w8 hbox hb; have I5 := za.mk (TInv.mk (I4.out.to hb) hbox (by rw [hg]; have q1 := L3.out.2.2.2; have q2 := Z1.out; have q3 := Z2.out; have q4 := Z3.out; have q5 := Z4.out; omega) (by rw [hg]; have q1 := L3.out.2.2.1; have q2 := Z1.out; have q3 := Z2.out; have q4 := Z3.out; have q5 := Z4.out; omega) (by rw [hg]; exact I4.out.below.size) (Kd.R_nil _ _ _ _ _ : RInts w w8 (.slice none 0 0) []) (Kd.R_below O4.out hb)); clear hb hbox hg I4 O4 Z1 Z2 Z3 Z4) | ((with_reducible refine zee (t := 34) rfl ?_); refine ztf rfl 34 _ _ rfl _ _ #[_, _, _, _, _, _, _, _, _, _, _, _, _, _, _, _, _] 34 rfl rfl (by with_reducible exact I5.out.b5) (by rfl) zqe rfl ?_; generalize hq : World.setCells w8 g5 0 _ = w9; have I6 : za (TInv w w9 g1 g3 g5 #[.int .u16 e, .slice A1 ns.length c1, .int .u8 k, .int .u16 a, .int .u16 b, .int .u16 c, .bool hp, .bool hd, .slice A8 l.length c8] #[.bool false, .string Me, .slice none 0 0, .bool false, .string ⟨#[]⟩, .bool false, .string ⟨#[]⟩, .bool false, .string ⟨#[]⟩, .bool false, .string ⟨#[]⟩, .bool false, .string ⟨#[]⟩, .bool false, .string ⟨#[]⟩, .slice A5 1 cp5, .slice none 0 0] (.slice none 0 0) (.slice A5 1 cp5) [] [⟨#[]⟩]) := ⟨hq ▸ I5.out.store #[.bool false, .string Me, .slice none 0 0, .bool false, .string ⟨#[]⟩, .bool false, .string ⟨#[]⟩, .bool false, .string ⟨#[]⟩, .bool false, .string ⟨#[]⟩, .bool false, .string ⟨#[]⟩, .bool false, .string ⟨#[]⟩, .slice A5 1 cp5, .slice none 0 0] rfl⟩; clear hq I5; have y0 := cellAt I6.out.t.b1 0 rfl))
   have HG3 : za (w.heap.size ≤ g3) := ⟨L3.out.2.1⟩
   clear L3
   go_cut [6] (fun v6 wc => ∃ T : ByteArray, v6 = .string T ∧ za (bytesOf T = epT (epO e) ∧ T.size ≤ 6) ∧ za (TInv w wc g1 g3 g5 #[.int .u16 e, .slice A1 ns.length c1, .int .u8 k, .int .u16 a, .int .u16 b, .int .u16 c, .bool hp, .bool hd, .slice A8 l.length c8] #[.bool false, .string Me, .slice none 0 0, .bool false, .string ⟨#[]⟩, .bool false, .string ⟨#[]⟩, .bool false, .string ⟨#[]⟩, .bool false, .string ⟨#[]⟩, .bool false, .string ⟨#[]⟩, .bool false, .string ⟨#[]⟩, .slice A5 1 cp5, .slice none 0 0] (.slice none 0 0) (.slice A5 1 cp5) [] [⟨#[]⟩]))
   case first =>
    by_cases h0 : e > 0
    ·have e1 : decide (0 < e) = true := decide_eq_true h0
     have s10 : De.size + 1 ≤ 9223372036854775807 := by have := HDe.out.2.1; omega
     have s1a := eq_true s10
     have s1b : decide (De.size + 1 ≤ 9223372036854775807) = true := decide_eq_true s10
     have s1 : (9223372036854775807 < De.size + 1) = False := eq_false (Nat.not_lt.2 s10)
     have E0 : za (bytesOf (De ++ (⟨#[33]⟩ : ByteArray)) = epT (epO e) ∧ (De ++ (⟨#[33]⟩ : ByteArray)).size ≤ 6) := ⟨by rw [zac, HDe.out.1]; unfold epO; rw [if_pos h0]; rfl, by rw [zkc]; have := HDe.out.2.1; have e5 : (⟨#[33]⟩ : ByteArray).size = 1 := rfl; omega⟩
     clear h0
     (first | rewrite [e1] | rewrite [e2] | skip)
     go_wp2_with (go_at_call 21; (with_reducible refine (HDE.out _).mono ?_); rintro e' w10 ⟨rfl, hb⟩; have I7 := za.mk (I6.out.to hb); clear hb)
     go_meet

     refine ⟨De ++ (⟨#[33]⟩ : ByteArray), rfl, ?_, ?_⟩
     ·exact E0
     ·exact I7
    ·have e1 : decide (0 < e) = false := decide_eq_false h0
     have E0 : za (bytesOf (⟨#[]⟩ : ByteArray) = epT (epO e) ∧ (⟨#[]⟩ : ByteArray).size ≤ 6) := ⟨by unfold epO; rw [if_neg h0]; rfl, by decide⟩
     clear h0
     (first | rewrite [e1] | rewrite [e2] | skip)
     go_wp2_with (fail)
     go_meet
     refine ⟨⟨#[]⟩, rfl, ?_, ?_⟩
     ·exact E0
     ·exact I6
   case rest =>
    clear I6 HDE HNE
    obtain ⟨T1, rfl, ET, I7⟩ := hcut
    have y1 := cellAt I7.out.t.b1 1 rfl
    go_wp2
    go_loopw [6, 45] (fun v6 iv wr => ∃ (i : Nat) (T : ByteArray) (rv : Value), i ≤ ns.length ∧ v6 = .string T ∧ iv = .int .i64 (i : Int) ∧ za (bytesOf T = epT (epO e) ++ relN ns i) ∧ za (TInv w wr g1 g3 g5 #[.int .u16 e, .slice A1 ns.length c1, .int .u8 k, .int .u16 a, .int .u16 b, .int .u16 c, .bool hp, .bool hd, .slice A8 l.length c8] #[.bool false, .string Me, rv, .bool false, .string ⟨#[]⟩, .bool false, .string ⟨#[]⟩, .bool false, .string ⟨#[]⟩, .bool false, .string ⟨#[]⟩, .bool false, .string ⟨#[]⟩, .bool false, .string ⟨#[]⟩, .slice A5 1 cp5, .slice none 0 0] rv (.slice A5 1 cp5) (intsN (ns.take i)) [⟨#[]⟩])) (fun _ iv _ => ns.length - (intOf iv).toNat)
    case atStart => exact ⟨0, T1, _, Nat.zero_le _, rfl, rfl, ⟨by rw [ET.out.1]; simp [relN, relT]⟩, I7⟩
    case round =>
     obtain ⟨i, T, rv, hi, rfl, rfl, HT, HI⟩ := hrel
     clear I7
     have HTS : za (T.size ≤ 400) := ⟨by have q1 := relN_len HN.out i; have q2 := HGD.out.1.2; have q3 := ET.out.2; rw [zhe, ET.out.1] at q3; rw [zhe, HT.out, List.length_append]; omega⟩
     by_cases hlt : i < ns.length
     ·have i3 : decide ((i : Int) < (ns.length : Int)) = true := decide_eq_true (by omega)
      have i4 : ((i : Int) < (ns.length : Int)) = True := eq_true (by omega)
      have i5 : (0 ≤ (i : Int)) = True := eq_true (by omega)
      have WR : wrap64 ((i : Int) + 1) = ((i + 1 : Nat) : Int) := by have := HGD.out.1.2; unfold wrap64; omega
      have LT := za.mk hlt
      obtain ⟨ad, ea, hx0⟩ := Kd.at_int HR1.out (i : Int) (by omega) (by omega)
      have hx := (HI.out.t.below.cell (World.block_lt_of_cell? w _ hx0)).trans hx0
      subst ea
      obtain ⟨d, hd⟩ : ∃ d, d = rd ns (i : Int) := ⟨_, rfl⟩
      rw [← hd, Int.toNat_natCast] at hx
      have HU : za (U16 d) := ⟨by rw [hd, rd_nat, List.getD_eq_getElem?_getD, List.getElem?_eq_getElem hlt]; exact HN.out _ (List.getElem_mem _)⟩
      obtain ⟨Dd, hDd⟩ : ∃ s, s = dS d := ⟨_, rfl⟩
      obtain ⟨Md, hMd⟩ : ∃ s, s = magB d.toNat := ⟨_, rfl⟩
      have HDd := za.mk (fun W : World => by have := zhf W HU.out; rewrite [← hDd] at this; exact this)
      have HNd := za.mk (fun W : World => by have := number_ W HU.out; rewrite [← hDd, ← hMd] at this; exact this)
      have HSd : za (Dd.size ≤ 5) := ⟨by rw [hDd]; exact zag HU.out⟩
      have HX2 : za (intsN (ns.take i) ++ [(⟨false, Md⟩ : S29)] = intsN (ns.take (i + 1))) := ⟨by unfold intsN; rw [List.take_add_one, List.getElem?_eq_getElem hlt, List.map_append, hMd, hd, rd_nat, List.getD_eq_getElem?_getD, List.getElem?_eq_getElem hlt]; rfl⟩
      have HT2 : za (∀ T' : ByteArray, bytesOf T' = bytesOf T ++ (if i = 0 then [] else [46]) → bytesOf (T' ++ Dd) = epT (epO e) ++ relN ns (i + 1)) := ⟨fun T' h => by rw [zac, h, HT.out, relN_step hlt, hDd, dS_B, hd]; simp only [List.append_assoc]⟩
      have HLI : za ((intsN (ns.take i)).length ≤ 60) := ⟨by unfold intsN; rw [List.length_map, List.length_take]; have := HGD.out.1.2; omega⟩
      clear hi hlt hx0 hd hDd hMd HT HU
      go_upto_if 51 with (fail)
      go_cut [6] (fun v6 wc => ∃ T' : ByteArray, v6 = .string T' ∧ za (bytesOf T' = bytesOf T ++ (if i = 0 then [] else [46]) ∧ T'.size ≤ 401) ∧ za (TInv w wc g1 g3 g5 #[.int .u16 e, .slice (some ad) ns.length c1, .int .u8 k, .int .u16 a, .int .u16 b, .int .u16 c, .bool hp, .bool hd, .slice A8 l.length c8] #[.bool false, .string Me, rv, .bool false, .string ⟨#[]⟩, .bool false, .string ⟨#[]⟩, .bool false, .string ⟨#[]⟩, .bool false, .string ⟨#[]⟩, .bool false, .string ⟨#[]⟩, .bool false, .string ⟨#[]⟩, .slice A5 1 cp5, .slice none 0 0] rv (.slice A5 1 cp5) (intsN (ns.take i)) [⟨#[]⟩]))
      case first =>
       by_cases h0 : i = 0
       ·have e1 : decide (0 < (i : Int)) = false := decide_eq_false (by omega)
        have e2 : decide (0 < i) = false := decide_eq_false (by omega)
        have E0 : za (bytesOf T = bytesOf T ++ (if i = 0 then [] else [46]) ∧ T.size ≤ 401) := ⟨by rw [if_pos h0, List.append_nil], by have := HTS.out; omega⟩
        clear h0
        (first | rewrite [e1] | rewrite [e2] | skip)
        go_wp2_with (fail)
        go_meet
        exact ⟨T, rfl, E0, HI⟩
       ·have e1 : decide (0 < (i : Int)) = true := decide_eq_true (by omega)
        have e2 : decide (0 < i) = true := decide_eq_true (by omega)
        have s10 : T.size + 1 ≤ 9223372036854775807 := by have := HTS.out; omega
        have s1a := eq_true s10
        have s1b : decide (T.size + 1 ≤ 9223372036854775807) = true := decide_eq_true s10
        have s1 : (9223372036854775807 < T.size + 1) = False := eq_false (Nat.not_lt.2 s10)
        have E0 : za (bytesOf (T ++ (⟨#[46]⟩ : ByteArray)) = bytesOf T ++ (if i = 0 then [] else [46]) ∧ (T ++ (⟨#[46]⟩ : ByteArray)).size ≤ 401) := ⟨by rw [if_neg h0, zac]; rfl, by rw [zkc]; have := HTS.out; have e5 : (⟨#[46]⟩ : ByteArray).size = 1 := rfl; omega⟩
        clear h0
        (first | rewrite [e1] | rewrite [e2] | skip)
        go_wp2_with (fail)
        go_meet
        exact ⟨T ++ (⟨#[46]⟩ : ByteArray), rfl, E0, HI⟩
      case rest =>
       clear HI hx
       obtain ⟨T2, rfl, ET2, I8⟩ := hcut
       have s10 : T2.size + Dd.size ≤ 9223372036854775807 := by have := ET2.out.2; have := HSd.out; omega
       have s1a := eq_true s10
       have s1b : decide (T2.size + Dd.size ≤ 9223372036854775807) = true := decide_eq_true s10
       have s1 : (9223372036854775807 < T2.size + Dd.size) = False := eq_false (Nat.not_lt.2 s10)
       go_upto_region 13 with (go_at_call 21; (with_reducible refine (HDd.out _).mono ?_); rintro e' w12 ⟨rfl, hb⟩; have I9 := za.mk (I8.out.to hb); clear hb I8)
       refine start_ (n := 9) (S := fun w' => w'.cell? ⟨g5, 2, none⟩ = some (rv)) (ds := [8]) #[false, false, false, false, false, false, false, false, false] (by kernel_rfl) rfl rfl (cellAt (I9.out.to (zbd (Below.refl _ _))).b5 2 rfl) (fun hHeld => ?_)
       have I10 := za.mk (I9.out.to (zbd (Below.refl _ _)))
       clear I9
       generalize w12.drew = w13 at I10 hHeld ⊢
       refine pure_ (i := 0) (N := some 58) (v := ?_) (a' := ?_) #[true, false, false, false, false, false, false, false, false] rfl rfl (by kernel_rfl) (fun _ _ _ h => h) (Or.inl ⟨by rfl, ?_⟩) ?_ ?_
       rotate_left
       ·intro w'
        go_simp
        with_reducible rfl
       rotate_left
       ·simp only [Act.put, List.setIfInBounds_toArray, List.set_cons_zero, List.set_cons_succ, i64_w, i32_w]
        rfl
       refine pure_ (i := 2) (N := some 60) (v := ?_) (a' := ?_) #[true, false, true, false, false, false, false, false, false] rfl rfl (by kernel_rfl) (fun _ _ _ h => h) (Or.inl ⟨by rfl, ?_⟩) ?_ ?_
       rotate_left
       ·intro w'
        go_simp
        with_reducible rfl
       rotate_left
       ·simp only [Act.put, List.setIfInBounds_toArray, List.set_cons_zero, List.set_cons_succ, i64_w, i32_w]
        rfl
       refine take_ (i := 1) (N := some 59) (v := ?_) (a' := ?_) #[true, true, true, false, false, false, false, false, false] rfl rfl (by kernel_rfl) (fun _ _ _ h => h) (Or.inl ⟨by rfl, ?_⟩) hHeld ?_ ?_
       rotate_left
       ·intro w' s0
        go_simp
        with_reducible rfl
       rotate_left
       ·simp only [Act.put, List.setIfInBounds_toArray, List.set_cons_zero, List.set_cons_succ, i64_w, i32_w]
        rfl
       refine one_ (i := 3) (N := some 61) #[true, true, true, true, false, false, false, false, false] rfl rfl (by kernel_rfl) (by decide) (fun K hK => ?_)
       refine goes_ Tryz.func21 (by kernel_rfl) rfl #[.int .u16 d] (by rfl) rfl rfl (by simp only [List.map_toArray, List.map_cons, List.map_nil]; rfl) ?_
       with_reducible refine (HDd.out _).mono ?_
       rintro e w14 ⟨rfl, hb⟩
       refine ⟨_, rfl, ?_⟩
       have I11 := za.mk (I10.out.to hb)
       clear hb I10
       refine hK.out _ _ (cellAt I11.out.b5 2 rfl) (fun hHeld => ?_)
       clear hK K
       refine Go.Proofs.YtlijjnjpomnphaaGreatDoorW.PrintLast.norm_ (a' := ?_) ?_ ?_
       rotate_left
       ·show Act.put _ (some 61) _ = _
        simp only [Act.put, List.setIfInBounds_toArray, List.set_cons_zero, List.set_cons_succ, i64_w, i32_w]
        rfl
       refine one_ (i := 4) (N := some 62) #[true, true, true, true, true, false, false, false, false] rfl rfl (by kernel_rfl) (by decide) (fun K hK => ?_)
       refine goes_ Tryz.func36 (by kernel_rfl) rfl #[.string Dd] (by rfl) rfl rfl (by simp only [List.map_toArray, List.map_cons, List.map_nil]; rfl) ?_
       with_reducible refine (HNd.out _).mono ?_
       rintro e w15 ⟨rfl, hb⟩
       refine ⟨_, rfl, ?_⟩
       have I12 := za.mk (I11.out.to hb)
       clear hb I11
       refine hK.out _ _ (cellAt I12.out.b5 2 rfl) (fun hHeld => ?_)
       clear hK K
       refine Go.Proofs.YtlijjnjpomnphaaGreatDoorW.PrintLast.norm_ (a' := ?_) ?_ ?_
       rotate_left
       ·show Act.put _ (some 62) _ = _
        simp only [Act.put, List.setIfInBounds_toArray, List.set_cons_zero, List.set_cons_succ, i64_w, i32_w]
        rfl
       refine one_ (i := 5) (N := some 63) #[true, true, true, true, true, true, false, false, false] rfl rfl (by kernel_rfl) (by decide) (fun K hK => ?_)
       refine value_ (w1 := ?_) (v := ?_) (by rfl) rfl ?_ ?_
       rotate_left 2
       ·go_simp
        constructor
        ·rfl
        ·rfl
       refine hK.out _ _ (cellAt (zab I12.out.b5 _) 2 rfl) (fun hHeld => ?_)
       clear hK K
       refine Go.Proofs.YtlijjnjpomnphaaGreatDoorW.PrintLast.norm_ (a' := ?_) ?_ ?_
       rotate_left
       ·show Act.put _ (some 63) _ = _
        simp only [Act.put, List.setIfInBounds_toArray, List.set_cons_zero, List.set_cons_succ, i64_w, i32_w]
        rfl
       refine one_ (i := 6) (N := some 64) #[true, true, true, true, true, true, true, false, false] rfl rfl (by kernel_rfl) (by decide) (fun K hK => ?_)
       refine Kd.R_append_step k29 (w0 := w) w.heap.size (by rfl) (.tmp 59) (.tmp 63) 30 29 (.agg #[(.bool false), (.string ⟨#[]⟩)]) 24 rfl Tryz.underlying30 info29 rfl (by decide) (by omega) rv (intsN (ns.take i)) (⟨false, Md⟩ : S29) [.bool false, .string Md] (fun _ => True) (fun _ => False) rfl rfl ?aP (fun _ hk => hk.elim) ?aF ?aO ?aB ?aS ?aL ?_
       (case aP => exact k29_mkM _ _ _ (⟨false, Md⟩ : S29))
       (case aB => exact I12.out.t.below)
       (case aF => exact (fun _ _ => trivial))
       (case aO => exact I12.out.ro)
       (case aS => exact I12.out.t.below.size)
       (case aL => have := HLI.out; omega)
       intro v1 w16 ho hb hg hat
       obtain ⟨A3, n3, cp3, rfl⟩ : ∃ A n c, v1 = .slice A n c := (by obtain ⟨A, c, e⟩ := Kd.R_slice ho; exact ⟨A, _, c, e⟩)
       have I14 := za.mk (I12.out.ints ho hg)
       clear ho hb hg hat I12
       have f2 := zr I14.out.b5 2
       have y2 := cellAt I14.out.b5 2 rfl
       refine hK.out _ _ (cellAt I14.out.b5 2 rfl) (fun hHeld => ?_)
       clear hK K
       refine Go.Proofs.YtlijjnjpomnphaaGreatDoorW.PrintLast.norm_ (a' := ?_) ?_ ?_
       rotate_left
       ·show Act.put _ (some 64) _ = _
        simp only [Act.put, List.setIfInBounds_toArray, List.set_cons_zero, List.set_cons_succ, i64_w, i32_w]
        rfl
       refine pure_ (i := 7) (N := some 65) (v := ?_) (a' := ?_) #[true, true, true, true, true, true, true, true, false] rfl rfl (by kernel_rfl) (fun _ _ _ h => h) (Or.inl ⟨by rfl, ?_⟩) ?_ ?_
       rotate_left
       ·intro w'
        go_simp
        with_reducible rfl
       rotate_left
       ·simp only [Act.put, List.setIfInBounds_toArray, List.set_cons_zero, List.set_cons_succ, i64_w, i32_w]
        rfl
       refine last_ (i := 8) (N := none) #[true, true, true, true, true, true, true, true, true] rfl rfl (by kernel_rfl) (by decide) (fun K hK => ?_)
       refine skip_ (w1 := ?_) (by rfl) rfl ?_ ?_
       rotate_left
       ·go_simp
        rfl
       refine hK.out _ _ ?_
       clear hK K
       refine done_ (by kernel_rfl) ?_
       have I15 : za (TInv w (w16.setCell ⟨g5, 2, none⟩ (.slice A3 n3 cp3)) g1 g3 g5 #[.int .u16 e, .slice (some ad) ns.length c1, .int .u8 k, .int .u16 a, .int .u16 b, .int .u16 c, .bool hp, .bool hd, .slice A8 l.length c8] #[.bool false, .string Me, .slice A3 n3 cp3, .bool false, .string ⟨#[]⟩, .bool false, .string ⟨#[]⟩, .bool false, .string ⟨#[]⟩, .bool false, .string ⟨#[]⟩, .bool false, .string ⟨#[]⟩, .bool false, .string ⟨#[]⟩, .slice A5 1 cp5, .slice none 0 0] (.slice A3 n3 cp3) (.slice A5 1 cp5) (intsN (ns.take (i + 1))) [⟨#[]⟩]) := ⟨by rw [← HX2.out]; exact I14.out.put 2 (.slice A3 n3 cp3)⟩
       have HT3 := za.mk (HT2.out T2 ET2.out.1)
       try go_wp2
       go_roundw
       all_goals first | exact ⟨i + 1, T2 ++ Dd, .slice A3 n3 cp3, LT.out, rfl, by first | rfl | go_num, HT3, I15⟩ | exact zgf _ i LT.out | exact meas_up1 _ i LT.out | exact zdg _ i LT.out WR
     ·obtain rfl : i = ns.length := by omega
      have i3 : decide ((ns.length : Int) < (ns.length : Int)) = false := decide_eq_false (by omega)
      have i4 : ((ns.length : Int) < (ns.length : Int)) = False := eq_false (by omega)
      rw [List.take_length] at HI
      have HT1 : za (bytesOf T = epT (epO e) ++ relT (ns.map dec)) := ⟨by rw [HT.out]; unfold relN; rw [List.take_length]⟩
      clear hlt hi HT
      have y2 := cellAt HI.out.t.b1 2 rfl
      go_upto_if 71 with (fail)
      have HDe2 : za (Me = magB e.toNat) := ⟨HDe.out.2.2⟩
      clear HN HDe
      have HB1 : za (∃ X, bytesOf T = X ∧ X = epT (epO e) ++ relT (ns.map dec)) := ⟨_, rfl, HT1.out⟩
      go_cut [6] (fun v6 wc => ∃ T' : ByteArray, v6 = .string T' ∧ za (bytesOf T' = bytesOf T ++ preT (preO k a) ∧ T'.size ≤ 410) ∧ za (TInv w wc g1 g3 g5 #[.int .u16 e, .slice A1 ns.length c1, .int .u8 k, .int .u16 a, .int .u16 b, .int .u16 c, .bool hp, .bool hd, .slice A8 l.length c8] #[.bool false, .string Me, rv, .bool pb, .string pl, .bool false, .string pm, .bool false, .string ⟨#[]⟩, .bool false, .string ⟨#[]⟩, .bool false, .string ⟨#[]⟩, .bool false, .string ⟨#[]⟩, .slice A5 1 cp5, .slice none 0 0] rv (.slice A5 1 cp5) (intsN ns) [⟨#[]⟩]))
      case first =>
       by_cases h0 : Int.tmod k 4 > 0
       ·obtain ⟨j, hm⟩ : ∃ j : Nat, Int.tmod k 4 = (j : Int) + 1 := ⟨(Int.tmod k 4 - 1).toNat, by omega⟩
        have hj3 : j < 3 := by have := kind_cases HK0.out; omega
        have e1 : decide (0 < Int.tmod k 4) = true := decide_eq_true h0
        obtain ⟨q1, q2, q3, q4⟩ := pre_some (a := a) hm hj3
        have hb1 : pb = true := HPP.out.1.trans q1
        have hb2 : pl = kb j := HPP.out.2.1.trans q2
        have hb3 : pm = magB a.toNat := HPP.out.2.2.trans q3
        obtain ⟨Da, hDa⟩ : ∃ s, s = dS a := ⟨_, rfl⟩
        have HDa := za.mk (fun W : World => by have := zhf W HA.out; rewrite [← hDa] at this; exact this)
        have HNa := za.mk (fun W : World => by have := number_ W HA.out; rewrite [← hDa, ← hb3] at this; exact this)
        have HKB : za ((#[.string ⟨#[97]⟩, .string ⟨#[98]⟩, .string ⟨#[114, 99]⟩] : Array Value)[j]? = some (.string pl)) := ⟨by rw [hb2]; exact kb_at hj3⟩
        have HTT : za (bytesOf (T ++ (pl ++ Da)) = bytesOf T ++ preT (preO k a) ∧ (T ++ (pl ++ Da)).size ≤ 410) := ⟨by rw [zac, zac, q4, hb2, hDa, dS_B], by rw [zkc, zkc, hb2, hDa]; have := kb_size j; have := zag HA.out; have := HTS.out; omega⟩
        have z1 : pl.size ≤ 2 := by rw [hb2]; exact kb_size j
        have z2 : Da.size ≤ 5 := by rw [hDa]; exact zag HA.out
        have HZ := za.mk (And.intro z1 z2)
        have HJ := za.mk (And.intro hj3 hm)
        have wj : (Int.tmod k 4 - 1) % 256 = (j : Int) := by omega
        have wj1 : IntKind.u8.wrap (Int.tmod k 4 - 1) = (j : Int) := by simp only [IntKind.wrap, IntKind.signed, IntKind.bits]; simpa using wj
        have wj2 : (0 ≤ (j : Int)) = True := eq_true (by omega)
        have wj3 : ((j : Int) < 3) = True := eq_true (by omega)
        have wj4 : (j < 3) = True := eq_true hj3
        subst hb1
        clear q1 q2 q3 q4 hb2 hb3 hDa hm h0 z1 z2 hj3
        (first | rewrite [e1] | skip)
        go_upto_region 17 with (fail)
        refine start_ (n := 12) (S := fun w' => w'.cell? ⟨g1, 3, none⟩ = some (.int .u16 a)) (ds := [11]) #[false, false, false, false, false, false, false, false, false, false, false, false] (by kernel_rfl) rfl rfl (cellAt (HI.out.to (zbd (Below.refl _ _))).t.b1 3 rfl) (fun hHeld => ?_)
        have ti := HI.out.to (zbd (Below.refl _ _))
        generalize wr.drew = w20 at ti hHeld ⊢
        refine pure_ (i := 1) (N := some 73) (v := ?_) (a' := ?_) #[false, true, false, false, false, false, false, false, false, false, false, false] rfl rfl (by kernel_rfl) (fun _ _ _ h => h) (Or.inl ⟨by rfl, ?_⟩) ?_ ?_
        rotate_left
        ·intro w'
         go_simp
         with_reducible rfl
        rotate_left
        ·simp only [Act.put, List.setIfInBounds_toArray, List.set_cons_zero, List.set_cons_succ, i64_w, i32_w]
         rfl
        refine pure_ (i := 2) (N := some 74) (v := ?_) (a' := ?_) #[false, true, true, false, false, false, false, false, false, false, false, false] rfl rfl (by kernel_rfl) (fun _ _ _ h => h) (Or.inl ⟨by rfl, ?_⟩) ?_ ?_
        rotate_left
        ·intro w'
         go_simp
         with_reducible rfl
        rotate_left
        ·simp only [Act.put, List.setIfInBounds_toArray, List.set_cons_zero, List.set_cons_succ, i64_w, i32_w]
         rfl
        refine pure_ (i := 5) (N := some 77) (v := ?_) (a' := ?_) #[false, true, true, false, false, true, false, false, false, false, false, false] rfl rfl (by kernel_rfl) (fun _ _ _ h => h) (Or.inl ⟨by rfl, ?_⟩) ?_ ?_
        rotate_left
        ·intro w'
         go_simp
         with_reducible rfl
        rotate_left
        ·simp only [Act.put, List.setIfInBounds_toArray, List.set_cons_zero, List.set_cons_succ, i64_w, i32_w]
         rfl
        refine take_ (i := 6) (N := some 78) (v := ?_) (a' := ?_) #[false, true, true, false, false, true, true, false, false, false, false, false] rfl rfl (by kernel_rfl) (fun _ _ _ h => h) (Or.inl ⟨by rfl, ?_⟩) hHeld ?_ ?_
        rotate_left
        ·intro w' s0
         go_simp
         with_reducible rfl
        rotate_left
        ·simp only [Act.put, List.setIfInBounds_toArray, List.set_cons_zero, List.set_cons_succ, i64_w, i32_w]
         rfl
        refine join_ (σ := Nat) 3 #[true, true, true, true, true, true, true, true, true, false, false, false] (fun s_ => [(72, .slice (some ⟨s_, 0, none⟩) 3 3), (75, .pointer (some ⟨s_, j, none⟩)), (76, .string pl), (79, .string Da), (80, .agg #[.bool false, .string pm])]) (fun s_ w' => w'.cell? ⟨g1, 3, none⟩ = some (.int .u16 a) ∧ TInv w w' g1 g3 g5 #[.int .u16 e, .slice A1 ns.length c1, .int .u8 k, .int .u16 a, .int .u16 b, .int .u16 c, .bool hp, .bool hd, .slice A8 l.length c8] #[.bool false, .string Me, rv, .bool false, .string ⟨#[]⟩, .bool false, .string ⟨#[]⟩, .bool false, .string ⟨#[]⟩, .bool false, .string ⟨#[]⟩, .bool false, .string ⟨#[]⟩, .bool false, .string ⟨#[]⟩, .slice A5 1 cp5, .slice none 0 0] rv (.slice A5 1 cp5) (intsN ns) [⟨#[]⟩] ∧ w'.heap[s_]? = some (.cells #[.string ⟨#[97]⟩, .string ⟨#[98]⟩, .string ⟨#[114, 99]⟩] 9 (0, 0))) ?_ ?_
        rotate_left
        ·intro hJ0_4_7_8
         refine join_ (σ := Nat) 4 #[true, true, true, true, true, true, true, true, false, false, false, false] (fun s_ => [(72, .slice (some ⟨s_, 0, none⟩) 3 3), (75, .pointer (some ⟨s_, j, none⟩)), (76, .string pl), (79, .string Da)]) (fun s_ w' => w'.cell? ⟨g1, 3, none⟩ = some (.int .u16 a) ∧ TInv w w' g1 g3 g5 #[.int .u16 e, .slice A1 ns.length c1, .int .u8 k, .int .u16 a, .int .u16 b, .int .u16 c, .bool hp, .bool hd, .slice A8 l.length c8] #[.bool false, .string Me, rv, .bool false, .string ⟨#[]⟩, .bool false, .string ⟨#[]⟩, .bool false, .string ⟨#[]⟩, .bool false, .string ⟨#[]⟩, .bool false, .string ⟨#[]⟩, .bool false, .string ⟨#[]⟩, .slice A5 1 cp5, .slice none 0 0] rv (.slice A5 1 cp5) (intsN ns) [⟨#[]⟩] ∧ w'.heap[s_]? = some (.cells #[.string ⟨#[97]⟩, .string ⟨#[98]⟩, .string ⟨#[114, 99]⟩] 9 (0, 0))) ?_ ?_
         rotate_left
         ·intro hJ0_4_7
          refine join_ (σ := Nat) 4 #[true, true, true, true, false, true, true, true, true, false, false, false] (fun s_ => [(72, .slice (some ⟨s_, 0, none⟩) 3 3), (75, .pointer (some ⟨s_, j, none⟩)), (79, .string Da), (80, .agg #[.bool false, .string pm])]) (fun s_ w' => w'.cell? ⟨g1, 3, none⟩ = some (.int .u16 a) ∧ TInv w w' g1 g3 g5 #[.int .u16 e, .slice A1 ns.length c1, .int .u8 k, .int .u16 a, .int .u16 b, .int .u16 c, .bool hp, .bool hd, .slice A8 l.length c8] #[.bool false, .string Me, rv, .bool false, .string ⟨#[]⟩, .bool false, .string ⟨#[]⟩, .bool false, .string ⟨#[]⟩, .bool false, .string ⟨#[]⟩, .bool false, .string ⟨#[]⟩, .bool false, .string ⟨#[]⟩, .slice A5 1 cp5, .slice none 0 0] rv (.slice A5 1 cp5) (intsN ns) [⟨#[]⟩] ∧ w'.heap[s_]? = some (.cells #[.string ⟨#[97]⟩, .string ⟨#[98]⟩, .string ⟨#[114, 99]⟩] 9 (0, 0))) ?_ ?_
          rotate_left
          ·intro hJ0_7_8
           refine join_ (σ := Nat) 5 #[true, true, true, true, true, true, true, false, false, false, false, false] (fun s_ => [(72, .slice (some ⟨s_, 0, none⟩) 3 3), (75, .pointer (some ⟨s_, j, none⟩)), (76, .string pl)]) (fun s_ w' => w'.cell? ⟨g1, 3, none⟩ = some (.int .u16 a) ∧ TInv w w' g1 g3 g5 #[.int .u16 e, .slice A1 ns.length c1, .int .u8 k, .int .u16 a, .int .u16 b, .int .u16 c, .bool hp, .bool hd, .slice A8 l.length c8] #[.bool false, .string Me, rv, .bool false, .string ⟨#[]⟩, .bool false, .string ⟨#[]⟩, .bool false, .string ⟨#[]⟩, .bool false, .string ⟨#[]⟩, .bool false, .string ⟨#[]⟩, .bool false, .string ⟨#[]⟩, .slice A5 1 cp5, .slice none 0 0] rv (.slice A5 1 cp5) (intsN ns) [⟨#[]⟩] ∧ w'.heap[s_]? = some (.cells #[.string ⟨#[97]⟩, .string ⟨#[98]⟩, .string ⟨#[114, 99]⟩] 9 (0, 0))) ?_ ?_
           rotate_left
           ·intro hJ0_4
            refine join_ (σ := Nat) 5 #[true, true, true, true, false, true, true, true, false, false, false, false] (fun s_ => [(72, .slice (some ⟨s_, 0, none⟩) 3 3), (75, .pointer (some ⟨s_, j, none⟩)), (79, .string Da)]) (fun s_ w' => w'.cell? ⟨g1, 3, none⟩ = some (.int .u16 a) ∧ TInv w w' g1 g3 g5 #[.int .u16 e, .slice A1 ns.length c1, .int .u8 k, .int .u16 a, .int .u16 b, .int .u16 c, .bool hp, .bool hd, .slice A8 l.length c8] #[.bool false, .string Me, rv, .bool false, .string ⟨#[]⟩, .bool false, .string ⟨#[]⟩, .bool false, .string ⟨#[]⟩, .bool false, .string ⟨#[]⟩, .bool false, .string ⟨#[]⟩, .bool false, .string ⟨#[]⟩, .slice A5 1 cp5, .slice none 0 0] rv (.slice A5 1 cp5) (intsN ns) [⟨#[]⟩] ∧ w'.heap[s_]? = some (.cells #[.string ⟨#[97]⟩, .string ⟨#[98]⟩, .string ⟨#[114, 99]⟩] 9 (0, 0))) ?_ ?_
            rotate_left
            ·intro hJ0_7
             refine join_ (σ := Unit) 6 #[false, true, true, false, false, true, true, true, true, false, false, false] (fun s_ => [(79, .string Da), (80, .agg #[.bool false, .string pm])]) (fun s_ w' => w'.cell? ⟨g1, 3, none⟩ = some (.int .u16 a) ∧ TInv w w' g1 g3 g5 #[.int .u16 e, .slice A1 ns.length c1, .int .u8 k, .int .u16 a, .int .u16 b, .int .u16 c, .bool hp, .bool hd, .slice A8 l.length c8] #[.bool false, .string Me, rv, .bool false, .string ⟨#[]⟩, .bool false, .string ⟨#[]⟩, .bool false, .string ⟨#[]⟩, .bool false, .string ⟨#[]⟩, .bool false, .string ⟨#[]⟩, .bool false, .string ⟨#[]⟩, .slice A5 1 cp5, .slice none 0 0] rv (.slice A5 1 cp5) (intsN ns) [⟨#[]⟩]) ?_ ?_
             rotate_left
             ·intro hJ7_8
              refine join_ (σ := Nat) 6 #[true, true, true, true, false, true, true, false, false, false, false, false] (fun s_ => [(72, .slice (some ⟨s_, 0, none⟩) 3 3), (75, .pointer (some ⟨s_, j, none⟩))]) (fun s_ w' => w'.cell? ⟨g1, 3, none⟩ = some (.int .u16 a) ∧ TInv w w' g1 g3 g5 #[.int .u16 e, .slice A1 ns.length c1, .int .u8 k, .int .u16 a, .int .u16 b, .int .u16 c, .bool hp, .bool hd, .slice A8 l.length c8] #[.bool false, .string Me, rv, .bool false, .string ⟨#[]⟩, .bool false, .string ⟨#[]⟩, .bool false, .string ⟨#[]⟩, .bool false, .string ⟨#[]⟩, .bool false, .string ⟨#[]⟩, .bool false, .string ⟨#[]⟩, .slice A5 1 cp5, .slice none 0 0] rv (.slice A5 1 cp5) (intsN ns) [⟨#[]⟩] ∧ w'.heap[s_]? = some (.cells #[.string ⟨#[97]⟩, .string ⟨#[98]⟩, .string ⟨#[114, 99]⟩] 9 (0, 0))) ?_ ?_
              rotate_left
              ·intro hJ0
               refine join_ (σ := Unit) 7 #[false, true, true, false, false, true, true, true, false, false, false, false] (fun s_ => [(79, .string Da)]) (fun s_ w' => w'.cell? ⟨g1, 3, none⟩ = some (.int .u16 a) ∧ TInv w w' g1 g3 g5 #[.int .u16 e, .slice A1 ns.length c1, .int .u8 k, .int .u16 a, .int .u16 b, .int .u16 c, .bool hp, .bool hd, .slice A8 l.length c8] #[.bool false, .string Me, rv, .bool false, .string ⟨#[]⟩, .bool false, .string ⟨#[]⟩, .bool false, .string ⟨#[]⟩, .bool false, .string ⟨#[]⟩, .bool false, .string ⟨#[]⟩, .bool false, .string ⟨#[]⟩, .slice A5 1 cp5, .slice none 0 0] rv (.slice A5 1 cp5) (intsN ns) [⟨#[]⟩]) ?_ ?_
               rotate_left
               ·intro hJ7
                refine two_ (i := 0) (j := 7) (Ni := some 72) (Nj := some 79) #[true, true, true, false, false, true, true, false, false, false, false, false] #[false, true, true, false, false, true, true, true, false, false, false, false] rfl rfl rfl rfl (by kernel_rfl) (by decide) (by decide) (fun K hK => ?_) (fun K hK => ?_)
                ·skip
                 refine value_ (w1 := ?_) (v := ?_) (by rfl) rfl ?_ ?_
                 rotate_left 2
                 ·go_simp
                  constructor
                  ·rfl
                  ·rfl
                 refine hK.out _ _ (cellAt (zab ti.t.b1 _) 3 rfl) (fun hHeld => ?_)
                 clear hK K
                 refine Go.Proofs.YtlijjnjpomnphaaGreatDoorW.PrintLast.norm_ (a' := ?_) ?_ ?_
                 rotate_left
                 ·show Act.put _ (some 72) _ = _
                  simp only [Act.put, List.setIfInBounds_toArray, List.set_cons_zero, List.set_cons_succ, i64_w, i32_w]
                  rfl
                 refine pure_ (i := 3) (N := some 75) (v := ?_) (a' := ?_) #[true, true, true, true, false, true, true, false, false, false, false, false] rfl rfl (by kernel_rfl) (fun _ _ _ h => h) (Or.inl ⟨by rfl, ?_⟩) ?_ ?_
                 rotate_left
                 ·intro w'
                  go_simp
                  with_reducible rfl
                 rotate_left
                 ·simp only [Act.put, List.setIfInBounds_toArray, List.set_cons_zero, List.set_cons_succ, i64_w, i32_w]
                  rfl
                 exact norm_ (by first | (simp only [ztc, Act.put, List.setIfInBounds_toArray, List.set_cons_zero, List.set_cons_succ]; done) | (simp only [ztc, Act.put, List.setIfInBounds_toArray, List.set_cons_zero, List.set_cons_succ]; rfl)) (hJ0 _ _ ⟨hHeld, ti.to (zf (Below.refl _ _) _), zrc _ _⟩)
                ·skip
                 refine goes_ Tryz.func21 (by kernel_rfl) rfl #[.int .u16 a] (by rfl) rfl rfl (by simp only [List.map_toArray, List.map_cons, List.map_nil]; rfl) ?_
                 with_reducible refine (HDa.out _).mono ?_
                 rintro e w22 ⟨rfl, hb⟩
                 refine ⟨_, rfl, ?_⟩
                 have ti2 := ti.to hb
                 refine hK.out _ _ (cellAt ti2.t.b1 3 rfl) (fun hHeld => ?_)
                 clear hK K
                 refine Go.Proofs.YtlijjnjpomnphaaGreatDoorW.PrintLast.norm_ (a' := ?_) ?_ ?_
                 rotate_left
                 ·show Act.put _ (some 79) _ = _
                  simp only [Act.put, List.setIfInBounds_toArray, List.set_cons_zero, List.set_cons_succ, i64_w, i32_w]
                  rfl
                 exact norm_ (by first | (simp only [ztc, Act.put, List.setIfInBounds_toArray, List.set_cons_zero, List.set_cons_succ]; done) | (simp only [ztc, Act.put, List.setIfInBounds_toArray, List.set_cons_zero, List.set_cons_succ]; rfl)) (hJ7 () _ ⟨hHeld, ti2⟩)
               ·skip
                rintro s_ w21 ⟨hHeld, ti⟩
                refine Go.Proofs.YtlijjnjpomnphaaGreatDoorW.PrintLast.norm_ (a' := ?_) ?_ ?_
                rotate_left
                ·simp only [ztc, Act.put, List.setIfInBounds_toArray, List.set_cons_zero, List.set_cons_succ]
                 rfl
                refine two_ (i := 0) (j := 8) (Ni := some 72) (Nj := some 80) #[true, true, true, false, false, true, true, true, false, false, false, false] #[false, true, true, false, false, true, true, true, true, false, false, false] rfl rfl rfl rfl (by kernel_rfl) (by decide) (by decide) (fun K hK => ?_) (fun K hK => ?_)
                ·skip
                 refine value_ (w1 := ?_) (v := ?_) (by rfl) rfl ?_ ?_
                 rotate_left 2
                 ·go_simp
                  constructor
                  ·rfl
                  ·rfl
                 refine hK.out _ _ (cellAt (zab ti.t.b1 _) 3 rfl) (fun hHeld => ?_)
                 clear hK K
                 refine Go.Proofs.YtlijjnjpomnphaaGreatDoorW.PrintLast.norm_ (a' := ?_) ?_ ?_
                 rotate_left
                 ·show Act.put _ (some 72) _ = _
                  simp only [Act.put, List.setIfInBounds_toArray, List.set_cons_zero, List.set_cons_succ, i64_w, i32_w]
                  rfl
                 refine pure_ (i := 3) (N := some 75) (v := ?_) (a' := ?_) #[true, true, true, true, false, true, true, true, false, false, false, false] rfl rfl (by kernel_rfl) (fun _ _ _ h => h) (Or.inl ⟨by rfl, ?_⟩) ?_ ?_
                 rotate_left
                 ·intro w'
                  go_simp
                  with_reducible rfl
                 rotate_left
                 ·simp only [Act.put, List.setIfInBounds_toArray, List.set_cons_zero, List.set_cons_succ, i64_w, i32_w]
                  rfl
                 exact norm_ (by first | (simp only [ztc, Act.put, List.setIfInBounds_toArray, List.set_cons_zero, List.set_cons_succ]; done) | (simp only [ztc, Act.put, List.setIfInBounds_toArray, List.set_cons_zero, List.set_cons_succ]; rfl)) (hJ0_7 _ _ ⟨hHeld, ti.to (zf (Below.refl _ _) _), zrc _ _⟩)
                ·skip
                 refine goes_ Tryz.func36 (by kernel_rfl) rfl #[.string Da] (by rfl) rfl rfl (by simp only [List.map_toArray, List.map_cons, List.map_nil]; rfl) ?_
                 with_reducible refine (HNa.out _).mono ?_
                 rintro e w22 ⟨rfl, hb⟩
                 refine ⟨_, rfl, ?_⟩
                 have ti2 := ti.to hb
                 refine hK.out _ _ (cellAt ti2.t.b1 3 rfl) (fun hHeld => ?_)
                 clear hK K
                 refine Go.Proofs.YtlijjnjpomnphaaGreatDoorW.PrintLast.norm_ (a' := ?_) ?_ ?_
                 rotate_left
                 ·show Act.put _ (some 80) _ = _
                  simp only [Act.put, List.setIfInBounds_toArray, List.set_cons_zero, List.set_cons_succ, i64_w, i32_w]
                  rfl
                 exact norm_ (by first | (simp only [ztc, Act.put, List.setIfInBounds_toArray, List.set_cons_zero, List.set_cons_succ]; done) | (simp only [ztc, Act.put, List.setIfInBounds_toArray, List.set_cons_zero, List.set_cons_succ]; rfl)) (hJ7_8 () _ ⟨hHeld, ti2⟩)
              ·skip
               rintro s_ w21 ⟨hHeld, ti, ks⟩
               refine Go.Proofs.YtlijjnjpomnphaaGreatDoorW.PrintLast.norm_ (a' := ?_) ?_ ?_
               rotate_left
               ·simp only [ztc, Act.put, List.setIfInBounds_toArray, List.set_cons_zero, List.set_cons_succ]
                rfl
               refine two_ (i := 4) (j := 7) (Ni := some 76) (Nj := some 79) #[true, true, true, true, true, true, true, false, false, false, false, false] #[true, true, true, true, false, true, true, true, false, false, false, false] rfl rfl rfl rfl (by kernel_rfl) (by decide) (by decide) (fun K hK => ?_) (fun K hK => ?_)
               ·skip
                have y4 := cellAt ks j HKB.out
                refine value_ (w1 := ?_) (v := ?_) (by rfl) rfl ?_ ?_
                rotate_left 2
                ·go_simp
                 constructor
                 ·rfl
                 ·rfl
                refine hK.out _ _ (cellAt ti.t.b1 3 rfl) (fun hHeld => ?_)
                clear hK K
                refine Go.Proofs.YtlijjnjpomnphaaGreatDoorW.PrintLast.norm_ (a' := ?_) ?_ ?_
                rotate_left
                ·show Act.put _ (some 76) _ = _
                 simp only [Act.put, List.setIfInBounds_toArray, List.set_cons_zero, List.set_cons_succ, i64_w, i32_w]
                 rfl
                exact norm_ (by first | (simp only [ztc, Act.put, List.setIfInBounds_toArray, List.set_cons_zero, List.set_cons_succ]; done) | (simp only [ztc, Act.put, List.setIfInBounds_toArray, List.set_cons_zero, List.set_cons_succ]; rfl)) (hJ0_4 s_ _ ⟨hHeld, ti, ks⟩)
               ·skip
                refine goes_ Tryz.func21 (by kernel_rfl) rfl #[.int .u16 a] (by rfl) rfl rfl (by simp only [List.map_toArray, List.map_cons, List.map_nil]; rfl) ?_
                with_reducible refine (HDa.out _).mono ?_
                rintro e w22 ⟨rfl, hb⟩
                refine ⟨_, rfl, ?_⟩
                have ti2 := ti.to hb
                have ks2 := zj ks hb
                refine hK.out _ _ (cellAt ti2.t.b1 3 rfl) (fun hHeld => ?_)
                clear hK K
                refine Go.Proofs.YtlijjnjpomnphaaGreatDoorW.PrintLast.norm_ (a' := ?_) ?_ ?_
                rotate_left
                ·show Act.put _ (some 79) _ = _
                 simp only [Act.put, List.setIfInBounds_toArray, List.set_cons_zero, List.set_cons_succ, i64_w, i32_w]
                 rfl
                exact norm_ (by first | (simp only [ztc, Act.put, List.setIfInBounds_toArray, List.set_cons_zero, List.set_cons_succ]; done) | (simp only [ztc, Act.put, List.setIfInBounds_toArray, List.set_cons_zero, List.set_cons_succ]; rfl)) (hJ0_7 s_ _ ⟨hHeld, ti2, ks2⟩)
             ·skip
              rintro s_ w21 ⟨hHeld, ti⟩
              refine Go.Proofs.YtlijjnjpomnphaaGreatDoorW.PrintLast.norm_ (a' := ?_) ?_ ?_
              rotate_left
              ·simp only [ztc, Act.put, List.setIfInBounds_toArray, List.set_cons_zero, List.set_cons_succ]
               rfl
              refine one_ (i := 0) (N := some 72) #[true, true, true, false, false, true, true, true, true, false, false, false] rfl rfl (by kernel_rfl) (by decide) (fun K hK => ?_)
              refine value_ (w1 := ?_) (v := ?_) (by rfl) rfl ?_ ?_
              rotate_left 2
              ·go_simp
               constructor
               ·rfl
               ·rfl
              refine hK.out _ _ (cellAt (zab ti.t.b1 _) 3 rfl) (fun hHeld => ?_)
              clear hK K
              refine Go.Proofs.YtlijjnjpomnphaaGreatDoorW.PrintLast.norm_ (a' := ?_) ?_ ?_
              rotate_left
              ·show Act.put _ (some 72) _ = _
               simp only [Act.put, List.setIfInBounds_toArray, List.set_cons_zero, List.set_cons_succ, i64_w, i32_w]
               rfl
              refine pure_ (i := 3) (N := some 75) (v := ?_) (a' := ?_) #[true, true, true, true, false, true, true, true, true, false, false, false] rfl rfl (by kernel_rfl) (fun _ _ _ h => h) (Or.inl ⟨by rfl, ?_⟩) ?_ ?_
              rotate_left
              ·intro w'
               go_simp
               with_reducible rfl
              rotate_left
              ·simp only [Act.put, List.setIfInBounds_toArray, List.set_cons_zero, List.set_cons_succ, i64_w, i32_w]
               rfl
              exact norm_ (by first | (simp only [ztc, Act.put, List.setIfInBounds_toArray, List.set_cons_zero, List.set_cons_succ]; done) | (simp only [ztc, Act.put, List.setIfInBounds_toArray, List.set_cons_zero, List.set_cons_succ]; rfl)) (hJ0_7_8 _ _ ⟨hHeld, ti.to (zf (Below.refl _ _) _), zrc _ _⟩)
            ·skip
             rintro s_ w21 ⟨hHeld, ti, ks⟩
             refine Go.Proofs.YtlijjnjpomnphaaGreatDoorW.PrintLast.norm_ (a' := ?_) ?_ ?_
             rotate_left
             ·simp only [ztc, Act.put, List.setIfInBounds_toArray, List.set_cons_zero, List.set_cons_succ]
              rfl
             refine two_ (i := 4) (j := 8) (Ni := some 76) (Nj := some 80) #[true, true, true, true, true, true, true, true, false, false, false, false] #[true, true, true, true, false, true, true, true, true, false, false, false] rfl rfl rfl rfl (by kernel_rfl) (by decide) (by decide) (fun K hK => ?_) (fun K hK => ?_)
             ·skip
              have y4 := cellAt ks j HKB.out
              refine value_ (w1 := ?_) (v := ?_) (by rfl) rfl ?_ ?_
              rotate_left 2
              ·go_simp
               constructor
               ·rfl
               ·rfl
              refine hK.out _ _ (cellAt ti.t.b1 3 rfl) (fun hHeld => ?_)
              clear hK K
              refine Go.Proofs.YtlijjnjpomnphaaGreatDoorW.PrintLast.norm_ (a' := ?_) ?_ ?_
              rotate_left
              ·show Act.put _ (some 76) _ = _
               simp only [Act.put, List.setIfInBounds_toArray, List.set_cons_zero, List.set_cons_succ, i64_w, i32_w]
               rfl
              exact norm_ (by first | (simp only [ztc, Act.put, List.setIfInBounds_toArray, List.set_cons_zero, List.set_cons_succ]; done) | (simp only [ztc, Act.put, List.setIfInBounds_toArray, List.set_cons_zero, List.set_cons_succ]; rfl)) (hJ0_4_7 s_ _ ⟨hHeld, ti, ks⟩)
             ·skip
              refine goes_ Tryz.func36 (by kernel_rfl) rfl #[.string Da] (by rfl) rfl rfl (by simp only [List.map_toArray, List.map_cons, List.map_nil]; rfl) ?_
              with_reducible refine (HNa.out _).mono ?_
              rintro e w22 ⟨rfl, hb⟩
              refine ⟨_, rfl, ?_⟩
              have ti2 := ti.to hb
              have ks2 := zj ks hb
              refine hK.out _ _ (cellAt ti2.t.b1 3 rfl) (fun hHeld => ?_)
              clear hK K
              refine Go.Proofs.YtlijjnjpomnphaaGreatDoorW.PrintLast.norm_ (a' := ?_) ?_ ?_
              rotate_left
              ·show Act.put _ (some 80) _ = _
               simp only [Act.put, List.setIfInBounds_toArray, List.set_cons_zero, List.set_cons_succ, i64_w, i32_w]
               rfl
              exact norm_ (by first | (simp only [ztc, Act.put, List.setIfInBounds_toArray, List.set_cons_zero, List.set_cons_succ]; done) | (simp only [ztc, Act.put, List.setIfInBounds_toArray, List.set_cons_zero, List.set_cons_succ]; rfl)) (hJ0_7_8 s_ _ ⟨hHeld, ti2, ks2⟩)
           ·skip
            rintro s_ w21 ⟨hHeld, ti, ks⟩
            refine Go.Proofs.YtlijjnjpomnphaaGreatDoorW.PrintLast.norm_ (a' := ?_) ?_ ?_
            rotate_left
            ·simp only [ztc, Act.put, List.setIfInBounds_toArray, List.set_cons_zero, List.set_cons_succ]
             rfl
            refine one_ (i := 7) (N := some 79) #[true, true, true, true, true, true, true, true, false, false, false, false] rfl rfl (by kernel_rfl) (by decide) (fun K hK => ?_)
            refine goes_ Tryz.func21 (by kernel_rfl) rfl #[.int .u16 a] (by rfl) rfl rfl (by simp only [List.map_toArray, List.map_cons, List.map_nil]; rfl) ?_
            with_reducible refine (HDa.out _).mono ?_
            rintro e w22 ⟨rfl, hb⟩
            refine ⟨_, rfl, ?_⟩
            have ti2 := ti.to hb
            have ks2 := zj ks hb
            refine hK.out _ _ (cellAt ti2.t.b1 3 rfl) (fun hHeld => ?_)
            clear hK K
            refine Go.Proofs.YtlijjnjpomnphaaGreatDoorW.PrintLast.norm_ (a' := ?_) ?_ ?_
            rotate_left
            ·show Act.put _ (some 79) _ = _
             simp only [Act.put, List.setIfInBounds_toArray, List.set_cons_zero, List.set_cons_succ, i64_w, i32_w]
             rfl
            exact norm_ (by first | (simp only [ztc, Act.put, List.setIfInBounds_toArray, List.set_cons_zero, List.set_cons_succ]; done) | (simp only [ztc, Act.put, List.setIfInBounds_toArray, List.set_cons_zero, List.set_cons_succ]; rfl)) (hJ0_4_7 s_ _ ⟨hHeld, ti2, ks2⟩)
          ·skip
           rintro s_ w21 ⟨hHeld, ti, ks⟩
           refine Go.Proofs.YtlijjnjpomnphaaGreatDoorW.PrintLast.norm_ (a' := ?_) ?_ ?_
           rotate_left
           ·simp only [ztc, Act.put, List.setIfInBounds_toArray, List.set_cons_zero, List.set_cons_succ]
            rfl
           refine one_ (i := 4) (N := some 76) #[true, true, true, true, true, true, true, true, true, false, false, false] rfl rfl (by kernel_rfl) (by decide) (fun K hK => ?_)
           have y4 := cellAt ks j HKB.out
           refine value_ (w1 := ?_) (v := ?_) (by rfl) rfl ?_ ?_
           rotate_left 2
           ·go_simp
            constructor
            ·rfl
            ·rfl
           refine hK.out _ _ (cellAt ti.t.b1 3 rfl) (fun hHeld => ?_)
           clear hK K
           refine Go.Proofs.YtlijjnjpomnphaaGreatDoorW.PrintLast.norm_ (a' := ?_) ?_ ?_
           rotate_left
           ·show Act.put _ (some 76) _ = _
            simp only [Act.put, List.setIfInBounds_toArray, List.set_cons_zero, List.set_cons_succ, i64_w, i32_w]
            rfl
           exact norm_ (by first | (simp only [ztc, Act.put, List.setIfInBounds_toArray, List.set_cons_zero, List.set_cons_succ]; done) | (simp only [ztc, Act.put, List.setIfInBounds_toArray, List.set_cons_zero, List.set_cons_succ]; rfl)) (hJ0_4_7_8 s_ _ ⟨hHeld, ti, ks⟩)
         ·skip
          rintro s_ w21 ⟨hHeld, ti, ks⟩
          refine Go.Proofs.YtlijjnjpomnphaaGreatDoorW.PrintLast.norm_ (a' := ?_) ?_ ?_
          rotate_left
          ·simp only [ztc, Act.put, List.setIfInBounds_toArray, List.set_cons_zero, List.set_cons_succ]
           rfl
          refine one_ (i := 8) (N := some 80) #[true, true, true, true, true, true, true, true, true, false, false, false] rfl rfl (by kernel_rfl) (by decide) (fun K hK => ?_)
          refine goes_ Tryz.func36 (by kernel_rfl) rfl #[.string Da] (by rfl) rfl rfl (by simp only [List.map_toArray, List.map_cons, List.map_nil]; rfl) ?_
          with_reducible refine (HNa.out _).mono ?_
          rintro e w22 ⟨rfl, hb⟩
          refine ⟨_, rfl, ?_⟩
          have ti2 := ti.to hb
          have ks2 := zj ks hb
          refine hK.out _ _ (cellAt ti2.t.b1 3 rfl) (fun hHeld => ?_)
          clear hK K
          refine Go.Proofs.YtlijjnjpomnphaaGreatDoorW.PrintLast.norm_ (a' := ?_) ?_ ?_
          rotate_left
          ·show Act.put _ (some 80) _ = _
           simp only [Act.put, List.setIfInBounds_toArray, List.set_cons_zero, List.set_cons_succ, i64_w, i32_w]
           rfl
          exact norm_ (by first | (simp only [ztc, Act.put, List.setIfInBounds_toArray, List.set_cons_zero, List.set_cons_succ]; done) | (simp only [ztc, Act.put, List.setIfInBounds_toArray, List.set_cons_zero, List.set_cons_succ]; rfl)) (hJ0_4_7_8 s_ _ ⟨hHeld, ti2, ks2⟩)
        rintro s_ w21 ⟨hHeld, ti, ks⟩
        refine Go.Proofs.YtlijjnjpomnphaaGreatDoorW.PrintLast.norm_ (a' := ?_) ?_ ?_
        rotate_left
        ·simp only [ztc, Act.put, List.setIfInBounds_toArray, List.set_cons_zero, List.set_cons_succ]
         rfl
        refine pure_ (i := 9) (N := some 81) (v := ?_) (a' := ?_) #[true, true, true, true, true, true, true, true, true, true, false, false] rfl rfl (by kernel_rfl) (fun _ _ _ h => h) (Or.inl ⟨by rfl, ?_⟩) ?_ ?_
        rotate_left
        ·intro w'
         go_simp
         with_reducible rfl
        rotate_left
        ·simp only [Act.put, List.setIfInBounds_toArray, List.set_cons_zero, List.set_cons_succ, i64_w, i32_w]
         rfl
        refine pure_ (i := 10) (N := some 82) (v := ?_) (a' := ?_) #[true, true, true, true, true, true, true, true, true, true, true, false] rfl rfl (by kernel_rfl) (fun _ _ _ h => h) (Or.inl ⟨by rfl, ?_⟩) ?_ ?_
        rotate_left
        ·intro w'
         go_simp
         with_reducible rfl
        rotate_left
        ·simp only [Act.put, List.setIfInBounds_toArray, List.set_cons_zero, List.set_cons_succ, i64_w, i32_w]
         rfl
        refine last_ (i := 11) (N := none) #[true, true, true, true, true, true, true, true, true, true, true, true] rfl rfl (by kernel_rfl) (by decide) (fun K hK => ?_)
        have y3 := cellAt ti.b5 3 rfl
        have y4 := cellAt ti.b5 4 rfl
        have y5 := cellAt ti.b5 5 rfl
        have y6 := cellAt ti.b5 6 rfl
        have f3 := zr ti.b5 3
        have f4 := zr ti.b5 4
        have f5 := zr ti.b5 5
        have f6 := zr ti.b5 6
        refine skip_ (w1 := ?_) (by rfl) rfl ?_ ?_
        rotate_left
        ·go_simp
         rfl
        refine hK.out _ _ ?_
        clear hK K
        refine done_ (by kernel_rfl) ?_
        have I20 := za.mk ((((ti.put 3 (.bool true)).put 4 (.string pl)).put 5 (.bool false)).put 6 (.string pm))
        generalize (((w21.setCell ⟨g5, 3, none⟩ (.bool true)).setCell ⟨g5, 4, none⟩ (.string pl)).setCell ⟨g5, 5, none⟩ (.bool false)).setCell ⟨g5, 6, none⟩ (.string pm) = w23 at I20 ⊢
        clear ti ks hHeld
        have s10 : pl.size + Da.size ≤ 9223372036854775807 := by have := HZ.out; omega
        have s1a := eq_true s10
        have s1b : decide (pl.size + Da.size ≤ 9223372036854775807) = true := decide_eq_true s10
        have s1 : (9223372036854775807 < pl.size + Da.size) = False := eq_false (Nat.not_lt.2 s10)
        have s20 : T.size + (pl.size + Da.size) ≤ 9223372036854775807 := by have := HZ.out; have := HTS.out; omega
        have s2a := eq_true s20
        have s2b : decide (T.size + (pl.size + Da.size) ≤ 9223372036854775807) = true := decide_eq_true s20
        have s2 : (9223372036854775807 < T.size + (pl.size + Da.size)) = False := eq_false (Nat.not_lt.2 s20)
        have s30 : T.size + (pl ++ Da).size ≤ 9223372036854775807 := by rw [zkc]; have := HZ.out; have := HTS.out; omega
        have s3a := eq_true s30
        have s3b : decide (T.size + (pl ++ Da).size ≤ 9223372036854775807) = true := decide_eq_true s30
        have s3 : (9223372036854775807 < T.size + (pl ++ Da).size) = False := eq_false (Nat.not_lt.2 s30)
        go_upto_region 18 with (fail)
        refine start_ (n := 10) (S := fun w' => w'.cell? ⟨g5, 4, none⟩ = some (.string pl) ∧ w'.cell? ⟨g1, 3, none⟩ = some (.int .u16 a)) (ds := []) #[false, false, false, false, false, false, false, false, false, false] (by kernel_rfl) rfl rfl ⟨cellAt (I20.out.to (zbd (Below.refl _ _))).b5 4 rfl, cellAt (I20.out.to (zbd (Below.refl _ _))).t.b1 3 rfl⟩ (fun hHeld => ?_)
        have I22 := za.mk (I20.out.to (zbd (Below.refl _ _)))
        clear I20
        generalize w23.drew = w25 at I22 hHeld ⊢
        refine pure_ (i := 0) (N := some 83) (v := ?_) (a' := ?_) #[true, false, false, false, false, false, false, false, false, false] rfl rfl (by kernel_rfl) (fun _ _ _ h => h) (Or.inl ⟨by rfl, ?_⟩) ?_ ?_
        rotate_left
        ·intro w'
         go_simp
         with_reducible rfl
        rotate_left
        ·simp only [Act.put, List.setIfInBounds_toArray, List.set_cons_zero, List.set_cons_succ, i64_w, i32_w]
         rfl
        refine pure_ (i := 1) (N := some 84) (v := ?_) (a' := ?_) #[true, true, false, false, false, false, false, false, false, false] rfl rfl (by kernel_rfl) (fun _ _ _ h => h) (Or.inl ⟨by rfl, ?_⟩) ?_ ?_
        rotate_left
        ·intro w'
         go_simp
         with_reducible rfl
        rotate_left
        ·simp only [Act.put, List.setIfInBounds_toArray, List.set_cons_zero, List.set_cons_succ, i64_w, i32_w]
         rfl
        refine pure_ (i := 2) (N := some 85) (v := ?_) (a' := ?_) #[true, true, true, false, false, false, false, false, false, false] rfl rfl (by kernel_rfl) (fun _ _ _ h => h) (Or.inl ⟨by rfl, ?_⟩) ?_ ?_
        rotate_left
        ·intro w'
         go_simp
         with_reducible rfl
        rotate_left
        ·simp only [Act.put, List.setIfInBounds_toArray, List.set_cons_zero, List.set_cons_succ, i64_w, i32_w]
         rfl
        refine pure_ (i := 4) (N := some 87) (v := ?_) (a' := ?_) #[true, true, true, false, true, false, false, false, false, false] rfl rfl (by kernel_rfl) (fun _ _ _ h => h) (Or.inl ⟨by rfl, ?_⟩) ?_ ?_
        rotate_left
        ·intro w'
         go_simp
         with_reducible rfl
        rotate_left
        ·simp only [Act.put, List.setIfInBounds_toArray, List.set_cons_zero, List.set_cons_succ, i64_w, i32_w]
         rfl
        refine take_ (i := 3) (N := some 86) (v := ?_) (a' := ?_) #[true, true, true, true, true, false, false, false, false, false] rfl rfl (by kernel_rfl) (fun _ _ _ h => h) (Or.inl ⟨by rfl, ?_⟩) hHeld ?_ ?_
        rotate_left
        ·rintro w' ⟨s0, s1⟩
         go_simp
         with_reducible rfl
        rotate_left
        ·simp only [Act.put, List.setIfInBounds_toArray, List.set_cons_zero, List.set_cons_succ, i64_w, i32_w]
         rfl
        refine take_ (i := 5) (N := some 88) (v := ?_) (a' := ?_) #[true, true, true, true, true, true, false, false, false, false] rfl rfl (by kernel_rfl) (fun _ _ _ h => h) (Or.inl ⟨by rfl, ?_⟩) hHeld ?_ ?_
        rotate_left
        ·rintro w' ⟨s0, s1⟩
         go_simp
         with_reducible rfl
        rotate_left
        ·simp only [Act.put, List.setIfInBounds_toArray, List.set_cons_zero, List.set_cons_succ, i64_w, i32_w]
         rfl
        refine one_ (i := 6) (N := some 89) #[true, true, true, true, true, true, true, false, false, false] rfl rfl (by kernel_rfl) (by decide) (fun K hK => ?_)
        refine goes_ Tryz.func21 (by kernel_rfl) rfl #[.int .u16 a] (by rfl) rfl rfl (by simp only [List.map_toArray, List.map_cons, List.map_nil]; rfl) ?_
        with_reducible refine (HDa.out _).mono ?_
        rintro e w24 ⟨rfl, hb⟩
        refine ⟨_, rfl, ?_⟩
        have I24 := za.mk (I22.out.to hb)
        clear hb I22
        refine hK.out _ _ ⟨cellAt I24.out.b5 4 rfl, cellAt I24.out.t.b1 3 rfl⟩ (fun hHeld => ?_)
        clear hK K
        refine Go.Proofs.YtlijjnjpomnphaaGreatDoorW.PrintLast.norm_ (a' := ?_) ?_ ?_
        rotate_left
        ·show Act.put _ (some 89) _ = _
         simp only [Act.put, List.setIfInBounds_toArray, List.set_cons_zero, List.set_cons_succ, i64_w, i32_w]
         rfl
        refine pure_ (i := 7) (N := some 90) (v := ?_) (a' := ?_) #[true, true, true, true, true, true, true, true, false, false] rfl rfl (by kernel_rfl) (fun _ _ _ h => h) (Or.inl ⟨by rfl, ?_⟩) ?_ ?_
        rotate_left
        ·intro w'
         go_simp
         with_reducible rfl
        rotate_left
        ·simp only [Act.put, List.setIfInBounds_toArray, List.set_cons_zero, List.set_cons_succ, i64_w, i32_w]
         rfl
        refine pure_ (i := 8) (N := some 91) (v := ?_) (a' := ?_) #[true, true, true, true, true, true, true, true, true, false] rfl rfl (by kernel_rfl) (fun _ _ _ h => h) (Or.inl ⟨by rfl, ?_⟩) ?_ ?_
        rotate_left
        ·intro w'
         go_simp
         with_reducible rfl
        rotate_left
        ·simp only [Act.put, List.setIfInBounds_toArray, List.set_cons_zero, List.set_cons_succ, i64_w, i32_w]
         rfl
        refine pure_ (i := 9) (N := some 6) (v := ?_) (a' := ?_) #[true, true, true, true, true, true, true, true, true, true] rfl rfl (by kernel_rfl) (fun _ _ _ h => h) (Or.inl ⟨by rfl, ?_⟩) ?_ ?_
        rotate_left
        ·intro w'
         go_simp
         with_reducible rfl
        rotate_left
        ·simp only [Act.put, List.setIfInBounds_toArray, List.set_cons_zero, List.set_cons_succ, i64_w, i32_w]
         rfl
        refine done_ (by kernel_rfl) ?_
        try go_wp2
        go_meet
        exact ⟨T ++ (pl ++ Da), rfl, HTT, I24⟩
       ·have e1 : decide (0 < Int.tmod k 4) = false := decide_eq_false h0
        have hpn : preO k a = none := pre_none h0
        have hb1 : pb = false := HPP.out.1.trans (by rw [hpn]; rfl)
        have hb2 : pl = ⟨#[]⟩ := HPP.out.2.1.trans (by rw [hpn]; rfl)
        have hb3 : pm = ⟨#[]⟩ := HPP.out.2.2.trans (by rw [hpn]; rfl)
        have HTT : za (bytesOf T = bytesOf T ++ preT (preO k a) ∧ T.size ≤ 410) := ⟨by rw [hpn]; exact (List.append_nil _).symm, by have := HTS.out; omega⟩
        subst hb1 hb2 hb3
        clear h0 hpn
        (first | rewrite [e1] | skip)
        go_wp2_with (fail)
        go_meet
        exact ⟨T, rfl, HTT, HI⟩
      case rest =>
       clear HI HTS
       obtain ⟨T3, rfl, ET3, I8⟩ := hcut
       have y6 := cellAt I8.out.t.b1 6 rfl
       go_upto_if 93 with (fail)
       go_cut [6] (fun v6 wc => ∃ T' : ByteArray, v6 = .string T' ∧ za (bytesOf T' = bytesOf T3 ++ postT (numO hp b) ∧ T'.size ≤ 430) ∧ za (TInv w wc g1 g3 g5 #[.int .u16 e, .slice A1 ns.length c1, .int .u8 k, .int .u16 a, .int .u16 b, .int .u16 c, .bool hp, .bool hd, .slice A8 l.length c8] #[.bool false, .string Me, rv, .bool pb, .string pl, .bool false, .string pm, .bool qb, .string ql, .bool false, .string qm, .bool false, .string ⟨#[]⟩, .bool false, .string ⟨#[]⟩, .slice A5 1 cp5, .slice none 0 0] rv (.slice A5 1 cp5) (intsN ns) [⟨#[]⟩]))
       case first =>
        cases hp with
        | true =>
         have hb1 : qb = true := HQQ.out.1.trans (num_some b)
         have hb2 : ql = ⟨#[112, 111, 115, 116]⟩ := HQQ.out.2.1.trans (num_word post_word)
         have hb3 : qm = magB b.toNat := HQQ.out.2.2.trans (num_mag b _)
         obtain ⟨Db, hDb⟩ : ∃ s, s = dS b := ⟨_, rfl⟩
         have HDb := za.mk (fun W : World => by have := zhf W HBb.out; rewrite [← hDb] at this; exact this)
         have HNb := za.mk (fun W : World => by have := number_ W HBb.out; rewrite [← hDb, ← hb3] at this; exact this)
         have hz : Db.size ≤ 5 := by rw [hDb]; exact zag HBb.out
         have HTT : za (bytesOf (T3 ++ ((⟨#[46, 112, 111, 115, 116]⟩ : ByteArray) ++ Db)) = bytesOf T3 ++ postT (numO true b) ∧ (T3 ++ ((⟨#[46, 112, 111, 115, 116]⟩ : ByteArray) ++ Db)).size ≤ 430) := ⟨by rw [zac, zac, hDb, dS_B]; rfl, by rw [zkc, zkc]; have := ET3.out.2; have e5 : (⟨#[46, 112, 111, 115, 116]⟩ : ByteArray).size = 5 := rfl; omega⟩
         have s10 : 5 + Db.size ≤ 9223372036854775807 := by omega
         have s1a := eq_true s10
         have s1b : decide (5 + Db.size ≤ 9223372036854775807) = true := decide_eq_true s10
         have s1 : (9223372036854775807 < 5 + Db.size) = False := eq_false (Nat.not_lt.2 s10)
         have s20 : T3.size + (5 + Db.size) ≤ 9223372036854775807 := by have := ET3.out.2; omega
         have s2a := eq_true s20
         have s2b : decide (T3.size + (5 + Db.size) ≤ 9223372036854775807) = true := decide_eq_true s20
         have s2 : (9223372036854775807 < T3.size + (5 + Db.size)) = False := eq_false (Nat.not_lt.2 s20)
         have s30 : T3.size + ((⟨#[46, 112, 111, 115, 116]⟩ : ByteArray) ++ Db).size ≤ 9223372036854775807 := by rw [zkc]; have := ET3.out.2; have e5 : (⟨#[46, 112, 111, 115, 116]⟩ : ByteArray).size = 5 := rfl; omega
         have s3a := eq_true s30
         have s3b : decide (T3.size + ((⟨#[46, 112, 111, 115, 116]⟩ : ByteArray) ++ Db).size ≤ 9223372036854775807) = true := decide_eq_true s30
         have s3 : (9223372036854775807 < T3.size + ((⟨#[46, 112, 111, 115, 116]⟩ : ByteArray) ++ Db).size) = False := eq_false (Nat.not_lt.2 s30)
         subst hb1 hb2
         clear hb3 hDb hz
         have y4 := cellAt I8.out.t.b1 4 rfl
         go_upto_region 21 with (first | (go_at_call 21; (with_reducible refine (HDb.out _).mono ?_); rintro e' w30 ⟨rfl, hb⟩; have I30 := za.mk (I8.out.to hb); clear hb I8 y4) | (go_at_call 36; (with_reducible refine (HNb.out _).mono ?_); rintro e' w31 ⟨rfl, hb⟩; have I31 := za.mk (I30.out.to hb); clear hb I30; have y7 := cellAt I31.out.b5 7 rfl; have y8 := cellAt I31.out.b5 8 rfl; have y9 := cellAt I31.out.b5 9 rfl; have y10 := cellAt I31.out.b5 10 rfl; have f7 := zr I31.out.b5 7; have f8 := zr I31.out.b5 8; have f9 := zr I31.out.b5 9; have f10 := zr I31.out.b5 10))
         have I32 := za.mk ((((I31.out.put 7 (.bool true)).put 8 (.string ⟨#[112, 111, 115, 116]⟩)).put 9 (.bool false)).put 10 (.string qm))
         generalize (((w31.setCell ⟨g5, 7, none⟩ (.bool true)).setCell ⟨g5, 8, none⟩ (.string ⟨#[112, 111, 115, 116]⟩)).setCell ⟨g5, 9, none⟩ (.bool false)).setCell ⟨g5, 10, none⟩ (.string qm) = w32 at I32 ⊢
         clear I31 y7 f7 y8 f8 y9 f9 y10 f10
         have y4 := cellAt I32.out.t.b1 4 rfl
         go_wp2_with (go_at_call 21; (with_reducible refine (HDb.out _).mono ?_); rintro e' w33 ⟨rfl, hb⟩; have I33 := za.mk (I32.out.to hb); clear hb)
         go_meet
         exact ⟨T3 ++ ((⟨#[46, 112, 111, 115, 116]⟩ : ByteArray) ++ Db), rfl, HTT, I33⟩
        | false =>
         have hb1 : qb = false := HQQ.out.1
         have hb2 : ql = ⟨#[]⟩ := HQQ.out.2.1
         have hb3 : qm = ⟨#[]⟩ := HQQ.out.2.2
         have HTT : za (bytesOf T3 = bytesOf T3 ++ postT (numO false b) ∧ T3.size ≤ 430) := ⟨(List.append_nil _).symm, by have := ET3.out.2; omega⟩
         subst hb1 hb2 hb3
         go_wp2_with (fail)
         go_meet
         exact ⟨T3, rfl, HTT, I8⟩
       case rest =>
        clear I8
        obtain ⟨T4, rfl, ET4, I9⟩ := hcut
        have y7 := cellAt I9.out.t.b1 7 rfl
        go_upto_if 107 with (fail)
        go_cut [6] (fun v6 wc => ∃ T' : ByteArray, v6 = .string T' ∧ za (bytesOf T' = bytesOf T4 ++ devT (numO hd c) ∧ T'.size ≤ 450) ∧ za (TInv w wc g1 g3 g5 #[.int .u16 e, .slice A1 ns.length c1, .int .u8 k, .int .u16 a, .int .u16 b, .int .u16 c, .bool hp, .bool hd, .slice A8 l.length c8] #[.bool false, .string Me, rv, .bool pb, .string pl, .bool false, .string pm, .bool qb, .string ql, .bool false, .string qm, .bool db, .string dl, .bool false, .string dm, .slice A5 1 cp5, .slice none 0 0] rv (.slice A5 1 cp5) (intsN ns) [⟨#[]⟩]))
        case first =>
         cases hd with
         | true =>
          have hb1 : db = true := HDD.out.1.trans (num_some c)
          have hb2 : dl = ⟨#[100, 101, 118]⟩ := HDD.out.2.1.trans (num_word dev_word)
          have hb3 : dm = magB c.toNat := HDD.out.2.2.trans (num_mag c _)
          obtain ⟨Db, hDb⟩ : ∃ s, s = dS c := ⟨_, rfl⟩
          have HDb := za.mk (fun W : World => by have := zhf W HCc.out; rewrite [← hDb] at this; exact this)
          have HNb := za.mk (fun W : World => by have := number_ W HCc.out; rewrite [← hDb, ← hb3] at this; exact this)
          have hz : Db.size ≤ 5 := by rw [hDb]; exact zag HCc.out
          have HTT : za (bytesOf (T4 ++ ((⟨#[46, 100, 101, 118]⟩ : ByteArray) ++ Db)) = bytesOf T4 ++ devT (numO true c) ∧ (T4 ++ ((⟨#[46, 100, 101, 118]⟩ : ByteArray) ++ Db)).size ≤ 450) := ⟨by rw [zac, zac, hDb, dS_B]; rfl, by rw [zkc, zkc]; have := ET4.out.2; have e5 : (⟨#[46, 100, 101, 118]⟩ : ByteArray).size = 4 := rfl; omega⟩
          have s10 : 4 + Db.size ≤ 9223372036854775807 := by omega
          have s1a := eq_true s10
          have s1b : decide (4 + Db.size ≤ 9223372036854775807) = true := decide_eq_true s10
          have s1 : (9223372036854775807 < 4 + Db.size) = False := eq_false (Nat.not_lt.2 s10)
          have s20 : T4.size + (4 + Db.size) ≤ 9223372036854775807 := by have := ET4.out.2; omega
          have s2a := eq_true s20
          have s2b : decide (T4.size + (4 + Db.size) ≤ 9223372036854775807) = true := decide_eq_true s20
          have s2 : (9223372036854775807 < T4.size + (4 + Db.size)) = False := eq_false (Nat.not_lt.2 s20)
          have s30 : T4.size + ((⟨#[46, 100, 101, 118]⟩ : ByteArray) ++ Db).size ≤ 9223372036854775807 := by rw [zkc]; have := ET4.out.2; have e5 : (⟨#[46, 100, 101, 118]⟩ : ByteArray).size = 4 := rfl; omega
          have s3a := eq_true s30
          have s3b : decide (T4.size + ((⟨#[46, 100, 101, 118]⟩ : ByteArray) ++ Db).size ≤ 9223372036854775807) = true := decide_eq_true s30
          have s3 : (9223372036854775807 < T4.size + ((⟨#[46, 100, 101, 118]⟩ : ByteArray) ++ Db).size) = False := eq_false (Nat.not_lt.2 s30)
          subst hb1 hb2
          clear hb3 hDb hz
          have y5 := cellAt I9.out.t.b1 5 rfl
          go_upto_region 24 with (first | (go_at_call 21; (with_reducible refine (HDb.out _).mono ?_); rintro e' w30 ⟨rfl, hb⟩; have I30 := za.mk (I9.out.to hb); clear hb I9 y5) | (go_at_call 36; (with_reducible refine (HNb.out _).mono ?_); rintro e' w31 ⟨rfl, hb⟩; have I31 := za.mk (I30.out.to hb); clear hb I30; have y11 := cellAt I31.out.b5 11 rfl; have y12 := cellAt I31.out.b5 12 rfl; have y13 := cellAt I31.out.b5 13 rfl; have y14 := cellAt I31.out.b5 14 rfl; have f11 := zr I31.out.b5 11; have f12 := zr I31.out.b5 12; have f13 := zr I31.out.b5 13; have f14 := zr I31.out.b5 14))
          have I32 := za.mk ((((I31.out.put 11 (.bool true)).put 12 (.string ⟨#[100, 101, 118]⟩)).put 13 (.bool false)).put 14 (.string dm))
          generalize (((w31.setCell ⟨g5, 11, none⟩ (.bool true)).setCell ⟨g5, 12, none⟩ (.string ⟨#[100, 101, 118]⟩)).setCell ⟨g5, 13, none⟩ (.bool false)).setCell ⟨g5, 14, none⟩ (.string dm) = w32 at I32 ⊢
          clear I31 y11 f11 y12 f12 y13 f13 y14 f14
          have y5 := cellAt I32.out.t.b1 5 rfl
          go_wp2_with (go_at_call 21; (with_reducible refine (HDb.out _).mono ?_); rintro e' w33 ⟨rfl, hb⟩; have I33 := za.mk (I32.out.to hb); clear hb)
          go_meet
          exact ⟨T4 ++ ((⟨#[46, 100, 101, 118]⟩ : ByteArray) ++ Db), rfl, HTT, I33⟩
         | false =>
          have hb1 : db = false := HDD.out.1
          have hb2 : dl = ⟨#[]⟩ := HDD.out.2.1
          have hb3 : dm = ⟨#[]⟩ := HDD.out.2.2
          have HTT : za (bytesOf T4 = bytesOf T4 ++ devT (numO false c) ∧ T4.size ≤ 450) := ⟨(List.append_nil _).symm, by have := ET4.out.2; omega⟩
          subst hb1 hb2 hb3
          go_wp2_with (fail)
          go_meet
          exact ⟨T4, rfl, HTT, I9⟩
        case rest =>
         clear I9
         obtain ⟨T5, rfl, ET5, I10⟩ := hcut
         have y8 := cellAt I10.out.t.b1 8 rfl
         go_wp2
         go_loopw [6, 123] (fun v6 iv wr => ∃ (i : Nat) (T : ByteArray) (lv : Value), i ≤ l.length ∧ v6 = .string T ∧ iv = .int .i64 (i : Int) ∧ za (bytesOf T = bytesOf T5 ++ locN l i ∧ ∀ x ∈ l.take i, wordB (bytesOf x) = true) ∧ za (TInv w wr g1 g3 g5 #[.int .u16 e, .slice A1 ns.length c1, .int .u8 k, .int .u16 a, .int .u16 b, .int .u16 c, .bool hp, .bool hd, .slice A8 l.length c8] #[.bool false, .string Me, rv, .bool pb, .string pl, .bool false, .string pm, .bool qb, .string ql, .bool false, .string qm, .bool db, .string dl, .bool false, .string dm, lv, .slice none 0 0] rv lv (intsN ns) (if i = 0 then [⟨#[]⟩] else wordL (l.take i)))) (fun _ iv _ => l.length - (intOf iv).toNat)
         case atStart => exact ⟨0, T5, .slice A5 1 cp5, Nat.zero_le _, rfl, rfl, ⟨by simp [locN, locT], by simp⟩, I10⟩
         case round =>
          obtain ⟨i, T, lv, hi, rfl, rfl, HT, HI⟩ := hrel
          clear I10
          have HTS : za (T.size ≤ 80000) := ⟨by rw [zhe, HT.out.1, List.length_append, bytesOf_length]; have := locN_len HGD.out.2.1 i; have := HGD.out.2.2; have := ET5.out.2; omega⟩
          by_cases hlt : i < l.length
          ·have i3 : decide ((i : Int) < (l.length : Int)) = true := decide_eq_true (by omega)
           have i4 : ((i : Int) < (l.length : Int)) = True := eq_true (by omega)
           have i5 : (0 ≤ (i : Int)) = True := eq_true (by omega)
           have WR : wrap64 ((i : Int) + 1) = ((i + 1 : Nat) : Int) := by have := HGD.out.2.2; unfold wrap64; omega
           have LT := za.mk hlt
           obtain ⟨ad8, ea, hx0⟩ := Kd.at_string HR8.out (i : Int) (by omega) (by omega)
           have hx := (HI.out.t.below.cell (World.block_lt_of_cell? w _ hx0)).trans hx0
           subst ea
           obtain ⟨x, hxx⟩ : ∃ x, x = rdOf ByteArray.empty l (i : Int) := ⟨_, rfl⟩
           rewrite [← hxx, Int.toNat_natCast] at hx
           have HTAKE : za (l.take (i + 1) = l.take i ++ [x]) := ⟨by rw [take_snoc hlt, ← hxx]⟩
           have HMEM : za (x ∈ l) := ⟨List.mem_of_mem_take (i := i + 1) (by rw [HTAKE.out]; simp)⟩
           have HSTEP : za (locN l (i + 1) = locN l i ++ ((if i = 0 then [43] else [46]) ++ bytesOf x)) := ⟨by rw [locN_step hlt, ← hxx]⟩
           have HLI : za ((if i = 0 then [] else wordL (l.take i)).length ≤ 60) := ⟨by split; exact Nat.zero_le _; unfold wordL; rw [List.length_map, List.length_take]; have := HGD.out.2.2; omega⟩
           clear hi hlt hx0 hxx
           go_upto_if 129 with (fail)
           go_cut [6] (fun v6 wc => ∃ (T' : ByteArray) (lv' : Value), v6 = .string T' ∧ za (bytesOf T' = bytesOf T ++ (if i = 0 then [43] else [46]) ∧ T'.size ≤ 80001) ∧ za (TInv w wc g1 g3 g5 #[.int .u16 e, .slice A1 ns.length c1, .int .u8 k, .int .u16 a, .int .u16 b, .int .u16 c, .bool hp, .bool hd, .slice (some ad8) l.length c8] #[.bool false, .string Me, rv, .bool pb, .string pl, .bool false, .string pm, .bool qb, .string ql, .bool false, .string qm, .bool db, .string dl, .bool false, .string dm, lv', .slice none 0 0] rv lv' (intsN ns) (if i = 0 then [] else wordL (l.take i))))
           case first =>
            by_cases h0 : i = 0
            ·have e1 : ((i : Int) == 0) = true := (beq_iff_eq.mpr (by omega))
             have e2 : (i == 0) = true := (beq_iff_eq.mpr (by omega))
             have e3 : decide ((i : Int) = 0) = true := decide_eq_true (by omega)
             have e4 : decide (i = 0) = true := decide_eq_true (by omega)
             have y15 := cellAt HI.out.b5 15 rfl
             have f15 := zr HI.out.b5 15
             have E0 : za (bytesOf (T ++ (⟨#[43]⟩ : ByteArray)) = bytesOf T ++ (if i = 0 then [43] else [46]) ∧ (T ++ (⟨#[43]⟩ : ByteArray)).size ≤ 80001) := ⟨by rw [if_pos h0, zac]; rfl, by rw [zkc]; have := HTS.out; have e5 : (⟨#[43]⟩ : ByteArray).size = 1 := rfl; omega⟩
             have I11 : za (TInv w (wr.setCell ⟨g5, 15, none⟩ (.slice none 0 0)) g1 g3 g5 #[.int .u16 e, .slice A1 ns.length c1, .int .u8 k, .int .u16 a, .int .u16 b, .int .u16 c, .bool hp, .bool hd, .slice (some ad8) l.length c8] #[.bool false, .string Me, rv, .bool pb, .string pl, .bool false, .string pm, .bool qb, .string ql, .bool false, .string qm, .bool db, .string dl, .bool false, .string dm, .slice none 0 0, .slice none 0 0] rv (.slice none 0 0) (intsN ns) (if i = 0 then [] else wordL (l.take i))) := ⟨by rw [if_pos h0]; exact (HI.out.put 15 (.slice none 0 0)).lnil⟩
             have s10 : T.size + 1 ≤ 9223372036854775807 := by have := HTS.out; omega
             have s1a := eq_true s10
             have s1b : decide (T.size + 1 ≤ 9223372036854775807) = true := decide_eq_true s10
             have s1 : (9223372036854775807 < T.size + 1) = False := eq_false (Nat.not_lt.2 s10)
             clear h0
             (first | rewrite [e1] | rewrite [e2] | rewrite [e3] | rewrite [e4] | skip)
             go_wp2_with (fail)
             go_meet
             exact ⟨T ++ (⟨#[43]⟩ : ByteArray), .slice none 0 0, rfl, E0, I11⟩
            ·have e1 : ((i : Int) == 0) = false := (beq_eq_false_iff_ne.mpr (by omega))
             have e2 : (i == 0) = false := (beq_eq_false_iff_ne.mpr (by omega))
             have e3 : decide ((i : Int) = 0) = false := decide_eq_false (by omega)
             have e4 : decide (i = 0) = false := decide_eq_false (by omega)
             have E0 : za (bytesOf (T ++ (⟨#[46]⟩ : ByteArray)) = bytesOf T ++ (if i = 0 then [43] else [46]) ∧ (T ++ (⟨#[46]⟩ : ByteArray)).size ≤ 80001) := ⟨by rw [if_neg h0, zac]; rfl, by rw [zkc]; have := HTS.out; have e5 : (⟨#[46]⟩ : ByteArray).size = 1 := rfl; omega⟩
             have I11 : za (TInv w wr g1 g3 g5 #[.int .u16 e, .slice A1 ns.length c1, .int .u8 k, .int .u16 a, .int .u16 b, .int .u16 c, .bool hp, .bool hd, .slice (some ad8) l.length c8] #[.bool false, .string Me, rv, .bool pb, .string pl, .bool false, .string pm, .bool qb, .string ql, .bool false, .string qm, .bool db, .string dl, .bool false, .string dm, lv, .slice none 0 0] rv lv (intsN ns) (if i = 0 then [] else wordL (l.take i))) := ⟨by rw [if_neg h0]; have := HI.out; rw [if_neg h0] at this; exact this⟩
             have s10 : T.size + 1 ≤ 9223372036854775807 := by have := HTS.out; omega
             have s1a := eq_true s10
             have s1b : decide (T.size + 1 ≤ 9223372036854775807) = true := decide_eq_true s10
             have s1 : (9223372036854775807 < T.size + 1) = False := eq_false (Nat.not_lt.2 s10)
             clear h0
             (first | rewrite [e1] | rewrite [e2] | rewrite [e3] | rewrite [e4] | skip)
             go_wp2_with (fail)
             go_meet
             exact ⟨T ++ (⟨#[46]⟩ : ByteArray), lv, rfl, E0, I11⟩
           case rest =>
            clear HI hx
            obtain ⟨T6, lv2, rfl, ET6, I12⟩ := hcut
            obtain ⟨bd, hbd⟩ : ∃ v, v = digB x := ⟨_, rfl⟩
            obtain ⟨bw, hbw⟩ : ∃ v, v = wrdB x := ⟨_, rfl⟩
            have HXS : za (x.size ≤ 1200) := ⟨HGD.out.2.1 x HMEM.out⟩
            have HDG := za.mk (fun W : World => by have := digits_ W (s := x) (by have := HXS.out; omega); rewrite [← hbd] at this; exact this)
            have HWG := za.mk (fun W : World => by have := words_ W (s := x) (by have := HXS.out; omega); rewrite [← hbw] at this; exact this)
            have HWB : za (wordB (bytesOf x) = (bd || bw)) := ⟨by rw [hbd, hbw]; exact wordB_or⟩
            clear hbd hbw
            go_upto_region 32 with (fail)
            go_cut [142] (fun v142 wc => v142 = .bool (!(bd || bw)) ∧ za (TInv w wc g1 g3 g5 #[.int .u16 e, .slice A1 ns.length c1, .int .u8 k, .int .u16 a, .int .u16 b, .int .u16 c, .bool hp, .bool hd, .slice (some ad8) l.length c8] #[.bool false, .string Me, rv, .bool pb, .string pl, .bool false, .string pm, .bool qb, .string ql, .bool false, .string qm, .bool db, .string dl, .bool false, .string dm, lv2, .slice none 0 0] rv lv2 (intsN ns) (if i = 0 then [] else wordL (l.take i))))
            case first =>
             cases bd with
             | true =>
              go_wp2_with (first | (go_at_call 37; (with_reducible refine (HDG.out _).mono ?_); rintro e' w41 ⟨rfl, hb⟩; have I13 := za.mk (I12.out.to hb); clear hb))
              go_meet
              exact ⟨rfl, I13⟩
             | false =>
              cases bw with
              | true =>
               go_wp2_with (first | (go_at_call 37; (with_reducible refine (HDG.out _).mono ?_); rintro e' w41 ⟨rfl, hb⟩; have I13 := za.mk (I12.out.to hb); clear hb) | (go_at_call 38; (with_reducible refine (HWG.out _).mono ?_); rintro e' w42 ⟨rfl, hb⟩; have I14 := za.mk (I13.out.to hb); clear hb))
               go_meet
               exact ⟨rfl, I14⟩
              | false =>
               go_wp2_with (first | (go_at_call 37; (with_reducible refine (HDG.out _).mono ?_); rintro e' w41 ⟨rfl, hb⟩; have I13 := za.mk (I12.out.to hb); clear hb) | (go_at_call 38; (with_reducible refine (HWG.out _).mono ?_); rintro e' w42 ⟨rfl, hb⟩; have I14 := za.mk (I13.out.to hb); clear hb))
               go_meet
               exact ⟨rfl, I14⟩
            case rest =>
             clear I12
             obtain ⟨rfl, I15⟩ := hcut
             by_cases hbb : (bd || bw) = true
             case neg =>
              have hf : RR = failT := by
               rw [HRR.out, if_neg]
               rintro ⟨_, _, _, _, t5⟩
               exact hbb (by rw [← HWB.out]; exact t5 x HMEM.out)
              subst hf
              rewrite [Bool.eq_false_iff.mpr hbb]
              simp only [Bool.not_false]
              go_wp2_with (((with_reducible refine zee (t := 34) rfl ?_); refine ztf rfl 34 _ _ rfl _ _ #[_, _, _, _, _, _, _, _, _, _, _, _, _, _, _, _, _] 34 rfl rfl (by with_reducible exact I15.out.t.b3) (by rfl) zqe rfl ?_))
              refine bodyPost_ret (zbg (rs := [.tmp 2, .cell 3 34, .tmp 4]) rfl (by simp) (.tmp (.cell g3 34 #[.bool false, .string ⟨#[]⟩, .slice none 0 0, .bool false, .string ⟨#[]⟩, .bool false, .string ⟨#[]⟩, .bool false, .string ⟨#[]⟩, .bool false, .string ⟨#[]⟩, .bool false, .string ⟨#[]⟩, .bool false, .string ⟨#[]⟩, .slice none 0 0, .slice none 0 0] (0, 0) _ rfl (zch (bs := #[.bool false, .string ⟨#[]⟩, .slice none 0 0, .bool false, .string ⟨#[]⟩, .bool false, .string ⟨#[]⟩, .bool false, .string ⟨#[]⟩, .bool false, .string ⟨#[]⟩, .bool false, .string ⟨#[]⟩, .bool false, .string ⟨#[]⟩, .slice none 0 0, .slice none 0 0]) I15.out.t.b3 rfl) Tryz.underlying34 rfl (by kernel_rfl) (.tmp .nil)))) rfl ?_
              exact stage_fail I15.out.t HG3.out
             case pos =>
              have HW : za (wordB (bytesOf x) = true) := ⟨by rw [HWB.out]; exact hbb⟩
              rewrite [hbb]
              simp only [Bool.not_true]
              clear hbb
              obtain ⟨xs, hxs⟩ : ∃ s, s = smS x := ⟨_, rfl⟩
              have HSM := za.mk (fun W : World => by have := small_ W (s := x) (by have := HXS.out; omega) HW.out; rewrite [← hxs] at this; exact this)
              have HT9 : za (bytesOf (T6 ++ x) = bytesOf T5 ++ locN l (i + 1) ∧ ∀ x ∈ l.take (i + 1), wordB (bytesOf x) = true) := ⟨by rw [zac, ET6.out.1, HT.out.1, HSTEP.out]; simp only [List.append_assoc], fun y hy => by
               rw [HTAKE.out] at hy
               rcases List.mem_append.1 hy with h | h
               ·exact HT.out.2 y h
               ·rw [List.mem_singleton.1 h]; exact HW.out⟩
              have HYS : za ((if i = 0 then [] else wordL (l.take i)) ++ [xs] = (if i + 1 = 0 then [⟨#[]⟩] else wordL (l.take (i + 1)))) := ⟨by
               rw [if_neg (Nat.succ_ne_zero i), HTAKE.out, wordL_snoc, hxs]
               by_cases h0 : i = 0
               ·rw [if_pos h0, h0]; rfl
               ·rw [if_neg h0]⟩
              clear hxs
              have s10 : T6.size + x.size ≤ 9223372036854775807 := by have := ET6.out.2; have := HXS.out; omega
              have s1a := eq_true s10
              have s1b : decide (T6.size + x.size ≤ 9223372036854775807) = true := decide_eq_true s10
              have s1 : (9223372036854775807 < T6.size + x.size) = False := eq_false (Nat.not_lt.2 s10)
              go_upto_region 35 with (fail)
              refine start_ (n := 8) (S := fun w' => w'.cell? ⟨g5, 15, none⟩ = some (lv2)) (ds := [7]) #[false, false, false, false, false, false, false, false] (by kernel_rfl) rfl rfl (cellAt (I15.out.to (zbd (Below.refl _ _))).b5 15 rfl) (fun hHeld => ?_)
              have I16 := za.mk (I15.out.to (zbd (Below.refl _ _)))
              clear I15
              generalize wc.drew = w45 at I16 hHeld ⊢
              refine pure_ (i := 0) (N := some 147) (v := ?_) (a' := ?_) #[true, false, false, false, false, false, false, false] rfl rfl (by kernel_rfl) (fun _ _ _ h => h) (Or.inl ⟨by rfl, ?_⟩) ?_ ?_
              rotate_left
              ·intro w'
               go_simp
               with_reducible rfl
              rotate_left
              ·simp only [Act.put, List.setIfInBounds_toArray, List.set_cons_zero, List.set_cons_succ, i64_w, i32_w]
               rfl
              refine pure_ (i := 2) (N := some 149) (v := ?_) (a' := ?_) #[true, false, true, false, false, false, false, false] rfl rfl (by kernel_rfl) (fun _ _ _ h => h) (Or.inl ⟨by rfl, ?_⟩) ?_ ?_
              rotate_left
              ·intro w'
               go_simp
               with_reducible rfl
              rotate_left
              ·simp only [Act.put, List.setIfInBounds_toArray, List.set_cons_zero, List.set_cons_succ, i64_w, i32_w]
               rfl
              refine take_ (i := 1) (N := some 148) (v := ?_) (a' := ?_) #[true, true, true, false, false, false, false, false] rfl rfl (by kernel_rfl) (fun _ _ _ h => h) (Or.inl ⟨by rfl, ?_⟩) hHeld ?_ ?_
              rotate_left
              ·intro w' s0
               go_simp
               with_reducible rfl
              rotate_left
              ·simp only [Act.put, List.setIfInBounds_toArray, List.set_cons_zero, List.set_cons_succ, i64_w, i32_w]
               rfl
              refine one_ (i := 3) (N := some 150) #[true, true, true, true, false, false, false, false] rfl rfl (by kernel_rfl) (by decide) (fun K hK => ?_)
              refine goes_ Tryz.func31 (by kernel_rfl) rfl #[.string x] (by rfl) rfl rfl (by simp only [List.map_toArray, List.map_cons, List.map_nil]; rfl) ?_
              with_reducible refine (HSM.out _).mono ?_
              rintro e w44 ⟨rfl, hb⟩
              refine ⟨_, rfl, ?_⟩
              have I17 := za.mk (I16.out.to hb)
              clear hb I16
              refine hK.out _ _ (cellAt I17.out.b5 15 rfl) (fun hHeld => ?_)
              clear hK K
              refine Go.Proofs.YtlijjnjpomnphaaGreatDoorW.PrintLast.norm_ (a' := ?_) ?_ ?_
              rotate_left
              ·show Act.put _ (some 150) _ = _
               simp only [Act.put, List.setIfInBounds_toArray, List.set_cons_zero, List.set_cons_succ, i64_w, i32_w]
               rfl
              refine one_ (i := 4) (N := some 151) #[true, true, true, true, true, false, false, false] rfl rfl (by kernel_rfl) (by decide) (fun K hK => ?_)
              refine value_ (w1 := ?_) (v := ?_) (by rfl) rfl ?_ ?_
              rotate_left 2
              ·go_simp
               constructor
               ·rfl
               ·rfl
              refine hK.out _ _ (cellAt (zab I17.out.b5 _) 15 rfl) (fun hHeld => ?_)
              clear hK K
              refine Go.Proofs.YtlijjnjpomnphaaGreatDoorW.PrintLast.norm_ (a' := ?_) ?_ ?_
              rotate_left
              ·show Act.put _ (some 151) _ = _
               simp only [Act.put, List.setIfInBounds_toArray, List.set_cons_zero, List.set_cons_succ, i64_w, i32_w]
               rfl
              refine one_ (i := 5) (N := some 152) #[true, true, true, true, true, true, false, false] rfl rfl (by kernel_rfl) (by decide) (fun K hK => ?_)
              refine Kd.R_append_step Kd.string (w0 := w) w.heap.size (by rfl) (.tmp 148) (.tmp 151) 24 9 (.string ⟨#[]⟩) 16 rfl Tryz.underlying24 info9 rfl (by decide) (by omega) lv2 (if i = 0 then [] else wordL (l.take i)) xs [.string xs] (fun _ => True) (fun _ => False) rfl rfl ?aP (fun _ hk => hk.elim) ?aF ?aO ?aB ?aS ?aL ?_
              (case aP => exact rfl)
              (case aB => exact I17.out.t.below)
              (case aF => exact (fun _ _ => trivial))
              (case aO => exact I17.out.lo)
              (case aS => exact I17.out.t.below.size)
              (case aL => have := HLI.out; omega)
              intro v1 w46 ho hb hg hat
              obtain ⟨A7, n7, c7, rfl⟩ : ∃ A n c, v1 = .slice A n c := (by obtain ⟨A, c, e⟩ := Kd.R_slice ho; exact ⟨A, _, c, e⟩)
              have I18 := za.mk (I17.out.texts ho hg)
              clear ho hb hg hat I17
              have f15 := zr I18.out.b5 15
              have y15 := cellAt I18.out.b5 15 rfl
              refine hK.out _ _ (cellAt I18.out.b5 15 rfl) (fun hHeld => ?_)
              clear hK K
              refine Go.Proofs.YtlijjnjpomnphaaGreatDoorW.PrintLast.norm_ (a' := ?_) ?_ ?_
              rotate_left
              ·show Act.put _ (some 152) _ = _
               simp only [Act.put, List.setIfInBounds_toArray, List.set_cons_zero, List.set_cons_succ, i64_w, i32_w]
               rfl
              refine pure_ (i := 6) (N := some 153) (v := ?_) (a' := ?_) #[true, true, true, true, true, true, true, false] rfl rfl (by kernel_rfl) (fun _ _ _ h => h) (Or.inl ⟨by rfl, ?_⟩) ?_ ?_
              rotate_left
              ·intro w'
               go_simp
               with_reducible rfl
              rotate_left
              ·simp only [Act.put, List.setIfInBounds_toArray, List.set_cons_zero, List.set_cons_succ, i64_w, i32_w]
               rfl
              refine last_ (i := 7) (N := none) #[true, true, true, true, true, true, true, true] rfl rfl (by kernel_rfl) (by decide) (fun K hK => ?_)
              refine skip_ (w1 := ?_) (by rfl) rfl ?_ ?_
              rotate_left
              ·go_simp
               rfl
              refine hK.out _ _ ?_
              clear hK K
              refine done_ (by kernel_rfl) ?_
              have I19 : za (TInv w (w46.setCell ⟨g5, 15, none⟩ (.slice A7 n7 c7)) g1 g3 g5 #[.int .u16 e, .slice A1 ns.length c1, .int .u8 k, .int .u16 a, .int .u16 b, .int .u16 c, .bool hp, .bool hd, .slice (some ad8) l.length c8] #[.bool false, .string Me, rv, .bool pb, .string pl, .bool false, .string pm, .bool qb, .string ql, .bool false, .string qm, .bool db, .string dl, .bool false, .string dm, .slice A7 n7 c7, .slice none 0 0] rv (.slice A7 n7 c7) (intsN ns) (if i + 1 = 0 then [⟨#[]⟩] else wordL (l.take (i + 1)))) := ⟨by rw [← HYS.out]; exact I18.out.put 15 (.slice A7 n7 c7)⟩
              try go_wp2
              go_roundw
              all_goals first | exact ⟨i + 1, T6 ++ x, .slice A7 n7 c7, LT.out, rfl, by first | rfl | go_num, HT9, I19⟩ | exact zgf _ i LT.out | exact meas_up1 _ i LT.out | exact zdg _ i LT.out WR
          ·obtain rfl : i = l.length := by omega
           have i3 : decide ((l.length : Int) < (l.length : Int)) = false := decide_eq_false (by omega)
           have i4 : ((l.length : Int) < (l.length : Int)) = False := eq_false (by omega)
           have hok : tOk ns l := ⟨HGD.out.1.1, HGD.out.1.2, HGD.out.2.2, HGD.out.2.1, fun x hx => HT.out.2 x (by rw [List.take_length]; exact hx)⟩
           have hRR2 := HRR.out
           rw [if_pos hok] at hRR2
           have HOK := za.mk hok
           have HTT : za (bytesOf T = zcf e ns k a b c hp hd l) := ⟨by
            rw [HT.out.1, ET5.out.1, ET4.out.1, ET3.out.1, HT1.out]
            unfold locN
            rw [List.take_length]
            show _ = epT (epO e) ++ (relT (ns.map dec) ++ (preT (preO k a) ++ (postT (numO hp b) ++ (devT (numO hd c) ++ locT (l.map bytesOf)))))
            simp only [List.append_assoc]⟩
           have I17 : za (TInv w wr g1 g3 g5 #[.int .u16 e, .slice A1 ns.length c1, .int .u8 k, .int .u16 a, .int .u16 b, .int .u16 c, .bool hp, .bool hd, .slice A8 l.length c8] #[.bool false, .string Me, rv, .bool pb, .string pl, .bool false, .string pm, .bool qb, .string ql, .bool false, .string qm, .bool db, .string dl, .bool false, .string dm, lv, .slice none 0 0] rv lv (intsN ns) (if l = [] then [⟨#[]⟩] else wordL l)) := ⟨by
            have h := HI.out
            rw [List.take_length] at h
            by_cases h0 : l = []
            ·rw [if_pos h0]; rw [if_pos (by rw [h0]; rfl)] at h; exact h
            ·rw [if_neg h0]; rw [if_neg (fun h1 => h0 (List.length_eq_zero_iff.1 h1))] at h; exact h⟩
           clear hlt hi HI hok HT
           obtain ⟨Ar, nr, cr, rfl⟩ : ∃ A n c, rv = .slice A n c := (by obtain ⟨A, c, e⟩ := Kd.R_slice I17.out.ro; exact ⟨A, _, c, e⟩)
           obtain ⟨Al, nl, cl, rfl⟩ : ∃ A n c, lv = .slice A n c := (by obtain ⟨A, c, e⟩ := Kd.R_slice I17.out.lo; exact ⟨A, _, c, e⟩)
           subst hRR2
           try go_wp2
           refine start_ (n := 5) (S := fun w' => w'.heap[g5]? = some (.cells #[.bool false, .string Me, .slice Ar nr cr, .bool pb, .string pl, .bool false, .string pm, .bool qb, .string ql, .bool false, .string qm, .bool db, .string dl, .bool false, .string dm, .slice Al nl cl, .slice none 0 0] 34 (0, 0))) (ds := [3]) #[false, false, false, false, false] (by kernel_rfl) rfl rfl ((I17.out.to (zbd (Below.refl _ _))).b5) (fun hHeld => ?_)
           have I23 := za.mk (I17.out.to (zbd (Below.refl _ _)))
           clear I17
           generalize wr.drew = w50 at I23 hHeld ⊢
           refine pure_ (i := 0) (N := some 155) (v := ?_) (a' := ?_) #[true, false, false, false, false] rfl rfl (by kernel_rfl) (fun _ _ _ h => h) (Or.inl ⟨by rfl, ?_⟩) ?_ ?_
           rotate_left
           ·intro w'
            go_simp
            with_reducible rfl
           rotate_left
           ·simp only [Act.put, List.setIfInBounds_toArray, List.set_cons_zero, List.set_cons_succ, i64_w, i32_w]
            rfl
           refine pure_ (i := 2) (N := some 2) (v := ?_) (a' := ?_) #[true, false, true, false, false] rfl rfl (by kernel_rfl) (fun _ _ _ h => h) (Or.inl ⟨by rfl, ?_⟩) ?_ ?_
           rotate_left
           ·intro w'
            go_simp
            with_reducible rfl
           rotate_left
           ·simp only [Act.put, List.setIfInBounds_toArray, List.set_cons_zero, List.set_cons_succ, i64_w, i32_w]
            rfl
           refine take_ (i := 1) (N := some 156) (v := ?_) (a' := ?_) #[true, true, true, false, false] rfl rfl (by kernel_rfl) (fun _ _ _ h => h) (Or.inl ⟨by rfl, ?_⟩) hHeld ?_ ?_
           rotate_left
           ·intro w' s0
            refine Eq.trans (exec_load 34 (.tmp 5) (by rfl) g5 (by rfl) 34 _ (0, 0) _ s0 Tryz.underlying34 rfl zqe) ?_
            with_reducible rfl
           rotate_left
           ·simp only [Act.put, List.setIfInBounds_toArray, List.set_cons_zero, List.set_cons_succ, i64_w, i32_w]
            rfl
           refine last_ (i := 3) (N := none) #[true, true, true, true, false] rfl rfl (by kernel_rfl) (by decide) (fun K hK => ?_)
           refine skip_ (w1 := ?_) (by rfl) rfl ?_ ?_
           rotate_left
           ·(refine Eq.trans (exec_blk (bs := #[.bool false, .string Me, .slice Ar nr cr, .bool pb, .string pl, .bool false, .string pm, .bool qb, .string ql, .bool false, .string qm, .bool db, .string dl, .bool false, .string dm, .slice Al nl cl, .slice none 0 0]) 34 (.tmp _) (.tmp _) rfl g3 _ 34 (by rfl) (by rfl) I23.out.t.b3 (by rfl) zqe (by rfl)) ?_; rfl)
           refine hK.out _ _ ?_
           clear hK K
           refine pure_ (i := 4) (N := some 4) (v := ?_) (a' := ?_) #[true, true, true, true, true] rfl rfl (by kernel_rfl) (fun _ _ _ h => h) (Or.inl ⟨by rfl, ?_⟩) ?_ ?_
           rotate_left
           ·intro w'
            go_simp
            with_reducible rfl
           rotate_left
           ·simp only [Act.put, List.setIfInBounds_toArray, List.set_cons_zero, List.set_cons_succ, i64_w, i32_w]
            rfl
           refine done_ (by kernel_rfl) ?_
           try go_wp2_with (fail)
           refine bodyPost_ret (zbg (rs := [.tmp 2, .cell 3 34, .tmp 4]) rfl (by simp) (.tmp (.cell g3 34 #[.bool false, .string Me, .slice Ar nr cr, .bool pb, .string pl, .bool false, .string pm, .bool qb, .string ql, .bool false, .string qm, .bool db, .string dl, .bool false, .string dm, .slice Al nl cl, .slice none 0 0] (0, 0) _ rfl (zch (bs := #[.bool false, .string Me, .slice Ar nr cr, .bool pb, .string pl, .bool false, .string pm, .bool qb, .string ql, .bool false, .string qm, .bool db, .string dl, .bool false, .string dm, .slice Al nl cl, .slice none 0 0]) I23.out.t.b3 rfl) Tryz.underlying34 rfl (by kernel_rfl) (.tmp .nil)))) rfl ?_
           exact stage_good HOK.out HE.out HTT.out HDe2.out HPP.out HQQ.out HDD.out I23.out HG3.out
end Go.Proofs.YtlijjnjpomnphaaGreatDoor.V
end
section
namespace Go.Proofs.YtlijjnjpomnphaaGreatDoor.V
open Go.RowKit YtlijjnjpomnphaaGreatDoor.Q YtlijjnjpomnphaaGreatDoorG YtlijjnjpomnphaaGreatDoorH YtlijjnjpomnphaaGreatDoorB YtlijjnjpomnphaaGreatDoorC YtlijjnjpomnphaaGreatDoorM YtlijjnjpomnphaaGreatDoorY YtlijjnjpomnphaaGreatDoorP YtlijjnjpomnphaaGreatDoorW.PrintWords YtlijjnjpomnphaaGreatDoorW.PrintLast YtlijjnjpomnphaaGreatDoorW.PrintMore
theorem stageL_B {e : Int} {ns : List Int} {k a b c : Int} {hp hd : Bool} {l : List ByteArray} (hok : tOk ns l) : bytesOf (strOfNums (zcf e ns k a b c hp hd l)) = zcf e ns k a b c hp hd l := by
 have h2 : (sP e ns k a b c hp hd (lows l)).Ok := sP_ok hok.1 (lows_good hok.2.2.2.2)
 exact B_str (fun x hx => by have := low_byte h2 (stage_low e ns k a b c hp hd l h2) x hx; omega)
theorem u16_zero : U16 0 := ⟨by decide, by decide⟩
theorem stageR_ (w : World) (e k a b c : Int) (hp hd : Bool) (A1 A8 : Option Addr) (c1 c8 : Nat) (ns : List Int) (l : List ByteArray) (hr1 : Kd.C (Kd.int .u16) w A1 ns.length ns) (hc1 : ns.length ≤ c1) (hr8 : Kd.C Kd.string w A8 l.length l) (hc8 : l.length ≤ c8) (he : U16 e) (hne : ∀ x ∈ ns, U16 x) (hk0 : 0 ≤ k) (ha : U16 a) (hb : U16 b) (hc : U16 c) (hl : l.length ≤ 2147483647) :
    Calls Tryz.prog 15 #[.agg #[.int .u16 e, .slice A1 ns.length c1, .int .u8 k, .int .u16 a, .int .u16 b, .int .u16 c, .bool hp, .bool hd, .slice A8 l.length c8]] w fun e' w' => ∃ (R : ByteArray) (cs : Array Value), e' = .returned (.tuple #[.string R, .agg cs, .bool (decide (tOk ns l))]) ∧ ((tOk ns l → bytesOf R = zcf e ns k a b c hp hd l) ∧ cs.size = 17 ∧ cs.toList.all (·.oneCell') = true) ∧ Below w.heap.size w w' := by
  refine (stage_ w e k a b c hp hd A1 A8 c1 c8 ns l hr1 hc1 hr8 hc8 he hne hk0 ha hb hc hl).mono ?_
  rintro e' w' h
  by_cases hok : tOk ns l
  · rw [if_pos hok] at h
    obtain ⟨v3, v16, v17, rfl, h1, h2, h3, hb⟩ := h
    obtain ⟨A, c, rfl⟩ := Kd.R_slice h1
    obtain ⟨A', c', rfl⟩ := Kd.R_slice h2
    obtain ⟨A'', c'', rfl⟩ := Kd.R_slice h3
    exact ⟨_, _, by rw [decide_eq_true hok], ⟨fun _ => stageL_B hok, rfl, rfl⟩, hb⟩
  · rw [if_neg hok] at h
    obtain ⟨v3, v16, v17, rfl, h1, h2, h3, hb⟩ := h
    obtain ⟨A, c, rfl⟩ := Kd.R_slice h1
    obtain ⟨A', c', rfl⟩ := Kd.R_slice h2
    obtain ⟨A'', c'', rfl⟩ := Kd.R_slice h3
    exact ⟨_, _, by rw [decide_eq_false hok], ⟨fun h => absurd h hok, rfl, rfl⟩, hb⟩
end Go.Proofs.YtlijjnjpomnphaaGreatDoor.V
end
section
namespace Go.Proofs.YtlijjnjpomnphaaGreatDoor.V
open Go.RowKit YtlijjnjpomnphaaGreatDoor.Q YtlijjnjpomnphaaGreatDoorG YtlijjnjpomnphaaGreatDoorH YtlijjnjpomnphaaGreatDoorB YtlijjnjpomnphaaGreatDoorC YtlijjnjpomnphaaGreatDoorM YtlijjnjpomnphaaGreatDoorY YtlijjnjpomnphaaGreatDoorP YtlijjnjpomnphaaGreatDoorW.PrintWords YtlijjnjpomnphaaGreatDoorW.PrintLast YtlijjnjpomnphaaGreatDoorW.PrintMore
theorem want_ (w : World) {n m : Int} (hn : U16 n) (hm : U16 m) : Calls Tryz.prog 24 #[.int .u16 n, .int .u16 m] w fun e w' => e = .returned (.int .i64 (cmpN n.toNat m.toNat)) ∧ Below w.heap.size w w' := by
 have hB := Below.refl w.heap.size w
 obtain ⟨r, hr⟩ : ∃ r, r = cmpN n.toNat m.toNat := ⟨_, rfl⟩
 rw [← hr]
 unfold cmpN at hr
 by_cases h1 : n < m
 ·rw [if_pos (by have := hn.1; have := hm.1; omega)] at hr
  subst hr
  have e1 : decide (n < m) = true := decide_eq_true h1
  clear hn hm h1
  go_enter Tryz.func24, Tryz.ntmps24
  go_wp2
  go_ret
  exact ⟨rfl, hB⟩
 ·rw [if_neg (by have := hn.1; have := hm.1; omega)] at hr
  have e1 : decide (n < m) = false := decide_eq_false h1
  by_cases h2 : m < n
  ·rw [if_pos (by have := hn.1; have := hm.1; omega)] at hr
   subst hr
   have e2 : decide (m < n) = true := decide_eq_true h2
   clear hn hm h1 h2
   go_enter Tryz.func24, Tryz.ntmps24
   go_wp2
   go_ret
   exact ⟨rfl, hB⟩
  ·rw [if_neg (by have := hn.1; have := hm.1; omega)] at hr
   subst hr
   have e2 : decide (m < n) = false := decide_eq_false h2
   clear hn hm h1 h2
   go_enter Tryz.func24, Tryz.ntmps24
   go_wp2
   go_ret
   exact ⟨rfl, hB⟩
theorem pair_cmp {X Y : ByteArray} {r : Int} {w : World} (h : ztb.f X Y = some (r, true)) (hG : GL w) : Calls Tryz.prog 23 #[.string X, .string Y] w fun e w' => e = .returned (.tuple #[.int .i64 r, .bool true]) ∧ Below w.heap.size w w' := ztb.calls X Y r true w h hG
theorem mark_at (z : Int) (h : z.toNat < 6) : (([.string ⟨#[46, 100, 101, 118]⟩, .string ⟨#[97]⟩, .string ⟨#[98]⟩, .string ⟨#[114, 99]⟩, .string ⟨#[46, 112, 111, 115, 116]⟩, .string ⟨#[43]⟩] : List Value)[z.toNat]'h) = .string (rdOf ByteArray.empty marksB z) := by
 show _ = Value.string (marksB.getD z.toNat _)
 generalize z.toNat = j at h
 rcases lt6 h with rfl | rfl | rfl | rfl | rfl | rfl <;> rfl
theorem numbers_ (w : World) (A : Option Addr) (cap : Nat) (ns : List Int) (a1 n m : Int) (hr : Kd.C (Kd.int .u16) w A ns.length ns) (hc : ns.length ≤ cap) (hns : ∀ x ∈ ns, U16 x) (h1 : 0 ≤ a1) (hn : U16 n) (hm : U16 m) (hG : GL w) :
    Calls Tryz.prog 6 #[.slice A ns.length cap, .int .u8 a1, .int .u16 n, .int .u16 m] w fun e w' => e = .returned (.bool true) ∧ Below w.heap.size w w' := by
  have HB := za.mk (Below.refl w.heap.size w)
  have HG := za.mk hG
  by_cases hbig : (ns.length : Int) > 2147483647
  · have e1 : decide (2147483647 < (ns.length : Int)) = true := decide_eq_true hbig
    have e2 : decide (2147483647 < ns.length) = true := decide_eq_true (by omega)
    clear hbig hr hc hns h1 hn hm hG
    go_enter Tryz.func6, Tryz.ntmps6
    go_wp2
    go_ret
    exact ⟨rfl, HB.out⟩
  · have e1 : decide (2147483647 < (ns.length : Int)) = false := decide_eq_false hbig
    have e2 : decide (2147483647 < ns.length) = false := decide_eq_false (by omega)
    obtain ⟨bk, hbk⟩ : ∃ b, b = decide (tOk ns []) := ⟨_, rfl⟩
    have HST := za.mk (fun (W : World) (hb : Below w.heap.size w W) => by
      have : Calls Tryz.prog 15 #[.agg #[.int .u16 0, .slice A ns.length cap, .int .u8 0, .int .u16 0, .int .u16 0, .int .u16 0, .bool false, .bool false, .slice none 0 0]] W fun e' w' => ∃ (R : ByteArray) (cs : Array Value), e' = .returned (.tuple #[.string R, .agg cs, .bool (decide (tOk ns []))]) ∧ ((tOk ns [] → bytesOf R = zcf 0 ns 0 0 0 0 false false []) ∧ cs.size = 17 ∧ cs.toList.all (·.oneCell') = true) ∧ Below W.heap.size W w' := stageR_ W 0 0 0 0 0 false false A none cap 0 ns [] (Kd.C_below hr hb) hc (Kd.C_nil _ _) (Nat.zero_le _) u16_zero hns (by decide) u16_zero u16_zero u16_zero (by decide)
      rewrite [← hbk] at this
      exact this)
    have HBK := za.mk hbk
    have HA := za.mk h1
    have HN := za.mk hn
    have HM := za.mk hm
    have HNS := za.mk hns
    clear hbig hr hc hns h1 hn hm hG hbk
    go_enter Tryz.func6, Tryz.ntmps6
    cases bk with
    | false =>
      go_wp2_with (first | (go_at_call 15; (with_reducible refine (HST.out _ HB.out).mono ?_); rintro e' w2 ⟨R, cs, rfl, hR, hb⟩; have HR := za.mk hR; have B2 := za.mk (zcb HB.out hb); clear hb hR HB) | ((with_reducible refine zvc (N := 10) rfl ?_); (try (refine zoc (by rfl) ?_; dsimp only)); refine zdd ?hg (N := 10) ?hd (cs := #[.bool false, .string ⟨#[]⟩, .slice none 0 0, .bool false, .string ⟨#[]⟩, .bool false, .string ⟨#[]⟩, .bool false, .string ⟨#[]⟩, .bool false, .string ⟨#[]⟩, .bool false, .string ⟨#[]⟩, .bool false, .string ⟨#[]⟩, .slice none 0 0, .slice none 0 0]) (t := 34) ?hr ?_; (case hd => rfl); (case hg => rfl); (case hr => first | (go_simp; done) | (go_simp; rfl)); intro g10 hg w3 hbox hb; have L3 : za (w.heap.size ≤ g10) := ⟨by rw [hg]; exact B2.out.size⟩; have B3 := za.mk (zcb B2.out hb); have K3 := za.mk hbox; clear hb hbox hg B2) | ((with_reducible refine zee (t := 34) rfl ?_); refine ztf rfl 34 _ _ rfl _ _ cs 34 rfl rfl (by with_reducible exact K3.out) (HR.out.2.1.trans rfl) (by rw [HR.out.2.1]; exact zqe) HR.out.2.2 ?_; generalize hq : World.setCells w3 g10 0 _ = w4; have B4 : za (Below w.heap.size w w4) := ⟨hq ▸ zte B3.out L3.out⟩; clear hq B3 K3 L3))
      go_ret
      exact ⟨rfl, B4.out⟩
    | true =>
      go_upto_region 4 with (first | (go_at_call 15; (with_reducible refine (HST.out _ HB.out).mono ?_); rintro e' w2 ⟨R, cs, rfl, hR, hb⟩; have HR := za.mk hR; have B2 := za.mk (zcb HB.out hb); clear hb hR HB) | ((with_reducible refine zvc (N := 10) rfl ?_); (try (refine zoc (by rfl) ?_; dsimp only)); refine zdd ?hg (N := 10) ?hd (cs := #[.bool false, .string ⟨#[]⟩, .slice none 0 0, .bool false, .string ⟨#[]⟩, .bool false, .string ⟨#[]⟩, .bool false, .string ⟨#[]⟩, .bool false, .string ⟨#[]⟩, .bool false, .string ⟨#[]⟩, .bool false, .string ⟨#[]⟩, .slice none 0 0, .slice none 0 0]) (t := 34) ?hr ?_; (case hd => rfl); (case hg => rfl); (case hr => first | (go_simp; done) | (go_simp; rfl)); intro g10 hg w3 hbox hb; have L3 : za (w.heap.size ≤ g10) := ⟨by rw [hg]; exact B2.out.size⟩; have B3 := za.mk (zcb B2.out hb); have K3 := za.mk hbox; clear hb hbox hg B2) | ((with_reducible refine zee (t := 34) rfl ?_); refine ztf rfl 34 _ _ rfl _ _ cs 34 rfl rfl (by with_reducible exact K3.out) (HR.out.2.1.trans rfl) (by rw [HR.out.2.1]; exact zqe) HR.out.2.2 ?_; generalize hq : World.setCells w3 g10 0 _ = w4; have B4 : za (Below w.heap.size w w4) := ⟨hq ▸ zte B3.out L3.out⟩; clear hq B3 K3 L3))
      have HK : za (tOk ns []) := ⟨of_decide_eq_true HBK.out.symm⟩
      have HT : za (bytesOf R = relT (ns.map dec)) := ⟨(HR.out.1 HK.out).trans (core_text ns)⟩
      obtain ⟨i, hi, hie⟩ : ∃ i : Nat, i < 6 ∧ Int.tmod a1 6 = (i : Int) := ⟨(Int.tmod a1 6).toNat, by rw [Int.tmod_eq_emod_of_nonneg HA.out]; omega, by rw [Int.tmod_eq_emod_of_nonneg HA.out]; have := HA.out; omega⟩
      obtain ⟨M, hM⟩ : ∃ M, M = rdOf ByteArray.empty marksB (Int.tmod a1 6) := ⟨_, rfl⟩
      have hMs : M.size ≤ 5 := by
        rw [hM, hie]
        rcases lt6 hi with rfl | rfl | rfl | rfl | rfl | rfl <;> decide
      obtain ⟨Dn, hDn⟩ : ∃ s, s = dS n := ⟨_, rfl⟩
      obtain ⟨Dm, hDm⟩ : ∃ s, s = dS m := ⟨_, rfl⟩
      obtain ⟨rw_, hrw⟩ : ∃ r, r = cmpN n.toNat m.toNat := ⟨_, rfl⟩
      have zR : R.size ≤ 400 := by
        rw [zhe, HT.out]
        have := relT_len (ns.map dec) (fun d hd => by obtain ⟨x, hx, rfl⟩ := List.mem_map.1 hd; exact zcg (HNS.out x hx))
        rw [List.length_map] at this
        have := HK.out.2.1
        omega
      have zn : Dn.size ≤ 5 := by rw [hDn]; exact zag HN.out
      have zm : Dm.size ≤ 5 := by rw [hDm]; exact zag HM.out
      have HDn := za.mk (fun W : World => by have := zhf W HN.out; rewrite [← hDn] at this; exact this)
      have HDm := za.mk (fun W : World => by have := zhf W HM.out; rewrite [← hDm] at this; exact this)
      have HWT := za.mk (fun W : World => by have := want_ W HN.out HM.out; rewrite [← hrw] at this; exact this)
      have hR0 : ns.map dec ≠ [] := fun h => HK.out.1 (List.map_eq_nil_iff.1 h)
      have hl : (relT (ns.map dec)).length ≤ 90000 := by rw [← HT.out, bytesOf_length]; omega
      have mt := fun (R : List (List Int)) (d : List Int) => mark_text R d i hi
      rw [← hie, ← hM] at mt
      have bn : bytesOf Dn = dec n := by rw [hDn]; exact dS_B n
      have bm : bytesOf Dm = dec m := by rw [hDm]; exact dS_B m
      have hQ0 : ns.map dec ++ [[48]] ≠ [] := by simp
      have hQD : ∀ x ∈ ns.map dec ++ [[48]], Digs x := fun x hx => by
        rcases List.mem_append.1 hx with hx | hx
        · exact zbh ns x hx
        · rw [List.mem_singleton.1 hx]; exact dig_zero
      have hT := HT.out
      have q1 : ztb.f ((R ++ M) ++ Dn) ((R ++ M) ++ Dm) = some (rw_, true) := by
        rw [hrw]
        exact nums_cmp hR0 (zbh ns) hR0 (zbh ns) (relC_self _) HN.out HM.out (by omega) (by omega) hi (by rw [zac, zac, hT, bn, List.append_assoc, mt]) (by rw [zac, zac, hT, bm, List.append_assoc, mt])
      have q2 : ztb.f (((R ++ (⟨#[46, 48]⟩ : ByteArray)) ++ M) ++ Dn) ((R ++ M) ++ Dn) = some (0, true) := by
        have c2 := nums_cmp (X := ((R ++ (⟨#[46, 48]⟩ : ByteArray)) ++ M) ++ Dn) (Y := (R ++ M) ++ Dn) hQ0 hQD hR0 (zbh ns) (by rw [List.map_append]; exact relC_zero _) HN.out HN.out (by rw [relT_snoc hR0, List.length_append]; simp only [List.length_cons, List.length_nil]; omega) (by omega) hi (by
          rw [zac, zac, zac, hT, bn, ← mt, relT_snoc hR0]
          simp only [List.append_assoc]
          rfl) (by rw [zac, zac, hT, bn, List.append_assoc, mt])
        rw [zdh] at c2
        exact c2
      have C1 := za.mk (fun (W : World) (hb : Below w.heap.size w W) => pair_cmp q1 (HG.out.at hb))
      have C2 := za.mk (fun (W : World) (hb : Below w.heap.size w W) => pair_cmp q2 (HG.out.at hb))
      have p1 : (0 ≤ Int.tmod a1 6) = True := eq_true (by omega)
      have p2 : (Int.tmod a1 6 < 6) = True := eq_true (by omega)
      have HP : za (0 ≤ Int.tmod a1 6 ∧ Int.tmod a1 6 < (marksB.length : Int)) := ⟨by omega, by have hml : ((marksB.length : Nat) : Int) = 6 := rfl; omega⟩
      have p3 : (Int.tmod a1 6 < (marksB.length : Int)) = True := eq_true HP.out.2
      have HMM := za.mk hM
      have e02 : (⟨#[46, 48]⟩ : ByteArray).size = 2 := rfl
      have s00 : R.size + M.size ≤ 9223372036854775807 := by (try simp only [zkc]); omega
      have s0a := eq_true s00
      have s0b : decide (R.size + M.size ≤ 9223372036854775807) = true := decide_eq_true s00
      have s0 : (9223372036854775807 < R.size + M.size) = False := eq_false (Nat.not_lt.2 s00)
      have s10 : R.size + M.size + Dn.size ≤ 9223372036854775807 := by (try simp only [zkc]); omega
      have s1a := eq_true s10
      have s1b : decide (R.size + M.size + Dn.size ≤ 9223372036854775807) = true := decide_eq_true s10
      have s1 : (9223372036854775807 < R.size + M.size + Dn.size) = False := eq_false (Nat.not_lt.2 s10)
      have s20 : (R ++ M).size + Dn.size ≤ 9223372036854775807 := by (try simp only [zkc]); omega
      have s2a := eq_true s20
      have s2b : decide ((R ++ M).size + Dn.size ≤ 9223372036854775807) = true := decide_eq_true s20
      have s2 : (9223372036854775807 < (R ++ M).size + Dn.size) = False := eq_false (Nat.not_lt.2 s20)
      have s30 : R.size + M.size + Dm.size ≤ 9223372036854775807 := by (try simp only [zkc]); omega
      have s3a := eq_true s30
      have s3b : decide (R.size + M.size + Dm.size ≤ 9223372036854775807) = true := decide_eq_true s30
      have s3 : (9223372036854775807 < R.size + M.size + Dm.size) = False := eq_false (Nat.not_lt.2 s30)
      have s40 : (R ++ M).size + Dm.size ≤ 9223372036854775807 := by (try simp only [zkc]); omega
      have s4a := eq_true s40
      have s4b : decide ((R ++ M).size + Dm.size ≤ 9223372036854775807) = true := decide_eq_true s40
      have s4 : (9223372036854775807 < (R ++ M).size + Dm.size) = False := eq_false (Nat.not_lt.2 s40)
      have s50 : R.size + 2 ≤ 9223372036854775807 := by (try simp only [zkc]); omega
      have s5a := eq_true s50
      have s5b : decide (R.size + 2 ≤ 9223372036854775807) = true := decide_eq_true s50
      have s5 : (9223372036854775807 < R.size + 2) = False := eq_false (Nat.not_lt.2 s50)
      have s60 : R.size + 2 + M.size ≤ 9223372036854775807 := by (try simp only [zkc]); omega
      have s6a := eq_true s60
      have s6b : decide (R.size + 2 + M.size ≤ 9223372036854775807) = true := decide_eq_true s60
      have s6 : (9223372036854775807 < R.size + 2 + M.size) = False := eq_false (Nat.not_lt.2 s60)
      have s70 : (R ++ (⟨#[46, 48]⟩ : ByteArray)).size + M.size ≤ 9223372036854775807 := by (try simp only [zkc]); omega
      have s7a := eq_true s70
      have s7b : decide ((R ++ (⟨#[46, 48]⟩ : ByteArray)).size + M.size ≤ 9223372036854775807) = true := decide_eq_true s70
      have s7 : (9223372036854775807 < (R ++ (⟨#[46, 48]⟩ : ByteArray)).size + M.size) = False := eq_false (Nat.not_lt.2 s70)
      have s80 : R.size + 2 + M.size + Dn.size ≤ 9223372036854775807 := by (try simp only [zkc]); omega
      have s8a := eq_true s80
      have s8b : decide (R.size + 2 + M.size + Dn.size ≤ 9223372036854775807) = true := decide_eq_true s80
      have s8 : (9223372036854775807 < R.size + 2 + M.size + Dn.size) = False := eq_false (Nat.not_lt.2 s80)
      have s90 : ((R ++ (⟨#[46, 48]⟩ : ByteArray)) ++ M).size + Dn.size ≤ 9223372036854775807 := by (try simp only [zkc]); omega
      have s9a := eq_true s90
      have s9b : decide (((R ++ (⟨#[46, 48]⟩ : ByteArray)) ++ M).size + Dn.size ≤ 9223372036854775807) = true := decide_eq_true s90
      have s9 : (9223372036854775807 < ((R ++ (⟨#[46, 48]⟩ : ByteArray)) ++ M).size + Dn.size) = False := eq_false (Nat.not_lt.2 s90)
      clear e02
      clear hM hMs hDn hDm hrw zR zn zm hR0 hl mt bn bm hQ0 hQD hT q1 q2 hi hie HR HK HT
      go_upto_region 7 with (fail)
      simp only [mark_at, ← HMM.out]
      generalize hq : w4.alloc (.cells #[.string ⟨#[46, 100, 101, 118]⟩, .string ⟨#[97]⟩, .string ⟨#[98]⟩, .string ⟨#[114, 99]⟩, .string ⟨#[46, 112, 111, 115, 116]⟩, .string ⟨#[43]⟩] 9) = w5
      have n0_ : za (Below w.heap.size w w5) := ⟨hq ▸ zf B4.out _⟩
      clear hq B4
      have B4 := n0_
      clear n0_
      go_wp2_with (first | (go_at_call 21; (with_reducible refine (HDn.out _).mono ?_); rintro e' w6 ⟨rfl, hb⟩; have n0_ := za.mk (zcb B4.out hb); clear B4; have B4 := n0_; clear n0_ hb) | (go_at_call 21; (with_reducible refine (HDm.out _).mono ?_); rintro e' w6 ⟨rfl, hb⟩; have n0_ := za.mk (zcb B4.out hb); clear B4; have B4 := n0_; clear n0_ hb) | (go_at_call 23; (with_reducible refine (C1.out _ B4.out).mono ?_); rintro e' w6 ⟨rfl, hb⟩; have n0_ := za.mk (zcb B4.out hb); clear B4; have B4 := n0_; clear n0_ hb) | (go_at_call 23; (with_reducible refine (C2.out _ B4.out).mono ?_); rintro e' w6 ⟨rfl, hb⟩; have n0_ := za.mk (zcb B4.out hb); clear B4; have B4 := n0_; clear n0_ hb) | (go_at_call 24; (with_reducible refine (HWT.out _).mono ?_); rintro e' w6 ⟨rfl, hb⟩; have n0_ := za.mk (zcb B4.out hb); clear B4; have B4 := n0_; clear n0_ hb))
      go_ret
      exact ⟨by simp, B4.out⟩
theorem FnPyPINumbers_walk (a0 : Option Addr) (len0 cap0 : Nat) (z0 : List Int) (a1 : Int) (a2 : Int) (a3 : Int) (w : World) (w0 : (a0 = none ∧ len0 = 0 ∧ cap0 = 0 ∧ z0 = []) ∨ ∃ x, a0 = some x ∧ len0 ≤ cap0 ∧ cap0 ≤ maxLen ∧ z0.length = cap0 ∧ (∀ i, i < z0.length → w.cell? (x.add i) = some (.int .u16 (z0.getD i 0))) ∧ ∀ n ∈ z0, (Lit.int .u16 n).wf = true) (y0 : len0 * 2 ≤ 140737488351232) (w1 : (Lit.int .u8 a1).wf = true) (w2 : (Lit.int .u16 a2).wf = true) (w3 : (Lit.int .u16 a3).wf = true) (hG : GL w) :
  Calls Tryz.prog 6 #[.slice a0 len0 cap0, .int .u8 a1, .int .u16 a2, .int .u16 a3] w fun e w' => e = .returned (.bool true) ∧ Below w.heap.size w w' := by
 obtain ⟨l0, rfl, hr0, hm0, hw0, hc0⟩ := zmd.ofRowC w0
 have ha : 0 ≤ a1 := by
  simp [Lit.wf, IntKind.min, IntKind.max, IntKind.signed, IntKind.bits] at w1
  omega
 exact numbers_ w a0 cap0 l0 a1 a2 a3 (Kd.C_of_reads (d := (0 : Int)) (h1 := fun _ => rfl) hr0) hc0 (fun x hx => u16_of (hw0 x hx)) ha (u16_of w2) (u16_of w3) hG
end Go.Proofs.YtlijjnjpomnphaaGreatDoor.V
end
section
namespace Go.Proofs.YtlijjnjpomnphaaGreatDoorG
open Go.RowKit Go.ChangeShapes YtlijjnjpomnphaaGreatDoorW.PrintWords YtlijjnjpomnphaaGreatDoorW.PrintLast
theorem err_star : "*" ++ "errors.errorString" = "*errors.errorString" := by decide
theorem err_row (u : TypeId) (h : Tryz.prog.typeName? 3 u = some "*errors.errorString") : u = 243 :=
 typeName_ptr_named (nm := "errors.errorString") (by rw [err_star]; kernel_rfl) (by kernel_rfl) (by decide) u (by rw [err_star]; exact h)
theorem sent {n : String} {text : List UInt8} {g : Nat} {W : World} (hg : Tryz.prog.globalNamed n = some g) (ht : (Tryz.prog.globals[g]?).map (·.type) = some 74)
    (h : laidMet Tryz.prog [(n, .iface "*errors.errorString" (.ptr (.agg [.lit (.string text)])))] W) : (∃ a, W.cell? ⟨g, 0, none⟩ = some (ErrV a)) ∧ g < W.heap.size := by
  obtain ⟨a, s, hv, _⟩ := laid_sentinel h hg ht Tryz.underlying74 err_row Tryz.underlying243 Tryz.underlying258 rfl rfl Tryz.underlying9 (by kernel_rfl) (by kernel_rfl)
  have hc : W.cell? ⟨g, 0, none⟩ = some (ErrV a) := by
    have h0 := World.var?_cell hg hv 0
    simpa [ErrV] using h0
  refine ⟨⟨a, hc⟩, ?_⟩
  rcases Nat.lt_or_ge g W.heap.size with hl | hl
  · exact hl
  · unfold World.cell? at hc
    rw [Array.getElem?_eq_none hl] at hc
    cases hc
theorem GL_of {l : List (String × DataW Unit)} {W : World} (hL : laidMetH Tryz.prog l W) (hp : (l.all fun x => x.2.handleName?.isNone) = true)
  (e1 : l.filter (fun x => x.1 == "io.EOF") = [("io.EOF", Go.Proofs.YtlijjnjpomnphaaGreatDoor.Rows.laid_io_EOF)])
  (e2 : l.filter (fun x => x.1 == "pub-primogeniture/pub/bigall.errNoDigits") = [("pub-primogeniture/pub/bigall.errNoDigits", Go.Proofs.YtlijjnjpomnphaaGreatDoor.Rows.laid_pub_primogeniture_pub_bigall_errNoDigits)])
  (e3 : l.filter (fun x => x.1 == "pub-primogeniture/pub/scalibr/semantic.ErrInvalidVersion") = [("pub-primogeniture/pub/scalibr/semantic.ErrInvalidVersion", Go.Proofs.YtlijjnjpomnphaaGreatDoor.Rows.laid_pub_primogeniture_pub_scalibr_semantic_ErrInvalidVersion)]) : GL W := by
 have one : ∀ (n : String) (d : DataW Unit), l.filter (fun x => x.1 == n) = [(n, d)] → d.handleName?.isNone = true → laidMet Tryz.prog [(n, d)] W := by
  intro n d e hd
  have h := hL.filter (fun x => x.1 == n)
  rw [e, MakeChecks.laidMetH_plain _ _ _ (by simp [hd])] at h
  exact h
 obtain ⟨h1, g1⟩ := sent (g := 2) (by kernel_rfl) (by kernel_rfl) (one _ _ e1 (by kernel_rfl))
 obtain ⟨h2, g2⟩ := sent (g := 7) (by kernel_rfl) (by kernel_rfl) (one _ _ e2 (by kernel_rfl))
 obtain ⟨h3, g3⟩ := sent (g := 0) (by kernel_rfl) (by kernel_rfl) (one _ _ e3 (by kernel_rfl))
 exact ⟨by omega, h3, h1, h2⟩
end Go.Proofs.YtlijjnjpomnphaaGreatDoorG
end
section
namespace Go.Proofs.YtlijjnjpomnphaaGreatDoorW.PrintWords
open Go.ChangeShapes Go.WideShapes
theorem sized_ints {H : Type} {enc : TypeId × Value → H} {P : Program} {W : World} {base : Nat} {spare : Nat → Bool} {held : Bool} {t e : TypeId} {k : IntKind} {a : Option Addr} {len cap : Nat} {d : DataW H} {ps : List MemPlace} {ts : List TypeId} {ds : List (DataW H)} {j : Nat}
    (hsz : (DataW.weightsEach P ts ds).all (· ≤ reachBytes) = true) (ht : ts[j]? = some t) (hd : ds[j]? = some d) (hu : P.underlying t = some (.slice e)) (he : P.underlying e = some (.int k)) (hc : P.cellsOf e = 1) {B : Nat} (hB : P.bytesOf e = B)
    (h : DataW.Trod enc P W base spare held t (.slice a len cap) d ps) : len * B ≤ 140737488351232 := by
  obtain ⟨fuel, hf⟩ := h
  rcases open_ints hu he hc hf with ⟨hcs, _⟩ | ⟨x, l, c, zs, hcs, _, hl, _, hz, hx, _, _⟩
  · simp [Value.cells] at hcs
    obtain ⟨rfl, rfl, rfl⟩ := hcs
    simp
  · simp [Value.cells] at hcs
    obtain ⟨rfl, rfl, rfl⟩ := hcs
    obtain ⟨hx, _⟩ := Prod.mk.inj hx
    subst hx
    have z := sized_slice hsz ht hd hu
    rw [hB] at z
    have hl2 : len ≤ zs.length := by
      rw [hz]
      split
      · exact hl
      · exact Nat.le_refl _
    have h1 : (lits (H := H) k (zs.take len)).length + (lits (H := H) k (zs.drop len)).length = zs.length := by
      simp [lits]
      omega
    rw [h1] at z
    exact Nat.le_trans (Nat.mul_le_mul_right _ hl2) z
end Go.Proofs.YtlijjnjpomnphaaGreatDoorW.PrintWords
end
