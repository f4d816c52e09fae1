/- Proved here, for the row of the law FnAlpineBuiltPair: contracts of the Go functions that it reaches, each as its theorem 'calls' says, and the words and plain laws that they need (BL0, Qx11, Qx12, Qx13, Qx14, BM). -/
import Derived.Test.YtapaijpglfmfgaaGreatDoorFnAlpineBuiltPairD
set_option linter.unusedVariables false
set_option linter.unusedSimpArgs false
set_option maxHeartbeats 8000000
set_option maxRecDepth 100000
section
namespace Go.Proofs.YtapaijpglfmfgaaGreatDoor.V
open Go.RowKit YtapaijpglfmfgaaGreatDoor.Q YtapaijpglfmfgaaGreatDoorG YtapaijpglfmfgaaGreatDoorP YtapaijpglfmfgaaGreatDoorH YtapaijpglfmfgaaGreatDoorB YtapaijpglfmfgaaGreatDoorM YtapaijpglfmfgaaGreatDoorW.PrintWords YtapaijpglfmfgaaGreatDoorW.PrintLast YtapaijpglfmfgaaGreatDoorW.PrintMore
theorem zdf (d : Nat → Int) (n k : Nat) : fromC d (n + 1) k = zgb (d k) (fromC d n (k + 1)) := rfl
theorem sufC_ne (w1 : Int) (n1 : Nat) (w2 : Int) (n2 : Nat) : sufC w1 n1 w2 n2 = zgb (if w1 > w2 then 1 else if w1 < w2 then -1 else 0) (cmpN n1 n2) := by
 unfold sufC zgb
 repeat' split
 all_goals first | rfl | (exfalso; omega)
theorem zpg (a b : ByteArray) : zqf a b = cmp_ (bytesOf a) (bytesOf b) := compare_B a b
theorem zqh (a b : ByteArray) : zqc a b = cmp_ (bytesOf a) (bytesOf b) := by
 unfold zqc
 rw [zpg]
 have ha := zvb a
 have hb := zvb b
 cases ea : bytesOf a with
 | nil =>
  rw [ea] at ha
  cases eb : bytesOf b with
  | nil =>
   rw [eb] at hb
   rw [if_neg (fun h => h.2 (hb.2 rfl)), if_neg (fun h => h.1 (ha.2 rfl))]
  | cons y r =>
   rw [eb] at hb
   rw [if_pos ⟨ha.2 rfl, fun e => by have := hb.1 e; cases this⟩]
   rfl
 | cons x r =>
  rw [ea] at ha
  have ha' : a.toList ≠ [] := fun e => by have := ha.1 e; cases this
  cases eb : bytesOf b with
  | nil =>
   rw [eb] at hb
   rw [if_neg (fun h => ha' h.1), if_pos ⟨ha', hb.2 rfl⟩]
   rfl
  | cons y q =>
   rw [eb] at hb
   rw [if_neg (fun h => ha' h.1), if_neg (fun h => by have := hb.1 h.2; cases this)]
def pvT (o : List Int) (ns : List Int) (l : Int) (ss sn h : List Int) (b : Bool) (n : Int) : PV := ⟨o, tC ns, tL l, tS ss sn, tH h, false, tB b n, []⟩
theorem fits2_ev (ns : List Int) (l : Int) (ss sn : List Int) (h : ByteArray) (b : Bool) (n : Int) : ∃ q, zed.f ns l ss sn h b n = some q := by
 unfold zed.f
 repeat' split
 all_goals exact ⟨_, rfl⟩
theorem zsi (l : List S56) (hl : l.length ≤ 1000000) : ∀ (m i : Nat), l.length - i = m → i ≤ 1000000 → ∃ q, Ev (fun k => zbb.l0 k l (i : Int)) q := by
 intro m
 induction m with
 | zero =>
  intro i hm hi
  refine ⟨true, Ev.succ ?_⟩
  simp only [zbb.l0]
  refine Ev.neg (fun _ => by omega) ?_
  exact Ev.now _
 | succ m ih =>
  intro i hm hi
  obtain ⟨q, hq⟩ := ih (i + 1) (by omega) (by omega)
  by_cases h : ((zcd l (i : Int)).f0) = 4
  ·refine ⟨false, Ev.succ ?_⟩
   simp only [zbb.l0]
   refine Ev.pos (fun _ => by omega) ?_
   refine Ev.pos (fun _ => by omega) ?_
   refine Ev.pos (fun _ => h) ?_
   exact Ev.now _
  ·by_cases h2 : ((zcd l (i : Int)).f0) = 5
   ·refine ⟨false, Ev.succ ?_⟩
    simp only [zbb.l0]
    refine Ev.pos (fun _ => by omega) ?_
    refine Ev.pos (fun _ => by omega) ?_
    refine Ev.neg (fun _ => h) ?_
    refine Ev.pos (fun _ => h2) ?_
    exact Ev.now _
   ·refine ⟨q, Ev.succ ?_⟩
    simp only [zbb.l0]
    refine Ev.pos (fun _ => by omega) ?_
    refine Ev.pos (fun _ => by omega) ?_
    refine Ev.neg (fun _ => h) ?_
    refine Ev.neg (fun _ => h2) ?_
    rw [w64 (i := (i : Int) + 1) (by omega) (by omega)]
    exact hq
theorem text_or (ns : List Int) (hne : ∀ x ∈ ns, U16 x) (l : Int) (hl : 0 ≤ l) (ss sn : List Int) (hse : ∀ x ∈ ss, 0 ≤ x) (hsn : ∀ x ∈ sn, U16 x) (h : ByteArray) (b : Bool) (n : Int) (hn : U16 n) :
  ∃ T : Texted, Ev (fun k => zb.f k ns l ss sn h b n) T ∧ ((tOk ns ss (bytesOf h) ∧ T = goodT ns l ss sn (bytesOf h) b n) ∨ T = failT) := by
 obtain ⟨t1, t2⟩ := text_ev ns hne l hl ss sn hse hsn h b n (fun _ => hn)
 by_cases hk : tOk ns ss (bytesOf h)
 ·exact ⟨_, t1 hk, .inl ⟨hk, rfl⟩⟩
 ·exact ⟨_, t2 hk, .inr rfl⟩
theorem no95_end {h : List Int} (hx : ∀ c ∈ h, isX c = true) (b : Bool) (n : Int) : ∀ c ∈ tH h ++ tE b n, c ≠ 95 := by
 intro c hc e
 subst e
 rcases List.mem_append.1 hc with hc | hc
 ·unfold tH at hc
  split at hc
  ·simp at hc
  ·rcases List.mem_cons.1 hc with e | hc
   ·omega
   ·exact absurd (hx 95 hc) (by decide)
 ·unfold tE at hc
  split at hc
  ·rcases List.mem_cons.1 hc with e | hc
   ·omega
   rcases List.mem_cons.1 hc with e | hc
   ·omega
   ·exact absurd (zsf n 95 hc) (by decide)
  ·simp at hc
theorem text_ok {ns ss sn h : List Int} {l n : Int} {b : Bool} (hk : tOk ns ss h) (hne : ∀ x ∈ ns, U16 x) (hl : 0 ≤ l) (hse : ∀ x ∈ ss, 0 ≤ x) (hsn : ∀ x ∈ sn, U16 x) (hn : U16 n) :
  AOk (strOfNums (textL ns l ss sn h b n)) ∧ zxe (bytesOf (strOfNums (textL ns l ss sn h b n))) = pvT (textL ns l ss sn h b n) ns l ss sn h b n := by
 obtain ⟨hr, hlen⟩ := textL_good (l := l) (sn := sn) (b := b) (n := n) hk hne hl hse hsn hn
 have hB : bytesOf (strOfNums (textL ns l ss sn h b n)) = textL ns l ss sn h b n := B_str (fun c hc => by have := hr c hc; omega)
 obtain ⟨p1, p2⟩ := parse_text (sn := sn) (n := n) (b := b) hk hl hse
 obtain ⟨_, _, _, _, k4⟩ := hk
 refine ⟨⟨by rw [zcc, hB]; omega, ?_⟩, by rw [hB, p1]; rfl⟩
 rw [hB, p2]
 exact clear_no95 (no95_end k4 b n)
theorem cmp_text {X Y : ByteArray} (h1 : AOk X) (h2 : AOk Y) : zlb.f X Y = some (apC (apOf (zxe (bytesOf X))) (apOf (zxe (bytesOf Y))), true) := by
 unfold zlb.f
 rw [if_pos ⟨h1, h2⟩]
end Go.Proofs.YtapaijpglfmfgaaGreatDoor.V
end
section
namespace Go.Proofs.YtapaijpglfmfgaaGreatDoor.Q
open Go.RowKit YtapaijpglfmfgaaGreatDoorH YtapaijpglfmfgaaGreatDoorG YtapaijpglfmfgaaGreatDoorW.PrintWords YtapaijpglfmfgaaGreatDoorW.PrintLast YtapaijpglfmfgaaGreatDoorW.PrintMore YtapaijpglfmfgaaGreatDoorC
attribute [local go_sem] zsc zuc zhd zgd zhc zic zvc ztc
def zdd.f (a0 : ByteArray) (a1 : ByteArray) : Option (Int) := if (Op.bytesLess a0.toList a1.toList) = true then (some (-1)) else (if (Op.bytesLess a1.toList a0.toList) = true then (some 1) else (some 0))
theorem zdd.calls (a0 : ByteArray) (a1 : ByteArray) (r : Int) (w : World) (h : zdd.f a0 a1 = some r) :
  Calls Tryz.prog 32 #[.string a0, .string a1] w fun e w' => e = .returned (.int .i64 r) ∧ zo w w' := by
 have H : (if (Op.bytesLess a0.toList a1.toList) = true then (some (-1)) else (if (Op.bytesLess a1.toList a0.toList) = true then (some 1) else (some 0))) = some r := h
 clear h
 by_cases c3 : (Op.bytesLess a0.toList a1.toList) = true
 ·rw [if_pos c3] at H
  have c3b0 : (Op.bytesLess a0.toList a1.toList) = true := c3
  clear c3
  obtain rfl := Option.some.inj H
  have hgt_ := fun W_ : World => zgi (P := Tryz.prog) W_ 9 a0 a1
  go_enter Tryz.func32, Tryz.ntmps32
  go_wp2
  go_ret
  exact ⟨by rfl, by repeat (first | exact zo.refl _ | apply zo.step)⟩
 ·rw [if_neg c3] at H
  have c3b0 : (Op.bytesLess a0.toList a1.toList) = false := by simpa using c3
  clear c3
  by_cases c4 : (Op.bytesLess a1.toList a0.toList) = true
  ·rw [if_pos c4] at H
   have c4b0 : (Op.bytesLess a1.toList a0.toList) = true := c4
   clear c4
   obtain rfl := Option.some.inj H
   have hgt_ := fun W_ : World => zgi (P := Tryz.prog) W_ 9 a0 a1
   go_enter Tryz.func32, Tryz.ntmps32
   go_wp2
   go_ret
   exact ⟨by rfl, by repeat (first | exact zo.refl _ | apply zo.step)⟩
  ·rw [if_neg c4] at H
   have c4b0 : (Op.bytesLess a1.toList a0.toList) = false := by simpa using c4
   clear c4
   obtain rfl := Option.some.inj H
   have hgt_ := fun W_ : World => zgi (P := Tryz.prog) W_ 9 a0 a1
   go_enter Tryz.func32, Tryz.ntmps32
   go_wp2
   go_ret
   exact ⟨by rfl, by repeat (first | exact zo.refl _ | apply zo.step)⟩
def zad.f (a0 : Int) (a1 : Int) : Option (Int) := if a0 < a1 then (some (-1)) else (if a0 > a1 then (some 1) else (some 0))
theorem zad.calls (a0 : Int) (a1 : Int) (r : Int) (w : World) (h : zad.f a0 a1 = some r) :
  Calls Tryz.prog 55 #[.int .i64 a0, .int .i64 a1] w fun e w' => e = .returned (.int .i64 r) ∧ zo w w' := by
 have H : (if a0 < a1 then (some (-1)) else (if a0 > a1 then (some 1) else (some 0))) = some r := h
 clear h
 by_cases c3 : a0 < a1
 ·rw [if_pos c3] at H
  have c3b0 : decide (a0 < a1) = true := decide_eq_true c3
  clear c3
  obtain rfl := Option.some.inj H
  go_enter Tryz.func55, Tryz.ntmps55
  go_wp2
  go_ret
  exact ⟨by rfl, by repeat (first | exact zo.refl _ | apply zo.step)⟩
 ·rw [if_neg c3] at H
  have c3b0 : decide (a0 < a1) = false := decide_eq_false c3
  clear c3
  by_cases c4 : a0 > a1
  ·rw [if_pos c4] at H
   have c4b0 : decide (a1 < a0) = true := decide_eq_true c4
   clear c4
   obtain rfl := Option.some.inj H
   go_enter Tryz.func55, Tryz.ntmps55
   go_wp2
   go_ret
   exact ⟨by rfl, by repeat (first | exact zo.refl _ | apply zo.step)⟩
  ·rw [if_neg c4] at H
   have c4b0 : decide (a1 < a0) = false := decide_eq_false c4
   clear c4
   obtain rfl := Option.some.inj H
   go_enter Tryz.func55, Tryz.ntmps55
   go_wp2
   go_ret
   exact ⟨by rfl, by repeat (first | exact zo.refl _ | apply zo.step)⟩
def zgc.l0 : Nat → Bool → ByteArray → Option (Bool × ByteArray)
 | 0, _, _ => none
 | k + 1, x239000, x239001 => if (x239001.size : Int) > 0 then (if 0 < (x239001.size : Int) then (if (bt x239001 0) = 0 then (if 1 ≤ (x239001.size : Int) then (zgc.l0 k x239000 (x239001.extract 1 x239001.size)) else (none)) else (if x239000 = true then (some ((x239001.toList != ([] : List UInt8)), x239001)) else (some (false, x239001)))) else (none)) else (if x239000 = true then (some ((x239001.toList != ([] : List UInt8)), x239001)) else (some (false, x239001)))
def zgc.f (k : Nat) (a0_0 : Bool) (a0_1 : ByteArray) : Option (Bool × ByteArray) := zgc.l0 k a0_0 a0_1
theorem zgc.calls (k : Nat) (a0_0 : Bool) (a0_1 : ByteArray) (r1 : Bool) (r2 : ByteArray) (w : World) (h : zgc.f k a0_0 a0_1 = some (r1, r2)) :
  Calls Tryz.prog 56 #[.agg #[.bool a0_0, .string a0_1]] w fun e w' => e = .returned (.agg #[.bool r1, .string r2]) ∧ Below w.heap.size w w' := by
 have hu31 := Tryz.underlying31
 have HB := za.mk (Below.refl w.heap.size w)
 have H : (zgc.l0 k a0_0 a0_1) = some (r1, r2) := h
 clear h
 have H' := za.mk H
 clear H
 go_enter Tryz.func56, Tryz.ntmps56
 go_wp2_with (first | ((with_reducible refine zmb (N := 1) rfl ?_); refine zrb ?hg (N := 1) ?hd (cs := #[.bool a0_0, .string a0_1]) (t := 31) ?hr ?_; (case hd => rfl); (case hg => rfl); (case hr => first | (go_simp; done) | (go_simp; rfl)); intro gb238 hg w2 hbox hb; have BK238 := za.mk hbox; have GW238 := za.mk ((by rw [hg]; exact (zl (by (with_reducible exact HB.out))) : w.heap.size ≤ gb238)); have GE238 := za.mk ((by rw [hg]; exact (zl (by (with_reducible exact HB.out))) : w.heap.size ≤ gb238)); replace HB := za.mk (zm (by (with_reducible exact HB.out)) hb); clear hb hbox hg) | ((with_reducible refine zmb (N := 2) rfl ?_); refine zrb ?hg (N := 2) ?hd (cs := #[.bool false, .string ⟨#[]⟩]) (t := 31) ?hr ?_; (case hd => rfl); (case hg => rfl); (case hr => first | (go_simp; done) | (go_simp; rfl)); intro gb239 hg w3 hbox hb; have n0_ := za.mk (ze BK238.out hb); have n1_ := za.mk (zm (by (with_reducible exact HB.out)) hb); have n2_ := za.mk hbox; have n3_ := za.mk ((by rw [hg]; exact (zl (by (with_reducible exact HB.out))) : w.heap.size ≤ gb239)); have n4_ := za.mk ((by rw [hg]; exact (zl (by (with_reducible exact HB.out))) : w.heap.size ≤ gb239)); have n5_ := za.mk ((by rw [hg]; exact Nat.ne_of_lt (znc BK238.out) : gb238 ≠ gb239)); have n6_ := za.mk ((by rw [hg]; exact Nat.ne_of_gt (znc BK238.out) : gb239 ≠ gb238)); clear BK238; clear HB; have BK238 := n0_; have HB := n1_; have BK239 := n2_; have GW239 := n3_; have GE239 := n4_; have NB238_239 := n5_; have NB239_238 := n6_; clear n0_ n1_ n2_ n3_ n4_ n5_ n6_; clear hb hbox hg))
 (try simp only [Act.put, List.setIfInBounds_toArray, List.set_cons_zero, List.set_cons_succ])
 go_loopg [] k (fun kq w' => ∃ (x239001_1 : ByteArray), za (zgc.l0 kq a0_0 x239001_1 = some (r1, r2)) ∧ za (kq ≤ k) ∧ za (w'.heap[gb238]? = some (.cells #[.bool a0_0, .string x239001_1] 31 (0, 0))) ∧ za (w'.heap[gb239]? = some (.cells #[.bool false, .string ⟨#[]⟩] 31 (0, 0))) ∧ za (Below w.heap.size w w'))
 case atStart => exact ⟨(a0_1), H', ⟨Nat.le_refl _⟩, ⟨by exact BK238.out⟩, ⟨by exact BK239.out⟩, ⟨by (with_reducible exact HB.out)⟩⟩
 case round =>
  clear H'
  obtain ⟨x239001_1, HA, HK1, BK238, BK239, HB⟩ := hrel
  cases gk with
  | zero => exact absurd HA.out (by simp [zgc.l0])
  | succ k1 =>
   have H := HA.out
   clear HA
   simp only [zgc.l0] at H
   by_cases c4 : (x239001_1.size : Int) > 0
   ·rw [if_pos c4] at H
    have c4b0 : decide (0 < (x239001_1.size : Int)) = true := decide_eq_true c4
    have c4b1 : decide (0 < x239001_1.size) = true := decide_eq_true (by omega)
    clear c4
    by_cases c5 : 0 < (x239001_1.size : Int)
    ·rw [if_pos c5] at H
     have c5b0 : decide (0 < (x239001_1.size : Int)) = true := decide_eq_true c5
     have c5b1 : decide (0 < x239001_1.size) = true := decide_eq_true (by omega)
     clear c5
     by_cases c7 : (bt x239001_1 0) = 0
     ·rw [if_pos c7] at H
      have c7b0 : ((bt x239001_1 0) == 0) = true := beq_iff_eq.mpr c7
      have c7b1 : ((bt x239001_1 0) != 0) = false := bne_eq_false_iff_eq.mpr c7
      clear c7
      by_cases c8 : 1 ≤ (x239001_1.size : Int)
      ·rw [if_pos c8] at H
       have c8b0 := eq_true c8
       have c8b1 : decide (1 ≤ (x239001_1.size : Int)) = true := decide_eq_true c8
       clear c8
       have H' := za.mk H
       clear H
       have hnb9 := NB238_239.out
       have hnc9 := NB239_238.out
       obtain ⟨hcz10_0, hcz10_1, hfz10_0, hfz10_1⟩ := cl2 BK238.out
       have p6 : 0 ≤ (0 : Int) := (by omega)
       have q6 : 0 < x239001_1.size := (by have : (0 : Int) < (x239001_1.size : Int) := of_decide_eq_true (by (with_reducible assumption)); omega)
       have hx6 : ∀ h : 0 < x239001_1.size, ((x239001_1[0]'h).toNat : Int) = bt x239001_1 0 := bt_at x239001_1 0
       clear p6
       have qi6 : (0 < (x239001_1.size : Int)) = True := eq_true (of_decide_eq_true (by (with_reducible assumption)))
       replace q6 := eq_true q6
       go_wp2
       go_roundg k1
       case measure => have := HK1.out; omega
       case rel => exact ⟨(x239001_1.extract 1 x239001_1.size), H', ⟨by have := HK1.out; omega⟩, ⟨by refine zdb (cs := #[.bool a0_0, .string x239001_1]) ?_ 1 _ rfl; exact BK238.out⟩, ⟨by refine zkb ?_ NB239_238.out _; exact BK239.out⟩, ⟨by (with_reducible refine zk ?_ GE238.out; with_reducible exact HB.out)⟩⟩
      ·rw [if_neg c8] at H
       exact absurd H (by simp)
     ·rw [if_neg c7] at H
      have c7b0 : ((bt x239001_1 0) == 0) = false := beq_eq_false_iff_ne.mpr c7
      have c7b1 : ((bt x239001_1 0) != 0) = true := bne_iff_ne.mpr c7
      by_cases c11 : a0_0 = true
      ·subst c11
       have H1 : (some ((x239001_1.toList != ([] : List UInt8)), x239001_1)) = some (r1, r2) := by rw [if_pos rfl] at H; exact H
       clear H
       have H := H1
       clear H1
       simp only [Option.some.injEq, Prod.mk.injEq] at H
       obtain ⟨rfl, rfl⟩ := H
       have hnb12 := NB238_239.out
       have hnc12 := NB239_238.out
       obtain ⟨hcz13_0, hcz13_1, hfz13_0, hfz13_1⟩ := cl2 BK238.out
       have p6 : 0 ≤ (0 : Int) := (by omega)
       have q6 : 0 < x239001_1.size := (by have : (0 : Int) < (x239001_1.size : Int) := of_decide_eq_true (by (with_reducible assumption)); omega)
       have hx6 : ∀ h : 0 < x239001_1.size, ((x239001_1[0]'h).toNat : Int) = bt x239001_1 0 := bt_at x239001_1 0
       clear p6
       have qi6 : (0 < (x239001_1.size : Int)) = True := eq_true (of_decide_eq_true (by (with_reducible assumption)))
       replace q6 := eq_true q6
       obtain ⟨hcz14_0, hcz14_1, hfz14_0, hfz14_1⟩ := cl2 BK239.out
       go_wp2
       refine bodyPost_ret (results_cell_row rfl _ _ gb239 31 #[.bool (x239001_1.toList != ([] : List UInt8)), .string x239001_1] (0, 0) _ rfl (by refine zdb (cs := #[.bool (x239001_1.toList != ([] : List UInt8)), .string ⟨#[]⟩]) ?_ 1 _ (by rfl); refine zdb (cs := #[.bool false, .string ⟨#[]⟩]) ?_ 0 _ (by (simp [zoc]; done)); refine zkb ?_ NB239_238.out _; exact BK239.out) Tryz.underlying31 rfl (by kernel_rfl)) rfl ?_
       exact ⟨by rfl, by (with_reducible refine zk ?_ GE239.out; with_reducible refine zk ?_ GE239.out; with_reducible refine zk ?_ GE238.out; with_reducible exact HB.out)⟩
      ·replace c11 := Bool.eq_false_iff.mpr c11
       subst c11
       have H1 : (some (false, x239001_1)) = some (r1, r2) := by rw [if_neg (show ¬ (false = true) by decide)] at H; exact H
       clear H
       have H := H1
       clear H1
       simp only [Option.some.injEq, Prod.mk.injEq] at H
       obtain ⟨rfl, rfl⟩ := H
       have hnb15 := NB238_239.out
       have hnc15 := NB239_238.out
       obtain ⟨hcz16_0, hcz16_1, hfz16_0, hfz16_1⟩ := cl2 BK238.out
       have p6 : 0 ≤ (0 : Int) := (by omega)
       have q6 : 0 < x239001_1.size := (by have : (0 : Int) < (x239001_1.size : Int) := of_decide_eq_true (by (with_reducible assumption)); omega)
       have hx6 : ∀ h : 0 < x239001_1.size, ((x239001_1[0]'h).toNat : Int) = bt x239001_1 0 := bt_at x239001_1 0
       clear p6
       have qi6 : (0 < (x239001_1.size : Int)) = True := eq_true (of_decide_eq_true (by (with_reducible assumption)))
       replace q6 := eq_true q6
       obtain ⟨hcz17_0, hcz17_1, hfz17_0, hfz17_1⟩ := cl2 BK239.out
       go_wp2
       refine bodyPost_ret (results_cell_row rfl _ _ gb239 31 #[.bool false, .string x239001_1] (0, 0) _ rfl (by refine zdb (cs := #[.bool false, .string ⟨#[]⟩]) ?_ 1 _ rfl; refine zdb (cs := #[.bool false, .string ⟨#[]⟩]) ?_ 0 _ rfl; refine zkb ?_ NB239_238.out _; exact BK239.out) Tryz.underlying31 rfl (by kernel_rfl)) rfl ?_
       exact ⟨by rfl, by (with_reducible refine zk ?_ GE239.out; with_reducible refine zk ?_ GE239.out; with_reducible refine zk ?_ GE238.out; with_reducible exact HB.out)⟩
    ·rw [if_neg c5] at H
     exact absurd H (by simp)
   ·rw [if_neg c4] at H
    have c4b0 : decide (0 < (x239001_1.size : Int)) = false := decide_eq_false c4
    have c4b1 : decide (0 < x239001_1.size) = false := decide_eq_false (by omega)
    clear c4
    by_cases c18 : a0_0 = true
    ·subst c18
     have H1 : (some ((x239001_1.toList != ([] : List UInt8)), x239001_1)) = some (r1, r2) := by rw [if_pos rfl] at H; exact H
     clear H
     have H := H1
     clear H1
     simp only [Option.some.injEq, Prod.mk.injEq] at H
     obtain ⟨rfl, rfl⟩ := H
     have hnb19 := NB238_239.out
     have hnc19 := NB239_238.out
     obtain ⟨hcz20_0, hcz20_1, hfz20_0, hfz20_1⟩ := cl2 BK238.out
     obtain ⟨hcz21_0, hcz21_1, hfz21_0, hfz21_1⟩ := cl2 BK239.out
     go_wp2
     refine bodyPost_ret (results_cell_row rfl _ _ gb239 31 #[.bool (x239001_1.toList != ([] : List UInt8)), .string x239001_1] (0, 0) _ rfl (by refine zdb (cs := #[.bool (x239001_1.toList != ([] : List UInt8)), .string ⟨#[]⟩]) ?_ 1 _ (by rfl); refine zdb (cs := #[.bool false, .string ⟨#[]⟩]) ?_ 0 _ (by (simp [zoc]; done)); refine zkb ?_ NB239_238.out _; exact BK239.out) Tryz.underlying31 rfl (by kernel_rfl)) rfl ?_
     exact ⟨by rfl, by (with_reducible refine zk ?_ GE239.out; with_reducible refine zk ?_ GE239.out; with_reducible refine zk ?_ GE238.out; with_reducible exact HB.out)⟩
    ·replace c18 := Bool.eq_false_iff.mpr c18
     subst c18
     have H1 : (some (false, x239001_1)) = some (r1, r2) := by rw [if_neg (show ¬ (false = true) by decide)] at H; exact H
     clear H
     have H := H1
     clear H1
     simp only [Option.some.injEq, Prod.mk.injEq] at H
     obtain ⟨rfl, rfl⟩ := H
     have hnb22 := NB238_239.out
     have hnc22 := NB239_238.out
     obtain ⟨hcz23_0, hcz23_1, hfz23_0, hfz23_1⟩ := cl2 BK238.out
     obtain ⟨hcz24_0, hcz24_1, hfz24_0, hfz24_1⟩ := cl2 BK239.out
     go_wp2
     refine bodyPost_ret (results_cell_row rfl _ _ gb239 31 #[.bool false, .string x239001_1] (0, 0) _ rfl (by refine zdb (cs := #[.bool false, .string ⟨#[]⟩]) ?_ 1 _ rfl; refine zdb (cs := #[.bool false, .string ⟨#[]⟩]) ?_ 0 _ rfl; refine zkb ?_ NB239_238.out _; exact BK239.out) Tryz.underlying31 rfl (by kernel_rfl)) rfl ?_
     exact ⟨by rfl, by (with_reducible refine zk ?_ GE239.out; with_reducible refine zk ?_ GE239.out; with_reducible refine zk ?_ GE238.out; with_reducible exact HB.out)⟩
mutual
def zv.j2 : Nat → Bool → ByteArray → Bool → ByteArray → Option (Int)
 | 0, _, _, _, _ => none
 | k + 1, x241000, x241001, x242000, x242001 => if (x241001.size : Int) = (x242001.size : Int) then ((zdd.f x241001 x242001).bind fun t246 => (some t246)) else ((zad.f (x241001.size : Int) (x242001.size : Int)).bind fun t247 => (some t247))
def zv.j0 : Nat → Bool → Bool → ByteArray → Bool → ByteArray → Option (Int)
 | 0, _, _, _, _, _ => none
 | k + 1, x9, x241000, x241001, x242000, x242001 => if x9 = true then (some (-1)) else (if x241000 = true then (zv.j1 k false x241000 x241001 x242000 x242001) else (zv.j1 k x242000 x241000 x241001 x242000 x242001))
def zv.j1 : Nat → Bool → Bool → ByteArray → Bool → ByteArray → Option (Int)
 | 0, _, _, _, _, _ => none
 | k + 1, x17, x241000, x241001, x242000, x242001 => if x17 = true then (some 1) else (if x241000 = true then (zv.j2 k x242000 x242001 x241000 x241001) else (zv.j2 k x241000 x241001 x242000 x242001))
end
def zv.f (k : Nat) (a0_0 : Bool) (a0_1 : ByteArray) (a1_0 : Bool) (a1_1 : ByteArray) : Option (Int) := (zgc.f k a0_0 a0_1).bind fun bt242 => ((zgc.f k a1_0 a1_1).bind fun bt244 => (if bt242.1 = true then (zv.j0 k (!bt244.1) bt242.1 bt242.2 bt244.1 bt244.2) else (zv.j0 k false bt242.1 bt242.2 bt244.1 bt244.2)))
theorem zv.calls (k : Nat) (a0_0 : Bool) (a0_1 : ByteArray) (a1_0 : Bool) (a1_1 : ByteArray) (r : Int) (w : World) (h : zv.f k a0_0 a0_1 a1_0 a1_1 = some r) :
  Calls Tryz.prog 35 #[.agg #[.bool a0_0, .string a0_1], .agg #[.bool a1_0, .string a1_1]] w fun e w' => e = .returned (.int .i64 r) ∧ Below w.heap.size w w' := by
 have hu31 := Tryz.underlying31
 have HB := za.mk (Below.refl w.heap.size w)
 have H : ((zgc.f k a0_0 a0_1).bind fun bt242 => ((zgc.f k a1_0 a1_1).bind fun bt244 => (if bt242.1 = true then (zv.j0 k (!bt244.1) bt242.1 bt242.2 bt244.1 bt244.2) else (zv.j0 k false bt242.1 bt242.2 bt244.1 bt244.2)))) = some r := h
 clear h
 replace H := Option.bind_eq_some_iff.mp H
 obtain ⟨⟨t242, t243⟩, A30, H⟩ := H
 replace H : ((zgc.f k a1_0 a1_1).bind fun bt244 => (if t242 = true then (zv.j0 k (!bt244.1) t242 t243 bt244.1 bt244.2) else (zv.j0 k false t242 t243 bt244.1 bt244.2))) = some r := H
 have A3 := za.mk A30
 clear A30
 replace H := Option.bind_eq_some_iff.mp H
 obtain ⟨⟨t244, t245⟩, A40, H⟩ := H
 replace H : (if t242 = true then (zv.j0 k (!t244) t242 t243 t244 t245) else (zv.j0 k false t242 t243 t244 t245)) = some r := H
 have A4 := za.mk A40
 clear A40
 have HC5 := za.mk H
 clear H
 go_enter Tryz.func35, Tryz.ntmps35
 try go_wp2_with (first | ((with_reducible refine zmb (N := 2) rfl ?_); refine zrb ?hg (N := 2) ?hd (cs := #[.bool a0_0, .string a0_1]) (t := 31) ?hr ?_; (case hd => rfl); (case hg => rfl); (case hr => first | (go_simp; done) | (go_simp; rfl)); intro gb240 hg w6 hbox hb; have BK240 := za.mk hbox; have GW240 := za.mk ((by rw [hg]; exact (zl (by (with_reducible exact HB.out))) : w.heap.size ≤ gb240)); have GE240 := za.mk ((by rw [hg]; exact (zl (by (with_reducible exact HB.out))) : w.heap.size ≤ gb240)); replace HB := za.mk (zm (by (with_reducible exact HB.out)) hb); clear hb hbox hg) | ((with_reducible refine zmb (N := 3) rfl ?_); refine zrb ?hg (N := 3) ?hd (cs := #[.bool a1_0, .string a1_1]) (t := 31) ?hr ?_; (case hd => rfl); (case hg => rfl); (case hr => first | (go_simp; done) | (go_simp; rfl)); intro gb241 hg w7 hbox hb; have n0_ := za.mk (ze BK240.out hb); have n1_ := za.mk (zm (by (with_reducible exact HB.out)) hb); have n2_ := za.mk hbox; have n3_ := za.mk ((by rw [hg]; exact (zl (by (with_reducible exact HB.out))) : w.heap.size ≤ gb241)); have n4_ := za.mk ((by rw [hg]; exact (zl (by (with_reducible exact HB.out))) : w.heap.size ≤ gb241)); have n5_ := za.mk ((by rw [hg]; exact Nat.ne_of_lt (znc BK240.out) : gb240 ≠ gb241)); have n6_ := za.mk ((by rw [hg]; exact Nat.ne_of_gt (znc BK240.out) : gb241 ≠ gb240)); clear BK240; clear HB; have BK240 := n0_; have HB := n1_; have BK241 := n2_; have GW241 := n3_; have GE241 := n4_; have NB240_241 := n5_; have NB241_240 := n6_; clear n0_ n1_ n2_ n3_ n4_ n5_ n6_; clear hb hbox hg))
 replace BK240 := za.mk (zjd BK240.out)
 replace BK241 := za.mk (zjd BK241.out)
 replace HB := za.mk (zz HB.out)
 refine zeh (n := 6) (S := fun w' => w'.cell? ⟨gb240, 0, none⟩ = some (.bool a0_0) ∧ w'.cell? ⟨gb240, 1, none⟩ = some (.string a0_1) ∧ w'.cell? ⟨gb241, 0, none⟩ = some (.bool a1_0) ∧ w'.cell? ⟨gb241, 1, none⟩ = some (.string a1_1)) (ds := [4, 5]) #[false, false, false, false, false, false] (by kernel_rfl) rfl rfl ⟨(zf BK240.out 0).trans rfl, (zf BK240.out 1).trans rfl, (zf BK241.out 0).trans rfl, (zf BK241.out 1).trans rfl⟩ (fun hHeld => ?_)
 generalize w7.drew = w8 at BK240 BK241 HB hHeld ⊢
 refine take_ (i := 0) (N := some 5) (v := ?_) (a' := ?_) #[true, false, false, false, false, false] rfl rfl (by kernel_rfl) (fun _ _ _ h => h) (Or.inl ⟨by rfl, ?_⟩) hHeld ?_ ?_
 rotate_left
 ·rintro w' ⟨s0, s1, s2, s3⟩
  go_simp
  with_reducible rfl
 rotate_left
 ·simp only [Act.put, List.setIfInBounds_toArray, List.set_cons_zero, List.set_cons_succ, i64_w, i32_w]
  rfl
 refine take_ (i := 2) (N := some 7) (v := ?_) (a' := ?_) #[true, false, true, false, false, false] rfl rfl (by kernel_rfl) (fun _ _ _ h => h) (Or.inl ⟨by rfl, ?_⟩) hHeld ?_ ?_
 rotate_left
 ·rintro w' ⟨s0, s1, s2, s3⟩
  go_simp
  with_reducible rfl
 rotate_left
 ·simp only [Act.put, List.setIfInBounds_toArray, List.set_cons_zero, List.set_cons_succ, i64_w, i32_w]
  rfl
 refine one_ (i := 1) (N := some 6) #[true, true, true, false, false, false] rfl rfl (by kernel_rfl) (by decide) (fun K hK => ?_)
 refine goes_ Tryz.func56 (by kernel_rfl) rfl #[.agg #[.bool a0_0, .string a0_1]] (by rfl) rfl rfl (by (try simp only [List.map_toArray, List.map_cons, List.map_nil]); first | done | rfl | (simp only [List.length_drop, List.length_take]; rfl)) ?_
 with_reducible refine (zgc.calls k a0_0 a0_1 t242 t243 _ A3.out).mono ?_
 rintro e w9 ⟨rfl, hb⟩
 refine ⟨_, rfl, ?_⟩
 replace BK240 := za.mk (ze BK240.out hb)
 replace BK241 := za.mk (ze BK241.out hb)
 replace HB := za.mk (zm (by (with_reducible exact HB.out)) hb)
 (try clear hb)
 (try clear hb2)
 (try clear hk)
 (try clear hi)
 refine hK.out _ _ ⟨(zf BK240.out 0).trans rfl, (zf BK240.out 1).trans rfl, (zf BK241.out 0).trans rfl, (zf BK241.out 1).trans rfl⟩ (fun hHeld => ?_)
 clear hK K
 refine norm_ (a' := ?_) ?_ ?_
 rotate_left
 ·show Act.put _ (some 6) _ = _
  simp only [Act.put, List.setIfInBounds_toArray, List.set_cons_zero, List.set_cons_succ, i64_w, i32_w]
  rfl
 refine one_ (i := 3) (N := some 8) #[true, true, true, true, false, false] rfl rfl (by kernel_rfl) (by decide) (fun K hK => ?_)
 refine goes_ Tryz.func56 (by kernel_rfl) rfl #[.agg #[.bool a1_0, .string a1_1]] (by rfl) rfl rfl (by (try simp only [List.map_toArray, List.map_cons, List.map_nil]); first | done | rfl | (simp only [List.length_drop, List.length_take]; rfl)) ?_
 with_reducible refine (zgc.calls k a1_0 a1_1 t244 t245 _ A4.out).mono ?_
 rintro e w10 ⟨rfl, hb⟩
 refine ⟨_, rfl, ?_⟩
 replace BK240 := za.mk (ze BK240.out hb)
 replace BK241 := za.mk (ze BK241.out hb)
 replace HB := za.mk (zm (by (with_reducible exact HB.out)) hb)
 (try clear hb)
 (try clear hb2)
 (try clear hk)
 (try clear hi)
 refine hK.out _ _ ⟨(zf BK240.out 0).trans rfl, (zf BK240.out 1).trans rfl, (zf BK241.out 0).trans rfl, (zf BK241.out 1).trans rfl⟩ (fun hHeld => ?_)
 clear hK K
 refine norm_ (a' := ?_) ?_ ?_
 rotate_left
 ·show Act.put _ (some 8) _ = _
  simp only [Act.put, List.setIfInBounds_toArray, List.set_cons_zero, List.set_cons_succ, i64_w, i32_w]
  rfl
 refine last_ (i := 4) (N := none) #[true, true, true, true, true, false] rfl rfl (by kernel_rfl) (by decide) (fun K hK => ?_)
 have hs11 : w10.cell? ⟨gb240, 0, none⟩ = some (.bool a0_0) := (zf BK240.out 0).trans rfl
 have hfs11 := zy BK240.out 0
 have hns11_1 := NB241_240.out
 have hms11_1 := NB240_241.out
 have hs12 : w10.cell? ⟨gb240, 1, none⟩ = some (.string a0_1) := (zf BK240.out 1).trans rfl
 have hfs12 := zy BK240.out 1
 have hns12_1 := NB241_240.out
 have hms12_1 := NB240_241.out
 refine skip_ (w1 := ?_) (by rfl) rfl ?_ ?_
 rotate_left
 ·go_simp
  rfl
 refine hK.out _ _ ?_
 clear hK K
 refine last_ (i := 5) (N := none) #[true, true, true, true, true, true] rfl rfl (by kernel_rfl) (by decide) (fun K hK => ?_)
 have hs13 : w10.cell? ⟨gb241, 0, none⟩ = some (.bool a1_0) := (zf BK241.out 0).trans rfl
 have hfs13 := zy BK241.out 0
 have hns13_0 := NB240_241.out
 have hms13_0 := NB241_240.out
 have hs14 : w10.cell? ⟨gb241, 1, none⟩ = some (.string a1_1) := (zf BK241.out 1).trans rfl
 have hfs14 := zy BK241.out 1
 have hns14_0 := NB240_241.out
 have hms14_0 := NB241_240.out
 refine skip_ (w1 := ?_) (by rfl) rfl ?_ ?_
 rotate_left
 ·go_simp
  rfl
 refine hK.out _ _ ?_
 clear hK K
 refine done_ (by kernel_rfl) ?_
 go_upto_block 0 with (fail)
 go_cut [] (fun wc => ∃ (kq : Nat) (x241000_4 : Bool) (x241001_4 : ByteArray) (x242000_4 : Bool) (x242001_4 : ByteArray), za (zv.j2 kq x241000_4 x241001_4 x242000_4 x242001_4 = some r) ∧ za (kq ≤ k) ∧ za (wc.heap[gb240]? = some (.cells #[.bool x241000_4, .string x241001_4] 31 (0, 0))) ∧ za (wc.heap[gb241]? = some (.cells #[.bool x242000_4, .string x242001_4] 31 (0, 0))) ∧ za (Below w.heap.size w wc))
 case first =>
  have H := HC5.out
  clear HC5
  have HC15 := za.mk H
  clear H
  go_upto_region 2 with (fail)
  go_cut [9] (fun v9 wc => ∃ (kq : Nat) (x9_14 : Bool), v9 = .bool x9_14 ∧ za (zv.j0 kq x9_14 t242 t243 t244 t245 = some r) ∧ za (kq ≤ k) ∧ za (wc.heap[gb240]? = some (.cells #[.bool t242, .string t243] 31 (0, 0))) ∧ za (wc.heap[gb241]? = some (.cells #[.bool t244, .string t245] 31 (0, 0))) ∧ za (Below w.heap.size w wc))
  case first =>
   have H := HC15.out
   clear HC15
   by_cases c16 : t242 = true
   ·subst c16
    have H1 : (zv.j0 k (!t244) true t243 t244 t245) = some r := by rw [if_pos rfl] at H; exact H
    clear H
    have H := H1
    clear H1
    have H' := za.mk H
    clear H
    have hnb17 := NB240_241.out
    have hnc17 := NB241_240.out
    obtain ⟨hcz18_0, hcz18_1, hfz18_0, hfz18_1⟩ := cl2 BK240.out
    obtain ⟨hcz19_0, hcz19_1, hfz19_0, hfz19_1⟩ := cl2 BK241.out
    go_wp2
    go_meet
    case rel => exact ⟨_, (!t244), (by rfl), H', ⟨by omega⟩, ⟨by refine zkb ?_ NB240_241.out _; refine zkb ?_ NB240_241.out _; exact put2 BK240.out⟩, ⟨by refine zdb (cs := #[.bool t244, .string a1_1]) ?_ 1 _ rfl; refine zdb (cs := #[.bool a1_0, .string a1_1]) ?_ 0 _ rfl; refine zkb ?_ NB241_240.out _; refine zkb ?_ NB241_240.out _; exact BK241.out⟩, ⟨by repeat (first | (with_reducible first | exact HB.out | apply zj | apply zc | apply zz | refine zk ?_ GE240.out | refine zk ?_ GE241.out) | exact HB.out)⟩⟩
   ·replace c16 := Bool.eq_false_iff.mpr c16
    subst c16
    have H1 : (zv.j0 k false false t243 t244 t245) = some r := by rw [if_neg (show ¬ (false = true) by decide)] at H; exact H
    clear H
    have H := H1
    clear H1
    have H' := za.mk H
    clear H
    have hnb20 := NB240_241.out
    have hnc20 := NB241_240.out
    obtain ⟨hcz21_0, hcz21_1, hfz21_0, hfz21_1⟩ := cl2 BK240.out
    go_wp2
    go_meet
    case rel => exact ⟨_, (false), (by rfl), H', ⟨by omega⟩, ⟨by refine zkb ?_ NB240_241.out _; refine zkb ?_ NB240_241.out _; exact put2 BK240.out⟩, ⟨by refine zdb (cs := #[.bool t244, .string a1_1]) ?_ 1 _ rfl; refine zdb (cs := #[.bool a1_0, .string a1_1]) ?_ 0 _ rfl; refine zkb ?_ NB241_240.out _; refine zkb ?_ NB241_240.out _; exact BK241.out⟩, ⟨by repeat (first | (with_reducible first | exact HB.out | apply zj | apply zc | apply zz | refine zk ?_ GE240.out | refine zk ?_ GE241.out) | exact HB.out)⟩⟩
  case rest =>
   clear HC15
   obtain ⟨kq, x9_14, rfl, HA, HJ14, BK240, BK241, HB⟩ := hcut
   cases kq with
   | zero => exact absurd HA.out (by simp [zv.j0])
   | succ kj14 =>
    have H := HA.out
    clear HA
    simp only [zv.j0] at H
    by_cases c22 : x9_14 = true
    ·subst c22
     have H1 : (some (-1)) = some r := by rw [if_pos rfl] at H; exact H
     clear H
     have H := H1
     clear H1
     obtain rfl := Option.some.inj H
     go_wp2
     go_ret
     exact ⟨by rfl, by (with_reducible exact HB.out)⟩
    ·replace c22 := Bool.eq_false_iff.mpr c22
     subst c22
     have H1 : (if t242 = true then (zv.j1 kj14 false t242 t243 t244 t245) else (zv.j1 kj14 t244 t242 t243 t244 t245)) = some r := by rw [if_neg (show ¬ (false = true) by decide)] at H; exact H
     clear H
     have H := H1
     clear H1
     have HC23 := za.mk H
     clear H
     go_upto_region 4 with (fail)
     go_cut [17] (fun v17 wc => ∃ (kq : Nat) (x17_22 : Bool), v17 = .bool x17_22 ∧ za (zv.j1 kq x17_22 t242 t243 t244 t245 = some r) ∧ za (kq ≤ kj14) ∧ za (wc.heap[gb240]? = some (.cells #[.bool t242, .string t243] 31 (0, 0))) ∧ za (wc.heap[gb241]? = some (.cells #[.bool t244, .string t245] 31 (0, 0))) ∧ za (Below w.heap.size w wc))
     case first =>
      have H := HC23.out
      clear HC23
      by_cases c24 : t242 = true
      ·subst c24
       have H1 : (zv.j1 kj14 false true t243 t244 t245) = some r := by rw [if_pos rfl] at H; exact H
       clear H
       have H := H1
       clear H1
       have H' := za.mk H
       clear H
       have hnb25 := NB240_241.out
       have hnc25 := NB241_240.out
       obtain ⟨hcz26_0, hcz26_1, hfz26_0, hfz26_1⟩ := cl2 BK240.out
       go_wp2
       go_meet
       case rel => exact ⟨_, (false), (by rfl), H', ⟨by have := HJ14.out; first | omega | exact Nat.le_refl _⟩, ⟨by exact BK240.out⟩, ⟨by exact BK241.out⟩, ⟨by (with_reducible exact HB.out)⟩⟩
      ·replace c24 := Bool.eq_false_iff.mpr c24
       subst c24
       have H1 : (zv.j1 kj14 t244 false t243 t244 t245) = some r := by rw [if_neg (show ¬ (false = true) by decide)] at H; exact H
       clear H
       have H := H1
       clear H1
       have H' := za.mk H
       clear H
       have hnb27 := NB240_241.out
       have hnc27 := NB241_240.out
       obtain ⟨hcz28_0, hcz28_1, hfz28_0, hfz28_1⟩ := cl2 BK240.out
       obtain ⟨hcz29_0, hcz29_1, hfz29_0, hfz29_1⟩ := cl2 BK241.out
       go_wp2
       go_meet
       case rel => exact ⟨_, (t244), (by rfl), H', ⟨by have := HJ14.out; first | omega | exact Nat.le_refl _⟩, ⟨by exact BK240.out⟩, ⟨by exact BK241.out⟩, ⟨by (with_reducible exact HB.out)⟩⟩
     case rest =>
      clear HC23
      obtain ⟨kq, x17_22, rfl, HA, HJ22, BK240, BK241, HB⟩ := hcut
      cases kq with
      | zero => exact absurd HA.out (by simp [zv.j1])
      | succ kj22 =>
       have H := HA.out
       clear HA
       simp only [zv.j1] at H
       by_cases c30 : x17_22 = true
       ·subst c30
        have H1 : (some 1) = some r := by rw [if_pos rfl] at H; exact H
        clear H
        have H := H1
        clear H1
        obtain rfl := Option.some.inj H
        go_wp2
        go_ret
        exact ⟨by rfl, by (with_reducible exact HB.out)⟩
       ·replace c30 := Bool.eq_false_iff.mpr c30
        subst c30
        have H1 : (if t242 = true then (zv.j2 kj22 t244 t245 t242 t243) else (zv.j2 kj22 t242 t243 t244 t245)) = some r := by rw [if_neg (show ¬ (false = true) by decide)] at H; exact H
        clear H
        have H := H1
        clear H1
        by_cases c31 : t242 = true
        ·subst c31
         have H1 : (zv.j2 kj22 t244 t245 true t243) = some r := by rw [if_pos rfl] at H; exact H
         clear H
         have H := H1
         clear H1
         have H' := za.mk H
         clear H
         have hnb32 := NB240_241.out
         have hnc32 := NB241_240.out
         obtain ⟨hcz33_0, hcz33_1, hfz33_0, hfz33_1⟩ := cl2 BK240.out
         obtain ⟨hcz34_0, hcz34_1, hfz34_0, hfz34_1⟩ := cl2 BK241.out
         go_wp2
         go_meet
         case rel => exact ⟨_, (t244), (t245), (true), (t243), H', ⟨by have := HJ14.out; have := HJ22.out; first | omega | exact Nat.le_refl _⟩, ⟨by refine zkb ?_ NB240_241.out _; refine zkb ?_ NB240_241.out _; exact put2 BK240.out⟩, ⟨by refine zdb (cs := #[.bool true, .string t245]) ?_ 1 _ rfl; refine zdb (cs := #[.bool t244, .string t245]) ?_ 0 _ rfl; refine zkb ?_ NB241_240.out _; refine zkb ?_ NB241_240.out _; exact BK241.out⟩, ⟨by repeat (first | (with_reducible first | exact HB.out | apply zj | apply zc | apply zz | refine zk ?_ GE240.out | refine zk ?_ GE241.out) | exact HB.out)⟩⟩
        ·replace c31 := Bool.eq_false_iff.mpr c31
         subst c31
         have H1 : (zv.j2 kj22 false t243 t244 t245) = some r := by rw [if_neg (show ¬ (false = true) by decide)] at H; exact H
         clear H
         have H := H1
         clear H1
         have H' := za.mk H
         clear H
         have hnb35 := NB240_241.out
         have hnc35 := NB241_240.out
         obtain ⟨hcz36_0, hcz36_1, hfz36_0, hfz36_1⟩ := cl2 BK240.out
         go_wp2
         go_meet
         case rel => exact ⟨_, (false), (t243), (t244), (t245), H', ⟨by have := HJ14.out; have := HJ22.out; first | omega | exact Nat.le_refl _⟩, ⟨by exact BK240.out⟩, ⟨by exact BK241.out⟩, ⟨by (with_reducible exact HB.out)⟩⟩
 case rest =>
  clear HC5
  obtain ⟨kq, x241000_4, x241001_4, x242000_4, x242001_4, HA, HJ4, BK240, BK241, HB⟩ := hcut
  cases kq with
  | zero => exact absurd HA.out (by simp [zv.j2])
  | succ kj4 =>
   have H := HA.out
   clear HA
   simp only [zv.j2] at H
   by_cases c37 : (x241001_4.size : Int) = (x242001_4.size : Int)
   ·rw [if_pos c37] at H
    have c37b0 : ((x241001_4.size : Int) == (x242001_4.size : Int)) = true := beq_iff_eq.mpr c37
    have c37b1 : ((x241001_4.size : Int) != (x242001_4.size : Int)) = false := bne_eq_false_iff_eq.mpr c37
    have c37b2 : (x241001_4.size == x242001_4.size) = true := by (simp at c37 ⊢; omega)
    clear c37
    replace H := Option.bind_eq_some_iff.mp H
    obtain ⟨t246, A380, H⟩ := H
    replace H : (some t246) = some r := H
    have A38 := za.mk A380
    clear A380
    obtain rfl := Option.some.inj H
    have hnb39 := NB240_241.out
    have hnc39 := NB241_240.out
    obtain ⟨hcz40_0, hcz40_1, hfz40_0, hfz40_1⟩ := cl2 BK240.out
    obtain ⟨hcz41_0, hcz41_1, hfz41_0, hfz41_1⟩ := cl2 BK241.out
    go_wp2_with (((with_reducible refine zx (f := 32) rfl ?_); refine zdc (some 48) rfl rfl Tryz.func32 (by kernel_rfl) rfl #[.string x241001_4, .string x242001_4] rfl (by (try simp only [List.map_toArray, List.map_cons, List.map_nil]); first | done | rfl | (simp only [List.length_drop, List.length_take]; rfl)) ?_; (with_reducible refine (zdd.calls x241001_4 x242001_4 t246 _ A38.out).mono ?_); rintro e w' ⟨rfl, ⟨nd, rfl⟩⟩; refine ⟨_, rfl, ?_⟩))
    go_ret
    exact ⟨by rfl, by (with_reducible apply zc; with_reducible exact HB.out)⟩
   ·rw [if_neg c37] at H
    have c37b0 : ((x241001_4.size : Int) == (x242001_4.size : Int)) = false := beq_eq_false_iff_ne.mpr c37
    have c37b1 : ((x241001_4.size : Int) != (x242001_4.size : Int)) = true := bne_iff_ne.mpr c37
    have c37b2 : (x241001_4.size == x242001_4.size) = false := by (simp at c37 ⊢; omega)
    replace H := Option.bind_eq_some_iff.mp H
    obtain ⟨t247, A420, H⟩ := H
    replace H : (some t247) = some r := H
    have A42 := za.mk A420
    clear A420
    obtain rfl := Option.some.inj H
    have hnb43 := NB240_241.out
    have hnc43 := NB241_240.out
    obtain ⟨hcz44_0, hcz44_1, hfz44_0, hfz44_1⟩ := cl2 BK240.out
    obtain ⟨hcz45_0, hcz45_1, hfz45_0, hfz45_1⟩ := cl2 BK241.out
    go_wp2_with (((with_reducible refine zx (f := 55) rfl ?_); refine zdc (some 43) rfl rfl Tryz.func55 (by kernel_rfl) rfl #[.int .i64 (x241001_4.size : Int), .int .i64 (x242001_4.size : Int)] rfl (by (try simp only [List.map_toArray, List.map_cons, List.map_nil]); first | done | rfl | (simp only [List.length_drop, List.length_take]; rfl)) ?_; (with_reducible refine (zad.calls (x241001_4.size : Int) (x242001_4.size : Int) t247 _ A42.out).mono ?_); rintro e w' ⟨rfl, ⟨nd, rfl⟩⟩; refine ⟨_, rfl, ?_⟩))
    go_ret
    exact ⟨by rfl, by (with_reducible apply zc; with_reducible exact HB.out)⟩
def zbd.f (l0 : List (S52)) (a1 : Int) : Option (ByteArray × Bool × ByteArray × Int) := if a1 < (l0.length : Int) then (if 0 ≤ a1 then (some ((zld l0 a1).f0, (zld l0 a1).f1.f0, (zld l0 a1).f1.f1, (zld l0 a1).f2)) else (none)) else (some ((⟨#[48]⟩ : ByteArray), false, (⟨#[]⟩ : ByteArray), 0))
theorem zbd.calls (A0 : Option Addr) (c0 : Nat) (l0 : List (S52)) (a1 : Int) (r1 : ByteArray) (r2 : Bool) (r3 : ByteArray) (r4 : Int) (w : World) (hr0 : Kd.C k52 w A0 l0.length l0) (hc0 : l0.length ≤ c0) (h : zbd.f l0 a1 = some (r1, r2, r3, r4)) :
  Calls Tryz.prog 54 #[.slice A0 l0.length c0, .int .i64 a1] w fun e w' => e = .returned (.agg #[.string r1, .bool r2, .string r3, .int .i64 r4]) ∧ Below w.heap.size w w' := by
 have hu52 := Tryz.underlying52
 have HR0 := za.mk hr0
 have HC0 := za.mk hc0
 clear hr0 hc0
 have HB := za.mk (Below.refl w.heap.size w)
 have H : (if a1 < (l0.length : Int) then (if 0 ≤ a1 then (some ((zld l0 a1).f0, (zld l0 a1).f1.f0, (zld l0 a1).f1.f1, (zld l0 a1).f2)) else (none)) else (some ((⟨#[48]⟩ : ByteArray), false, (⟨#[]⟩ : ByteArray), 0))) = some (r1, r2, r3, r4) := h
 clear h
 by_cases c3 : a1 < (l0.length : Int)
 ·rw [if_pos c3] at H
  have c3b0 : decide (a1 < (l0.length : Int)) = true := decide_eq_true c3
  clear c3
  by_cases c4 : 0 ≤ a1
  ·rw [if_pos c4] at H
   have c4b0 : decide (0 ≤ a1) = true := decide_eq_true c4
   clear c4
   simp only [Option.some.injEq, Prod.mk.injEq] at H
   obtain ⟨rfl, rfl, rfl, rfl⟩ := H
   go_enter Tryz.func54, Tryz.ntmps54
   go_wp2_with (((with_reducible refine zmb (N := 4) rfl ?_); refine zrb ?hg (N := 4) ?hd (cs := #[.string ⟨#[]⟩, .bool false, .string ⟨#[]⟩, .int .i64 0]) (t := 52) ?hr ?_; (case hd => rfl); (case hg => rfl); (case hr => first | (go_simp; done) | (go_simp; rfl)); intro gb248 hg w5 hbox hb; have BK248 := za.mk hbox; have GW248 := za.mk ((by rw [hg]; exact (zl (by (with_reducible exact HB.out))) : w.heap.size ≤ gb248)); have GE248 := za.mk ((by rw [hg]; exact (zl (by (with_reducible exact HB.out))) : w.heap.size ≤ gb248)); replace HB := za.mk (zm (by (with_reducible exact HB.out)) hb); clear hb hbox hg; have p249 : 0 ≤ (a1 : Int) := of_decide_eq_true (by (with_reducible assumption)); have q249 : a1 < (l0.length : Int) := of_decide_eq_true (by (with_reducible assumption)); obtain ⟨ad249, e249, hx249_0, hx249_1, hx249_2, hx249_3⟩ := at_T52 HR0.out a1 p249 q249; cases e249; replace hx249_0 := (HB.out.cell (World.block_lt_of_cell? w _ hx249_0)).trans hx249_0; replace hx249_1 := (HB.out.cell (World.block_lt_of_cell? w _ hx249_1)).trans hx249_1; replace hx249_2 := (HB.out.cell (World.block_lt_of_cell? w _ hx249_2)).trans hx249_2; replace hx249_3 := (HB.out.cell (World.block_lt_of_cell? w _ hx249_3)).trans hx249_3; replace p249 := eq_true p249; replace q249 := eq_true q249; obtain ⟨hcz6_0, hcz6_1, hcz6_2, hcz6_3, hfz6_0, hfz6_1, hfz6_2, hfz6_3⟩ := cl4 BK248.out))
   refine bodyPost_ret (results_cell_row rfl _ _ gb248 52 #[.string ((zld l0 a1).f0), .bool ((zld l0 a1).f1.f0), .string ((zld l0 a1).f1.f1), .int .i64 ((zld l0 a1).f2)] (0, 0) _ rfl (by exact put4 BK248.out) Tryz.underlying52 rfl (by kernel_rfl)) rfl ?_
   exact ⟨by rfl, by repeat (first | (with_reducible first | exact HB.out | apply zj | apply zc | apply zz | refine zk ?_ GE248.out) | exact HB.out)⟩
  ·rw [if_neg c4] at H
   exact absurd H (by simp)
 ·rw [if_neg c3] at H
  have c3b0 : decide (a1 < (l0.length : Int)) = false := decide_eq_false c3
  clear c3
  simp only [Option.some.injEq, Prod.mk.injEq] at H
  obtain ⟨rfl, rfl, rfl, rfl⟩ := H
  go_enter Tryz.func54, Tryz.ntmps54
  go_wp2_with (((with_reducible refine zmb (N := 4) rfl ?_); refine zrb ?hg (N := 4) ?hd (cs := #[.string ⟨#[]⟩, .bool false, .string ⟨#[]⟩, .int .i64 0]) (t := 52) ?hr ?_; (case hd => rfl); (case hg => rfl); (case hr => first | (go_simp; done) | (go_simp; rfl)); intro gb248 hg w7 hbox hb; have BK248 := za.mk hbox; have GW248 := za.mk ((by rw [hg]; exact (zl (by (with_reducible exact HB.out))) : w.heap.size ≤ gb248)); have GE248 := za.mk ((by rw [hg]; exact (zl (by (with_reducible exact HB.out))) : w.heap.size ≤ gb248)); replace HB := za.mk (zm (by (with_reducible exact HB.out)) hb); clear hb hbox hg; obtain ⟨hcz8_0, hcz8_1, hcz8_2, hcz8_3, hfz8_0, hfz8_1, hfz8_2, hfz8_3⟩ := cl4 BK248.out))
  refine bodyPost_ret (results_cell_row rfl _ _ gb248 52 #[.string (⟨#[48]⟩ : ByteArray), .bool false, .string ⟨#[]⟩, .int .i64 0] (0, 0) _ rfl (by exact put4 BK248.out) Tryz.underlying52 rfl (by kernel_rfl)) rfl ?_
  exact ⟨by rfl, by repeat (first | (with_reducible first | exact HB.out | apply zj | apply zc | apply zz | refine zk ?_ GE248.out) | exact HB.out)⟩
end Go.Proofs.YtapaijpglfmfgaaGreatDoor.Q
end
section
namespace Go.Proofs.YtapaijpglfmfgaaGreatDoor.Q
open Go.RowKit YtapaijpglfmfgaaGreatDoorH YtapaijpglfmfgaaGreatDoorG YtapaijpglfmfgaaGreatDoorW.PrintWords YtapaijpglfmfgaaGreatDoorW.PrintLast YtapaijpglfmfgaaGreatDoorW.PrintMore YtapaijpglfmfgaaGreatDoorC
attribute [local go_sem] zsc zuc zhd zgd zhc zic zvc ztc
mutual
def zn.l0 : Nat → List (S52) → List (S52) → Int → Option (Int)
 | 0, _, _, _ => none
 | k + 1, x0, x1, x5 => if x5 < (x0.length : Int) then (zn.j1 k x0 x1 x5 true) else (zn.j1 k x0 x1 x5 (decide (x5 < (x1.length : Int))))
def zn.j1 : Nat → List (S52) → List (S52) → Int → Bool → Option (Int)
 | 0, _, _, _, _ => none
 | k + 1, x0, x1, x5, x18 => if x18 = true then ((zbd.f x0 x5).bind fun bt250 => ((zbd.f x1 x5).bind fun bt254 => ((zv.f k bt250.2.1 bt250.2.2.1 bt254.2.1 bt254.2.2.1).bind fun t260 => (if bt250.2.2.2 = 0 then (zn.j2 k x0 x1 x5 t260 false bt250.1 bt250.2.1 bt250.2.2.1 bt250.2.2.2 bt254.1 bt254.2.1 bt254.2.2.1 bt254.2.2.2) else (if bt254.2.2.2 = 0 then (zn.j2 k x0 x1 x5 t260 false bt250.1 bt250.2.1 bt250.2.2.1 bt250.2.2.2 bt254.1 bt254.2.1 bt254.2.2.1 bt254.2.2.2) else (if 0 < (bt250.1.size : Int) then (if (bt bt250.1 0) = 48 then (zn.j2 k x0 x1 x5 t260 true bt250.1 bt250.2.1 bt250.2.2.1 bt250.2.2.2 bt254.1 bt254.2.1 bt254.2.2.1 bt254.2.2.2) else (if 0 < (bt254.1.size : Int) then (zn.j2 k x0 x1 x5 t260 ((bt bt254.1 0) == 48) bt250.1 bt250.2.1 bt250.2.2.1 bt250.2.2.2 bt254.1 bt254.2.1 bt254.2.2.1 bt254.2.2.2) else (none))) else (none))))))) else (some 0)
def zn.j2 : Nat → List (S52) → List (S52) → Int → Int → Bool → ByteArray → Bool → ByteArray → Int → ByteArray → Bool → ByteArray → Int → Option (Int)
 | 0, _, _, _, _, _, _, _, _, _, _, _, _, _ => none
 | k + 1, x0, x1, x5, x8, x51, x259000, x259001, x259002, x259003, x260000, x260001, x260002, x260003 => if x51 = true then ((zdd.f x259000 x260000).bind fun t261 => (if t261 = 0 then (zn.l0 k x0 x1 (wrap64 (x5 + 1))) else (some t261))) else (if x8 = 0 then (zn.l0 k x0 x1 (wrap64 (x5 + 1))) else (some x8))
end
def zn.f (k : Nat) (l0 : List (S52)) (l1 : List (S52)) : Option (Int) := zn.l0 k l0 l1 0
theorem zn.calls (k : Nat) (A0 : Option Addr) (c0 : Nat) (l0 : List (S52)) (A1 : Option Addr) (c1 : Nat) (l1 : List (S52)) (r : Int) (w : World) (hr0 : Kd.C k52 w A0 l0.length l0) (hc0 : l0.length ≤ c0) (hr1 : Kd.C k52 w A1 l1.length l1) (hc1 : l1.length ≤ c1) (h : zn.f k l0 l1 = some r) :
  Calls Tryz.prog 33 #[.slice A0 l0.length c0, .slice A1 l1.length c1] w fun e w' => e = .returned (.int .i64 r) ∧ Below w.heap.size w w' := by
 have hu52 := Tryz.underlying52
 have hu31 := Tryz.underlying31
 have HR0 := za.mk hr0
 have HC0 := za.mk hc0
 clear hr0 hc0
 have HR1 := za.mk hr1
 have HC1 := za.mk hc1
 clear hr1 hc1
 have HB := za.mk (Below.refl w.heap.size w)
 have H : (zn.l0 k l0 l1 0) = some r := h
 clear h
 have H' := za.mk H
 clear H
 go_enter Tryz.func33, Tryz.ntmps33
 go_wp2
 (try simp only [Act.put, List.setIfInBounds_toArray, List.set_cons_zero, List.set_cons_succ])
 go_loopg [5] k (fun kq v5 w' => ∃ (x5_1 : Int), v5 = .int .i64 x5_1 ∧ za (zn.l0 kq l0 l1 x5_1 = some r) ∧ za (kq ≤ k) ∧ za (Below w.heap.size w w'))
 case atStart => exact ⟨(0), (by rfl), H', ⟨Nat.le_refl _⟩, ⟨by (with_reducible exact HB.out)⟩⟩
 case round =>
  clear H'
  obtain ⟨x5_1, rfl, HA, HK1, HB⟩ := hrel
  cases gk with
  | zero => exact absurd HA.out (by simp [zn.l0])
  | succ k1 =>
   have H := HA.out
   clear HA
   simp only [zn.l0] at H
   have HC3 := za.mk H
   clear H
   go_upto_region 2 with (fail)
   go_cut [18] (fun v18 wc => ∃ (kq : Nat) (x18_2 : Bool), v18 = .bool x18_2 ∧ za (zn.j1 kq l0 l1 x5_1 x18_2 = some r) ∧ za (kq ≤ k1) ∧ za (Below w.heap.size w wc))
   case first =>
    have H := HC3.out
    clear HC3
    by_cases c4 : x5_1 < (l0.length : Int)
    ·rw [if_pos c4] at H
     have c4b0 : decide (x5_1 < (l0.length : Int)) = true := decide_eq_true c4
     clear c4
     (first | rw [c4b0] | (simp only [i64_w, i32_w]; rw [c4b0]) | skip)
     have H' := za.mk H
     clear H
     go_wp2
     go_meet
     case rel => exact ⟨_, (true), (by rfl), H', ⟨by have := HK1.out; first | omega | exact Nat.le_refl _⟩, ⟨by (with_reducible exact HB.out)⟩⟩
    ·rw [if_neg c4] at H
     have c4b0 : decide (x5_1 < (l0.length : Int)) = false := decide_eq_false c4
     clear c4
     (first | rw [c4b0] | (simp only [i64_w, i32_w]; rw [c4b0]) | skip)
     have H' := za.mk H
     clear H
     go_wp2
     go_meet
     case rel => exact ⟨_, (decide (x5_1 < (l1.length : Int))), (by rfl), H', ⟨by have := HK1.out; first | omega | exact Nat.le_refl _⟩, ⟨by (with_reducible exact HB.out)⟩⟩
   case rest =>
    clear HC3
    obtain ⟨kq, x18_2, rfl, HA, HJ2, HB⟩ := hcut
    cases kq with
    | zero => exact absurd HA.out (by simp [zn.j1])
    | succ kj2 =>
     have H := HA.out
     clear HA
     simp only [zn.j1] at H
     by_cases c5 : x18_2 = true
     ·subst c5
      have H1 : ((zbd.f l0 x5_1).bind fun bt250 => ((zbd.f l1 x5_1).bind fun bt254 => ((zv.f kj2 bt250.2.1 bt250.2.2.1 bt254.2.1 bt254.2.2.1).bind fun t260 => (if bt250.2.2.2 = 0 then (zn.j2 kj2 l0 l1 x5_1 t260 false bt250.1 bt250.2.1 bt250.2.2.1 bt250.2.2.2 bt254.1 bt254.2.1 bt254.2.2.1 bt254.2.2.2) else (if bt254.2.2.2 = 0 then (zn.j2 kj2 l0 l1 x5_1 t260 false bt250.1 bt250.2.1 bt250.2.2.1 bt250.2.2.2 bt254.1 bt254.2.1 bt254.2.2.1 bt254.2.2.2) else (if 0 < (bt250.1.size : Int) then (if (bt bt250.1 0) = 48 then (zn.j2 kj2 l0 l1 x5_1 t260 true bt250.1 bt250.2.1 bt250.2.2.1 bt250.2.2.2 bt254.1 bt254.2.1 bt254.2.2.1 bt254.2.2.2) else (if 0 < (bt254.1.size : Int) then (zn.j2 kj2 l0 l1 x5_1 t260 ((bt bt254.1 0) == 48) bt250.1 bt250.2.1 bt250.2.2.1 bt250.2.2.2 bt254.1 bt254.2.1 bt254.2.2.1 bt254.2.2.2) else (none))) else (none))))))) = some r := by rw [if_pos rfl] at H; exact H
      clear H
      have H := H1
      clear H1
      replace H := Option.bind_eq_some_iff.mp H
      obtain ⟨⟨t250, t251, t252, t253⟩, A60, H⟩ := H
      replace H : ((zbd.f l1 x5_1).bind fun bt254 => ((zv.f kj2 t251 t252 bt254.2.1 bt254.2.2.1).bind fun t260 => (if t253 = 0 then (zn.j2 kj2 l0 l1 x5_1 t260 false t250 t251 t252 t253 bt254.1 bt254.2.1 bt254.2.2.1 bt254.2.2.2) else (if bt254.2.2.2 = 0 then (zn.j2 kj2 l0 l1 x5_1 t260 false t250 t251 t252 t253 bt254.1 bt254.2.1 bt254.2.2.1 bt254.2.2.2) else (if 0 < (t250.size : Int) then (if (bt t250 0) = 48 then (zn.j2 kj2 l0 l1 x5_1 t260 true t250 t251 t252 t253 bt254.1 bt254.2.1 bt254.2.2.1 bt254.2.2.2) else (if 0 < (bt254.1.size : Int) then (zn.j2 kj2 l0 l1 x5_1 t260 ((bt bt254.1 0) == 48) t250 t251 t252 t253 bt254.1 bt254.2.1 bt254.2.2.1 bt254.2.2.2) else (none))) else (none)))))) = some r := H
      have A6 := za.mk A60
      clear A60
      replace H := Option.bind_eq_some_iff.mp H
      obtain ⟨⟨t254, t255, t256, t257⟩, A70, H⟩ := H
      replace H : ((zv.f kj2 t251 t252 t255 t256).bind fun t260 => (if t253 = 0 then (zn.j2 kj2 l0 l1 x5_1 t260 false t250 t251 t252 t253 t254 t255 t256 t257) else (if t257 = 0 then (zn.j2 kj2 l0 l1 x5_1 t260 false t250 t251 t252 t253 t254 t255 t256 t257) else (if 0 < (t250.size : Int) then (if (bt t250 0) = 48 then (zn.j2 kj2 l0 l1 x5_1 t260 true t250 t251 t252 t253 t254 t255 t256 t257) else (if 0 < (t254.size : Int) then (zn.j2 kj2 l0 l1 x5_1 t260 ((bt t254 0) == 48) t250 t251 t252 t253 t254 t255 t256 t257) else (none))) else (none))))) = some r := H
      have A7 := za.mk A70
      clear A70
      replace H := Option.bind_eq_some_iff.mp H
      obtain ⟨t260, A80, H⟩ := H
      replace H : (if t253 = 0 then (zn.j2 kj2 l0 l1 x5_1 t260 false t250 t251 t252 t253 t254 t255 t256 t257) else (if t257 = 0 then (zn.j2 kj2 l0 l1 x5_1 t260 false t250 t251 t252 t253 t254 t255 t256 t257) else (if 0 < (t250.size : Int) then (if (bt t250 0) = 48 then (zn.j2 kj2 l0 l1 x5_1 t260 true t250 t251 t252 t253 t254 t255 t256 t257) else (if 0 < (t254.size : Int) then (zn.j2 kj2 l0 l1 x5_1 t260 ((bt t254 0) == 48) t250 t251 t252 t253 t254 t255 t256 t257) else (none))) else (none)))) = some r := H
      have A8 := za.mk A80
      clear A80
      have HC9 := za.mk H
      clear H
      go_upto_region 6 with (first | ((with_reducible refine zx (f := 54) rfl ?_); refine zdc (some 23) rfl rfl Tryz.func54 (by kernel_rfl) rfl #[.slice A0 l0.length c0, .int .i64 x5_1] rfl (by (try simp only [List.map_toArray, List.map_cons, List.map_nil]); first | done | rfl | (simp only [List.length_drop, List.length_take]; rfl)) ?_; (with_reducible refine (zbd.calls _ _ l0 x5_1 t250 t251 t252 t253 _ ?side1 ?side2 A6.out).mono ?_); (case side1 => repeat (first | exact (Kd.C_below HR0.out HB.out) | (with_reducible refine Kd.C_alloc ?_ _) | (with_reducible refine Kd.C_drewN ?_ _) | (with_reducible refine Kd.C_drew ?_))); (case side2 => exact HC0.out); rintro e w10 ⟨rfl, hb⟩; refine ⟨_, rfl, ?_⟩; replace HB := za.mk (zm (by (with_reducible exact HB.out)) hb); (try clear hb); (try clear hb2); (try clear hk); (try clear hi)) | ((with_reducible refine zx (f := 54) rfl ?_); refine zdc (some 26) rfl rfl Tryz.func54 (by kernel_rfl) rfl #[.slice A1 l1.length c1, .int .i64 x5_1] rfl (by (try simp only [List.map_toArray, List.map_cons, List.map_nil]); first | done | rfl | (simp only [List.length_drop, List.length_take]; rfl)) ?_; (with_reducible refine (zbd.calls _ _ l1 x5_1 t254 t255 t256 t257 _ ?side1 ?side2 A7.out).mono ?_); (case side1 => repeat (first | exact (Kd.C_below HR1.out HB.out) | (with_reducible refine Kd.C_alloc ?_ _) | (with_reducible refine Kd.C_drewN ?_ _) | (with_reducible refine Kd.C_drew ?_))); (case side2 => exact HC1.out); rintro e w11 ⟨rfl, hb⟩; refine ⟨_, rfl, ?_⟩; replace HB := za.mk (zm (by (with_reducible exact HB.out)) hb); (try clear hb); (try clear hb2); (try clear hk); (try clear hi)) | ((with_reducible refine zmb (N := 6) rfl ?_); (try (refine zrc (by rfl) ?_; dsimp only)); refine zrb ?hg (N := 6) ?hd (cs := #[.string ⟨#[]⟩, .bool false, .string ⟨#[]⟩, .int .i64 0]) (t := 52) ?hr ?_; (case hd => rfl); (case hg => rfl); (case hr => first | (go_simp; done) | (go_simp; rfl)); intro gb258 hg w12 hbox hb; have BK258 := za.mk hbox; have GW258 := za.mk ((by rw [hg]; exact (zl (by (with_reducible exact HB.out))) : w.heap.size ≤ gb258)); have GE258 := za.mk ((by rw [hg]; exact (zl (by (with_reducible exact HB.out))) : w.heap.size ≤ gb258)); replace HB := za.mk (zm (by (with_reducible exact HB.out)) hb); clear hb hbox hg) | ((with_reducible refine zmb (N := 7) rfl ?_); (try (refine zrc (by rfl) ?_; dsimp only)); refine zrb ?hg (N := 7) ?hd (cs := #[.string ⟨#[]⟩, .bool false, .string ⟨#[]⟩, .int .i64 0]) (t := 52) ?hr ?_; (case hd => rfl); (case hg => rfl); (case hr => first | (go_simp; done) | (go_simp; rfl)); intro gb259 hg w13 hbox hb; have n0_ := za.mk (ze BK258.out hb); have n1_ := za.mk (zm (by (with_reducible exact HB.out)) hb); have n2_ := za.mk hbox; have n3_ := za.mk ((by rw [hg]; exact (zl (by (with_reducible exact HB.out))) : w.heap.size ≤ gb259)); have n4_ := za.mk ((by rw [hg]; exact (zl (by (with_reducible exact HB.out))) : w.heap.size ≤ gb259)); have n5_ := za.mk ((by rw [hg]; exact Nat.ne_of_lt (znc BK258.out) : gb258 ≠ gb259)); have n6_ := za.mk ((by rw [hg]; exact Nat.ne_of_gt (znc BK258.out) : gb259 ≠ gb258)); clear BK258; clear HB; have BK258 := n0_; have HB := n1_; have BK259 := n2_; have GW259 := n3_; have GE259 := n4_; have NB258_259 := n5_; have NB259_258 := n6_; clear n0_ n1_ n2_ n3_ n4_ n5_ n6_; clear hb hbox hg; have hnb14 := NB258_259.out; have hnc14 := NB259_258.out; obtain ⟨hcz15_0, hcz15_1, hcz15_2, hcz15_3, hfz15_0, hfz15_1, hfz15_2, hfz15_3⟩ := cl4 BK258.out; obtain ⟨hcz16_0, hcz16_1, hcz16_2, hcz16_3, hfz16_0, hfz16_1, hfz16_2, hfz16_3⟩ := cl4 BK259.out) | ((with_reducible refine zx (f := 35) rfl ?_); refine zdc (some 31) rfl rfl Tryz.func35 (by kernel_rfl) rfl #[.agg #[.bool t251, .string t252], .agg #[.bool t255, .string t256]] rfl (by (try simp only [List.map_toArray, List.map_cons, List.map_nil]); first | done | rfl | (simp only [List.length_drop, List.length_take]; rfl)) ?_; (with_reducible refine (zv.calls kj2 t251 t252 t255 t256 t260 _ A8.out).mono ?_); rintro e w17 ⟨rfl, hb⟩; refine ⟨_, rfl, ?_⟩; replace BK258 := za.mk (ze (g := gb258) (o := .cells #[.string t250, .bool t251, .string t252, .int .i64 t253] 52 (0, 0)) (by (iterate 4 refine zkb ?_ NB258_259.out _); exact put4 BK258.out) hb); replace BK259 := za.mk (ze (g := gb259) (o := .cells #[.string t254, .bool t255, .string t256, .int .i64 t257] 52 (0, 0)) (by refine zdb (cs := #[.string t254, .bool t255, .string t256, .int .i64 0]) ?_ 3 _ rfl; refine zdb (cs := #[.string t254, .bool t255, .string ⟨#[]⟩, .int .i64 0]) ?_ 2 _ rfl; refine zdb (cs := #[.string t254, .bool false, .string ⟨#[]⟩, .int .i64 0]) ?_ 1 _ rfl; refine zdb (cs := #[.string ⟨#[]⟩, .bool false, .string ⟨#[]⟩, .int .i64 0]) ?_ 0 _ rfl; (iterate 4 refine zkb ?_ NB259_258.out _); exact BK259.out) hb); replace HB := za.mk (zm (by repeat (first | (with_reducible first | exact HB.out | apply zj | apply zc | apply zz | refine zk ?_ GE258.out | refine zk ?_ GE259.out) | exact HB.out)) hb); (try clear hb); (try clear hb2); (try clear hk); (try clear hi)))
      (try simp only [Act.put, List.setIfInBounds_toArray, List.set_cons_zero, List.set_cons_succ])
      go_cut [51] (fun v51 wc => ∃ (kq : Nat) (x51_8 : Bool), v51 = .bool x51_8 ∧ za (zn.j2 kq l0 l1 x5_1 t260 x51_8 t250 t251 t252 t253 t254 t255 t256 t257 = some r) ∧ za (kq ≤ kj2) ∧ za (wc.heap[gb258]? = some (.cells #[.string t250, .bool t251, .string t252, .int .i64 t253] 52 (0, 0))) ∧ za (wc.heap[gb259]? = some (.cells #[.string t254, .bool t255, .string t256, .int .i64 t257] 52 (0, 0))) ∧ za (Below w.heap.size w wc))
      case first =>
       have H := HC9.out
       clear HC9
       by_cases c18 : t253 = 0
       ·rw [if_pos c18] at H
        have c18b0 : (t253 == 0) = true := beq_iff_eq.mpr c18
        have c18b1 : (t253 != 0) = false := bne_eq_false_iff_eq.mpr c18
        clear c18
        (first | rw [c18b0] | (simp only [i64_w, i32_w]; rw [c18b0]) | skip)
        have H' := za.mk H
        clear H
        have hnb19 := NB258_259.out
        have hnc19 := NB259_258.out
        obtain ⟨hcz20_0, hcz20_1, hcz20_2, hcz20_3, hfz20_0, hfz20_1, hfz20_2, hfz20_3⟩ := cl4 BK258.out
        go_wp2
        go_meet
        case rel => exact ⟨_, (false), (by rfl), H', ⟨by have := HK1.out; have := HJ2.out; first | omega | exact Nat.le_refl _⟩, ⟨by exact BK258.out⟩, ⟨by exact BK259.out⟩, ⟨by (with_reducible exact HB.out)⟩⟩
       ·rw [if_neg c18] at H
        have c18b0 : (t253 == 0) = false := beq_eq_false_iff_ne.mpr c18
        have c18b1 : (t253 != 0) = true := bne_iff_ne.mpr c18
        (first | rw [c18b0] | (simp only [i64_w, i32_w]; rw [c18b0]) | skip)
        by_cases c21 : t257 = 0
        ·rw [if_pos c21] at H
         have c21b0 : (t257 == 0) = true := beq_iff_eq.mpr c21
         have c21b1 : (t257 != 0) = false := bne_eq_false_iff_eq.mpr c21
         clear c21
         have H' := za.mk H
         clear H
         have hnb22 := NB258_259.out
         have hnc22 := NB259_258.out
         obtain ⟨hcz23_0, hcz23_1, hcz23_2, hcz23_3, hfz23_0, hfz23_1, hfz23_2, hfz23_3⟩ := cl4 BK258.out
         obtain ⟨hcz24_0, hcz24_1, hcz24_2, hcz24_3, hfz24_0, hfz24_1, hfz24_2, hfz24_3⟩ := cl4 BK259.out
         go_wp2
         go_meet
         case rel => exact ⟨_, (false), (by rfl), H', ⟨by have := HK1.out; have := HJ2.out; first | omega | exact Nat.le_refl _⟩, ⟨by exact BK258.out⟩, ⟨by exact BK259.out⟩, ⟨by (with_reducible exact HB.out)⟩⟩
        ·rw [if_neg c21] at H
         have c21b0 : (t257 == 0) = false := beq_eq_false_iff_ne.mpr c21
         have c21b1 : (t257 != 0) = true := bne_iff_ne.mpr c21
         by_cases c25 : 0 < (t250.size : Int)
         ·rw [if_pos c25] at H
          have c25b0 : decide (0 < (t250.size : Int)) = true := decide_eq_true c25
          have c25b1 : decide (0 < t250.size) = true := decide_eq_true (by omega)
          clear c25
          by_cases c27 : (bt t250 0) = 48
          ·rw [if_pos c27] at H
           have c27b0 : ((bt t250 0) == 48) = true := beq_iff_eq.mpr c27
           have c27b1 : ((bt t250 0) != 48) = false := bne_eq_false_iff_eq.mpr c27
           clear c27
           have H' := za.mk H
           clear H
           have hnb28 := NB258_259.out
           have hnc28 := NB259_258.out
           obtain ⟨hcz29_0, hcz29_1, hcz29_2, hcz29_3, hfz29_0, hfz29_1, hfz29_2, hfz29_3⟩ := cl4 BK258.out
           obtain ⟨hcz30_0, hcz30_1, hcz30_2, hcz30_3, hfz30_0, hfz30_1, hfz30_2, hfz30_3⟩ := cl4 BK259.out
           have p26 : 0 ≤ (0 : Int) := (by omega)
           have q26 : 0 < t250.size := (by have : (0 : Int) < (t250.size : Int) := of_decide_eq_true (by (with_reducible assumption)); omega)
           have hx26 : ∀ h : 0 < t250.size, ((t250[0]'h).toNat : Int) = bt t250 0 := bt_at t250 0
           clear p26
           have qi26 : (0 < (t250.size : Int)) = True := eq_true (of_decide_eq_true (by (with_reducible assumption)))
           replace q26 := eq_true q26
           go_wp2
           go_meet
           case rel => exact ⟨_, (true), (by rfl), H', ⟨by have := HK1.out; have := HJ2.out; first | omega | exact Nat.le_refl _⟩, ⟨by exact BK258.out⟩, ⟨by exact BK259.out⟩, ⟨by (with_reducible exact HB.out)⟩⟩
          ·rw [if_neg c27] at H
           have c27b0 : ((bt t250 0) == 48) = false := beq_eq_false_iff_ne.mpr c27
           have c27b1 : ((bt t250 0) != 48) = true := bne_iff_ne.mpr c27
           by_cases c31 : 0 < (t254.size : Int)
           ·rw [if_pos c31] at H
            have c31b0 : decide (0 < (t254.size : Int)) = true := decide_eq_true c31
            have c31b1 : decide (0 < t254.size) = true := decide_eq_true (by omega)
            clear c31
            have H' := za.mk H
            clear H
            have hnb33 := NB258_259.out
            have hnc33 := NB259_258.out
            obtain ⟨hcz34_0, hcz34_1, hcz34_2, hcz34_3, hfz34_0, hfz34_1, hfz34_2, hfz34_3⟩ := cl4 BK258.out
            obtain ⟨hcz35_0, hcz35_1, hcz35_2, hcz35_3, hfz35_0, hfz35_1, hfz35_2, hfz35_3⟩ := cl4 BK259.out
            have p26 : 0 ≤ (0 : Int) := (by omega)
            have q26 : 0 < t250.size := (by have : (0 : Int) < (t250.size : Int) := of_decide_eq_true (by (with_reducible assumption)); omega)
            have hx26 : ∀ h : 0 < t250.size, ((t250[0]'h).toNat : Int) = bt t250 0 := bt_at t250 0
            clear p26
            have qi26 : (0 < (t250.size : Int)) = True := eq_true (of_decide_eq_true (by (with_reducible assumption)))
            replace q26 := eq_true q26
            have p32 : 0 ≤ (0 : Int) := (by omega)
            have q32 : 0 < t254.size := (by have : (0 : Int) < (t254.size : Int) := of_decide_eq_true (by (with_reducible assumption)); omega)
            have hx32 : ∀ h : 0 < t254.size, ((t254[0]'h).toNat : Int) = bt t254 0 := bt_at t254 0
            clear p32
            have qi32 : (0 < (t254.size : Int)) = True := eq_true (of_decide_eq_true (by (with_reducible assumption)))
            replace q32 := eq_true q32
            go_wp2
            go_meet
            case rel => exact ⟨_, (((bt t254 0) == 48)), (by rfl), H', ⟨by have := HK1.out; have := HJ2.out; first | omega | exact Nat.le_refl _⟩, ⟨by exact BK258.out⟩, ⟨by exact BK259.out⟩, ⟨by (with_reducible exact HB.out)⟩⟩
           ·rw [if_neg c31] at H
            exact absurd H (by simp)
         ·rw [if_neg c25] at H
          exact absurd H (by simp)
      case rest =>
       clear HC9
       clear hcz15_0 hcz15_1 hcz15_2 hcz15_3 hcz16_0 hcz16_1 hcz16_2 hcz16_3 hfz15_0 hfz15_1 hfz15_2 hfz15_3 hfz16_0 hfz16_1 hfz16_2 hfz16_3
       obtain ⟨kq, x51_8, rfl, HA, HJ8, BK258, BK259, HB⟩ := hcut
       cases kq with
       | zero => exact absurd HA.out (by simp [zn.j2])
       | succ kj8 =>
        have H := HA.out
        clear HA
        simp only [zn.j2] at H
        by_cases c36 : x51_8 = true
        ·subst c36
         have H1 : ((zdd.f t250 t254).bind fun t261 => (if t261 = 0 then (zn.l0 kj8 l0 l1 (wrap64 (x5_1 + 1))) else (some t261))) = some r := by rw [if_pos rfl] at H; exact H
         clear H
         have H := H1
         clear H1
         replace H := Option.bind_eq_some_iff.mp H
         obtain ⟨t261, A370, H⟩ := H
         replace H : (if t261 = 0 then (zn.l0 kj8 l0 l1 (wrap64 (x5_1 + 1))) else (some t261)) = some r := H
         have A37 := za.mk A370
         clear A370
         by_cases c38 : t261 = 0
         ·rw [if_pos c38] at H
          have c38b0 : (t261 == 0) = true := beq_iff_eq.mpr c38
          have c38b1 : (t261 != 0) = false := bne_eq_false_iff_eq.mpr c38
          clear c38
          have H' := za.mk H
          clear H
          have hnb39 := NB258_259.out
          have hnc39 := NB259_258.out
          obtain ⟨hcz40_0, hcz40_1, hcz40_2, hcz40_3, hfz40_0, hfz40_1, hfz40_2, hfz40_3⟩ := cl4 BK258.out
          obtain ⟨hcz41_0, hcz41_1, hcz41_2, hcz41_3, hfz41_0, hfz41_1, hfz41_2, hfz41_3⟩ := cl4 BK259.out
          go_wp2_with (((with_reducible refine zx (f := 32) rfl ?_); refine zdc (some 56) rfl rfl Tryz.func32 (by kernel_rfl) rfl #[.string t250, .string t254] rfl (by (try simp only [List.map_toArray, List.map_cons, List.map_nil]); first | done | rfl | (simp only [List.length_drop, List.length_take]; rfl)) ?_; (with_reducible refine (zdd.calls t250 t254 t261 _ A37.out).mono ?_); rintro e w' ⟨rfl, ⟨nd, rfl⟩⟩; refine ⟨_, rfl, ?_⟩))
          go_roundg kj8
          case measure => have := HK1.out; have := HJ2.out; have := HJ8.out; omega
          case rel => exact ⟨(wrap64 (x5_1 + 1)), (by rfl), H', ⟨by have := HK1.out; have := HJ2.out; have := HJ8.out; omega⟩, ⟨by (with_reducible apply zc; with_reducible exact HB.out)⟩⟩
         ·rw [if_neg c38] at H
          have c38b0 : (t261 == 0) = false := beq_eq_false_iff_ne.mpr c38
          have c38b1 : (t261 != 0) = true := bne_iff_ne.mpr c38
          obtain rfl := Option.some.inj H
          have hnb42 := NB258_259.out
          have hnc42 := NB259_258.out
          obtain ⟨hcz43_0, hcz43_1, hcz43_2, hcz43_3, hfz43_0, hfz43_1, hfz43_2, hfz43_3⟩ := cl4 BK258.out
          obtain ⟨hcz44_0, hcz44_1, hcz44_2, hcz44_3, hfz44_0, hfz44_1, hfz44_2, hfz44_3⟩ := cl4 BK259.out
          go_wp2_with (((with_reducible refine zx (f := 32) rfl ?_); refine zdc (some 56) rfl rfl Tryz.func32 (by kernel_rfl) rfl #[.string t250, .string t254] rfl (by (try simp only [List.map_toArray, List.map_cons, List.map_nil]); first | done | rfl | (simp only [List.length_drop, List.length_take]; rfl)) ?_; (with_reducible refine (zdd.calls t250 t254 t261 _ A37.out).mono ?_); rintro e w' ⟨rfl, ⟨nd, rfl⟩⟩; refine ⟨_, rfl, ?_⟩))
          go_ret
          exact ⟨by rfl, by (with_reducible apply zc; with_reducible exact HB.out)⟩
        ·replace c36 := Bool.eq_false_iff.mpr c36
         subst c36
         have H1 : (if t260 = 0 then (zn.l0 kj8 l0 l1 (wrap64 (x5_1 + 1))) else (some t260)) = some r := by rw [if_neg (show ¬ (false = true) by decide)] at H; exact H
         clear H
         have H := H1
         clear H1
         by_cases c45 : t260 = 0
         ·rw [if_pos c45] at H
          have c45b0 : (t260 == 0) = true := beq_iff_eq.mpr c45
          have c45b1 : (t260 != 0) = false := bne_eq_false_iff_eq.mpr c45
          clear c45
          have H' := za.mk H
          clear H
          go_wp2
          go_roundg kj8
          case measure => have := HK1.out; have := HJ2.out; have := HJ8.out; omega
          case rel => exact ⟨(wrap64 (x5_1 + 1)), (by rfl), H', ⟨by have := HK1.out; have := HJ2.out; have := HJ8.out; omega⟩, ⟨by (with_reducible exact HB.out)⟩⟩
         ·rw [if_neg c45] at H
          have c45b0 : (t260 == 0) = false := beq_eq_false_iff_ne.mpr c45
          have c45b1 : (t260 != 0) = true := bne_iff_ne.mpr c45
          obtain rfl := Option.some.inj H
          go_wp2
          go_ret
          exact ⟨by rfl, by (with_reducible exact HB.out)⟩
     ·replace c5 := Bool.eq_false_iff.mpr c5
      subst c5
      have H1 : (some 0) = some r := by rw [if_neg (show ¬ (false = true) by decide)] at H; exact H
      clear H
      have H := H1
      clear H1
      obtain rfl := Option.some.inj H
      go_wp2
      go_ret
      exact ⟨by rfl, by (with_reducible exact HB.out)⟩
end Go.Proofs.YtapaijpglfmfgaaGreatDoor.Q
end
section
namespace Go.Proofs.YtapaijpglfmfgaaGreatDoor.Q
open Go.RowKit YtapaijpglfmfgaaGreatDoorH YtapaijpglfmfgaaGreatDoorG YtapaijpglfmfgaaGreatDoorW.PrintWords YtapaijpglfmfgaaGreatDoorW.PrintLast YtapaijpglfmfgaaGreatDoorW.PrintMore YtapaijpglfmfgaaGreatDoorC
attribute [local go_sem] zsc zuc zhd zgd zhc zic zvc ztc
mutual
def zq.l0 : Nat → List (S56) → List (S56) → Int → Option (Int)
 | 0, _, _, _ => none
 | k + 1, x0, x1, x5 => if x5 < (x0.length : Int) then (zq.j1 k x0 x1 x5 true) else (zq.j1 k x0 x1 x5 (decide (x5 < (x1.length : Int))))
def zq.j1 : Nat → List (S56) → List (S56) → Int → Bool → Option (Int)
 | 0, _, _, _, _ => none
 | k + 1, x0, x1, x5, x18 => if x18 = true then (if x5 < (x0.length : Int) then (if 0 ≤ x5 then (zq.j2 k x0 x1 x5 ((zcd x0 x5).f0) ((zcd x0 x5).f1.f0) ((zcd x0 x5).f1.f1) 4 false (⟨#[]⟩ : ByteArray)) else (none)) else (zq.j2 k x0 x1 x5 4 false (⟨#[]⟩ : ByteArray) 4 false (⟨#[]⟩ : ByteArray))) else (some 0)
def zq.j2 : Nat → List (S56) → List (S56) → Int → Int → Bool → ByteArray → Int → Bool → ByteArray → Option (Int)
 | 0, _, _, _, _, _, _, _, _, _ => none
 | k + 1, x0, x1, x5, x263000, x263001, x263002, x264000, x264001, x264002 => if x5 < (x1.length : Int) then (if 0 ≤ x5 then (zq.j3 k x0 x1 x5 x263000 x263001 x263002 ((zcd x1 x5).f0) ((zcd x1 x5).f1.f0) ((zcd x1 x5).f1.f1)) else (none)) else (zq.j3 k x0 x1 x5 x263000 x263001 x263002 x264000 x264001 x264002)
def zq.j3 : Nat → List (S56) → List (S56) → Int → Int → Bool → ByteArray → Int → Bool → ByteArray → Option (Int)
 | 0, _, _, _, _, _, _, _, _, _ => none
 | k + 1, x0, x1, x5, x263000, x263001, x263002, x264000, x264001, x264002 => (zad.f x263000 x264000).bind fun t266 => (if t266 = 0 then ((zv.f k x263001 x263002 x264001 x264002).bind fun t267 => (if t267 = 0 then (zq.l0 k x0 x1 (wrap64 (x5 + 1))) else (some t267))) else (some t266))
end
def zq.f (k : Nat) (l0 : List (S56)) (l1 : List (S56)) : Option (Int) := zq.l0 k l0 l1 0
theorem zq.calls (k : Nat) (A0 : Option Addr) (c0 : Nat) (l0 : List (S56)) (A1 : Option Addr) (c1 : Nat) (l1 : List (S56)) (r : Int) (w : World) (hr0 : Kd.C k56 w A0 l0.length l0) (hc0 : l0.length ≤ c0) (hr1 : Kd.C k56 w A1 l1.length l1) (hc1 : l1.length ≤ c1) (h : zq.f k l0 l1 = some r) :
  Calls Tryz.prog 34 #[.slice A0 l0.length c0, .slice A1 l1.length c1] w fun e w' => e = .returned (.int .i64 r) ∧ Below w.heap.size w w' := by
 have hu56 := Tryz.underlying56
 have hu31 := Tryz.underlying31
 have HR0 := za.mk hr0
 have HC0 := za.mk hc0
 clear hr0 hc0
 have HR1 := za.mk hr1
 have HC1 := za.mk hc1
 clear hr1 hc1
 have HB := za.mk (Below.refl w.heap.size w)
 have H : (zq.l0 k l0 l1 0) = some r := h
 clear h
 have H' := za.mk H
 clear H
 go_enter Tryz.func34, Tryz.ntmps34
 go_wp2
 (try simp only [Act.put, List.setIfInBounds_toArray, List.set_cons_zero, List.set_cons_succ])
 go_loopg [5] k (fun kq v5 w' => ∃ (x5_1 : Int), v5 = .int .i64 x5_1 ∧ za (zq.l0 kq l0 l1 x5_1 = some r) ∧ za (kq ≤ k) ∧ za (Below w.heap.size w w'))
 case atStart => exact ⟨(0), (by rfl), H', ⟨Nat.le_refl _⟩, ⟨by (with_reducible exact HB.out)⟩⟩
 case round =>
  clear H'
  obtain ⟨x5_1, rfl, HA, HK1, HB⟩ := hrel
  cases gk with
  | zero => exact absurd HA.out (by simp [zq.l0])
  | succ k1 =>
   have H := HA.out
   clear HA
   simp only [zq.l0] at H
   have HC3 := za.mk H
   clear H
   go_upto_region 2 with (fail)
   go_cut [18] (fun v18 wc => ∃ (kq : Nat) (x18_2 : Bool), v18 = .bool x18_2 ∧ za (zq.j1 kq l0 l1 x5_1 x18_2 = some r) ∧ za (kq ≤ k1) ∧ za (Below w.heap.size w wc))
   case first =>
    have H := HC3.out
    clear HC3
    by_cases c4 : x5_1 < (l0.length : Int)
    ·rw [if_pos c4] at H
     have c4b0 : decide (x5_1 < (l0.length : Int)) = true := decide_eq_true c4
     clear c4
     (first | rw [c4b0] | (simp only [i64_w, i32_w]; rw [c4b0]) | skip)
     have H' := za.mk H
     clear H
     go_wp2
     go_meet
     case rel => exact ⟨_, (true), (by rfl), H', ⟨by have := HK1.out; first | omega | exact Nat.le_refl _⟩, ⟨by (with_reducible exact HB.out)⟩⟩
    ·rw [if_neg c4] at H
     have c4b0 : decide (x5_1 < (l0.length : Int)) = false := decide_eq_false c4
     clear c4
     (first | rw [c4b0] | (simp only [i64_w, i32_w]; rw [c4b0]) | skip)
     have H' := za.mk H
     clear H
     go_wp2
     go_meet
     case rel => exact ⟨_, (decide (x5_1 < (l1.length : Int))), (by rfl), H', ⟨by have := HK1.out; first | omega | exact Nat.le_refl _⟩, ⟨by (with_reducible exact HB.out)⟩⟩
   case rest =>
    clear HC3
    obtain ⟨kq, x18_2, rfl, HA, HJ2, HB⟩ := hcut
    cases kq with
    | zero => exact absurd HA.out (by simp [zq.j1])
    | succ kj2 =>
     have H := HA.out
     clear HA
     simp only [zq.j1] at H
     by_cases c5 : x18_2 = true
     ·subst c5
      have H1 : (if x5_1 < (l0.length : Int) then (if 0 ≤ x5_1 then (zq.j2 kj2 l0 l1 x5_1 ((zcd l0 x5_1).f0) ((zcd l0 x5_1).f1.f0) ((zcd l0 x5_1).f1.f1) 4 false (⟨#[]⟩ : ByteArray)) else (none)) else (zq.j2 kj2 l0 l1 x5_1 4 false (⟨#[]⟩ : ByteArray) 4 false (⟨#[]⟩ : ByteArray))) = some r := by rw [if_pos rfl] at H; exact H
      clear H
      have H := H1
      clear H1
      have HC6 := za.mk H
      clear H
      go_upto_if 26 with (first | ((with_reducible refine zmb (N := 6) rfl ?_); (try (refine zrc (by rfl) ?_; dsimp only)); refine zrb ?hg (N := 6) ?hd (cs := #[.int .i64 0, .bool false, .string ⟨#[]⟩]) (t := 56) ?hr ?_; (case hd => rfl); (case hg => rfl); (case hr => first | (go_simp; done) | (go_simp; rfl)); intro gb262 hg w7 hbox hb; have BK262 := za.mk hbox; have GW262 := za.mk ((by rw [hg]; exact (zl (by (with_reducible exact HB.out))) : w.heap.size ≤ gb262)); have GE262 := za.mk ((by rw [hg]; exact (zl (by (with_reducible exact HB.out))) : w.heap.size ≤ gb262)); replace HB := za.mk (zm (by (with_reducible exact HB.out)) hb); clear hb hbox hg) | ((with_reducible refine zmb (N := 7) rfl ?_); (try (refine zrc (by rfl) ?_; dsimp only)); refine zrb ?hg (N := 7) ?hd (cs := #[.int .i64 0, .bool false, .string ⟨#[]⟩]) (t := 56) ?hr ?_; (case hd => rfl); (case hg => rfl); (case hr => first | (go_simp; done) | (go_simp; rfl)); intro gb263 hg w8 hbox hb; have n0_ := za.mk (ze BK262.out hb); have n1_ := za.mk (zm (by (with_reducible exact HB.out)) hb); have n2_ := za.mk hbox; have n3_ := za.mk ((by rw [hg]; exact (zl (by (with_reducible exact HB.out))) : w.heap.size ≤ gb263)); have n4_ := za.mk ((by rw [hg]; exact (zl (by (with_reducible exact HB.out))) : w.heap.size ≤ gb263)); have n5_ := za.mk ((by rw [hg]; exact Nat.ne_of_lt (znc BK262.out) : gb262 ≠ gb263)); have n6_ := za.mk ((by rw [hg]; exact Nat.ne_of_gt (znc BK262.out) : gb263 ≠ gb262)); clear BK262; clear HB; have BK262 := n0_; have HB := n1_; have BK263 := n2_; have GW263 := n3_; have GE263 := n4_; have NB262_263 := n5_; have NB263_262 := n6_; clear n0_ n1_ n2_ n3_ n4_ n5_ n6_; clear hb hbox hg; have hnb9 := NB262_263.out; have hnc9 := NB263_262.out; obtain ⟨hcz10_0, hcz10_1, hcz10_2, hfz10_0, hfz10_1, hfz10_2⟩ := cl3 BK262.out; obtain ⟨hcz11_0, hcz11_1, hcz11_2, hfz11_0, hfz11_1, hfz11_2⟩ := cl3 BK263.out))
      (try simp only [Act.put, List.setIfInBounds_toArray, List.set_cons_zero, List.set_cons_succ])
      go_cut [26] (fun v26 wc => ∃ (kq : Nat) (x263000_5 : Int) (x263001_5 : Bool) (x263002_5 : ByteArray), za (zq.j2 kq l0 l1 x5_1 x263000_5 x263001_5 x263002_5 4 false (⟨#[]⟩ : ByteArray) = some r) ∧ za (kq ≤ kj2) ∧ za (wc.heap[gb262]? = some (.cells #[.int .i64 x263000_5, .bool x263001_5, .string x263002_5] 56 (0, 0))) ∧ za (wc.heap[gb263]? = some (.cells #[.int .i64 4, .bool false, .string ⟨#[]⟩] 56 (0, 0))) ∧ za (Below w.heap.size w wc))
      case first =>
       have H := HC6.out
       clear HC6
       by_cases c12 : x5_1 < (l0.length : Int)
       ·rw [if_pos c12] at H
        have c12b0 : decide (x5_1 < (l0.length : Int)) = true := decide_eq_true c12
        clear c12
        (first | rw [c12b0] | (simp only [i64_w, i32_w]; rw [c12b0]) | skip)
        by_cases c13 : 0 ≤ x5_1
        ·rw [if_pos c13] at H
         have c13b0 : decide (0 ≤ x5_1) = true := decide_eq_true c13
         clear c13
         have H' := za.mk H
         clear H
         have p264 : 0 ≤ (x5_1 : Int) := of_decide_eq_true (by (with_reducible assumption))
         have q264 : x5_1 < (l0.length : Int) := of_decide_eq_true (by (with_reducible assumption))
         obtain ⟨ad264, e264, hx264_0, hx264_1, hx264_2⟩ := at_T56 HR0.out x5_1 p264 q264
         cases e264
         have hn264_0 : ad264.block ≠ gb262 := Nat.ne_of_lt (Nat.lt_of_lt_of_le (by have := World.block_lt_of_cell? _ _ hx264_0; first | rwa [add_block] at this | exact this) GW262.out)
         have hn264_1 : ad264.block ≠ gb262 := Nat.ne_of_lt (Nat.lt_of_lt_of_le (by have := World.block_lt_of_cell? _ _ hx264_0; first | rwa [add_block] at this | exact this) GW262.out)
         have hn264_2 : ad264.block ≠ gb262 := Nat.ne_of_lt (Nat.lt_of_lt_of_le (by have := World.block_lt_of_cell? _ _ hx264_0; first | rwa [add_block] at this | exact this) GW262.out)
         have hn264_3 : ad264.block ≠ gb263 := Nat.ne_of_lt (Nat.lt_of_lt_of_le (by have := World.block_lt_of_cell? _ _ hx264_0; first | rwa [add_block] at this | exact this) GW263.out)
         have hn264_4 : ad264.block ≠ gb263 := Nat.ne_of_lt (Nat.lt_of_lt_of_le (by have := World.block_lt_of_cell? _ _ hx264_0; first | rwa [add_block] at this | exact this) GW263.out)
         have hn264_5 : ad264.block ≠ gb263 := Nat.ne_of_lt (Nat.lt_of_lt_of_le (by have := World.block_lt_of_cell? _ _ hx264_0; first | rwa [add_block] at this | exact this) GW263.out)
         replace hx264_0 := (HB.out.cell (World.block_lt_of_cell? w _ hx264_0)).trans hx264_0
         replace hx264_1 := (HB.out.cell (World.block_lt_of_cell? w _ hx264_1)).trans hx264_1
         replace hx264_2 := (HB.out.cell (World.block_lt_of_cell? w _ hx264_2)).trans hx264_2
         replace hx264_0 := (cell_far (p := ⟨gb262, 0, none⟩) (by (rw [add_block]; exact hn264_0)) (.int .i64 4)).trans hx264_0
         replace hx264_1 := (cell_far (p := ⟨gb262, 0, none⟩) (by (rw [add_block]; exact hn264_0)) (.int .i64 4)).trans hx264_1
         replace hx264_2 := (cell_far (p := ⟨gb262, 0, none⟩) (by (rw [add_block]; exact hn264_0)) (.int .i64 4)).trans hx264_2
         replace hx264_0 := (cell_far (p := ⟨gb262, 1, none⟩) (by (rw [add_block]; exact hn264_1)) (.bool false)).trans hx264_0
         replace hx264_1 := (cell_far (p := ⟨gb262, 1, none⟩) (by (rw [add_block]; exact hn264_1)) (.bool false)).trans hx264_1
         replace hx264_2 := (cell_far (p := ⟨gb262, 1, none⟩) (by (rw [add_block]; exact hn264_1)) (.bool false)).trans hx264_2
         replace hx264_0 := (cell_far (p := ⟨gb262, 2, none⟩) (by (rw [add_block]; exact hn264_2)) (.string ⟨#[]⟩)).trans hx264_0
         replace hx264_1 := (cell_far (p := ⟨gb262, 2, none⟩) (by (rw [add_block]; exact hn264_2)) (.string ⟨#[]⟩)).trans hx264_1
         replace hx264_2 := (cell_far (p := ⟨gb262, 2, none⟩) (by (rw [add_block]; exact hn264_2)) (.string ⟨#[]⟩)).trans hx264_2
         replace hx264_0 := (cell_far (p := ⟨gb263, 0, none⟩) (by (rw [add_block]; exact hn264_3)) (.int .i64 4)).trans hx264_0
         replace hx264_1 := (cell_far (p := ⟨gb263, 0, none⟩) (by (rw [add_block]; exact hn264_3)) (.int .i64 4)).trans hx264_1
         replace hx264_2 := (cell_far (p := ⟨gb263, 0, none⟩) (by (rw [add_block]; exact hn264_3)) (.int .i64 4)).trans hx264_2
         replace hx264_0 := (cell_far (p := ⟨gb263, 1, none⟩) (by (rw [add_block]; exact hn264_4)) (.bool false)).trans hx264_0
         replace hx264_1 := (cell_far (p := ⟨gb263, 1, none⟩) (by (rw [add_block]; exact hn264_4)) (.bool false)).trans hx264_1
         replace hx264_2 := (cell_far (p := ⟨gb263, 1, none⟩) (by (rw [add_block]; exact hn264_4)) (.bool false)).trans hx264_2
         replace hx264_0 := (cell_far (p := ⟨gb263, 2, none⟩) (by (rw [add_block]; exact hn264_5)) (.string ⟨#[]⟩)).trans hx264_0
         replace hx264_1 := (cell_far (p := ⟨gb263, 2, none⟩) (by (rw [add_block]; exact hn264_5)) (.string ⟨#[]⟩)).trans hx264_1
         replace hx264_2 := (cell_far (p := ⟨gb263, 2, none⟩) (by (rw [add_block]; exact hn264_5)) (.string ⟨#[]⟩)).trans hx264_2
         clear hn264_0
         clear hn264_1
         clear hn264_2
         clear hn264_3
         clear hn264_4
         clear hn264_5
         replace p264 := eq_true p264
         replace q264 := eq_true q264
         have hnb14 := NB262_263.out
         have hnc14 := NB263_262.out
         obtain ⟨hcz15_0, hcz15_1, hcz15_2, hfz15_0, hfz15_1, hfz15_2⟩ := cl3 BK262.out
         go_wp2
         go_meet
         case rel => exact ⟨_, ((zcd l0 x5_1).f0), ((zcd l0 x5_1).f1.f0), ((zcd l0 x5_1).f1.f1), H', ⟨by have := HK1.out; have := HJ2.out; first | omega | exact Nat.le_refl _⟩, ⟨by refine zdb (cs := #[.int .i64 ((zcd l0 x5_1).f0), .bool ((zcd l0 x5_1).f1.f0), .string ⟨#[]⟩]) ?_ 2 _ rfl; refine zdb (cs := #[.int .i64 ((zcd l0 x5_1).f0), .bool false, .string ⟨#[]⟩]) ?_ 1 _ rfl; refine zdb (cs := #[.int .i64 4, .bool false, .string ⟨#[]⟩]) ?_ 0 _ rfl; (iterate 3 refine zkb ?_ NB262_263.out _); exact put3 BK262.out⟩, ⟨by (iterate 3 refine zkb ?_ NB263_262.out _); refine zdb (cs := #[.int .i64 4, .bool false, .string ⟨#[]⟩]) ?_ 2 _ rfl; refine zdb (cs := #[.int .i64 4, .bool false, .string ⟨#[]⟩]) ?_ 1 _ rfl; refine zdb (cs := #[.int .i64 0, .bool false, .string ⟨#[]⟩]) ?_ 0 _ rfl; (iterate 3 refine zkb ?_ NB263_262.out _); exact BK263.out⟩, ⟨by repeat (first | (with_reducible first | exact HB.out | apply zj | apply zc | apply zz | refine zk ?_ GE262.out | refine zk ?_ GE263.out) | exact HB.out)⟩⟩
        ·rw [if_neg c13] at H
         exact absurd H (by simp)
       ·rw [if_neg c12] at H
        have c12b0 : decide (x5_1 < (l0.length : Int)) = false := decide_eq_false c12
        clear c12
        (first | rw [c12b0] | (simp only [i64_w, i32_w]; rw [c12b0]) | skip)
        have H' := za.mk H
        clear H
        go_wp2
        go_meet
        case rel => exact ⟨_, (4), (false), ((⟨#[]⟩ : ByteArray)), H', ⟨by have := HK1.out; have := HJ2.out; first | omega | exact Nat.le_refl _⟩, ⟨by (iterate 3 refine zkb ?_ NB262_263.out _); exact put3 BK262.out⟩, ⟨by refine zdb (cs := #[.int .i64 4, .bool false, .string ⟨#[]⟩]) ?_ 2 _ rfl; refine zdb (cs := #[.int .i64 4, .bool false, .string ⟨#[]⟩]) ?_ 1 _ rfl; refine zdb (cs := #[.int .i64 0, .bool false, .string ⟨#[]⟩]) ?_ 0 _ rfl; (iterate 3 refine zkb ?_ NB263_262.out _); exact BK263.out⟩, ⟨by repeat (first | (with_reducible first | exact HB.out | apply zj | apply zc | apply zz | refine zk ?_ GE262.out | refine zk ?_ GE263.out) | exact HB.out)⟩⟩
      case rest =>
       clear HC6
       clear hcz10_0 hcz10_1 hcz10_2 hcz11_0 hcz11_1 hcz11_2 hfz10_0 hfz10_1 hfz10_2 hfz11_0 hfz11_1 hfz11_2
       obtain ⟨kq, x263000_5, x263001_5, x263002_5, HA, HJ5, BK262, BK263, HB⟩ := hcut
       cases kq with
       | zero => exact absurd HA.out (by simp [zq.j2])
       | succ kj5 =>
        have H := HA.out
        clear HA
        simp only [zq.j2] at H
        have HC16 := za.mk H
        clear H
        go_upto_if 34 with (fail)
        go_cut [34] (fun v34 wc => ∃ (kq : Nat) (x264000_15 : Int) (x264001_15 : Bool) (x264002_15 : ByteArray), za (zq.j3 kq l0 l1 x5_1 x263000_5 x263001_5 x263002_5 x264000_15 x264001_15 x264002_15 = some r) ∧ za (kq ≤ kj5) ∧ za (wc.heap[gb262]? = some (.cells #[.int .i64 x263000_5, .bool x263001_5, .string x263002_5] 56 (0, 0))) ∧ za (wc.heap[gb263]? = some (.cells #[.int .i64 x264000_15, .bool x264001_15, .string x264002_15] 56 (0, 0))) ∧ za (Below w.heap.size w wc))
        case first =>
         have H := HC16.out
         clear HC16
         by_cases c17 : x5_1 < (l1.length : Int)
         ·rw [if_pos c17] at H
          have c17b0 : decide (x5_1 < (l1.length : Int)) = true := decide_eq_true c17
          clear c17
          (first | rw [c17b0] | (simp only [i64_w, i32_w]; rw [c17b0]) | skip)
          by_cases c18 : 0 ≤ x5_1
          ·rw [if_pos c18] at H
           have c18b0 : decide (0 ≤ x5_1) = true := decide_eq_true c18
           clear c18
           have H' := za.mk H
           clear H
           have p265 : 0 ≤ (x5_1 : Int) := of_decide_eq_true (by (with_reducible assumption))
           have q265 : x5_1 < (l1.length : Int) := of_decide_eq_true (by (with_reducible assumption))
           obtain ⟨ad265, e265, hx265_0, hx265_1, hx265_2⟩ := at_T56 HR1.out x5_1 p265 q265
           cases e265
           replace hx265_0 := (HB.out.cell (World.block_lt_of_cell? w _ hx265_0)).trans hx265_0
           replace hx265_1 := (HB.out.cell (World.block_lt_of_cell? w _ hx265_1)).trans hx265_1
           replace hx265_2 := (HB.out.cell (World.block_lt_of_cell? w _ hx265_2)).trans hx265_2
           replace p265 := eq_true p265
           replace q265 := eq_true q265
           have hnb19 := NB263_262.out
           have hnc19 := NB262_263.out
           obtain ⟨hcz20_0, hcz20_1, hcz20_2, hfz20_0, hfz20_1, hfz20_2⟩ := cl3 BK263.out
           go_wp2
           go_meet
           case rel => exact ⟨_, ((zcd l1 x5_1).f0), ((zcd l1 x5_1).f1.f0), ((zcd l1 x5_1).f1.f1), H', ⟨by have := HK1.out; have := HJ2.out; have := HJ5.out; first | omega | exact Nat.le_refl _⟩, ⟨by (iterate 3 refine zkb ?_ NB262_263.out _); exact BK262.out⟩, ⟨by exact put3 BK263.out⟩, ⟨by (with_reducible refine zk ?_ GE263.out; with_reducible refine zk ?_ GE263.out; with_reducible refine zk ?_ GE263.out; with_reducible exact HB.out)⟩⟩
          ·rw [if_neg c18] at H
           exact absurd H (by simp)
         ·rw [if_neg c17] at H
          have c17b0 : decide (x5_1 < (l1.length : Int)) = false := decide_eq_false c17
          clear c17
          (first | rw [c17b0] | (simp only [i64_w, i32_w]; rw [c17b0]) | skip)
          have H' := za.mk H
          clear H
          go_wp2
          go_meet
          case rel => exact ⟨_, (4), (false), ((⟨#[]⟩ : ByteArray)), H', ⟨by have := HK1.out; have := HJ2.out; have := HJ5.out; first | omega | exact Nat.le_refl _⟩, ⟨by exact BK262.out⟩, ⟨by exact BK263.out⟩, ⟨by (with_reducible exact HB.out)⟩⟩
        case rest =>
         clear HC16
         obtain ⟨kq, x264000_15, x264001_15, x264002_15, HA, HJ15, BK262, BK263, HB⟩ := hcut
         cases kq with
         | zero => exact absurd HA.out (by simp [zq.j3])
         | succ kj15 =>
          have H := HA.out
          clear HA
          simp only [zq.j3] at H
          replace H := Option.bind_eq_some_iff.mp H
          obtain ⟨t266, A210, H⟩ := H
          replace H : (if t266 = 0 then ((zv.f kj15 x263001_5 x263002_5 x264001_15 x264002_15).bind fun t267 => (if t267 = 0 then (zq.l0 kj15 l0 l1 (wrap64 (x5_1 + 1))) else (some t267))) else (some t266)) = some r := H
          have A21 := za.mk A210
          clear A210
          by_cases c22 : t266 = 0
          ·rw [if_pos c22] at H
           have c22b0 : (t266 == 0) = true := beq_iff_eq.mpr c22
           have c22b1 : (t266 != 0) = false := bne_eq_false_iff_eq.mpr c22
           clear c22
           replace H := Option.bind_eq_some_iff.mp H
           obtain ⟨t267, A230, H⟩ := H
           replace H : (if t267 = 0 then (zq.l0 kj15 l0 l1 (wrap64 (x5_1 + 1))) else (some t267)) = some r := H
           have A23 := za.mk A230
           clear A230
           by_cases c24 : t267 = 0
           ·rw [if_pos c24] at H
            have c24b0 : (t267 == 0) = true := beq_iff_eq.mpr c24
            have c24b1 : (t267 != 0) = false := bne_eq_false_iff_eq.mpr c24
            clear c24
            have H' := za.mk H
            clear H
            have hnb25 := NB262_263.out
            have hnc25 := NB263_262.out
            obtain ⟨hcz26_0, hcz26_1, hcz26_2, hfz26_0, hfz26_1, hfz26_2⟩ := cl3 BK262.out
            obtain ⟨hcz27_0, hcz27_1, hcz27_2, hfz27_0, hfz27_1, hfz27_2⟩ := cl3 BK263.out
            go_wp2_with (first | ((with_reducible refine zx (f := 55) rfl ?_); refine zdc (some 43) rfl rfl Tryz.func55 (by kernel_rfl) rfl #[.int .i64 x263000_5, .int .i64 x264000_15] rfl (by (try simp only [List.map_toArray, List.map_cons, List.map_nil]); first | done | rfl | (simp only [List.length_drop, List.length_take]; rfl)) ?_; (with_reducible refine (zad.calls x263000_5 x264000_15 t266 _ A21.out).mono ?_); rintro e w' ⟨rfl, ⟨nd, rfl⟩⟩; refine ⟨_, rfl, ?_⟩) | ((with_reducible refine zx (f := 35) rfl ?_); refine zdc (some 50) rfl rfl Tryz.func35 (by kernel_rfl) rfl #[.agg #[.bool x263001_5, .string x263002_5], .agg #[.bool x264001_15, .string x264002_15]] rfl (by (try simp only [List.map_toArray, List.map_cons, List.map_nil]); first | done | rfl | (simp only [List.length_drop, List.length_take]; rfl)) ?_; (with_reducible refine (zv.calls kj15 x263001_5 x263002_5 x264001_15 x264002_15 t267 _ A23.out).mono ?_); rintro e w28 ⟨rfl, hb⟩; refine ⟨_, rfl, ?_⟩; replace BK262 := za.mk (ze (zib BK262.out _) hb); replace BK263 := za.mk (ze (zib BK263.out _) hb); replace HB := za.mk (zm (by (with_reducible apply zc; with_reducible exact HB.out)) hb); (try clear hb); (try clear hb2); (try clear hk); (try clear hi)))
            go_roundg kj15
            case measure => have := HK1.out; have := HJ2.out; have := HJ5.out; have := HJ15.out; omega
            case rel => exact ⟨(wrap64 (x5_1 + 1)), (by rfl), H', ⟨by have := HK1.out; have := HJ2.out; have := HJ5.out; have := HJ15.out; omega⟩, ⟨by (with_reducible exact HB.out)⟩⟩
           ·rw [if_neg c24] at H
            have c24b0 : (t267 == 0) = false := beq_eq_false_iff_ne.mpr c24
            have c24b1 : (t267 != 0) = true := bne_iff_ne.mpr c24
            obtain rfl := Option.some.inj H
            have hnb29 := NB262_263.out
            have hnc29 := NB263_262.out
            obtain ⟨hcz30_0, hcz30_1, hcz30_2, hfz30_0, hfz30_1, hfz30_2⟩ := cl3 BK262.out
            obtain ⟨hcz31_0, hcz31_1, hcz31_2, hfz31_0, hfz31_1, hfz31_2⟩ := cl3 BK263.out
            go_wp2_with (first | ((with_reducible refine zx (f := 55) rfl ?_); refine zdc (some 43) rfl rfl Tryz.func55 (by kernel_rfl) rfl #[.int .i64 x263000_5, .int .i64 x264000_15] rfl (by (try simp only [List.map_toArray, List.map_cons, List.map_nil]); first | done | rfl | (simp only [List.length_drop, List.length_take]; rfl)) ?_; (with_reducible refine (zad.calls x263000_5 x264000_15 t266 _ A21.out).mono ?_); rintro e w' ⟨rfl, ⟨nd, rfl⟩⟩; refine ⟨_, rfl, ?_⟩) | ((with_reducible refine zx (f := 35) rfl ?_); refine zdc (some 50) rfl rfl Tryz.func35 (by kernel_rfl) rfl #[.agg #[.bool x263001_5, .string x263002_5], .agg #[.bool x264001_15, .string x264002_15]] rfl (by (try simp only [List.map_toArray, List.map_cons, List.map_nil]); first | done | rfl | (simp only [List.length_drop, List.length_take]; rfl)) ?_; (with_reducible refine (zv.calls kj15 x263001_5 x263002_5 x264001_15 x264002_15 t267 _ A23.out).mono ?_); rintro e w32 ⟨rfl, hb⟩; refine ⟨_, rfl, ?_⟩; replace BK262 := za.mk (ze (zib BK262.out _) hb); replace BK263 := za.mk (ze (zib BK263.out _) hb); replace HB := za.mk (zm (by (with_reducible apply zc; with_reducible exact HB.out)) hb); (try clear hb); (try clear hb2); (try clear hk); (try clear hi)))
            go_ret
            exact ⟨by rfl, by (with_reducible exact HB.out)⟩
          ·rw [if_neg c22] at H
           have c22b0 : (t266 == 0) = false := beq_eq_false_iff_ne.mpr c22
           have c22b1 : (t266 != 0) = true := bne_iff_ne.mpr c22
           obtain rfl := Option.some.inj H
           have hnb33 := NB262_263.out
           have hnc33 := NB263_262.out
           obtain ⟨hcz34_0, hcz34_1, hcz34_2, hfz34_0, hfz34_1, hfz34_2⟩ := cl3 BK262.out
           obtain ⟨hcz35_0, hcz35_1, hcz35_2, hfz35_0, hfz35_1, hfz35_2⟩ := cl3 BK263.out
           go_wp2_with (((with_reducible refine zx (f := 55) rfl ?_); refine zdc (some 43) rfl rfl Tryz.func55 (by kernel_rfl) rfl #[.int .i64 x263000_5, .int .i64 x264000_15] rfl (by (try simp only [List.map_toArray, List.map_cons, List.map_nil]); first | done | rfl | (simp only [List.length_drop, List.length_take]; rfl)) ?_; (with_reducible refine (zad.calls x263000_5 x264000_15 t266 _ A21.out).mono ?_); rintro e w' ⟨rfl, ⟨nd, rfl⟩⟩; refine ⟨_, rfl, ?_⟩))
           go_ret
           exact ⟨by rfl, by (with_reducible apply zc; with_reducible exact HB.out)⟩
     ·replace c5 := Bool.eq_false_iff.mpr c5
      subst c5
      have H1 : (some 0) = some r := by rw [if_neg (show ¬ (false = true) by decide)] at H; exact H
      clear H
      have H := H1
      clear H1
      obtain rfl := Option.some.inj H
      go_wp2
      go_ret
      exact ⟨by rfl, by (with_reducible exact HB.out)⟩
end Go.Proofs.YtapaijpglfmfgaaGreatDoor.Q
end
section
namespace Go.Proofs.YtapaijpglfmfgaaGreatDoor.Q
open Go.RowKit YtapaijpglfmfgaaGreatDoorH YtapaijpglfmfgaaGreatDoorG YtapaijpglfmfgaaGreatDoorW.PrintWords YtapaijpglfmfgaaGreatDoorW.PrintLast YtapaijpglfmfgaaGreatDoorW.PrintMore YtapaijpglfmfgaaGreatDoorC
attribute [local go_sem] zsc zuc zhd zgd zhc zic zvc ztc
mutual
def zg.j0 : Nat → Bool → ByteArray → ByteArray → ByteArray → ByteArray → Bool → List (S52) → List (S56) → Bool → Bool → ByteArray → ByteArray → ByteArray → ByteArray → ByteArray → Bool → List (S52) → List (S56) → Bool → Bool → ByteArray → Option (Int)
 | 0, _, _, _, _, _, _, _, _, _, _, _, _, _, _, _, _, _, _, _, _, _ => none
 | k + 1, x11, x269000, x269001, x269002, x269003, x269004, x269005, x269006, x269007, x269008, x269009, x270000, x270001, x270002, x270003, x270004, x270005, x270006, x270007, x270008, x270009 => if x11 = true then ((zdd.f x269000 x270000).bind fun t270 => (some t270)) else ((zn.f k x269005 x270005).bind fun t271 => (if t271 = 0 then ((zdd.f x269002 x270002).bind fun t272 => (zg.j1 k t272 x269000 x269001 x269002 x269003 x269004 x269005 x269006 x269007 x269008 x269009 x270000 x270001 x270002 x270003 x270004 x270005 x270006 x270007 x270008 x270009)) else (zg.j1 k t271 x269000 x269001 x269002 x269003 x269004 x269005 x269006 x269007 x269008 x269009 x270000 x270001 x270002 x270003 x270004 x270005 x270006 x270007 x270008 x270009)))
def zg.j1 : Nat → Int → ByteArray → ByteArray → ByteArray → ByteArray → Bool → List (S52) → List (S56) → Bool → Bool → ByteArray → ByteArray → ByteArray → ByteArray → ByteArray → Bool → List (S52) → List (S56) → Bool → Bool → ByteArray → Option (Int)
 | 0, _, _, _, _, _, _, _, _, _, _, _, _, _, _, _, _, _, _, _, _, _ => none
 | k + 1, x5, x269000, x269001, x269002, x269003, x269004, x269005, x269006, x269007, x269008, x269009, x270000, x270001, x270002, x270003, x270004, x270005, x270006, x270007, x270008, x270009 => if x5 = 0 then ((zq.f k x269006 x270006).bind fun t273 => (zg.j2 k t273 x269000 x269001 x269002 x269003 x269004 x269005 x269006 x269007 x269008 x269009 x270000 x270001 x270002 x270003 x270004 x270005 x270006 x270007 x270008 x270009)) else (zg.j2 k x5 x269000 x269001 x269002 x269003 x269004 x269005 x269006 x269007 x269008 x269009 x270000 x270001 x270002 x270003 x270004 x270005 x270006 x270007 x270008 x270009)
def zg.j2 : Nat → Int → ByteArray → ByteArray → ByteArray → ByteArray → Bool → List (S52) → List (S56) → Bool → Bool → ByteArray → ByteArray → ByteArray → ByteArray → ByteArray → Bool → List (S52) → List (S56) → Bool → Bool → ByteArray → Option (Int)
 | 0, _, _, _, _, _, _, _, _, _, _, _, _, _, _, _, _, _, _, _, _, _ => none
 | k + 1, x5, x269000, x269001, x269002, x269003, x269004, x269005, x269006, x269007, x269008, x269009, x270000, x270001, x270002, x270003, x270004, x270005, x270006, x270007, x270008, x270009 => if x5 = 0 then (if x269007 = true then (zg.j3 k x5 x270007 x269000 x269001 x269002 x269003 x269004 x269005 x269006 x269007 x269008 x269009 x270000 x270001 x270002 x270003 x270004 x270005 x270006 x270007 x270008 x270009) else (zg.j3 k x5 false x269000 x269001 x269002 x269003 x269004 x269005 x269006 x269007 x269008 x269009 x270000 x270001 x270002 x270003 x270004 x270005 x270006 x270007 x270008 x270009)) else (zg.j3 k x5 false x269000 x269001 x269002 x269003 x269004 x269005 x269006 x269007 x269008 x269009 x270000 x270001 x270002 x270003 x270004 x270005 x270006 x270007 x270008 x270009)
def zg.j3 : Nat → Int → Bool → ByteArray → ByteArray → ByteArray → ByteArray → Bool → List (S52) → List (S56) → Bool → Bool → ByteArray → ByteArray → ByteArray → ByteArray → ByteArray → Bool → List (S52) → List (S56) → Bool → Bool → ByteArray → Option (Int)
 | 0, _, _, _, _, _, _, _, _, _, _, _, _, _, _, _, _, _, _, _, _, _, _ => none
 | k + 1, x5, x45, x269000, x269001, x269002, x269003, x269004, x269005, x269006, x269007, x269008, x269009, x270000, x270001, x270002, x270003, x270004, x270005, x270006, x270007, x270008, x270009 => if x45 = true then ((zv.f k x269008 x269009 x270008 x270009).bind fun t274 => (zg.j4 k t274 x269000 x269001 x269002 x269003 x269004 x269005 x269006 x269007 x269008 x269009 x270000 x270001 x270002 x270003 x270004 x270005 x270006 x270007 x270008 x270009)) else (zg.j4 k x5 x269000 x269001 x269002 x269003 x269004 x269005 x269006 x269007 x269008 x269009 x270000 x270001 x270002 x270003 x270004 x270005 x270006 x270007 x270008 x270009)
def zg.j4 : Nat → Int → ByteArray → ByteArray → ByteArray → ByteArray → Bool → List (S52) → List (S56) → Bool → Bool → ByteArray → ByteArray → ByteArray → ByteArray → ByteArray → Bool → List (S52) → List (S56) → Bool → Bool → ByteArray → Option (Int)
 | 0, _, _, _, _, _, _, _, _, _, _, _, _, _, _, _, _, _, _, _, _, _ => none
 | k + 1, x5, x269000, x269001, x269002, x269003, x269004, x269005, x269006, x269007, x269008, x269009, x270000, x270001, x270002, x270003, x270004, x270005, x270006, x270007, x270008, x270009 => if x5 = 0 then (if x269001.toList = ([] : List UInt8) then (zg.j5 k false x269000 x269001 x269002 x269003 x269004 x269005 x269006 x269007 x269008 x269009 x270000 x270001 x270002 x270003 x270004 x270005 x270006 x270007 x270008 x270009) else (zg.j5 k (x270001.toList == ([] : List UInt8)) x269000 x269001 x269002 x269003 x269004 x269005 x269006 x269007 x269008 x269009 x270000 x270001 x270002 x270003 x270004 x270005 x270006 x270007 x270008 x270009)) else (some x5)
def zg.j5 : Nat → Bool → ByteArray → ByteArray → ByteArray → ByteArray → Bool → List (S52) → List (S56) → Bool → Bool → ByteArray → ByteArray → ByteArray → ByteArray → ByteArray → Bool → List (S52) → List (S56) → Bool → Bool → ByteArray → Option (Int)
 | 0, _, _, _, _, _, _, _, _, _, _, _, _, _, _, _, _, _, _, _, _, _ => none
 | k + 1, x55, x269000, x269001, x269002, x269003, x269004, x269005, x269006, x269007, x269008, x269009, x270000, x270001, x270002, x270003, x270004, x270005, x270006, x270007, x270008, x270009 => if x55 = true then (some (-1)) else (if x269001.toList = ([] : List UInt8) then (if x270001.toList = ([] : List UInt8) then (some 0) else (some 1)) else (some 0))
end
def zg.f (k : Nat) (a0_0 : ByteArray) (a0_1 : ByteArray) (a0_2 : ByteArray) (a0_3 : ByteArray) (a0_4 : Bool) (l0_5 : List (S52)) (l0_6 : List (S56)) (a0_7 : Bool) (a0_8 : Bool) (a0_9 : ByteArray) (a1_0 : ByteArray) (a1_1 : ByteArray) (a1_2 : ByteArray) (a1_3 : ByteArray) (a1_4 : Bool) (l1_5 : List (S52)) (l1_6 : List (S56)) (a1_7 : Bool) (a1_8 : Bool) (a1_9 : ByteArray) : Option (Int) := if a0_4 = true then (zg.j0 k a1_4 a0_0 a0_1 a0_2 a0_3 a0_4 l0_5 l0_6 a0_7 a0_8 a0_9 a1_0 a1_1 a1_2 a1_3 a1_4 l1_5 l1_6 a1_7 a1_8 a1_9) else (zg.j0 k false a0_0 a0_1 a0_2 a0_3 a0_4 l0_5 l0_6 a0_7 a0_8 a0_9 a1_0 a1_1 a1_2 a1_3 a1_4 l1_5 l1_6 a1_7 a1_8 a1_9)
theorem zg.calls (k : Nat) (a0_0 : ByteArray) (a0_1 : ByteArray) (a0_2 : ByteArray) (a0_3 : ByteArray) (a0_4 : Bool) (A0_5 : Option Addr) (c0_5 : Nat) (l0_5 : List (S52)) (A0_6 : Option Addr) (c0_6 : Nat) (l0_6 : List (S56)) (a0_7 : Bool) (a0_8 : Bool) (a0_9 : ByteArray) (a1_0 : ByteArray) (a1_1 : ByteArray) (a1_2 : ByteArray) (a1_3 : ByteArray) (a1_4 : Bool) (A1_5 : Option Addr) (c1_5 : Nat) (l1_5 : List (S52)) (A1_6 : Option Addr) (c1_6 : Nat) (l1_6 : List (S56)) (a1_7 : Bool) (a1_8 : Bool) (a1_9 : ByteArray) (r : Int) (w : World) (hr0_5 : Kd.C k52 w A0_5 l0_5.length l0_5) (hc0_5 : l0_5.length ≤ c0_5) (hr0_6 : Kd.C k56 w A0_6 l0_6.length l0_6) (hc0_6 : l0_6.length ≤ c0_6) (hr1_5 : Kd.C k52 w A1_5 l1_5.length l1_5) (hc1_5 : l1_5.length ≤ c1_5) (hr1_6 : Kd.C k56 w A1_6 l1_6.length l1_6) (hc1_6 : l1_6.length ≤ c1_6) (h : zg.f k a0_0 a0_1 a0_2 a0_3 a0_4 l0_5 l0_6 a0_7 a0_8 a0_9 a1_0 a1_1 a1_2 a1_3 a1_4 l1_5 l1_6 a1_7 a1_8 a1_9 = some r) :
  Calls Tryz.prog 11 #[.agg #[.string a0_0, .string a0_1, .string a0_2, .string a0_3, .bool a0_4, .slice A0_5 l0_5.length c0_5, .slice A0_6 l0_6.length c0_6, .bool a0_7, .bool a0_8, .string a0_9], .agg #[.string a1_0, .string a1_1, .string a1_2, .string a1_3, .bool a1_4, .slice A1_5 l1_5.length c1_5, .slice A1_6 l1_6.length c1_6, .bool a1_7, .bool a1_8, .string a1_9]] w fun e w' => e = .returned (.int .i64 r) ∧ Below w.heap.size w w' := by
 have hu33 := Tryz.underlying33
 have hu31 := Tryz.underlying31
 have HR0_5 := za.mk hr0_5
 have HC0_5 := za.mk hc0_5
 clear hr0_5 hc0_5
 have HR0_6 := za.mk hr0_6
 have HC0_6 := za.mk hc0_6
 clear hr0_6 hc0_6
 have HR1_5 := za.mk hr1_5
 have HC1_5 := za.mk hc1_5
 clear hr1_5 hc1_5
 have HR1_6 := za.mk hr1_6
 have HC1_6 := za.mk hc1_6
 clear hr1_6 hc1_6
 have HB := za.mk (Below.refl w.heap.size w)
 have H : (if a0_4 = true then (zg.j0 k a1_4 a0_0 a0_1 a0_2 a0_3 a0_4 l0_5 l0_6 a0_7 a0_8 a0_9 a1_0 a1_1 a1_2 a1_3 a1_4 l1_5 l1_6 a1_7 a1_8 a1_9) else (zg.j0 k false a0_0 a0_1 a0_2 a0_3 a0_4 l0_5 l0_6 a0_7 a0_8 a0_9 a1_0 a1_1 a1_2 a1_3 a1_4 l1_5 l1_6 a1_7 a1_8 a1_9)) = some r := h
 clear h
 have HC3 := za.mk H
 clear H
 go_enter Tryz.func11, Tryz.ntmps11
 go_upto_region 1 with (first | ((with_reducible refine zmb (N := 2) rfl ?_); refine zrb ?hg (N := 2) ?hd (cs := #[.string a0_0, .string a0_1, .string a0_2, .string a0_3, .bool a0_4, .slice A0_5 l0_5.length c0_5, .slice A0_6 l0_6.length c0_6, .bool a0_7, .bool a0_8, .string a0_9]) (t := 33) ?hr ?_; (case hd => rfl); (case hg => rfl); (case hr => first | (go_simp; done) | (go_simp; rfl)); intro gb268 hg w4 hbox hb; have BK268 := za.mk hbox; have GW268 := za.mk ((by rw [hg]; exact (zl (by (with_reducible exact HB.out))) : w.heap.size ≤ gb268)); have GE268 := za.mk ((by rw [hg]; exact (zl (by (with_reducible exact HB.out))) : w.heap.size ≤ gb268)); replace HB := za.mk (zm (by (with_reducible exact HB.out)) hb); clear hb hbox hg) | ((with_reducible refine zmb (N := 3) rfl ?_); refine zrb ?hg (N := 3) ?hd (cs := #[.string a1_0, .string a1_1, .string a1_2, .string a1_3, .bool a1_4, .slice A1_5 l1_5.length c1_5, .slice A1_6 l1_6.length c1_6, .bool a1_7, .bool a1_8, .string a1_9]) (t := 33) ?hr ?_; (case hd => rfl); (case hg => rfl); (case hr => first | (go_simp; done) | (go_simp; rfl)); intro gb269 hg w5 hbox hb; have n0_ := za.mk (ze BK268.out hb); have n1_ := za.mk (zm (by (with_reducible exact HB.out)) hb); have n2_ := za.mk hbox; have n3_ := za.mk ((by rw [hg]; exact (zl (by (with_reducible exact HB.out))) : w.heap.size ≤ gb269)); have n4_ := za.mk ((by rw [hg]; exact (zl (by (with_reducible exact HB.out))) : w.heap.size ≤ gb269)); have n5_ := za.mk ((by rw [hg]; exact Nat.ne_of_lt (znc BK268.out) : gb268 ≠ gb269)); have n6_ := za.mk ((by rw [hg]; exact Nat.ne_of_gt (znc BK268.out) : gb269 ≠ gb268)); clear BK268; clear HB; have BK268 := n0_; have HB := n1_; have BK269 := n2_; have GW269 := n3_; have GE269 := n4_; have NB268_269 := n5_; have NB269_268 := n6_; clear n0_ n1_ n2_ n3_ n4_ n5_ n6_; clear hb hbox hg))
 (try simp only [Act.put, List.setIfInBounds_toArray, List.set_cons_zero, List.set_cons_succ])
 go_cut [11] (fun v11 wc => ∃ (kq : Nat) (x11_2 : Bool), v11 = .bool x11_2 ∧ za (zg.j0 kq x11_2 a0_0 a0_1 a0_2 a0_3 a0_4 l0_5 l0_6 a0_7 a0_8 a0_9 a1_0 a1_1 a1_2 a1_3 a1_4 l1_5 l1_6 a1_7 a1_8 a1_9 = some r) ∧ za (kq ≤ k) ∧ za (wc.heap[gb268]? = some (.cells #[.string a0_0, .string a0_1, .string a0_2, .string a0_3, .bool a0_4, (.slice A0_5 l0_5.length c0_5), (.slice A0_6 l0_6.length c0_6), .bool a0_7, .bool a0_8, .string a0_9] 33 (0, 0))) ∧ za (wc.heap[gb269]? = some (.cells #[.string a1_0, .string a1_1, .string a1_2, .string a1_3, .bool a1_4, (.slice A1_5 l1_5.length c1_5), (.slice A1_6 l1_6.length c1_6), .bool a1_7, .bool a1_8, .string a1_9] 33 (0, 0))) ∧ za (Below w.heap.size w wc))
 case first =>
  have H := HC3.out
  clear HC3
  by_cases c6 : a0_4 = true
  ·subst c6
   have H1 : (zg.j0 k a1_4 a0_0 a0_1 a0_2 a0_3 true l0_5 l0_6 a0_7 a0_8 a0_9 a1_0 a1_1 a1_2 a1_3 a1_4 l1_5 l1_6 a1_7 a1_8 a1_9) = some r := by rw [if_pos rfl] at H; exact H
   clear H
   have H := H1
   clear H1
   have H' := za.mk H
   clear H
   have hnb7 := NB268_269.out
   have hnc7 := NB269_268.out
   obtain ⟨hcz8_0, hcz8_1, hcz8_2, hcz8_3, hcz8_4, hcz8_5, hcz8_6, hcz8_7, hcz8_8, hcz8_9, _⟩ := cl10 BK268.out
   obtain ⟨hcz9_0, hcz9_1, hcz9_2, hcz9_3, hcz9_4, hcz9_5, hcz9_6, hcz9_7, hcz9_8, hcz9_9, _⟩ := cl10 BK269.out
   go_wp2
   go_meet
   case rel => exact ⟨_, (a1_4), (by rfl), H', ⟨by omega⟩, ⟨by exact BK268.out⟩, ⟨by exact BK269.out⟩, ⟨by (with_reducible exact HB.out)⟩⟩
  ·replace c6 := Bool.eq_false_iff.mpr c6
   subst c6
   have H1 : (zg.j0 k false a0_0 a0_1 a0_2 a0_3 false l0_5 l0_6 a0_7 a0_8 a0_9 a1_0 a1_1 a1_2 a1_3 a1_4 l1_5 l1_6 a1_7 a1_8 a1_9) = some r := by rw [if_neg (show ¬ (false = true) by decide)] at H; exact H
   clear H
   have H := H1
   clear H1
   have H' := za.mk H
   clear H
   have hnb10 := NB268_269.out
   have hnc10 := NB269_268.out
   obtain ⟨hcz11_0, hcz11_1, hcz11_2, hcz11_3, hcz11_4, hcz11_5, hcz11_6, hcz11_7, hcz11_8, hcz11_9, _⟩ := cl10 BK268.out
   go_wp2
   go_meet
   case rel => exact ⟨_, (false), (by rfl), H', ⟨by omega⟩, ⟨by exact BK268.out⟩, ⟨by exact BK269.out⟩, ⟨by (with_reducible exact HB.out)⟩⟩
 case rest =>
  clear HC3
  obtain ⟨kq, x11_2, rfl, HA, HJ2, BK268, BK269, HB⟩ := hcut
  cases kq with
  | zero => exact absurd HA.out (by simp [zg.j0])
  | succ kj2 =>
   have H := HA.out
   clear HA
   simp only [zg.j0] at H
   by_cases c12 : x11_2 = true
   ·subst c12
    have H1 : ((zdd.f a0_0 a1_0).bind fun t270 => (some t270)) = some r := by rw [if_pos rfl] at H; exact H
    clear H
    have H := H1
    clear H1
    replace H := Option.bind_eq_some_iff.mp H
    obtain ⟨t270, A130, H⟩ := H
    replace H : (some t270) = some r := H
    have A13 := za.mk A130
    clear A130
    obtain rfl := Option.some.inj H
    have hnb14 := NB268_269.out
    have hnc14 := NB269_268.out
    obtain ⟨hcz15_0, hcz15_1, hcz15_2, hcz15_3, hcz15_4, hcz15_5, hcz15_6, hcz15_7, hcz15_8, hcz15_9, _⟩ := cl10 BK268.out
    obtain ⟨hcz16_0, hcz16_1, hcz16_2, hcz16_3, hcz16_4, hcz16_5, hcz16_6, hcz16_7, hcz16_8, hcz16_9, _⟩ := cl10 BK269.out
    go_wp2_with (((with_reducible refine zx (f := 32) rfl ?_); refine zdc (some 16) rfl rfl Tryz.func32 (by kernel_rfl) rfl #[.string a0_0, .string a1_0] rfl (by (try simp only [List.map_toArray, List.map_cons, List.map_nil]); first | done | rfl | (simp only [List.length_drop, List.length_take]; rfl)) ?_; (with_reducible refine (zdd.calls a0_0 a1_0 t270 _ A13.out).mono ?_); rintro e w' ⟨rfl, ⟨nd, rfl⟩⟩; refine ⟨_, rfl, ?_⟩))
    go_ret
    exact ⟨by rfl, by (with_reducible apply zc; with_reducible exact HB.out)⟩
   ·replace c12 := Bool.eq_false_iff.mpr c12
    subst c12
    have H1 : ((zn.f kj2 l0_5 l1_5).bind fun t271 => (if t271 = 0 then ((zdd.f a0_2 a1_2).bind fun t272 => (zg.j1 kj2 t272 a0_0 a0_1 a0_2 a0_3 a0_4 l0_5 l0_6 a0_7 a0_8 a0_9 a1_0 a1_1 a1_2 a1_3 a1_4 l1_5 l1_6 a1_7 a1_8 a1_9)) else (zg.j1 kj2 t271 a0_0 a0_1 a0_2 a0_3 a0_4 l0_5 l0_6 a0_7 a0_8 a0_9 a1_0 a1_1 a1_2 a1_3 a1_4 l1_5 l1_6 a1_7 a1_8 a1_9))) = some r := by rw [if_neg (show ¬ (false = true) by decide)] at H; exact H
    clear H
    have H := H1
    clear H1
    replace H := Option.bind_eq_some_iff.mp H
    obtain ⟨t271, A170, H⟩ := H
    replace H : (if t271 = 0 then ((zdd.f a0_2 a1_2).bind fun t272 => (zg.j1 kj2 t272 a0_0 a0_1 a0_2 a0_3 a0_4 l0_5 l0_6 a0_7 a0_8 a0_9 a1_0 a1_1 a1_2 a1_3 a1_4 l1_5 l1_6 a1_7 a1_8 a1_9)) else (zg.j1 kj2 t271 a0_0 a0_1 a0_2 a0_3 a0_4 l0_5 l0_6 a0_7 a0_8 a0_9 a1_0 a1_1 a1_2 a1_3 a1_4 l1_5 l1_6 a1_7 a1_8 a1_9)) = some r := H
    have A17 := za.mk A170
    clear A170
    have HC18 := za.mk H
    clear H
    have hnb19 := NB268_269.out
    have hnc19 := NB269_268.out
    obtain ⟨hcz20_0, hcz20_1, hcz20_2, hcz20_3, hcz20_4, hcz20_5, hcz20_6, hcz20_7, hcz20_8, hcz20_9, _⟩ := cl10 BK268.out
    obtain ⟨hcz21_0, hcz21_1, hcz21_2, hcz21_3, hcz21_4, hcz21_5, hcz21_6, hcz21_7, hcz21_8, hcz21_9, _⟩ := cl10 BK269.out
    go_upto_if 23 with (first | ((with_reducible refine zx (f := 33) rfl ?_); refine zdc (some 21) rfl rfl Tryz.func33 (by kernel_rfl) rfl #[.slice A0_5 l0_5.length c0_5, .slice A1_5 l1_5.length c1_5] rfl (by (try simp only [List.map_toArray, List.map_cons, List.map_nil]); first | done | rfl | (simp only [List.length_drop, List.length_take]; rfl)) ?_; (with_reducible refine (zn.calls kj2 _ _ l0_5 _ _ l1_5 t271 _ ?side1 ?side2 ?side3 ?side4 A17.out).mono ?_); (case side1 => repeat (first | exact (Kd.C_below HR0_5.out HB.out) | (with_reducible refine Kd.C_alloc ?_ _) | (with_reducible refine Kd.C_drewN ?_ _) | (with_reducible refine Kd.C_drew ?_))); (case side2 => exact HC0_5.out); (case side3 => repeat (first | exact (Kd.C_below HR1_5.out HB.out) | (with_reducible refine Kd.C_alloc ?_ _) | (with_reducible refine Kd.C_drewN ?_ _) | (with_reducible refine Kd.C_drew ?_))); (case side4 => exact HC1_5.out); rintro e w22 ⟨rfl, hb⟩; refine ⟨_, rfl, ?_⟩; replace BK268 := za.mk (ze BK268.out hb); replace BK269 := za.mk (ze BK269.out hb); replace HB := za.mk (zm (by (with_reducible exact HB.out)) hb); (try clear hb); (try clear hb2); (try clear hk); (try clear hi)))
    (try simp only [Act.put, List.setIfInBounds_toArray, List.set_cons_zero, List.set_cons_succ])
    go_cut [5, 23] (fun v5 v23 wc => ∃ (kq : Nat) (x5_17 : Int), v5 = .int .i64 x5_17 ∧ za (zg.j1 kq x5_17 a0_0 a0_1 a0_2 a0_3 a0_4 l0_5 l0_6 a0_7 a0_8 a0_9 a1_0 a1_1 a1_2 a1_3 a1_4 l1_5 l1_6 a1_7 a1_8 a1_9 = some r) ∧ za (kq ≤ kj2) ∧ za (wc.heap[gb268]? = some (.cells #[.string a0_0, .string a0_1, .string a0_2, .string a0_3, .bool a0_4, (.slice A0_5 l0_5.length c0_5), (.slice A0_6 l0_6.length c0_6), .bool a0_7, .bool a0_8, .string a0_9] 33 (0, 0))) ∧ za (wc.heap[gb269]? = some (.cells #[.string a1_0, .string a1_1, .string a1_2, .string a1_3, .bool a1_4, (.slice A1_5 l1_5.length c1_5), (.slice A1_6 l1_6.length c1_6), .bool a1_7, .bool a1_8, .string a1_9] 33 (0, 0))) ∧ za (Below w.heap.size w wc))
    case first =>
     have H := HC18.out
     clear HC18
     by_cases c23 : t271 = 0
     ·rw [if_pos c23] at H
      have c23b0 : (t271 == 0) = true := beq_iff_eq.mpr c23
      have c23b1 : (t271 != 0) = false := bne_eq_false_iff_eq.mpr c23
      clear c23
      (first | rw [c23b0] | (simp only [i64_w, i32_w]; rw [c23b0]) | skip)
      replace H := Option.bind_eq_some_iff.mp H
      obtain ⟨t272, A240, H⟩ := H
      replace H : (zg.j1 kj2 t272 a0_0 a0_1 a0_2 a0_3 a0_4 l0_5 l0_6 a0_7 a0_8 a0_9 a1_0 a1_1 a1_2 a1_3 a1_4 l1_5 l1_6 a1_7 a1_8 a1_9) = some r := H
      have A24 := za.mk A240
      clear A240
      have H' := za.mk H
      clear H
      have hnb25 := NB268_269.out
      have hnc25 := NB269_268.out
      obtain ⟨hcz26_0, hcz26_1, hcz26_2, hcz26_3, hcz26_4, hcz26_5, hcz26_6, hcz26_7, hcz26_8, hcz26_9, _⟩ := cl10 BK268.out
      obtain ⟨hcz27_0, hcz27_1, hcz27_2, hcz27_3, hcz27_4, hcz27_5, hcz27_6, hcz27_7, hcz27_8, hcz27_9, _⟩ := cl10 BK269.out
      go_wp2_with (((with_reducible refine zx (f := 32) rfl ?_); refine zdc (some 28) rfl rfl Tryz.func32 (by kernel_rfl) rfl #[.string a0_2, .string a1_2] rfl (by (try simp only [List.map_toArray, List.map_cons, List.map_nil]); first | done | rfl | (simp only [List.length_drop, List.length_take]; rfl)) ?_; (with_reducible refine (zdd.calls a0_2 a1_2 t272 _ A24.out).mono ?_); rintro e w' ⟨rfl, ⟨nd, rfl⟩⟩; refine ⟨_, rfl, ?_⟩))
      go_meet
      case rel => exact ⟨_, (t272), (by rfl), H', ⟨by have := HJ2.out; first | omega | exact Nat.le_refl _⟩, ⟨by (with_reducible (refine zib ?_ _)); exact BK268.out⟩, ⟨by (with_reducible (refine zib ?_ _)); exact BK269.out⟩, ⟨by (with_reducible apply zc; with_reducible exact HB.out)⟩⟩
     ·rw [if_neg c23] at H
      have c23b0 : (t271 == 0) = false := beq_eq_false_iff_ne.mpr c23
      have c23b1 : (t271 != 0) = true := bne_iff_ne.mpr c23
      (first | rw [c23b0] | (simp only [i64_w, i32_w]; rw [c23b0]) | skip)
      have H' := za.mk H
      clear H
      go_wp2
      go_meet
      case rel => exact ⟨_, (t271), (by rfl), H', ⟨by have := HJ2.out; first | omega | exact Nat.le_refl _⟩, ⟨by exact BK268.out⟩, ⟨by exact BK269.out⟩, ⟨by (with_reducible exact HB.out)⟩⟩
    case rest =>
     clear HC18
     clear hcz20_0 hcz20_1 hcz20_2 hcz20_3 hcz20_4 hcz20_5 hcz20_6 hcz20_7 hcz20_8 hcz20_9 hcz21_0 hcz21_1 hcz21_2 hcz21_3 hcz21_4 hcz21_5 hcz21_6 hcz21_7 hcz21_8 hcz21_9
     obtain ⟨kq, x5_17, rfl, HA, HJ17, BK268, BK269, HB⟩ := hcut
     cases kq with
     | zero => exact absurd HA.out (by simp [zg.j1])
     | succ kj17 =>
      have H := HA.out
      clear HA
      simp only [zg.j1] at H
      have HC28 := za.mk H
      clear H
      go_upto_if 30 with (fail)
      go_cut [5, 30] (fun v5 v30 wc => ∃ (kq : Nat) (x5_27 : Int), v5 = .int .i64 x5_27 ∧ za (zg.j2 kq x5_27 a0_0 a0_1 a0_2 a0_3 a0_4 l0_5 l0_6 a0_7 a0_8 a0_9 a1_0 a1_1 a1_2 a1_3 a1_4 l1_5 l1_6 a1_7 a1_8 a1_9 = some r) ∧ za (kq ≤ kj17) ∧ za (wc.heap[gb268]? = some (.cells #[.string a0_0, .string a0_1, .string a0_2, .string a0_3, .bool a0_4, (.slice A0_5 l0_5.length c0_5), (.slice A0_6 l0_6.length c0_6), .bool a0_7, .bool a0_8, .string a0_9] 33 (0, 0))) ∧ za (wc.heap[gb269]? = some (.cells #[.string a1_0, .string a1_1, .string a1_2, .string a1_3, .bool a1_4, (.slice A1_5 l1_5.length c1_5), (.slice A1_6 l1_6.length c1_6), .bool a1_7, .bool a1_8, .string a1_9] 33 (0, 0))) ∧ za (Below w.heap.size w wc))
      case first =>
       have H := HC28.out
       clear HC28
       by_cases c29 : x5_17 = 0
       ·rw [if_pos c29] at H
        have c29b0 : (x5_17 == 0) = true := beq_iff_eq.mpr c29
        have c29b1 : (x5_17 != 0) = false := bne_eq_false_iff_eq.mpr c29
        clear c29
        (first | rw [c29b0] | (simp only [i64_w, i32_w]; rw [c29b0]) | skip)
        replace H := Option.bind_eq_some_iff.mp H
        obtain ⟨t273, A300, H⟩ := H
        replace H : (zg.j2 kj17 t273 a0_0 a0_1 a0_2 a0_3 a0_4 l0_5 l0_6 a0_7 a0_8 a0_9 a1_0 a1_1 a1_2 a1_3 a1_4 l1_5 l1_6 a1_7 a1_8 a1_9) = some r := H
        have A30 := za.mk A300
        clear A300
        have H' := za.mk H
        clear H
        have hnb31 := NB268_269.out
        have hnc31 := NB269_268.out
        obtain ⟨hcz32_0, hcz32_1, hcz32_2, hcz32_3, hcz32_4, hcz32_5, hcz32_6, hcz32_7, hcz32_8, hcz32_9, _⟩ := cl10 BK268.out
        obtain ⟨hcz33_0, hcz33_1, hcz33_2, hcz33_3, hcz33_4, hcz33_5, hcz33_6, hcz33_7, hcz33_8, hcz33_9, _⟩ := cl10 BK269.out
        go_wp2_with (((with_reducible refine zx (f := 34) rfl ?_); refine zdc (some 35) rfl rfl Tryz.func34 (by kernel_rfl) rfl #[.slice A0_6 l0_6.length c0_6, .slice A1_6 l1_6.length c1_6] rfl (by (try simp only [List.map_toArray, List.map_cons, List.map_nil]); first | done | rfl | (simp only [List.length_drop, List.length_take]; rfl)) ?_; (with_reducible refine (zq.calls kj17 _ _ l0_6 _ _ l1_6 t273 _ ?side1 ?side2 ?side3 ?side4 A30.out).mono ?_); (case side1 => repeat (first | exact (Kd.C_below HR0_6.out HB.out) | (with_reducible refine Kd.C_alloc ?_ _) | (with_reducible refine Kd.C_drewN ?_ _) | (with_reducible refine Kd.C_drew ?_))); (case side2 => exact HC0_6.out); (case side3 => repeat (first | exact (Kd.C_below HR1_6.out HB.out) | (with_reducible refine Kd.C_alloc ?_ _) | (with_reducible refine Kd.C_drewN ?_ _) | (with_reducible refine Kd.C_drew ?_))); (case side4 => exact HC1_6.out); rintro e w34 ⟨rfl, hb⟩; refine ⟨_, rfl, ?_⟩; replace BK268 := za.mk (ze BK268.out hb); replace BK269 := za.mk (ze BK269.out hb); replace HB := za.mk (zm (by (with_reducible exact HB.out)) hb); (try clear hb); (try clear hb2); (try clear hk); (try clear hi)))
        go_meet
        case rel => exact ⟨_, (t273), (by rfl), H', ⟨by have := HJ2.out; have := HJ17.out; first | omega | exact Nat.le_refl _⟩, ⟨by exact BK268.out⟩, ⟨by exact BK269.out⟩, ⟨by (with_reducible exact HB.out)⟩⟩
       ·rw [if_neg c29] at H
        have c29b0 : (x5_17 == 0) = false := beq_eq_false_iff_ne.mpr c29
        have c29b1 : (x5_17 != 0) = true := bne_iff_ne.mpr c29
        (first | rw [c29b0] | (simp only [i64_w, i32_w]; rw [c29b0]) | skip)
        have H' := za.mk H
        clear H
        go_wp2
        go_meet
        case rel => exact ⟨_, (x5_17), (by rfl), H', ⟨by have := HJ2.out; have := HJ17.out; first | omega | exact Nat.le_refl _⟩, ⟨by exact BK268.out⟩, ⟨by exact BK269.out⟩, ⟨by (with_reducible exact HB.out)⟩⟩
      case rest =>
       clear HC28
       obtain ⟨kq, x5_27, rfl, HA, HJ27, BK268, BK269, HB⟩ := hcut
       cases kq with
       | zero => exact absurd HA.out (by simp [zg.j2])
       | succ kj27 =>
        have H := HA.out
        clear HA
        simp only [zg.j2] at H
        have HC35 := za.mk H
        clear H
        go_upto_region 8 with (fail)
        go_cut [45] (fun v45 wc => ∃ (kq : Nat) (x45_34 : Bool), v45 = .bool x45_34 ∧ za (zg.j3 kq x5_27 x45_34 a0_0 a0_1 a0_2 a0_3 a0_4 l0_5 l0_6 a0_7 a0_8 a0_9 a1_0 a1_1 a1_2 a1_3 a1_4 l1_5 l1_6 a1_7 a1_8 a1_9 = some r) ∧ za (kq ≤ kj27) ∧ za (wc.heap[gb268]? = some (.cells #[.string a0_0, .string a0_1, .string a0_2, .string a0_3, .bool a0_4, (.slice A0_5 l0_5.length c0_5), (.slice A0_6 l0_6.length c0_6), .bool a0_7, .bool a0_8, .string a0_9] 33 (0, 0))) ∧ za (wc.heap[gb269]? = some (.cells #[.string a1_0, .string a1_1, .string a1_2, .string a1_3, .bool a1_4, (.slice A1_5 l1_5.length c1_5), (.slice A1_6 l1_6.length c1_6), .bool a1_7, .bool a1_8, .string a1_9] 33 (0, 0))) ∧ za (Below w.heap.size w wc))
        case first =>
         have H := HC35.out
         clear HC35
         by_cases c36 : x5_27 = 0
         ·rw [if_pos c36] at H
          have c36b0 : (x5_27 == 0) = true := beq_iff_eq.mpr c36
          have c36b1 : (x5_27 != 0) = false := bne_eq_false_iff_eq.mpr c36
          clear c36
          (first | rw [c36b0] | (simp only [i64_w, i32_w]; rw [c36b0]) | skip)
          by_cases c37 : a0_7 = true
          ·subst c37
           have H1 : (zg.j3 kj27 x5_27 a1_7 a0_0 a0_1 a0_2 a0_3 a0_4 l0_5 l0_6 true a0_8 a0_9 a1_0 a1_1 a1_2 a1_3 a1_4 l1_5 l1_6 a1_7 a1_8 a1_9) = some r := by rw [if_pos rfl] at H; exact H
           clear H
           have H := H1
           clear H1
           have H' := za.mk H
           clear H
           have hnb38 := NB268_269.out
           have hnc38 := NB269_268.out
           obtain ⟨hcz39_0, hcz39_1, hcz39_2, hcz39_3, hcz39_4, hcz39_5, hcz39_6, hcz39_7, hcz39_8, hcz39_9, _⟩ := cl10 BK268.out
           obtain ⟨hcz40_0, hcz40_1, hcz40_2, hcz40_3, hcz40_4, hcz40_5, hcz40_6, hcz40_7, hcz40_8, hcz40_9, _⟩ := cl10 BK269.out
           go_wp2
           go_meet
           case rel => exact ⟨_, (a1_7), (by rfl), H', ⟨by have := HJ2.out; have := HJ17.out; have := HJ27.out; first | omega | exact Nat.le_refl _⟩, ⟨by exact BK268.out⟩, ⟨by exact BK269.out⟩, ⟨by (with_reducible exact HB.out)⟩⟩
          ·replace c37 := Bool.eq_false_iff.mpr c37
           subst c37
           have H1 : (zg.j3 kj27 x5_27 false a0_0 a0_1 a0_2 a0_3 a0_4 l0_5 l0_6 false a0_8 a0_9 a1_0 a1_1 a1_2 a1_3 a1_4 l1_5 l1_6 a1_7 a1_8 a1_9) = some r := by rw [if_neg (show ¬ (false = true) by decide)] at H; exact H
           clear H
           have H := H1
           clear H1
           have H' := za.mk H
           clear H
           have hnb41 := NB268_269.out
           have hnc41 := NB269_268.out
           obtain ⟨hcz42_0, hcz42_1, hcz42_2, hcz42_3, hcz42_4, hcz42_5, hcz42_6, hcz42_7, hcz42_8, hcz42_9, _⟩ := cl10 BK268.out
           go_wp2
           go_meet
           case rel => exact ⟨_, (false), (by rfl), H', ⟨by have := HJ2.out; have := HJ17.out; have := HJ27.out; first | omega | exact Nat.le_refl _⟩, ⟨by exact BK268.out⟩, ⟨by exact BK269.out⟩, ⟨by (with_reducible exact HB.out)⟩⟩
         ·rw [if_neg c36] at H
          have c36b0 : (x5_27 == 0) = false := beq_eq_false_iff_ne.mpr c36
          have c36b1 : (x5_27 != 0) = true := bne_iff_ne.mpr c36
          (first | rw [c36b0] | (simp only [i64_w, i32_w]; rw [c36b0]) | skip)
          have H' := za.mk H
          clear H
          go_wp2
          go_meet
          case rel => exact ⟨_, (false), (by rfl), H', ⟨by have := HJ2.out; have := HJ17.out; have := HJ27.out; first | omega | exact Nat.le_refl _⟩, ⟨by exact BK268.out⟩, ⟨by exact BK269.out⟩, ⟨by (with_reducible exact HB.out)⟩⟩
        case rest =>
         clear HC35
         obtain ⟨kq, x45_34, rfl, HA, HJ34, BK268, BK269, HB⟩ := hcut
         cases kq with
         | zero => exact absurd HA.out (by simp [zg.j3])
         | succ kj34 =>
          have H := HA.out
          clear HA
          simp only [zg.j3] at H
          have HC43 := za.mk H
          clear H
          go_upto_if 45 with (fail)
          go_cut [5, 45] (fun v5 v45 wc => ∃ (kq : Nat) (x5_42 : Int), v5 = .int .i64 x5_42 ∧ za (zg.j4 kq x5_42 a0_0 a0_1 a0_2 a0_3 a0_4 l0_5 l0_6 a0_7 a0_8 a0_9 a1_0 a1_1 a1_2 a1_3 a1_4 l1_5 l1_6 a1_7 a1_8 a1_9 = some r) ∧ za (kq ≤ kj34) ∧ za (wc.heap[gb268]? = some (.cells #[.string a0_0, .string a0_1, .string a0_2, .string a0_3, .bool a0_4, (.slice A0_5 l0_5.length c0_5), (.slice A0_6 l0_6.length c0_6), .bool a0_7, .bool a0_8, .string a0_9] 33 (0, 0))) ∧ za (wc.heap[gb269]? = some (.cells #[.string a1_0, .string a1_1, .string a1_2, .string a1_3, .bool a1_4, (.slice A1_5 l1_5.length c1_5), (.slice A1_6 l1_6.length c1_6), .bool a1_7, .bool a1_8, .string a1_9] 33 (0, 0))) ∧ za (Below w.heap.size w wc))
          case first =>
           have H := HC43.out
           clear HC43
           by_cases c44 : x45_34 = true
           ·subst c44
            have H1 : ((zv.f kj34 a0_8 a0_9 a1_8 a1_9).bind fun t274 => (zg.j4 kj34 t274 a0_0 a0_1 a0_2 a0_3 a0_4 l0_5 l0_6 a0_7 a0_8 a0_9 a1_0 a1_1 a1_2 a1_3 a1_4 l1_5 l1_6 a1_7 a1_8 a1_9)) = some r := by rw [if_pos rfl] at H; exact H
            clear H
            have H := H1
            clear H1
            replace H := Option.bind_eq_some_iff.mp H
            obtain ⟨t274, A450, H⟩ := H
            replace H : (zg.j4 kj34 t274 a0_0 a0_1 a0_2 a0_3 a0_4 l0_5 l0_6 a0_7 a0_8 a0_9 a1_0 a1_1 a1_2 a1_3 a1_4 l1_5 l1_6 a1_7 a1_8 a1_9) = some r := H
            have A45 := za.mk A450
            clear A450
            have H' := za.mk H
            clear H
            have hnb46 := NB268_269.out
            have hnc46 := NB269_268.out
            obtain ⟨hcz47_0, hcz47_1, hcz47_2, hcz47_3, hcz47_4, hcz47_5, hcz47_6, hcz47_7, hcz47_8, hcz47_9, _⟩ := cl10 BK268.out
            obtain ⟨hcz48_0, hcz48_1, hcz48_2, hcz48_3, hcz48_4, hcz48_5, hcz48_6, hcz48_7, hcz48_8, hcz48_9, _⟩ := cl10 BK269.out
            go_wp2_with (((with_reducible refine zx (f := 35) rfl ?_); refine zdc (some 50) rfl rfl Tryz.func35 (by kernel_rfl) rfl #[.agg #[.bool a0_8, .string a0_9], .agg #[.bool a1_8, .string a1_9]] rfl (by (try simp only [List.map_toArray, List.map_cons, List.map_nil]); first | done | rfl | (simp only [List.length_drop, List.length_take]; rfl)) ?_; (with_reducible refine (zv.calls kj34 a0_8 a0_9 a1_8 a1_9 t274 _ A45.out).mono ?_); rintro e w49 ⟨rfl, hb⟩; refine ⟨_, rfl, ?_⟩; replace BK268 := za.mk (ze BK268.out hb); replace BK269 := za.mk (ze BK269.out hb); replace HB := za.mk (zm (by (with_reducible exact HB.out)) hb); (try clear hb); (try clear hb2); (try clear hk); (try clear hi)))
            go_meet
            case rel => exact ⟨_, (t274), (by rfl), H', ⟨by have := HJ2.out; have := HJ17.out; have := HJ27.out; have := HJ34.out; first | omega | exact Nat.le_refl _⟩, ⟨by exact BK268.out⟩, ⟨by exact BK269.out⟩, ⟨by (with_reducible exact HB.out)⟩⟩
           ·replace c44 := Bool.eq_false_iff.mpr c44
            subst c44
            have H1 : (zg.j4 kj34 x5_27 a0_0 a0_1 a0_2 a0_3 a0_4 l0_5 l0_6 a0_7 a0_8 a0_9 a1_0 a1_1 a1_2 a1_3 a1_4 l1_5 l1_6 a1_7 a1_8 a1_9) = some r := by rw [if_neg (show ¬ (false = true) by decide)] at H; exact H
            clear H
            have H := H1
            clear H1
            have H' := za.mk H
            clear H
            go_wp2
            go_meet
            case rel => exact ⟨_, (x5_27), (by rfl), H', ⟨by have := HJ2.out; have := HJ17.out; have := HJ27.out; have := HJ34.out; first | omega | exact Nat.le_refl _⟩, ⟨by exact BK268.out⟩, ⟨by exact BK269.out⟩, ⟨by (with_reducible exact HB.out)⟩⟩
          case rest =>
           clear HC43
           obtain ⟨kq, x5_42, rfl, HA, HJ42, BK268, BK269, HB⟩ := hcut
           cases kq with
           | zero => exact absurd HA.out (by simp [zg.j4])
           | succ kj42 =>
            have H := HA.out
            clear HA
            simp only [zg.j4] at H
            by_cases c50 : x5_42 = 0
            ·rw [if_pos c50] at H
             have c50b0 : (x5_42 == 0) = true := beq_iff_eq.mpr c50
             have c50b1 : (x5_42 != 0) = false := bne_eq_false_iff_eq.mpr c50
             clear c50
             have HC51 := za.mk H
             clear H
             go_upto_region 12 with (fail)
             go_cut [55] (fun v55 wc => ∃ (kq : Nat) (x55_50 : Bool), v55 = .bool x55_50 ∧ za (zg.j5 kq x55_50 a0_0 a0_1 a0_2 a0_3 a0_4 l0_5 l0_6 a0_7 a0_8 a0_9 a1_0 a1_1 a1_2 a1_3 a1_4 l1_5 l1_6 a1_7 a1_8 a1_9 = some r) ∧ za (kq ≤ kj42) ∧ za (wc.heap[gb268]? = some (.cells #[.string a0_0, .string a0_1, .string a0_2, .string a0_3, .bool a0_4, (.slice A0_5 l0_5.length c0_5), (.slice A0_6 l0_6.length c0_6), .bool a0_7, .bool a0_8, .string a0_9] 33 (0, 0))) ∧ za (wc.heap[gb269]? = some (.cells #[.string a1_0, .string a1_1, .string a1_2, .string a1_3, .bool a1_4, (.slice A1_5 l1_5.length c1_5), (.slice A1_6 l1_6.length c1_6), .bool a1_7, .bool a1_8, .string a1_9] 33 (0, 0))) ∧ za (Below w.heap.size w wc))
             case first =>
              have H := HC51.out
              clear HC51
              by_cases c52 : a0_1.toList = ([] : List UInt8)
              ·rw [if_pos c52] at H
               have c52b0 : (a0_1.toList == ([] : List UInt8)) = true := beq_iff_eq.mpr c52
               have c52b1 : (a0_1.toList != ([] : List UInt8)) = false := bne_eq_false_iff_eq.mpr c52
               try have c52b9 : a0_1.toList.isEmpty = true := by simpa using c52b0
               clear c52
               (first | rw [c52b0] | (simp only [i64_w, i32_w]; rw [c52b0]) | rw [c52b9] | skip)
               have H' := za.mk H
               clear H
               have hnb53 := NB268_269.out
               have hnc53 := NB269_268.out
               obtain ⟨hcz54_0, hcz54_1, hcz54_2, hcz54_3, hcz54_4, hcz54_5, hcz54_6, hcz54_7, hcz54_8, hcz54_9, _⟩ := cl10 BK268.out
               go_wp2
               go_meet
               case rel => exact ⟨_, (false), (by rfl), H', ⟨by have := HJ2.out; have := HJ17.out; have := HJ27.out; have := HJ34.out; have := HJ42.out; first | omega | exact Nat.le_refl _⟩, ⟨by exact BK268.out⟩, ⟨by exact BK269.out⟩, ⟨by (with_reducible exact HB.out)⟩⟩
              ·rw [if_neg c52] at H
               have c52b0 : (a0_1.toList == ([] : List UInt8)) = false := beq_eq_false_iff_ne.mpr c52
               have c52b1 : (a0_1.toList != ([] : List UInt8)) = true := bne_iff_ne.mpr c52
               try have c52b9 : a0_1.toList.isEmpty = false := by simpa using c52b0
               (first | rw [c52b0] | (simp only [i64_w, i32_w]; rw [c52b0]) | rw [c52b9] | skip)
               have H' := za.mk H
               clear H
               have hnb55 := NB268_269.out
               have hnc55 := NB269_268.out
               obtain ⟨hcz56_0, hcz56_1, hcz56_2, hcz56_3, hcz56_4, hcz56_5, hcz56_6, hcz56_7, hcz56_8, hcz56_9, _⟩ := cl10 BK268.out
               obtain ⟨hcz57_0, hcz57_1, hcz57_2, hcz57_3, hcz57_4, hcz57_5, hcz57_6, hcz57_7, hcz57_8, hcz57_9, _⟩ := cl10 BK269.out
               go_wp2
               go_meet
               case rel => exact ⟨_, ((a1_1.toList == ([] : List UInt8))), (by (simp; done)), H', ⟨by have := HJ2.out; have := HJ17.out; have := HJ27.out; have := HJ34.out; have := HJ42.out; first | omega | exact Nat.le_refl _⟩, ⟨by exact BK268.out⟩, ⟨by exact BK269.out⟩, ⟨by (with_reducible exact HB.out)⟩⟩
             case rest =>
              clear HC51
              clear c50b0 c50b1
              obtain ⟨kq, x55_50, rfl, HA, HJ50, BK268, BK269, HB⟩ := hcut
              cases kq with
              | zero => exact absurd HA.out (by simp [zg.j5])
              | succ kj50 =>
               have H := HA.out
               clear HA
               simp only [zg.j5] at H
               by_cases c58 : x55_50 = true
               ·subst c58
                have H1 : (some (-1)) = some r := by rw [if_pos rfl] at H; exact H
                clear H
                have H := H1
                clear H1
                obtain rfl := Option.some.inj H
                go_wp2
                go_ret
                exact ⟨by rfl, by (with_reducible exact HB.out)⟩
               ·replace c58 := Bool.eq_false_iff.mpr c58
                subst c58
                have H1 : (if a0_1.toList = ([] : List UInt8) then (if a1_1.toList = ([] : List UInt8) then (some 0) else (some 1)) else (some 0)) = some r := by rw [if_neg (show ¬ (false = true) by decide)] at H; exact H
                clear H
                have H := H1
                clear H1
                by_cases c59 : a0_1.toList = ([] : List UInt8)
                ·rw [if_pos c59] at H
                 have c59b0 : (a0_1.toList == ([] : List UInt8)) = true := beq_iff_eq.mpr c59
                 have c59b1 : (a0_1.toList != ([] : List UInt8)) = false := bne_eq_false_iff_eq.mpr c59
                 try have c59b9 : a0_1.toList.isEmpty = true := by simpa using c59b0
                 clear c59
                 by_cases c60 : a1_1.toList = ([] : List UInt8)
                 ·rw [if_pos c60] at H
                  have c60b0 : (a1_1.toList == ([] : List UInt8)) = true := beq_iff_eq.mpr c60
                  have c60b1 : (a1_1.toList != ([] : List UInt8)) = false := bne_eq_false_iff_eq.mpr c60
                  try have c60b9 : a1_1.toList.isEmpty = true := by simpa using c60b0
                  clear c60
                  obtain rfl := Option.some.inj H
                  have hnb61 := NB268_269.out
                  have hnc61 := NB269_268.out
                  obtain ⟨hcz62_0, hcz62_1, hcz62_2, hcz62_3, hcz62_4, hcz62_5, hcz62_6, hcz62_7, hcz62_8, hcz62_9, _⟩ := cl10 BK268.out
                  obtain ⟨hcz63_0, hcz63_1, hcz63_2, hcz63_3, hcz63_4, hcz63_5, hcz63_6, hcz63_7, hcz63_8, hcz63_9, _⟩ := cl10 BK269.out
                  go_wp2
                  go_ret
                  exact ⟨by rfl, by (with_reducible exact HB.out)⟩
                 ·rw [if_neg c60] at H
                  have c60b0 : (a1_1.toList == ([] : List UInt8)) = false := beq_eq_false_iff_ne.mpr c60
                  have c60b1 : (a1_1.toList != ([] : List UInt8)) = true := bne_iff_ne.mpr c60
                  try have c60b9 : a1_1.toList.isEmpty = false := by simpa using c60b0
                  obtain rfl := Option.some.inj H
                  have hnb64 := NB268_269.out
                  have hnc64 := NB269_268.out
                  obtain ⟨hcz65_0, hcz65_1, hcz65_2, hcz65_3, hcz65_4, hcz65_5, hcz65_6, hcz65_7, hcz65_8, hcz65_9, _⟩ := cl10 BK268.out
                  obtain ⟨hcz66_0, hcz66_1, hcz66_2, hcz66_3, hcz66_4, hcz66_5, hcz66_6, hcz66_7, hcz66_8, hcz66_9, _⟩ := cl10 BK269.out
                  go_wp2
                  go_ret
                  exact ⟨by rfl, by (with_reducible exact HB.out)⟩
                ·rw [if_neg c59] at H
                 have c59b0 : (a0_1.toList == ([] : List UInt8)) = false := beq_eq_false_iff_ne.mpr c59
                 have c59b1 : (a0_1.toList != ([] : List UInt8)) = true := bne_iff_ne.mpr c59
                 try have c59b9 : a0_1.toList.isEmpty = false := by simpa using c59b0
                 obtain rfl := Option.some.inj H
                 have hnb67 := NB268_269.out
                 have hnc67 := NB269_268.out
                 obtain ⟨hcz68_0, hcz68_1, hcz68_2, hcz68_3, hcz68_4, hcz68_5, hcz68_6, hcz68_7, hcz68_8, hcz68_9, _⟩ := cl10 BK268.out
                 go_wp2
                 go_ret
                 exact ⟨by rfl, by (with_reducible exact HB.out)⟩
            ·rw [if_neg c50] at H
             have c50b0 : (x5_42 == 0) = false := beq_eq_false_iff_ne.mpr c50
             have c50b1 : (x5_42 != 0) = true := bne_iff_ne.mpr c50
             obtain rfl := Option.some.inj H
             go_wp2
             go_ret
             exact ⟨by rfl, by (with_reducible exact HB.out)⟩
end Go.Proofs.YtapaijpglfmfgaaGreatDoor.Q
end
section
namespace Go.Proofs.YtapaijpglfmfgaaGreatDoor.V
open Go.RowKit YtapaijpglfmfgaaGreatDoor.Q YtapaijpglfmfgaaGreatDoorG YtapaijpglfmfgaaGreatDoorP YtapaijpglfmfgaaGreatDoorH YtapaijpglfmfgaaGreatDoorB YtapaijpglfmfgaaGreatDoorM YtapaijpglfmfgaaGreatDoorW.PrintWords YtapaijpglfmfgaaGreatDoorW.PrintLast YtapaijpglfmfgaaGreatDoorW.PrintMore
theorem zii : ∀ a b : List Int, -1 ≤ cmp_ a b ∧ cmp_ a b ≤ 1
 | [], [] => by simp only [cmp_]; omega
 | [], _ :: _ => by simp only [cmp_]; omega
 | _ :: _, [] => by simp only [cmp_]; omega
 | x :: a, y :: b => by
  have := zii a b
  simp only [cmp_]
  repeat' split
  all_goals omega
theorem order_eq (x y : ByteArray) : zdd.f x y = some (cmp_ (bytesOf x) (bytesOf y)) := by
 unfold zdd.f
 rw [bytesLess_B, bytesLess_B]
 have h1 := cmp_lt (bytesOf x) (bytesOf y)
 have h2 := cmp_lt (bytesOf y) (bytesOf x)
 rw [cmp_neg (bytesOf x) (bytesOf y)] at h2
 obtain ⟨r1, r2⟩ := zii (bytesOf x) (bytesOf y)
 by_cases c1 : lt_ (bytesOf x) (bytesOf y) = true
 ·rw [if_pos c1]
  have := h1.2 c1
  congr 1
  omega
 ·rw [if_neg c1]
  have d1 : ¬ cmp_ (bytesOf x) (bytesOf y) < 0 := fun h => c1 (h1.1 h)
  by_cases c2 : lt_ (bytesOf y) (bytesOf x) = true
  ·rw [if_pos c2]
   have := h2.2 c2
   congr 1
   omega
  ·rw [if_neg c2]
   have d2 : ¬ -cmp_ (bytesOf x) (bytesOf y) < 0 := fun h => c2 (h2.1 h)
   congr 1
   omega
theorem cmpN_V (a b : Nat) : cmpN a b = cmpV a b := rfl
theorem tidy_ev (n : Nat) : Ev (fun k => zgc.f k false (magB n)) (false, magB n) := by
 refine Ev.succ ?_
 simp only [zgc.f, zgc.l0]
 by_cases h : (magB n).size = 0
 ·refine Ev.neg (fun _ => by omega) ?_
  refine Ev.neg (fun _ => Bool.false_ne_true) ?_
  exact Ev.now _
 ·refine Ev.pos (fun _ => by omega) ?_
  refine Ev.pos (fun _ => by omega) ?_
  rw [zci, B_mag]
  have h0 : n ≠ 0 := by
   rintro rfl
   exact h (by rw [zcc, B_mag, magL_nil.2 rfl]; rfl)
  refine Ev.neg (fun _ => magL_head h0) ?_
  refine Ev.neg (fun _ => Bool.false_ne_true) ?_
  exact Ev.now _
theorem zbi (a b : Nat) : Ev (fun k => zv.f k false (magB a) false (magB b)) (cmpN a b) := by
 simp only [zv.f]
 refine Ev.bind (tidy_ev a) ?_
 refine Ev.bind (tidy_ev b) ?_
 refine Ev.neg (fun _ => Bool.false_ne_true) ?_
 refine Ev.succ ?_
 simp only [zv.j0]
 refine Ev.neg (fun _ => Bool.false_ne_true) ?_
 refine Ev.neg (fun _ => Bool.false_ne_true) ?_
 refine Ev.succ ?_
 simp only [zv.j1]
 refine Ev.neg (fun _ => Bool.false_ne_true) ?_
 refine Ev.neg (fun _ => Bool.false_ne_true) ?_
 refine Ev.succ ?_
 simp only [zv.j2]
 have e1 : (magB a).size = (magL a).length := by rw [zcc, B_mag]
 have e2 : (magB b).size = (magL b).length := by rw [zcc, B_mag]
 rw [cmpN_V, cmp_mag, e1, e2]
 by_cases h : (magL a).length = (magL b).length
 ·refine Ev.pos (fun _ => by omega) ?_
  refine Ev.bind0 (order_eq _ _) ?_
  rw [B_mag, B_mag]
  refine Ev.eq (Ev.now _) ?_
  rw [if_neg (by omega), if_neg (by omega)]
 ·refine Ev.neg (fun _ => by omega) ?_
  unfold zad.f
  by_cases h1 : (magL a).length < (magL b).length
  ·rw [if_pos (by omega), if_pos h1]
   refine Ev.bind0 rfl ?_
   exact Ev.now _
  ·rw [if_neg (by omega), if_pos (by omega), if_neg h1, if_pos (by omega)]
   refine Ev.bind0 rfl ?_
   exact Ev.now _
structure PG (p : PV) : Prop where
 c : ∀ d ∈ p.c, d ≠ [] ∧ (∀ x ∈ d, isD x = true) ∧ d.length ≤ 100000
 cl : p.c.length ≤ 200000
 s : ∀ x ∈ p.s, x.1 ∈ zbc ∧ (∀ c ∈ x.2, isD c = true) ∧ x.2.length ≤ 100000
 sl : p.s.length ≤ 200000
def nmL (c : List (List Int)) : List Nm := (c.map strOfNums).map toNm
def sxL (s : List (List Int × List Int)) : List Sx := (s.map convS).map toSx
theorem toNm_dig {d : List Int} (h : ∀ x ∈ d, isD x = true) : toNm (strOfNums d) = ⟨strOfNums d, 0, decL d⟩ := by
 unfold toNm
 rw [dv_all, zdg h]
theorem numsA_get (c : List (List Int)) (k : Nat) : (numsA c)[k]? = c[k]?.map (fun d => (⟨strOfNums d, ⟨false, magB (decL d)⟩, (k : Int)⟩ : S52)) := by
 unfold numsA
 rw [List.getElem?_map, List.getElem?_zipIdx]
 cases c[k]? <;> simp
theorem zmj {c : List (List Int)} (hc : ∀ d ∈ c, d ≠ [] ∧ (∀ x ∈ d, isD x = true) ∧ d.length ≤ 100000) (k : Nat) :
  zbd.f (numsA c) (k : Int) = some (nmO (nmL c) k, false, magB (nmN (nmL c) k), (nmI (nmL c) k : Int)) := by
 unfold zbd.f nmO nmN nmI nmL
 rw [zrf]
 have hg : ((c.map strOfNums).map toNm)[k]? = c[k]?.map (fun d => toNm (strOfNums d)) := by simp only [List.getElem?_map, Option.map_map]; rfl
 rw [hg]
 cases e : c[k]? with
 | none =>
  have := List.getElem?_eq_none_iff.1 e
  rw [if_neg (by omega)]
  rfl
 | some d =>
  have hk : k < c.length := (List.getElem?_eq_some_iff.1 e).1
  rw [if_pos (by omega), if_pos (by omega)]
  have hr : zld (numsA c) (k : Int) = ⟨strOfNums d, ⟨false, magB (decL d)⟩, (k : Int)⟩ := by
   unfold zld
   rw [Int.toNat_natCast, List.getD_eq_getElem?_getD, numsA_get, e]
   rfl
  rw [hr]
  simp only [Option.map_some]
  rw [toNm_dig (hc d (List.mem_of_getElem? e)).2.1]
theorem nmO_pos' {c : List (List Int)} (hc : ∀ d ∈ c, d ≠ [] ∧ (∀ x ∈ d, isD x = true) ∧ d.length ≤ 100000) (k : Nat) : 0 < (nmO (nmL c) k).size := by
 unfold nmO nmL
 have hg : ((c.map strOfNums).map toNm)[k]? = c[k]?.map (fun d => toNm (strOfNums d)) := by simp only [List.getElem?_map, Option.map_map]; rfl
 rw [hg]
 cases e : c[k]? with
 | none => decide
 | some d =>
  obtain ⟨h0, h1, _⟩ := hc d (List.mem_of_getElem? e)
  show 0 < (toNm (strOfNums d)).o.size
  rw [toNm_dig h1]
  show 0 < (strOfNums d).size
  rw [zcc, zdg h1]
  exact List.length_pos_iff.2 h0
theorem alpNumbers_from {c c' : List (List Int)} (hc : ∀ d ∈ c, d ≠ [] ∧ (∀ x ∈ d, isD x = true) ∧ d.length ≤ 100000) (hc' : ∀ d ∈ c', d ≠ [] ∧ (∀ x ∈ d, isD x = true) ∧ d.length ≤ 100000) (hl : c.length ≤ 200000) (hl' : c'.length ≤ 200000) : ∀ (n k : Nat), max c.length c'.length - k = n → k ≤ 200000 →
  Ev (fun m => zn.l0 m (numsA c) (numsA c') (k : Int)) (fromC (numD (nmL c) (nmL c')) n k) := by
 intro n
 induction n with
 | zero =>
  intro k hn hk
  refine Ev.succ ?_
  simp only [zn.l0, zrf]
  refine Ev.neg (fun _ => by omega) ?_
  have e : decide ((k : Int) < (c'.length : Int)) = false := decide_eq_false (by omega)
  rw [e]
  refine Ev.succ ?_
  simp only [zn.j1]
  refine Ev.neg (fun _ => Bool.false_ne_true) ?_
  exact Ev.now _
 | succ n ih =>
  intro k hn hk
  have next := ih (k + 1) (by omega) (by omega)
  have hk1 : wrap64 ((k : Int) + 1) = ((k + 1 : Nat) : Int) := by rw [w64 (by omega) (by omega)]; omega
  have main : Ev (fun m => zn.j1 m (numsA c) (numsA c') (k : Int) true) (fromC (numD (nmL c) (nmL c')) (n + 1) k) := by
   refine Ev.succ ?_
   simp only [zn.j1]
   refine Ev.pos (fun _ => by first | rfl | trivial) ?_
   refine Ev.bind0 (zmj hc k) ?_
   refine Ev.bind0 (zmj hc' k) ?_
   refine Ev.bind (zbi _ _) ?_
   rw [zdf]
   have byN : ∀ (a1 : ByteArray) (a2 : Bool) (a3 : ByteArray) (a4 : Int) (b1 : ByteArray) (b2 : Bool) (b3 : ByteArray) (b4 : Int), numD (nmL c) (nmL c') k = cmpN (nmN (nmL c) k) (nmN (nmL c') k) →
     Ev (fun m => zn.j2 m (numsA c) (numsA c') (k : Int) (cmpN (nmN (nmL c) k) (nmN (nmL c') k)) false a1 a2 a3 a4 b1 b2 b3 b4) (zgb (numD (nmL c) (nmL c') k) (fromC (numD (nmL c) (nmL c')) n (k + 1))) := by
    intro a1 a2 a3 a4 b1 b2 b3 b4 he
    refine Ev.succ ?_
    simp only [zn.j2]
    refine Ev.neg (fun _ => Bool.false_ne_true) ?_
    rw [he]
    unfold zgb
    by_cases h0 : cmpN (nmN (nmL c) k) (nmN (nmL c') k) = 0
    ·rw [if_pos h0]
     refine Ev.pos (fun _ => h0) ?_
     rw [hk1]
     exact next
    ·rw [if_neg h0]
     refine Ev.neg (fun _ => h0) ?_
     exact Ev.now _
   have byT : ∀ (r : Int) (a2 : Bool) (a3 : ByteArray) (a4 : Int) (b2 : Bool) (b3 : ByteArray) (b4 : Int), numD (nmL c) (nmL c') k = zqf (nmO (nmL c) k) (nmO (nmL c') k) →
     Ev (fun m => zn.j2 m (numsA c) (numsA c') (k : Int) r true (nmO (nmL c) k) a2 a3 a4 (nmO (nmL c') k) b2 b3 b4) (zgb (numD (nmL c) (nmL c') k) (fromC (numD (nmL c) (nmL c')) n (k + 1))) := by
    intro r a2 a3 a4 b2 b3 b4 he
    refine Ev.succ ?_
    simp only [zn.j2]
    refine Ev.pos (fun _ => by first | rfl | trivial) ?_
    refine Ev.bind0 (order_eq _ _) ?_
    rw [he, zpg]
    unfold zgb
    by_cases h0 : cmp_ (bytesOf (nmO (nmL c) k)) (bytesOf (nmO (nmL c') k)) = 0
    ·rw [if_pos h0]
     refine Ev.pos (fun _ => h0) ?_
     rw [hk1]
     exact next
    ·rw [if_neg h0]
     refine Ev.neg (fun _ => h0) ?_
     exact Ev.now _
   by_cases i1 : nmI (nmL c) k = 0
   ·refine Ev.pos (fun _ => by show ((nmI (nmL c) k : Nat) : Int) = 0; omega) ?_
    exact byN _ _ _ _ _ _ _ _ (by unfold numD numC; rw [if_neg (fun h => h.1 i1)])
   refine Ev.neg (fun _ => by show ¬ ((nmI (nmL c) k : Nat) : Int) = 0; omega) ?_
   by_cases i2 : nmI (nmL c') k = 0
   ·refine Ev.pos (fun _ => by show ((nmI (nmL c') k : Nat) : Int) = 0; omega) ?_
    exact byN _ _ _ _ _ _ _ _ (by unfold numD numC; rw [if_neg (fun h => h.2.1 i2)])
   refine Ev.neg (fun _ => by show ¬ ((nmI (nmL c') k : Nat) : Int) = 0; omega) ?_
   have p1 := nmO_pos' hc k
   have p2 := nmO_pos' hc' k
   refine Ev.pos (fun _ => by show (0 : Int) < ((nmO (nmL c) k).size : Int); omega) ?_
   by_cases z1 : bt (nmO (nmL c) k) 0 = 48
   ·refine Ev.pos (fun _ => z1) ?_
    exact byT _ _ _ _ _ _ _ (by unfold numD numC; rw [if_pos ⟨i1, i2, .inl z1⟩])
   refine Ev.neg (fun _ => z1) ?_
   refine Ev.pos (fun _ => by show (0 : Int) < ((nmO (nmL c') k).size : Int); omega) ?_
   by_cases z2 : bt (nmO (nmL c') k) 0 = 48
   ·have e : (bt (nmO (nmL c') k) 0 == 48) = true := beq_iff_eq.2 z2
    show Ev (fun m => zn.j2 m (numsA c) (numsA c') (k : Int) _ (bt (nmO (nmL c') k) 0 == 48) (nmO (nmL c) k) _ _ _ (nmO (nmL c') k) _ _ _) _
    rw [e]
    exact byT _ _ _ _ _ _ _ (by unfold numD numC; rw [if_pos ⟨i1, i2, .inr z2⟩])
   ·have e : (bt (nmO (nmL c') k) 0 == 48) = false := beq_eq_false_iff_ne.2 z2
    show Ev (fun m => zn.j2 m (numsA c) (numsA c') (k : Int) _ (bt (nmO (nmL c') k) 0 == 48) _ _ _ _ _ _ _ _) _
    rw [e]
    exact byN _ _ _ _ _ _ _ _ (by unfold numD numC; rw [if_neg (fun h => h.2.2.elim z1 z2)])
  refine Ev.succ ?_
  simp only [zn.l0, zrf]
  by_cases h : k < c.length
  ·refine Ev.pos (fun _ => by omega) ?_
   exact main
  ·refine Ev.neg (fun _ => by omega) ?_
   have e : decide ((k : Int) < (c'.length : Int)) = true := decide_eq_true (by omega)
   rw [e]
   exact main
theorem alpNumbers_ev {p q : PV} (hp : PG p) (hq : PG q) : Ev (fun m => zn.f m (numsA p.c) (numsA q.c)) (zge (nmL p.c) (nmL q.c)) := by
 have h := alpNumbers_from hp.c hq.c hp.cl hq.cl _ 0 rfl (by omega)
 refine Ev.eq h ?_
 unfold zge nmL
 simp only [List.length_map, Nat.sub_zero]
def Beyond (s : List (List Int × List Int)) (n : Nat) : Prop := ∀ k x, n ≤ k → s[k]? = some x → (wgt x.1 : Int) ≠ 4 ∧ (wgt x.1 : Int) ≠ 5
theorem sufsA_get (s : List (List Int × List Int)) (k : Nat) : (sufsA s)[k]? = s[k]?.map (fun x => (⟨(wgt x.1 : Int), ⟨false, magB (decL x.2)⟩⟩ : S56)) := by
 unfold sufsA
 rw [List.getElem?_map]
theorem zxi {s : List (List Int × List Int)} {k : Nat} {x : List Int × List Int} (e : s[k]? = some x) : zcd (sufsA s) (k : Int) = ⟨(wgt x.1 : Int), ⟨false, magB (decL x.2)⟩⟩ := by
 unfold zcd
 rw [Int.toNat_natCast, List.getD_eq_getElem?_getD, sufsA_get, e]
 rfl
theorem sxL_get (s : List (List Int × List Int)) (k : Nat) : (sxL s)[k]? = s[k]?.map (fun x => toSx (convS x)) := by
 unfold sxL
 simp only [List.getElem?_map, Option.map_map]
 rfl
theorem sxL_at {s : List (List Int × List Int)} (hs : ∀ x ∈ s, x.1 ∈ zbc ∧ (∀ c ∈ x.2, isD c = true) ∧ x.2.length ≤ 100000) {k : Nat} {x : List Int × List Int} (e : s[k]? = some x) : sxW (sxL s) k = (wgt x.1 : Int) ∧ sxN (sxL s) k = decL x.2 := by
 obtain ⟨_, h1, h2⟩ := hs x (List.mem_of_getElem? e)
 have ht : toSx (convS x) = ⟨(wgt x.1 : Int), 0, decL x.2⟩ := toSx_at (w := x.1) h1 (by omega)
 unfold sxW sxN
 rw [sxL_get, e]
 simp only [Option.map_some]
 rw [ht]
 exact ⟨rfl, rfl⟩
theorem sxL_none {s : List (List Int × List Int)} {k : Nat} (e : s[k]? = none) : sxW (sxL s) k = 5 ∧ sxN (sxL s) k = 0 := by
 unfold sxW sxN
 rw [sxL_get, e]
 exact ⟨rfl, rfl⟩
theorem orderInts_eq (a b : Int) : zad.f a b = some (if a > b then 1 else if a < b then -1 else 0) := by
 unfold zad.f
 repeat' split
 all_goals first | rfl | (exfalso; omega)
theorem suf_j3 (x0 x1 : List S56) (k : Nat) (w1 w2 : Int) (n1 n2 : Nat) {F : Int} (hk : k ≤ 200000) (next : Ev (fun m => zq.l0 m x0 x1 ((k + 1 : Nat) : Int)) F) :
  Ev (fun m => zq.j3 m x0 x1 (k : Int) w1 false (magB n1) w2 false (magB n2)) (zgb (sufC w1 n1 w2 n2) F) := by
 have hk1 : wrap64 ((k : Int) + 1) = ((k + 1 : Nat) : Int) := by rw [w64 (by omega) (by omega)]; omega
 refine Ev.succ ?_
 simp only [zq.j3]
 refine Ev.bind0 (orderInts_eq w1 w2) ?_
 rw [sufC_ne]
 by_cases h0 : (if w1 > w2 then (1 : Int) else if w1 < w2 then -1 else 0) = 0
 ·refine Ev.pos (fun _ => h0) ?_
  refine Ev.bind (zbi n1 n2) ?_
  rw [h0]
  unfold zgb
  rw [if_pos rfl]
  by_cases h1 : cmpN n1 n2 = 0
  ·rw [if_pos h1]
   refine Ev.pos (fun _ => h1) ?_
   rw [hk1]
   exact next
  ·rw [if_neg h1]
   refine Ev.neg (fun _ => h1) ?_
   exact Ev.now _
 ·refine Ev.neg (fun _ => h0) ?_
  refine Ev.eq (Ev.now _) ?_
  unfold zgb
  rw [if_neg h0, if_neg h0]
theorem sufC_far {w : Int} (h : w ≠ 4 ∧ w ≠ 5) (n m : Nat) : sufC w n 4 m = sufC w n 5 m ∧ sufC 4 m w n = sufC 5 m w n := by
 unfold sufC
 constructor
 ·by_cases c : w > 5
  ·rw [if_pos (by omega), if_pos c]
  ·rw [if_neg (by omega), if_pos (by omega), if_neg c, if_pos (by omega)]
 ·by_cases c : w > 5
  ·rw [if_neg (by omega), if_pos (by omega), if_neg (by omega), if_pos (by omega)]
  ·rw [if_pos (by omega), if_pos (by omega)]
theorem mag_zero : magB 0 = (⟨#[]⟩ : ByteArray) := rfl
theorem zrj {s s' : List (List Int × List Int)} (hs : ∀ x ∈ s, x.1 ∈ zbc ∧ (∀ c ∈ x.2, isD c = true) ∧ x.2.length ≤ 100000) (hs' : ∀ x ∈ s', x.1 ∈ zbc ∧ (∀ c ∈ x.2, isD c = true) ∧ x.2.length ≤ 100000) (hl : s.length ≤ 200000) (hl' : s'.length ≤ 200000) (hb : Beyond s s'.length) (hb' : Beyond s' s.length) : ∀ (n k : Nat), max s.length s'.length - k = n → k ≤ 200000 →
  Ev (fun m => zq.l0 m (sufsA s) (sufsA s') (k : Int)) (fromC (sufD (sxL s) (sxL s')) n k) := by
 intro n
 induction n with
 | zero =>
  intro k hn hk
  refine Ev.succ ?_
  simp only [zq.l0, zfd]
  refine Ev.neg (fun _ => by omega) ?_
  have e : decide ((k : Int) < (s'.length : Int)) = false := decide_eq_false (by omega)
  rw [e]
  refine Ev.succ ?_
  simp only [zq.j1]
  refine Ev.neg (fun _ => Bool.false_ne_true) ?_
  exact Ev.now _
 | succ n ih =>
  intro k hn hk
  have next := ih (k + 1) (by omega) (by omega)
  have main : Ev (fun m => zq.j1 m (sufsA s) (sufsA s') (k : Int) true) (fromC (sufD (sxL s) (sxL s')) (n + 1) k) := by
   refine Ev.succ ?_
   simp only [zq.j1, zfd]
   refine Ev.pos (fun _ => by first | rfl | trivial) ?_
   rw [zdf]
   cases e : s[k]? with
   | none =>
    have h1 := List.getElem?_eq_none_iff.1 e
    obtain ⟨a1, a2⟩ := sxL_none e
    refine Ev.neg (fun _ => by omega) ?_
    have hk' : k < s'.length := by omega
    have e' : s'[k]? = some s'[k] := List.getElem?_eq_getElem hk'
    obtain ⟨b1, b2⟩ := sxL_at hs' e'
    refine Ev.succ ?_
    simp only [zq.j2, zfd]
    refine Ev.pos (fun _ => by omega) ?_
    refine Ev.pos (fun _ => by omega) ?_
    rw [zxi e', ← mag_zero]
    refine Ev.eq (suf_j3 _ _ k 4 _ 0 _ hk next) ?_
    unfold sufD
    rw [a1, a2, b1, b2, (sufC_far (hb' k _ h1 e') _ _).2]
   | some x =>
    have h1 : k < s.length := (List.getElem?_eq_some_iff.1 e).1
    obtain ⟨a1, a2⟩ := sxL_at hs e
    refine Ev.pos (fun _ => by omega) ?_
    refine Ev.pos (fun _ => by omega) ?_
    rw [zxi e]
    refine Ev.succ ?_
    simp only [zq.j2, zfd]
    cases e' : s'[k]? with
    | none =>
     have h2 := List.getElem?_eq_none_iff.1 e'
     obtain ⟨b1, b2⟩ := sxL_none e'
     refine Ev.neg (fun _ => by omega) ?_
     rw [← mag_zero]
     refine Ev.eq (suf_j3 _ _ k _ 4 _ 0 hk next) ?_
     unfold sufD
     rw [a1, a2, b1, b2, (sufC_far (hb k _ h2 e) _ _).1]
    | some y =>
     have h2 : k < s'.length := (List.getElem?_eq_some_iff.1 e').1
     obtain ⟨b1, b2⟩ := sxL_at hs' e'
     refine Ev.pos (fun _ => by omega) ?_
     refine Ev.pos (fun _ => by omega) ?_
     rw [zxi e']
     refine Ev.eq (suf_j3 _ _ k _ _ _ _ hk next) ?_
     unfold sufD
     rw [a1, a2, b1, b2]
  refine Ev.succ ?_
  simp only [zq.l0, zfd]
  by_cases h : k < s.length
  ·refine Ev.pos (fun _ => by omega) ?_
   exact main
  ·refine Ev.neg (fun _ => by omega) ?_
   have e : decide ((k : Int) < (s'.length : Int)) = true := decide_eq_true (by omega)
   rw [e]
   exact main
theorem alpSuffixes_ev {p q : PV} (hp : PG p) (hq : PG q) (hb : Beyond p.s q.s.length) (hb' : Beyond q.s p.s.length) : Ev (fun m => zq.f m (sufsA p.s) (sufsA q.s)) (sufsC (sxL p.s) (sxL q.s)) := by
 have h := zrj hp.s hq.s hp.sl hq.sl hb hb' _ 0 rfl (by omega)
 refine Ev.eq h ?_
 unfold sufsC sxL
 simp only [List.length_map, Nat.sub_zero]
theorem beyond_true {s : List (List Int × List Int)} (hl : s.length ≤ 200000) : ∀ (m n : Nat), s.length - n = m → n ≤ 200000 → Ev (fun k => zbb.l0 k (sufsA s) (n : Int)) true → Beyond s n := by
 intro m
 induction m with
 | zero =>
  intro n hm hn _ k x hk e
  have := (List.getElem?_eq_some_iff.1 e).1
  omega
 | succ m ih =>
  intro n hm hn h k x hk e
  have hlt : n < s.length := by omega
  have e0 : s[n]? = some s[n] := List.getElem?_eq_getElem hlt
  obtain ⟨k0, h0⟩ := h
  have h1 := h0 (k0 + 1) (by omega)
  simp only [zbb.l0, zfd] at h1
  rw [if_pos (by omega), if_pos (by omega), zxi e0] at h1
  by_cases c4 : (wgt s[n].1 : Int) = 4
  ·rw [if_pos c4] at h1; cases h1
  rw [if_neg c4] at h1
  by_cases c5 : (wgt s[n].1 : Int) = 5
  ·rw [if_pos c5] at h1; cases h1
  rw [if_neg c5] at h1
  by_cases hkn : k = n
  ·subst hkn
   rw [e0] at e
   cases e
   exact ⟨c4, c5⟩
  ·refine ih (n + 1) (by omega) (by omega) ⟨k0, fun j hj => ?_⟩ k x (by omega) e
   have h2 := h0 (j + 1) (by omega)
   simp only [zbb.l0, zfd] at h2
   rw [if_pos (by omega), if_pos (by omega), zxi e0, if_neg c4, if_neg c5, w64 (i := (n : Int) + 1) (by omega) (by omega)] at h2
   exact h2
theorem zhi {c : List (List Int)} (hc : ∀ d ∈ c, d ≠ [] ∧ (∀ x ∈ d, isD x = true) ∧ d.length ≤ 100000) (hl : c.length ≤ 200000) : ∀ (m n : Nat), c.length - n = m → n ≤ 200000 → Ev (fun k => zob.l0 k (numsA c) (n : Int)) true := by
 intro m
 induction m with
 | zero =>
  intro n hm hn
  refine Ev.succ ?_
  simp only [zob.l0, zrf]
  refine Ev.neg (fun _ => by omega) ?_
  exact Ev.now _
 | succ m ih =>
  intro n hm hn
  have hlt : n < c.length := by omega
  have e : c[n]? = some c[n] := List.getElem?_eq_getElem hlt
  have hr : zld (numsA c) (n : Int) = ⟨strOfNums c[n], ⟨false, magB (decL c[n])⟩, (n : Int)⟩ := by
   unfold zld
   rw [Int.toNat_natCast, List.getD_eq_getElem?_getD, numsA_get, e]
   rfl
  obtain ⟨h0, h1, _⟩ := hc c[n] (List.mem_of_getElem? e)
  refine Ev.succ ?_
  simp only [zob.l0, zrf]
  refine Ev.pos (fun _ => by omega) ?_
  refine Ev.pos (fun _ => by omega) ?_
  rw [hr]
  refine Ev.neg (fun _ e => h0 (by have := (zvb _).1 e; rwa [zdg h1] at this)) ?_
  rw [w64 (i := (n : Int) + 1) (by omega) (by omega)]
  exact ih (n + 1) (by omega) (by omega)
theorem known_tells {p q : PV} (hp : PG p) (hq : PG q) (o r l h m o' r' l' h' m' : ByteArray) (hb ng hb' ng' : Bool) :
  ∃ t, Ev (fun k => zyb.f k o r l h p.i (numsA p.c) (sufsA p.s) hb ng m o' r' l' h' q.i (numsA q.c) (sufsA q.s) hb' ng' m') t ∧ (t = true → p.i = q.i ∧ Beyond p.s q.s.length ∧ Beyond q.s p.s.length) := by
 obtain ⟨q3, e3⟩ := zsi (sufsA p.s) (by rw [zfd]; have := hp.sl; omega) _ (sufsA q.s).length rfl (by rw [zfd]; have := hq.sl; omega)
 obtain ⟨q4, e4⟩ := zsi (sufsA q.s) (by rw [zfd]; have := hq.sl; omega) _ (sufsA p.s).length rfl (by rw [zfd]; have := hp.sl; omega)
 have e1 := zhi hp.c hp.cl _ 0 rfl (by omega)
 have e2 := zhi hq.c hq.cl _ 0 rfl (by omega)
 simp only [zyb.f, zob.f, zbb.f]
 by_cases c : (p.i == q.i) = true
 case neg => exact ⟨false, Ev.neg (fun _ => c) (Ev.now _), fun h => by cases h⟩
 cases q3
 ·exact ⟨false, Ev.pos (fun _ => c) (Ev.bind e1 (Ev.pos (fun _ => rfl) (Ev.bind e2 (Ev.pos (fun _ => rfl) (Ev.bind e3 (Ev.neg (fun _ => Bool.false_ne_true) (Ev.now _))))))), fun h => by cases h⟩
 refine ⟨q4, Ev.pos (fun _ => c) (Ev.bind e1 (Ev.pos (fun _ => rfl) (Ev.bind e2 (Ev.pos (fun _ => rfl) (Ev.bind e3 (Ev.pos (fun _ => rfl) (Ev.bind e4 (Ev.now _)))))))), fun h => ?_⟩
 subst h
 rw [zfd] at e3 e4
 exact ⟨eq_of_beq c, beyond_true hp.sl _ _ rfl hq.sl e3, beyond_true hq.sl _ _ rfl hp.sl e4⟩
theorem firstNe0 (a : Int) : zgb a 0 = a := by
 unfold zgb
 split
 ·rename_i h; exact h.symm
 ·rfl
theorem rem_range (a b : ByteArray) : -1 ≤ zod a b ∧ zod a b ≤ 1 := by
 unfold zod
 repeat' split
 all_goals omega
theorem compare_ev {p q : PV} (hp : PG p) (hq : PG q) (hb : Beyond p.s q.s.length) (hb' : Beyond q.s p.s.length) (h h' : ByteArray) :
  Ev (fun k => zg.f k (strOfNums p.o) (strOfNums p.r) (strOfNums p.l) h p.i (numsA p.c) (sufsA p.s) true false (magB (decL p.b)) (strOfNums q.o) (strOfNums q.r) (strOfNums q.l) h' q.i (numsA q.c) (sufsA q.s) true false (magB (decL q.b))) (apC (apOf p) (apOf q)) := by
 obtain ⟨o, hO⟩ : ∃ o, o = strOfNums p.o := ⟨_, rfl⟩
 obtain ⟨o', hO'⟩ : ∃ o, o = strOfNums q.o := ⟨_, rfl⟩
 obtain ⟨r, hR⟩ : ∃ o, o = strOfNums p.r := ⟨_, rfl⟩
 obtain ⟨r', hR'⟩ : ∃ o, o = strOfNums q.r := ⟨_, rfl⟩
 obtain ⟨l, hL⟩ : ∃ o, o = strOfNums p.l := ⟨_, rfl⟩
 obtain ⟨l', hL'⟩ : ∃ o, o = strOfNums q.l := ⟨_, rfl⟩
 have eN := alpNumbers_ev hp hq
 have eS := alpSuffixes_ev hp hq hb hb'
 have eB := zbi (decL p.b) (decL q.b)
 have goal : apC (apOf p) (apOf q) = if p.i = true ∧ q.i = true then zqf o o' else zgb (zge (nmL p.c) (nmL q.c)) (zgb (zqc l l') (zgb (sufsC (sxL p.s) (sxL q.s)) (zgb (cmpN (decL p.b) (decL q.b)) (zgb (zod r r') 0)))) := by
  rw [hO, hO', hR, hR', hL, hL']
  rfl
 rw [goal, ← hO, ← hO', ← hR, ← hR', ← hL, ← hL']
 clear goal hO hO' hR hR' hL hL'
 obtain ⟨n1, e1⟩ : ∃ x, x = numsA p.c := ⟨_, rfl⟩
 obtain ⟨n2, e2⟩ : ∃ x, x = numsA q.c := ⟨_, rfl⟩
 obtain ⟨s1, e3⟩ : ∃ x, x = sufsA p.s := ⟨_, rfl⟩
 obtain ⟨s2, e4⟩ : ∃ x, x = sufsA q.s := ⟨_, rfl⟩
 obtain ⟨m1, e5⟩ : ∃ x, x = magB (decL p.b) := ⟨_, rfl⟩
 obtain ⟨m2, e6⟩ : ∃ x, x = magB (decL q.b) := ⟨_, rfl⟩
 rw [← e1, ← e2] at eN
 rw [← e3, ← e4] at eS
 rw [← e5, ← e6] at eB
 rw [← e1, ← e2, ← e3, ← e4, ← e5, ← e6]
 generalize zge (nmL p.c) (nmL q.c) = C1 at eN ⊢
 generalize sufsC (sxL p.s) (sxL q.s) = C3 at eS ⊢
 generalize cmpN (decL p.b) (decL q.b) = C4 at eB ⊢
 have hr : r.toList = [] ∨ r.toList ≠ [] := Classical.em _
 have hr' : r'.toList = [] ∨ r'.toList ≠ [] := Classical.em _
 have last : Ev (fun k => zg.j4 k 0 o r l h p.i n1 s1 true false m1 o' r' l' h' q.i n2 s2 true false m2) (zgb (zod r r') 0) := by
  refine Ev.succ ?_
  simp only [zg.j4]
  refine Ev.pos (fun _ => by first | rfl | trivial) ?_
  by_cases c1 : r.toList = []
  ·refine Ev.pos (fun _ => c1) ?_
   refine Ev.succ ?_
   simp only [zg.j5]
   refine Ev.neg (fun _ => Bool.false_ne_true) ?_
   refine Ev.pos (fun _ => c1) ?_
   by_cases c2 : r'.toList = []
   ·refine Ev.pos (fun _ => c2) ?_
    refine Ev.eq (Ev.now _) ?_
    rw [firstNe0]
    unfold zod
    rw [if_neg (fun h => h.2 c2), if_neg (fun h => h.1 c1)]
   ·refine Ev.neg (fun _ => c2) ?_
    refine Ev.eq (Ev.now _) ?_
    rw [firstNe0]
    unfold zod
    rw [if_pos ⟨c1, c2⟩]
  ·refine Ev.neg (fun _ => c1) ?_
   by_cases c2 : r'.toList = []
   ·have e : (r'.toList == ([] : List UInt8)) = true := beq_iff_eq.2 c2
    rw [e]
    refine Ev.succ ?_
    simp only [zg.j5]
    refine Ev.pos (fun _ => by first | rfl | trivial) ?_
    refine Ev.eq (Ev.now _) ?_
    rw [firstNe0]
    unfold zod
    rw [if_neg (fun h => c1 h.1), if_pos ⟨c1, c2⟩]
   ·have e : (r'.toList == ([] : List UInt8)) = false := beq_eq_false_iff_ne.2 c2
    rw [e]
    refine Ev.succ ?_
    simp only [zg.j5]
    refine Ev.neg (fun _ => Bool.false_ne_true) ?_
    refine Ev.neg (fun _ => c1) ?_
    refine Ev.eq (Ev.now _) ?_
    rw [firstNe0]
    unfold zod
    rw [if_neg (fun h => c1 h.1), if_neg (fun h => c2 h.2)]
 have j4 : ∀ c : Int, Ev (fun k => zg.j4 k c o r l h p.i n1 s1 true false m1 o' r' l' h' q.i n2 s2 true false m2) (zgb c (zgb (zod r r') 0)) := by
  intro c
  by_cases h0 : c = 0
  ·subst h0
   exact last
  ·refine Ev.succ ?_
   simp only [zg.j4]
   refine Ev.neg (fun _ => h0) ?_
   refine Ev.eq (Ev.now _) ?_
   exact (if_neg h0).symm
 have j2 : ∀ c : Int, Ev (fun k => zg.j2 k c o r l h p.i n1 s1 true false m1 o' r' l' h' q.i n2 s2 true false m2) (zgb c (zgb C4 (zgb (zod r r') 0))) := by
  intro c
  refine Ev.succ ?_
  simp only [zg.j2]
  by_cases h0 : c = 0
  ·subst h0
   refine Ev.pos (fun _ => by first | rfl | trivial) ?_
   refine Ev.pos (fun _ => by first | rfl | trivial) ?_
   refine Ev.succ ?_
   simp only [zg.j3]
   refine Ev.pos (fun _ => by first | rfl | trivial) ?_
   refine Ev.bind eB ?_
   exact j4 C4
  ·refine Ev.neg (fun _ => h0) ?_
   refine Ev.succ ?_
   simp only [zg.j3]
   refine Ev.neg (fun _ => Bool.false_ne_true) ?_
   refine Ev.eq (j4 c) ?_
   unfold zgb
   rw [if_neg h0, if_neg h0]
 have j1 : ∀ c : Int, Ev (fun k => zg.j1 k c o r l h p.i n1 s1 true false m1 o' r' l' h' q.i n2 s2 true false m2) (zgb c (zgb C3 (zgb C4 (zgb (zod r r') 0)))) := by
  intro c
  refine Ev.succ ?_
  simp only [zg.j1]
  by_cases h0 : c = 0
  ·subst h0
   refine Ev.pos (fun _ => by first | rfl | trivial) ?_
   refine Ev.bind eS ?_
   exact j2 C3
  ·refine Ev.neg (fun _ => h0) ?_
   refine Ev.eq (j2 c) ?_
   unfold zgb
   rw [if_neg h0, if_neg h0]
 have j0 : Ev (fun k => zg.j0 k false o r l h p.i n1 s1 true false m1 o' r' l' h' q.i n2 s2 true false m2) (zgb C1 (zgb (zqc l l') (zgb C3 (zgb C4 (zgb (zod r r') 0))))) := by
  refine Ev.succ ?_
  simp only [zg.j0]
  refine Ev.neg (fun _ => Bool.false_ne_true) ?_
  refine Ev.bind eN ?_
  by_cases h0 : C1 = 0
  ·refine Ev.pos (fun _ => h0) ?_
   refine Ev.bind0 (order_eq _ _) ?_
   rw [← zqh, h0]
   exact j1 _
  ·refine Ev.neg (fun _ => h0) ?_
   refine Ev.eq (j1 C1) ?_
   unfold zgb
   rw [if_neg h0, if_neg h0]
 simp only [zg.f]
 cases hi : p.i
 ·rw [hi] at j0
  refine Ev.neg (fun _ => Bool.false_ne_true) ?_
  rw [if_neg (fun h => Bool.false_ne_true h.1)]
  exact j0
 ·refine Ev.pos (fun _ => by first | rfl | trivial) ?_
  cases hj : q.i
  ·rw [if_neg (fun h => Bool.false_ne_true h.2)]
   rw [hi, hj] at j0
   exact j0
  ·rw [if_pos ⟨rfl, rfl⟩]
   refine Ev.succ ?_
   simp only [zg.j0]
   refine Ev.pos (fun _ => by first | rfl | trivial) ?_
   refine Ev.bind0 (order_eq _ _) ?_
   rw [← zpg]
   exact Ev.now _
theorem cmpN_neg (a b : Nat) : cmpN b a = -cmpN a b := cmpV_neg a b
theorem zkf (a b : Int) : zgb (-a) (-b) = -zgb a b := by
 unfold zgb
 by_cases h : a = 0
 ·rw [if_pos (by omega), if_pos h]
 ·rw [if_neg (by omega), if_neg h]
theorem fromC_neg {d e : Nat → Int} (h : ∀ k, e k = -d k) : ∀ n k, fromC e n k = -fromC d n k
 | 0, _ => rfl
 | n + 1, k => by rw [zdf, zdf, h k, fromC_neg h n (k + 1), zkf]
theorem strCmp_neg (a b : ByteArray) : zqf b a = -zqf a b := by rw [zpg, zpg, cmp_neg]
theorem comps_neg (l m : List Nm) : zge m l = -zge l m := by
 unfold zge
 rw [Nat.max_comm m.length l.length]
 refine fromC_neg (fun k => ?_) _ _
 unfold numD numC
 by_cases h : nmI l k ≠ 0 ∧ nmI m k ≠ 0 ∧ (bt (nmO l k) 0 = 48 ∨ bt (nmO m k) 0 = 48)
 ·rw [if_pos h, if_pos ⟨h.2.1, h.1, h.2.2.symm⟩, strCmp_neg]
 ·rw [if_neg h, if_neg (fun e => h ⟨e.2.1, e.1, e.2.2.symm⟩), cmpN_neg]
theorem sufs_neg (l m : List Sx) : sufsC m l = -sufsC l m := by
 unfold sufsC
 rw [Nat.max_comm m.length l.length]
 refine fromC_neg (fun k => ?_) _ _
 unfold sufD sufC
 rw [cmpN_neg (sxN l k) (sxN m k)]
 repeat' split
 all_goals omega
theorem rem_neg (a b : ByteArray) : zod b a = -zod a b := by
 unfold zod
 by_cases h1 : a.toList = [] <;> by_cases h2 : b.toList = [] <;> simp [h1, h2]
theorem apC_neg (p q : AP) : apC q p = -apC p q := by
 unfold apC
 by_cases h : p.i = true ∧ q.i = true
 ·rw [if_pos h, if_pos ⟨h.2, h.1⟩, strCmp_neg]
 ·rw [if_neg h, if_neg (fun e => h ⟨e.2, e.1⟩), comps_neg (p.c.map toNm), zqh q.l p.l, cmp_neg (bytesOf p.l), ← zqh, sufs_neg (p.s.map toSx), cmpN_neg p.b, rem_neg p.r]
  rw [show (0 : Int) = -0 from rfl, zkf, zkf, zkf, zkf, zkf]
  rfl
theorem zzd {a b : Int} (h1 : -1 ≤ a ∧ a ≤ 1) (h2 : -1 ≤ b ∧ b ≤ 1) : -1 ≤ zgb a b ∧ zgb a b ≤ 1 := by
 unfold zgb
 split <;> assumption
theorem zij (a b : Nat) : -1 ≤ cmpN a b ∧ cmpN a b ≤ 1 := by
 unfold cmpN
 repeat' split
 all_goals omega
theorem zai {d : Nat → Int} (h : ∀ k, -1 ≤ d k ∧ d k ≤ 1) : ∀ n k, -1 ≤ fromC d n k ∧ fromC d n k ≤ 1
 | 0, _ => by simp only [fromC]; omega
 | n + 1, k => by rw [zdf]; exact zzd (h k) (zai h n (k + 1))
theorem zlj (a b : ByteArray) : -1 ≤ zqf a b ∧ zqf a b ≤ 1 := by rw [zpg]; exact zii _ _
theorem apC_range (p q : AP) : -1 ≤ apC p q ∧ apC p q ≤ 1 := by
 unfold apC
 split
 ·exact zlj _ _
 ·refine zzd ?_ (zzd ?_ (zzd ?_ (zzd (zij _ _) (zzd (rem_range _ _) (by omega)))))
  ·refine zai (fun k => ?_) _ _
   unfold numD numC
   split
   ·exact zlj _ _
   ·exact zij _ _
  ·rw [zqh]; exact zii _ _
  ·refine zai (fun k => ?_) _ _
   unfold sufD
   rw [sufC_ne]
   refine zzd ?_ (zij _ _)
   repeat' split
   all_goals omega
theorem turned_eq (p q : AP) : znd.f (apC p q) (apC q p) = some true := by
 obtain ⟨h1, h2⟩ := apC_range p q
 unfold znd.f
 rw [apC_neg p q, w64 (by omega) (by omega), if_pos (by omega), if_pos (by omega), decide_eq_true h2]
theorem parse_PG {l : List Int} (hl : l.length ≤ 100000) : PG (zxe l) := by
 have h1 := zli l
 have h2 := zti l
 refine ⟨fun d hd => ?_, ?_, fun x hx => ?_, ?_⟩
 ·obtain ⟨sub, e1, e2, e3, e4⟩ := zvf l.length l
  have := zgj l.length l d hd
  exact ⟨(e4 d hd).1, (e4 d hd).2, by omega⟩
 ·have := numsP_count l.length l
  show (numsP l.length l).1.length ≤ _
  omega
 ·obtain ⟨a, b, c⟩ := sufsP_mem _ _ x hx
  exact ⟨a, c, by omega⟩
 ·have := zzh (rest2 l).length (rest2 l)
  show (sufsP (rest2 l).length (rest2 l)).1.length ≤ _
  omega
end Go.Proofs.YtapaijpglfmfgaaGreatDoor.V
end
