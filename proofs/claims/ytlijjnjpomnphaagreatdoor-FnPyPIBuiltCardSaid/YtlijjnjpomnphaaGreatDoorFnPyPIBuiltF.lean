/- Proved here, for the row of the law FnPyPIBuilt: contracts of the Go functions that it reaches, each as its theorem 'calls' says, and the words and plain laws that they need (YS, YU, Qx1, Qx2, Qx60, SE, SF, K19). -/
import Derived.Test.YtlijjnjpomnphaaGreatDoorFnPyPIBuiltE
import Derived.Test.YtlijjnjpomnphaaGreatDoorRows
import Derived.Stop.LaidErr
import Derived.Stop.Joined
import Derived.LaidSub
import Derived.MakeChecks
set_option linter.unusedVariables false
set_option linter.unusedSimpArgs false
set_option maxHeartbeats 8000000
set_option maxRecDepth 100000
section
namespace Go.Proofs.YtlijjnjpomnphaaGreatDoorG
open Go.RowKit YtlijjnjpomnphaaGreatDoorH YtlijjnjpomnphaaGreatDoorB YtlijjnjpomnphaaGreatDoorC YtlijjnjpomnphaaGreatDoorM YtlijjnjpomnphaaGreatDoor.Q YtlijjnjpomnphaaGreatDoorW.PrintWords YtlijjnjpomnphaaGreatDoorW.PrintLast
theorem put17 {w : World} {g : Nat} {t : TypeId} {a0 a1 a2 a3 a4 a5 a6 a7 a8 a9 a10 a11 a12 a13 a14 a15 a16 b0 b1 b2 b3 b4 b5 b6 b7 b8 b9 b10 b11 b12 b13 b14 b15 b16 : Value} (h : w.heap[g]? = some (.cells #[a0, a1, a2, a3, a4, a5, a6, a7, a8, a9, a10, a11, a12, a13, a14, a15, a16] t (0, 0))) : (((((((((((((((((w.setCell ⟨g, 0, none⟩ b0).setCell ⟨g, 1, none⟩ b1).setCell ⟨g, 2, none⟩ b2).setCell ⟨g, 3, none⟩ b3).setCell ⟨g, 4, none⟩ b4).setCell ⟨g, 5, none⟩ b5).setCell ⟨g, 6, none⟩ b6).setCell ⟨g, 7, none⟩ b7).setCell ⟨g, 8, none⟩ b8).setCell ⟨g, 9, none⟩ b9).setCell ⟨g, 10, none⟩ b10).setCell ⟨g, 11, none⟩ b11).setCell ⟨g, 12, none⟩ b12).setCell ⟨g, 13, none⟩ b13).setCell ⟨g, 14, none⟩ b14).setCell ⟨g, 15, none⟩ b15).setCell ⟨g, 16, none⟩ b16).heap[g]? = some (.cells #[b0, b1, b2, b3, b4, b5, b6, b7, b8, b9, b10, b11, b12, b13, b14, b15, b16] t (0, 0)) := by
 replace h := zm (cs' := #[b0, a1, a2, a3, a4, a5, a6, a7, a8, a9, a10, a11, a12, a13, a14, a15, a16]) h 0 b0 rfl
 replace h := zm (cs' := #[b0, b1, a2, a3, a4, a5, a6, a7, a8, a9, a10, a11, a12, a13, a14, a15, a16]) h 1 b1 rfl
 replace h := zm (cs' := #[b0, b1, b2, a3, a4, a5, a6, a7, a8, a9, a10, a11, a12, a13, a14, a15, a16]) h 2 b2 rfl
 replace h := zm (cs' := #[b0, b1, b2, b3, a4, a5, a6, a7, a8, a9, a10, a11, a12, a13, a14, a15, a16]) h 3 b3 rfl
 replace h := zm (cs' := #[b0, b1, b2, b3, b4, a5, a6, a7, a8, a9, a10, a11, a12, a13, a14, a15, a16]) h 4 b4 rfl
 replace h := zm (cs' := #[b0, b1, b2, b3, b4, b5, a6, a7, a8, a9, a10, a11, a12, a13, a14, a15, a16]) h 5 b5 rfl
 replace h := zm (cs' := #[b0, b1, b2, b3, b4, b5, b6, a7, a8, a9, a10, a11, a12, a13, a14, a15, a16]) h 6 b6 rfl
 replace h := zm (cs' := #[b0, b1, b2, b3, b4, b5, b6, b7, a8, a9, a10, a11, a12, a13, a14, a15, a16]) h 7 b7 rfl
 replace h := zm (cs' := #[b0, b1, b2, b3, b4, b5, b6, b7, b8, a9, a10, a11, a12, a13, a14, a15, a16]) h 8 b8 rfl
 replace h := zm (cs' := #[b0, b1, b2, b3, b4, b5, b6, b7, b8, b9, a10, a11, a12, a13, a14, a15, a16]) h 9 b9 rfl
 replace h := zm (cs' := #[b0, b1, b2, b3, b4, b5, b6, b7, b8, b9, b10, a11, a12, a13, a14, a15, a16]) h 10 b10 rfl
 replace h := zm (cs' := #[b0, b1, b2, b3, b4, b5, b6, b7, b8, b9, b10, b11, a12, a13, a14, a15, a16]) h 11 b11 rfl
 replace h := zm (cs' := #[b0, b1, b2, b3, b4, b5, b6, b7, b8, b9, b10, b11, b12, a13, a14, a15, a16]) h 12 b12 rfl
 replace h := zm (cs' := #[b0, b1, b2, b3, b4, b5, b6, b7, b8, b9, b10, b11, b12, b13, a14, a15, a16]) h 13 b13 rfl
 replace h := zm (cs' := #[b0, b1, b2, b3, b4, b5, b6, b7, b8, b9, b10, b11, b12, b13, b14, a15, a16]) h 14 b14 rfl
 replace h := zm (cs' := #[b0, b1, b2, b3, b4, b5, b6, b7, b8, b9, b10, b11, b12, b13, b14, b15, a16]) h 15 b15 rfl
 replace h := zm (cs' := #[b0, b1, b2, b3, b4, b5, b6, b7, b8, b9, b10, b11, b12, b13, b14, b15, b16]) h 16 b16 rfl
 exact h
theorem infoZI : (Tryz.prog.info? 77).map (fun i => (i.zero, i.size, i.bytes)) = some (some (.agg #[.bool false, .string ⟨#[]⟩]), 2, 24) := by kernel_rfl
def zI (n : Nat) : S77 := ⟨false, magB n⟩
def zIs (l : List Nat) : List S77 := l.map zI
theorem zIs_len (l : List Nat) : (zIs l).length = l.length := by simp [zIs]
theorem zzPlains_ (w : World) (v : Value) (l : List Nat) (h : RRow w v l) :
  Calls Tryz.prog 75 #[v] w fun e w' => ∃ v5, e = .returned v5 ∧ Kd.R k77 77 w' w.heap.size (fun _ => True) v5 (zIs l) ∧ Below w.heap.size w w' := by
 obtain ⟨p, c, rfl, hl, hrow⟩ := h
 have HB := za.mk (Below.refl w.heap.size w)
 have HL := za.mk hl
 have HR := za.mk hrow
 have HP := za.mk (fun (W : World) (a n : Nat) (hs : SgAt W a false n) => zzPlain_ W a n false hs)
 clear hl hrow
 go_enter Tryz.func75, Tryz.ntmps75
 go_wp2
 go_loopw [3, 8] (fun ov iv wr => ∃ (i : Nat) (rv : Value), i ≤ l.length ∧ ov = rv ∧ iv = .int .i64 (i : Int) ∧ za (Kd.R k77 77 wr w.heap.size (fun _ => True) rv (zIs (l.take i))) ∧ za (Below w.heap.size w wr)) (fun _ iv _ => l.length - (intOf iv).toNat)
 case atStart => exact ⟨0, _, Nat.zero_le _, rfl, rfl, ⟨Kd.R_nil _ _ _ _ _⟩, HB⟩
 case round =>
  obtain ⟨i, rv, hi, rfl, rfl, HO, HI⟩ := hrel
  clear HB
  by_cases hlt : i < l.length
  ·have i3 : decide ((i : Int) < (l.length : Int)) = true := decide_eq_true (by omega)
   have i4 : ((i : Int) < (l.length : Int)) = True := eq_true (by omega)
   have i5 : (0 ≤ (i : Int)) = True := eq_true (by omega)
   have WR : wrap64 ((i : Int) + 1) = ((i + 1 : Nat) : Int) := by have := HL.out; unfold wrap64; omega
   have LT := za.mk hlt
   obtain ⟨n, hn⟩ : ∃ n, l[i]? = some n := ⟨_, List.getElem?_eq_getElem hlt⟩
   obtain ⟨b, a, hpe, y0, hA⟩ := HR.out i n hn
   subst hpe
   have SN : za (zIs (l.take (i + 1)) = zIs (l.take i) ++ [zI n]) := ⟨by rw [List.take_add_one, hn]; simp [zIs]⟩
   have HLY : za ((zIs (l.take i)).length ≤ 1000000) := ⟨by rw [zIs_len, List.length_take]; have := HL.out; omega⟩
   have A1 := za.mk (hA.sg.below HI.out)
   replace y0 := (HI.out.cell (World.block_lt_of_cell? w _ y0)).trans y0
   clear hlt hi hn hA
   go_wp2_with (first | (go_at_call 74; (with_reducible refine (HP.out _ a n A1.out).mono ?_); rintro e' w6 ⟨rfl, hb⟩; have H2 := za.mk (Kd.R_below HO.out hb); have B2 := za.mk (zhc HI.out HI.out.size hb); clear hb HO HI A1) | ((with_reducible refine zub (b := .append) (xs := #[.tmp 12, .tmp 15]) rfl ?_); at_builtin; refine Kd.R_append k77 (w0 := w) w.heap.size rfl (.tmp 12) (.tmp 15) 78 77 (.agg #[.bool false, .string ⟨#[]⟩]) 24 rfl Tryz.underlying78 infoZI rfl (by decide) (by omega) u3 (zIs (l.take i)) (zI n) [.bool false, .string (magB n)] (fun _ => True) (fun _ => False) rfl (by first | (go_simp; done) | (go_simp; rfl)) ?aP (fun _ hk => hk.elim) (fun _ _ => trivial) ?aO ?aB ?aS ?aL ?_; (case aP => exact k77_mkM _ _ _ (zI n)); (case aO => exact H2.out); (case aB => exact B2.out); (case aS => exact B2.out.size); (case aL => have := HLY.out; omega); intro v1 w7 ho hb hg hat; have O7 := za.mk ho; have B7 := za.mk hb; clear ho hb hg hat H2 B2))
   go_roundw
   all_goals first | exact ⟨i + 1, _, LT.out, rfl, by first | rfl | go_num, ⟨by rw [SN.out]; exact O7.out⟩, B7⟩ | exact znf _ i LT.out | exact meas_up1 _ i LT.out | exact zfg _ i LT.out WR
  ·obtain rfl : i = l.length := by omega
   have i3 : decide ((l.length : Int) < (l.length : Int)) = false := decide_eq_false (by omega)
   have i4 : ((l.length : Int) < (l.length : Int)) = False := eq_false (by omega)
   have HF : za (zIs (l.take l.length) = zIs l) := ⟨by rw [List.take_length]⟩
   clear hlt hi
   go_wp2
   go_ret
   exact ⟨_, rfl, by rw [← HF.out]; exact HO.out, HI.out⟩
theorem zzLetter_ (w : World) (pn : Option Nat) (o : Option (ByteArray × Nat)) (h : LtAt w (letB o) pn o) :
  Calls Tryz.prog 76 #[.agg #[.string (letB o), .pointer (oA pn)]] w fun e w' => e = .returned (.agg #[.bool o.isSome, .string (letB o), .bool false, .string (magO o)]) ∧ Below w.heap.size w w' := by
 have HB := za.mk (Below.refl w.heap.size w)
 cases o with
 | none =>
  have e : pn = none := h
  subst e
  clear h
  have g0 := zjc (w.alloc (.cells #[.string ⟨#[]⟩, .pointer (oA none)] 70)) (.cells #[.bool false, .string ⟨#[]⟩, .bool false, .string ⟨#[]⟩] 80)
  rw [zsc] at g0
  have G0 := za.mk g0
  clear g0
  go_enter Tryz.func76, Tryz.ntmps76
  go_wp2
  refine bodyPost_ret (zae rfl _ _ (w.heap.size + 1) 80 _ (0, 0) _ rfl G0.out Tryz.underlying80 rfl (by kernel_rfl)) rfl ?_
  exact ⟨rfl, zg (zg HB.out _) _⟩
 | some q =>
  obtain ⟨a, rfl, _, hA⟩ := h
  have HP := za.mk (fun (W : World) (hs : SgAt W a false q.2) => zzPlain_ W a q.2 false hs)
  have hg := zv (zjc w (.cells #[.string q.1, .pointer (some ⟨a, 0, none⟩)] 70)) (.cells #[.bool false, .string ⟨#[]⟩, .bool false, .string ⟨#[]⟩] 80)
  have hh := zjc (w.alloc (.cells #[.string q.1, .pointer (some ⟨a, 0, none⟩)] 70)) (.cells #[.bool false, .string ⟨#[]⟩, .bool false, .string ⟨#[]⟩] 80)
  rw [zsc] at hh
  have bb := zg (zg HB.out (.cells #[.string q.1, .pointer (some ⟨a, 0, none⟩)] 70)) (.cells #[.bool false, .string ⟨#[]⟩, .bool false, .string ⟨#[]⟩] 80)
  have A1 := za.mk (hA.sg.below bb)
  have G1 := za.mk hg
  have H1 := za.mk hh
  have BB := za.mk bb
  clear hA hg hh bb HB
  go_enter Tryz.func76, Tryz.ntmps76
  go_upto_region 3 with (fail)
  show Code.wp _ _ _ _ ((w.alloc (.cells #[.string q.1, .pointer (some ⟨a, 0, none⟩)] 70)).alloc (.cells #[.bool false, .string ⟨#[]⟩, .bool false, .string ⟨#[]⟩] 80))
  generalize (w.alloc (.cells #[.string q.1, .pointer (some ⟨a, 0, none⟩)] 70)).alloc (.cells #[.bool false, .string ⟨#[]⟩, .bool false, .string ⟨#[]⟩] 80) = w2 at G1 H1 BB A1 ⊢
  refine start_ (n := 7) (S := fun w' => w'.cell? ⟨w.heap.size, 0, none⟩ = some (.string q.1) ∧ w'.cell? ⟨w.heap.size, 1, none⟩ = some (.pointer (some ⟨a, 0, none⟩))) (ds := [6]) #[false, false, false, false, false, false, false] (by kernel_rfl) rfl rfl ⟨(zf (zt G1.out) 0).trans rfl, (zf (zt G1.out) 1).trans rfl⟩ (fun hHeld => ?_)
  have G2 := za.mk (zt G1.out)
  have H2 := za.mk (zt H1.out)
  have BB2 := za.mk (zvb BB.out)
  have A2 := za.mk (A1.out.below (zvb (Below.refl _ _)))
  clear G1 H1 BB A1
  generalize w2.drew = w3 at G2 H2 BB2 A2 hHeld ⊢
  refine pure_ (i := 0) (N := some 9) (v := ?_) (a' := ?_) #[true, false, false, false, false, false, false] rfl rfl (by kernel_rfl) (fun _ _ _ h => h) (Or.inl ⟨by rfl, ?_⟩) ?_ ?_
  rotate_left
  ·intro w'
   go_simp
   with_reducible rfl
  rotate_left
  ·simp only [Act.put, List.setIfInBounds_toArray, List.set_cons_zero, List.set_cons_succ, i64_w, i32_w]
   rfl
  refine pure_ (i := 2) (N := some 11) (v := ?_) (a' := ?_) #[true, false, true, false, false, false, false] rfl rfl (by kernel_rfl) (fun _ _ _ h => h) (Or.inl ⟨by rfl, ?_⟩) ?_ ?_
  rotate_left
  ·intro w'
   go_simp
   with_reducible rfl
  rotate_left
  ·simp only [Act.put, List.setIfInBounds_toArray, List.set_cons_zero, List.set_cons_succ, i64_w, i32_w]
   rfl
  refine take_ (i := 1) (N := some 10) (v := ?_) (a' := ?_) #[true, true, true, false, false, false, false] rfl rfl (by kernel_rfl) (fun _ _ _ h => h) (Or.inl ⟨by rfl, ?_⟩) hHeld ?_ ?_
  rotate_left
  ·rintro w' ⟨s0, s1⟩
   go_simp
   with_reducible rfl
  rotate_left
  ·simp only [Act.put, List.setIfInBounds_toArray, List.set_cons_zero, List.set_cons_succ, i64_w, i32_w]
   rfl
  refine take_ (i := 3) (N := some 12) (v := ?_) (a' := ?_) #[true, true, true, true, false, false, false] rfl rfl (by kernel_rfl) (fun _ _ _ h => h) (Or.inl ⟨by rfl, ?_⟩) hHeld ?_ ?_
  rotate_left
  ·rintro w' ⟨s0, s1⟩
   go_simp
   with_reducible rfl
  rotate_left
  ·simp only [Act.put, List.setIfInBounds_toArray, List.set_cons_zero, List.set_cons_succ, i64_w, i32_w]
   rfl
  refine one_ (i := 4) (N := some 13) #[true, true, true, true, true, false, false] rfl rfl (by kernel_rfl) (by decide) (fun K hK => ?_)
  refine goes_ Tryz.func74 (by kernel_rfl) rfl #[.pointer (some ⟨a, 0, none⟩)] (by rfl) rfl rfl (by simp only [List.map_toArray, List.map_cons, List.map_nil]; rfl) ?_
  with_reducible refine (HP.out _ A2.out).mono ?_
  rintro e w4 ⟨rfl, hb⟩
  refine ⟨_, rfl, ?_⟩
  have G3 := za.mk (zr G2.out hb)
  have H3 := za.mk (zr H2.out hb)
  have B3 := za.mk (zhc BB2.out BB2.out.size hb)
  clear hb
  have z0 := (zf H3.out 0).trans rfl
  have z1 := (zf H3.out 1).trans rfl
  have z2 := (zf H3.out 2).trans rfl
  have z3 := (zf H3.out 3).trans rfl
  have f0 := zi H3.out 0
  have f1 := zi H3.out 1
  have f2 := zi H3.out 2
  have f3 := zi H3.out 3
  refine hK.out _ _ ⟨(zf G3.out 0).trans rfl, (zf G3.out 1).trans rfl⟩ (fun hHeld => ?_)
  clear hK K
  refine Go.Proofs.YtlijjnjpomnphaaGreatDoorW.PrintLast.norm_ (a' := ?_) ?_ ?_
  rotate_left
  ·show Act.put _ (some 13) _ = _
   simp only [Act.put, List.setIfInBounds_toArray, List.set_cons_zero, List.set_cons_succ, i64_w, i32_w]
   rfl
  refine pure_ (i := 5) (N := some 14) (v := ?_) (a' := ?_) #[true, true, true, true, true, true, false] rfl rfl (by kernel_rfl) (fun _ _ _ h => h) (Or.inl ⟨by rfl, ?_⟩) ?_ ?_
  rotate_left
  ·intro w'
   go_simp
   with_reducible rfl
  rotate_left
  ·simp only [Act.put, List.setIfInBounds_toArray, List.set_cons_zero, List.set_cons_succ, i64_w, i32_w]
   rfl
  refine last_ (i := 6) (N := none) #[true, true, true, true, true, true, true] rfl rfl (by kernel_rfl) (by decide) (fun K hK => ?_)
  refine skip_ (w1 := ?_) (by rfl) rfl ?_ ?_
  rotate_left
  ·go_simp
   rfl
  refine hK.out _ _ ?_
  clear hK K
  refine done_ (by kernel_rfl) ?_
  go_wp2
  refine bodyPost_ret (zae rfl _ _ (w.heap.size + 1) 80 _ (0, 0) _ rfl (put4 H3.out) Tryz.underlying80 rfl (by kernel_rfl)) rfl ?_
  refine ⟨rfl, ?_⟩
  have b5 := B3.out
  repeat (first | (with_reducible exact b5) | refine zo ?_ (Nat.le_succ _))
theorem pypiTold_ (w : World) (v : Value) (x : YV) (hv : PVAt w v x) :
  Calls Tryz.prog 40 #[v] w fun e w' => ∃ (v5 : Value) (A2 A3 : Option Addr) (c2 c3 : Nat), e = .returned (.agg #[.bool (decide (x.leg ≠ [])), .string (magB (if x.leg = [] then x.ep else 1)), v5, .bool x.pre.isSome, .string (letB x.pre), .bool false, .string (magO x.pre), .bool x.post.isSome, .string (letB x.post), .bool false, .string (magO x.post), .bool x.dev.isSome, .string (letB x.dev), .bool false, .string (magO x.dev), .slice A2 x.loc.length c2, .slice A3 x.leg.length c3]) ∧
   Kd.R k77 77 w' w.heap.size (fun _ => True) v5 (zIs x.rel) ∧ OwnT 0 (.slice A2 x.loc.length c2) x.loc w' ∧ x.loc.length ≤ 1000000 ∧ OwnT 0 (.slice A3 x.leg.length c3) x.leg w' ∧ x.leg.length ≤ 1000000 ∧ Below w.heap.size w w' := by
 obtain ⟨e1, r1, l1, g1, pn1, qn1, dn1, ns, rfl, ⟨h1, h2⟩, ⟨h3, h4, h12⟩, ⟨h5, h6, h7⟩, ⟨h8, h9⟩, h10, h11⟩ := hv
 obtain ⟨A1, c1, rfl⟩ := Kd.R_slice h3.1
 obtain ⟨A2, c2, rfl⟩ := Kd.R_slice h8
 obtain ⟨A3, c3, rfl⟩ := Kd.R_slice h10
 obtain ⟨ng, hng⟩ : ∃ b, b = decide (x.leg ≠ []) := ⟨_, rfl⟩
 obtain ⟨nm, hnm⟩ : ∃ n, n = (if x.leg = [] then x.ep else 1) := ⟨_, rfl⟩
 have hS : SgAt w e1 ng nm := by
  rw [hng, hnm]
  by_cases hl : x.leg = []
  ·rw [if_pos hl, decide_eq_false (fun h => h hl)]; exact (h1 hl).sg
  ·rw [if_neg hl, decide_eq_true hl]; exact (h2 hl).sg
 rw [← hng, ← hnm]
 obtain ⟨n1, hn1⟩ : ∃ n, n = (ptrs ns).length := ⟨_, rfl⟩
 have hRR : RRow w (.slice A1 n1 c1) x.rel := by rw [← h4, hn1]; exact ROwn.row h3 h12
 rw [← hn1]
 have HE := za.mk (fun (W : World) (hb : Below w.heap.size w W) => zzPlain_ W e1 nm ng (hS.below hb))
 have HR := za.mk (fun (W : World) (hb : Below w.heap.size w W) => zzPlains_ W _ x.rel (hRR.below hb))
 have HLpre := za.mk (fun (W : World) (hb : Below w.heap.size w W) => zzLetter_ W pn1 x.pre (h5.below hb))
 have HLpost := za.mk (fun (W : World) (hb : Below w.heap.size w W) => zzLetter_ W qn1 x.post (h6.below hb))
 have HLdev := za.mk (fun (W : World) (hb : Below w.heap.size w W) => zzLetter_ W dn1 x.dev (h7.below hb))
 have HT := za.mk (And.intro (And.intro h8 h9) (And.intro h10 h11))
 have hg := zv (zjc w (.cells #[.pointer (some ⟨e1, 0, none⟩), .slice A1 n1 c1, .string (letB x.pre), .pointer (oA pn1), .string (letB x.post), .pointer (oA qn1), .string (letB x.dev), .pointer (oA dn1), .slice A2 x.loc.length c2, .slice A3 x.leg.length c3] 72)) (.cells #[.bool false, .string ⟨#[]⟩, .slice none 0 0, .bool false, .string ⟨#[]⟩, .bool false, .string ⟨#[]⟩, .bool false, .string ⟨#[]⟩, .bool false, .string ⟨#[]⟩, .bool false, .string ⟨#[]⟩, .bool false, .string ⟨#[]⟩, .slice none 0 0, .slice none 0 0] 82)
 have hh := zjc (w.alloc (.cells #[.pointer (some ⟨e1, 0, none⟩), .slice A1 n1 c1, .string (letB x.pre), .pointer (oA pn1), .string (letB x.post), .pointer (oA qn1), .string (letB x.dev), .pointer (oA dn1), .slice A2 x.loc.length c2, .slice A3 x.leg.length c3] 72)) (.cells #[.bool false, .string ⟨#[]⟩, .slice none 0 0, .bool false, .string ⟨#[]⟩, .bool false, .string ⟨#[]⟩, .bool false, .string ⟨#[]⟩, .bool false, .string ⟨#[]⟩, .bool false, .string ⟨#[]⟩, .bool false, .string ⟨#[]⟩, .slice none 0 0, .slice none 0 0] 82)
 rw [zsc] at hh
 have bb := zg (zg (Below.refl w.heap.size w) (.cells #[.pointer (some ⟨e1, 0, none⟩), .slice A1 n1 c1, .string (letB x.pre), .pointer (oA pn1), .string (letB x.post), .pointer (oA qn1), .string (letB x.dev), .pointer (oA dn1), .slice A2 x.loc.length c2, .slice A3 x.leg.length c3] 72)) (.cells #[.bool false, .string ⟨#[]⟩, .slice none 0 0, .bool false, .string ⟨#[]⟩, .bool false, .string ⟨#[]⟩, .bool false, .string ⟨#[]⟩, .bool false, .string ⟨#[]⟩, .bool false, .string ⟨#[]⟩, .bool false, .string ⟨#[]⟩, .slice none 0 0, .slice none 0 0] 82)
 have G2 := za.mk hg
 have H2 := za.mk hh
 have B2 := za.mk bb
 clear h1 h2 h3 h4 h5 h6 h7 h8 h9 h10 h11 h12 hng hnm hS hn1 hRR hg hh bb
 go_enter Tryz.func40, Tryz.ntmps40
 go_upto_region 1 with (fail)
 generalize (w.alloc (.cells #[.pointer (some ⟨e1, 0, none⟩), .slice A1 n1 c1, .string (letB x.pre), .pointer (oA pn1), .string (letB x.post), .pointer (oA qn1), .string (letB x.dev), .pointer (oA dn1), .slice A2 x.loc.length c2, .slice A3 x.leg.length c3] 72)).alloc (.cells #[.bool false, .string ⟨#[]⟩, .slice none 0 0, .bool false, .string ⟨#[]⟩, .bool false, .string ⟨#[]⟩, .bool false, .string ⟨#[]⟩, .bool false, .string ⟨#[]⟩, .bool false, .string ⟨#[]⟩, .bool false, .string ⟨#[]⟩, .slice none 0 0, .slice none 0 0] 82) = w2 at G2 H2 B2 ⊢
 refine start_ (n := 21) (S := fun w' => w'.cell? ⟨w.heap.size, 0, none⟩ = some (.pointer (some ⟨e1, 0, none⟩)) ∧ w'.cell? ⟨w.heap.size, 1, none⟩ = some (.slice A1 n1 c1) ∧ w'.cell? ⟨w.heap.size, 2, none⟩ = some (.string (letB x.pre)) ∧ w'.cell? ⟨w.heap.size, 3, none⟩ = some (.pointer (oA pn1)) ∧ w'.cell? ⟨w.heap.size, 4, none⟩ = some (.string (letB x.post)) ∧ w'.cell? ⟨w.heap.size, 5, none⟩ = some (.pointer (oA qn1)) ∧ w'.cell? ⟨w.heap.size, 6, none⟩ = some (.string (letB x.dev)) ∧ w'.cell? ⟨w.heap.size, 7, none⟩ = some (.pointer (oA dn1)) ∧ w'.cell? ⟨w.heap.size, 8, none⟩ = some (.slice A2 x.loc.length c2) ∧ w'.cell? ⟨w.heap.size, 9, none⟩ = some (.slice A3 x.leg.length c3)) (ds := [20]) #[false, false, false, false, false, false, false, false, false, false, false, false, false, false, false, false, false, false, false, false, false] (by kernel_rfl) rfl rfl ⟨(zf (zt G2.out) 0).trans rfl, (zf (zt G2.out) 1).trans rfl, (zf (zt G2.out) 2).trans rfl, (zf (zt G2.out) 3).trans rfl, (zf (zt G2.out) 4).trans rfl, (zf (zt G2.out) 5).trans rfl, (zf (zt G2.out) 6).trans rfl, (zf (zt G2.out) 7).trans rfl, (zf (zt G2.out) 8).trans rfl, (zf (zt G2.out) 9).trans rfl⟩ (fun hHeld => ?_)
 have G3 := za.mk (zt G2.out)
 have H3 := za.mk (zt H2.out)
 have B3 := za.mk (zvb B2.out)
 clear G2 H2 B2
 generalize w2.drew = w3 at G3 H3 B3 hHeld ⊢
 refine pure_ (i := 0) (N := some 3) (v := ?_) (a' := ?_) #[true, false, false, false, false, false, false, false, false, false, false, false, false, false, false, false, false, false, false, false, false] rfl rfl (by kernel_rfl) (fun _ _ _ h => h) (Or.inl ⟨by rfl, ?_⟩) ?_ ?_
 rotate_left
 ·intro w'
  go_simp
  with_reducible rfl
 rotate_left
 ·simp only [Act.put, List.setIfInBounds_toArray, List.set_cons_zero, List.set_cons_succ, i64_w, i32_w]
  rfl
 refine pure_ (i := 3) (N := some 6) (v := ?_) (a' := ?_) #[true, false, false, true, false, false, false, false, false, false, false, false, false, false, false, false, false, false, false, false, false] rfl rfl (by kernel_rfl) (fun _ _ _ h => h) (Or.inl ⟨by rfl, ?_⟩) ?_ ?_
 rotate_left
 ·intro w'
  go_simp
  with_reducible rfl
 rotate_left
 ·simp only [Act.put, List.setIfInBounds_toArray, List.set_cons_zero, List.set_cons_succ, i64_w, i32_w]
  rfl
 refine pure_ (i := 6) (N := some 9) (v := ?_) (a' := ?_) #[true, false, false, true, false, false, true, false, false, false, false, false, false, false, false, false, false, false, false, false, false] rfl rfl (by kernel_rfl) (fun _ _ _ h => h) (Or.inl ⟨by rfl, ?_⟩) ?_ ?_
 rotate_left
 ·intro w'
  go_simp
  with_reducible rfl
 rotate_left
 ·simp only [Act.put, List.setIfInBounds_toArray, List.set_cons_zero, List.set_cons_succ, i64_w, i32_w]
  rfl
 refine pure_ (i := 9) (N := some 12) (v := ?_) (a' := ?_) #[true, false, false, true, false, false, true, false, false, true, false, false, false, false, false, false, false, false, false, false, false] rfl rfl (by kernel_rfl) (fun _ _ _ h => h) (Or.inl ⟨by rfl, ?_⟩) ?_ ?_
 rotate_left
 ·intro w'
  go_simp
  with_reducible rfl
 rotate_left
 ·simp only [Act.put, List.setIfInBounds_toArray, List.set_cons_zero, List.set_cons_succ, i64_w, i32_w]
  rfl
 refine pure_ (i := 12) (N := some 15) (v := ?_) (a' := ?_) #[true, false, false, true, false, false, true, false, false, true, false, false, true, false, false, false, false, false, false, false, false] rfl rfl (by kernel_rfl) (fun _ _ _ h => h) (Or.inl ⟨by rfl, ?_⟩) ?_ ?_
 rotate_left
 ·intro w'
  go_simp
  with_reducible rfl
 rotate_left
 ·simp only [Act.put, List.setIfInBounds_toArray, List.set_cons_zero, List.set_cons_succ, i64_w, i32_w]
  rfl
 refine pure_ (i := 15) (N := some 18) (v := ?_) (a' := ?_) #[true, false, false, true, false, false, true, false, false, true, false, false, true, false, false, true, false, false, false, false, false] rfl rfl (by kernel_rfl) (fun _ _ _ h => h) (Or.inl ⟨by rfl, ?_⟩) ?_ ?_
 rotate_left
 ·intro w'
  go_simp
  with_reducible rfl
 rotate_left
 ·simp only [Act.put, List.setIfInBounds_toArray, List.set_cons_zero, List.set_cons_succ, i64_w, i32_w]
  rfl
 refine pure_ (i := 17) (N := some 20) (v := ?_) (a' := ?_) #[true, false, false, true, false, false, true, false, false, true, false, false, true, false, false, true, false, true, false, false, false] rfl rfl (by kernel_rfl) (fun _ _ _ h => h) (Or.inl ⟨by rfl, ?_⟩) ?_ ?_
 rotate_left
 ·intro w'
  go_simp
  with_reducible rfl
 rotate_left
 ·simp only [Act.put, List.setIfInBounds_toArray, List.set_cons_zero, List.set_cons_succ, i64_w, i32_w]
  rfl
 refine take_ (i := 1) (N := some 4) (v := ?_) (a' := ?_) #[true, true, false, true, false, false, true, false, false, true, false, false, true, false, false, true, false, true, false, false, false] rfl rfl (by kernel_rfl) (fun _ _ _ h => h) (Or.inl ⟨by rfl, ?_⟩) hHeld ?_ ?_
 rotate_left
 ·rintro w' ⟨s0, s1, s2, s3, s4, s5, s6, s7, s8, s9⟩
  go_simp
  with_reducible rfl
 rotate_left
 ·simp only [Act.put, List.setIfInBounds_toArray, List.set_cons_zero, List.set_cons_succ, i64_w, i32_w]
  rfl
 refine take_ (i := 4) (N := some 7) (v := ?_) (a' := ?_) #[true, true, false, true, true, false, true, false, false, true, false, false, true, false, false, true, false, true, false, false, false] rfl rfl (by kernel_rfl) (fun _ _ _ h => h) (Or.inl ⟨by rfl, ?_⟩) hHeld ?_ ?_
 rotate_left
 ·rintro w' ⟨s0, s1, s2, s3, s4, s5, s6, s7, s8, s9⟩
  go_simp
  with_reducible rfl
 rotate_left
 ·simp only [Act.put, List.setIfInBounds_toArray, List.set_cons_zero, List.set_cons_succ, i64_w, i32_w]
  rfl
 refine take_ (i := 7) (N := some 10) (v := ?_) (a' := ?_) #[true, true, false, true, true, false, true, true, false, true, false, false, true, false, false, true, false, true, false, false, false] rfl rfl (by kernel_rfl) (fun _ _ _ h => h) (Or.inl ⟨by rfl, ?_⟩) hHeld ?_ ?_
 rotate_left
 ·rintro w' ⟨s0, s1, s2, s3, s4, s5, s6, s7, s8, s9⟩
  go_simp
  with_reducible rfl
 rotate_left
 ·simp only [Act.put, List.setIfInBounds_toArray, List.set_cons_zero, List.set_cons_succ, i64_w, i32_w]
  rfl
 refine take_ (i := 10) (N := some 13) (v := ?_) (a' := ?_) #[true, true, false, true, true, false, true, true, false, true, true, false, true, false, false, true, false, true, false, false, false] rfl rfl (by kernel_rfl) (fun _ _ _ h => h) (Or.inl ⟨by rfl, ?_⟩) hHeld ?_ ?_
 rotate_left
 ·rintro w' ⟨s0, s1, s2, s3, s4, s5, s6, s7, s8, s9⟩
  go_simp
  with_reducible rfl
 rotate_left
 ·simp only [Act.put, List.setIfInBounds_toArray, List.set_cons_zero, List.set_cons_succ, i64_w, i32_w]
  rfl
 refine take_ (i := 13) (N := some 16) (v := ?_) (a' := ?_) #[true, true, false, true, true, false, true, true, false, true, true, false, true, true, false, true, false, true, false, false, false] rfl rfl (by kernel_rfl) (fun _ _ _ h => h) (Or.inl ⟨by rfl, ?_⟩) hHeld ?_ ?_
 rotate_left
 ·rintro w' ⟨s0, s1, s2, s3, s4, s5, s6, s7, s8, s9⟩
  go_simp
  with_reducible rfl
 rotate_left
 ·simp only [Act.put, List.setIfInBounds_toArray, List.set_cons_zero, List.set_cons_succ, i64_w, i32_w]
  rfl
 refine take_ (i := 16) (N := some 19) (v := ?_) (a' := ?_) #[true, true, false, true, true, false, true, true, false, true, true, false, true, true, false, true, true, true, false, false, false] rfl rfl (by kernel_rfl) (fun _ _ _ h => h) (Or.inl ⟨by rfl, ?_⟩) hHeld ?_ ?_
 rotate_left
 ·rintro w' ⟨s0, s1, s2, s3, s4, s5, s6, s7, s8, s9⟩
  go_simp
  with_reducible rfl
 rotate_left
 ·simp only [Act.put, List.setIfInBounds_toArray, List.set_cons_zero, List.set_cons_succ, i64_w, i32_w]
  rfl
 refine take_ (i := 18) (N := some 21) (v := ?_) (a' := ?_) #[true, true, false, true, true, false, true, true, false, true, true, false, true, true, false, true, true, true, true, false, false] rfl rfl (by kernel_rfl) (fun _ _ _ h => h) (Or.inl ⟨by rfl, ?_⟩) hHeld ?_ ?_
 rotate_left
 ·rintro w' ⟨s0, s1, s2, s3, s4, s5, s6, s7, s8, s9⟩
  go_simp
  with_reducible rfl
 rotate_left
 ·simp only [Act.put, List.setIfInBounds_toArray, List.set_cons_zero, List.set_cons_succ, i64_w, i32_w]
  rfl
 refine one_ (i := 2) (N := some 5) #[true, true, true, true, true, false, true, true, false, true, true, false, true, true, false, true, true, true, true, false, false] rfl rfl (by kernel_rfl) (by decide) (fun K hK => ?_)
 refine goes_ Tryz.func74 (by kernel_rfl) rfl #[.pointer (some ⟨e1, 0, none⟩)] (by rfl) rfl rfl (by simp only [List.map_toArray, List.map_cons, List.map_nil]; rfl) ?_
 with_reducible refine (HE.out _ B3.out).mono ?_
 rintro e w4 ⟨rfl, hb⟩
 refine ⟨_, rfl, ?_⟩
 have G4 := za.mk (zr G3.out hb)
 have H4 := za.mk (zr H3.out hb)
 have B4 := za.mk (zhc B3.out B3.out.size hb)
 clear hb
 refine hK.out _ _ ⟨(zf G4.out 0).trans rfl, (zf G4.out 1).trans rfl, (zf G4.out 2).trans rfl, (zf G4.out 3).trans rfl, (zf G4.out 4).trans rfl, (zf G4.out 5).trans rfl, (zf G4.out 6).trans rfl, (zf G4.out 7).trans rfl, (zf G4.out 8).trans rfl, (zf G4.out 9).trans rfl⟩ (fun hHeld => ?_)
 clear hK K
 refine Go.Proofs.YtlijjnjpomnphaaGreatDoorW.PrintLast.norm_ (a' := ?_) ?_ ?_
 rotate_left
 ·show Act.put _ (some 5) _ = _
  simp only [Act.put, List.setIfInBounds_toArray, List.set_cons_zero, List.set_cons_succ, i64_w, i32_w]
  rfl
 refine one_ (i := 5) (N := some 8) #[true, true, true, true, true, true, true, true, false, true, true, false, true, true, false, true, true, true, true, false, false] rfl rfl (by kernel_rfl) (by decide) (fun K hK => ?_)
 refine goes_ Tryz.func75 (by kernel_rfl) rfl #[.slice A1 n1 c1] (by rfl) rfl rfl (by simp only [List.map_toArray, List.map_cons, List.map_nil]; rfl) ?_
 with_reducible refine (HR.out _ B4.out).mono ?_
 rintro e w5 ⟨v5, rfl, ho, hb⟩
 refine ⟨_, rfl, ?_⟩
 have G5 := za.mk (zr G4.out hb)
 have H5 := za.mk (zr H4.out hb)
 have B5 := za.mk (zhc B4.out B4.out.size hb)
 obtain ⟨A5, c5, rfl⟩ := Kd.R_slice ho
 have O5 := za.mk (Kd.R_lower ho B4.out.size)
 clear ho
 clear hb
 refine hK.out _ _ ⟨(zf G5.out 0).trans rfl, (zf G5.out 1).trans rfl, (zf G5.out 2).trans rfl, (zf G5.out 3).trans rfl, (zf G5.out 4).trans rfl, (zf G5.out 5).trans rfl, (zf G5.out 6).trans rfl, (zf G5.out 7).trans rfl, (zf G5.out 8).trans rfl, (zf G5.out 9).trans rfl⟩ (fun hHeld => ?_)
 clear hK K
 refine Go.Proofs.YtlijjnjpomnphaaGreatDoorW.PrintLast.norm_ (a' := ?_) ?_ ?_
 rotate_left
 ·show Act.put _ (some 8) _ = _
  simp only [Act.put, List.setIfInBounds_toArray, List.set_cons_zero, List.set_cons_succ, i64_w, i32_w]
  rfl
 refine one_ (i := 8) (N := some 11) #[true, true, true, true, true, true, true, true, true, true, true, false, true, true, false, true, true, true, true, false, false] rfl rfl (by kernel_rfl) (by decide) (fun K hK => ?_)
 refine goes_ Tryz.func76 (by kernel_rfl) rfl #[.agg #[.string (letB x.pre), .pointer (oA pn1)]] (by rfl) rfl rfl (by simp only [List.map_toArray, List.map_cons, List.map_nil]; rfl) ?_
 with_reducible refine (HLpre.out _ B5.out).mono ?_
 rintro e w6 ⟨rfl, hb⟩
 refine ⟨_, rfl, ?_⟩
 have G6 := za.mk (zr G5.out hb)
 have H6 := za.mk (zr H5.out hb)
 have B6 := za.mk (zhc B5.out B5.out.size hb)
 have O6 := za.mk (Kd.R_below O5.out hb)
 clear hb
 refine hK.out _ _ ⟨(zf G6.out 0).trans rfl, (zf G6.out 1).trans rfl, (zf G6.out 2).trans rfl, (zf G6.out 3).trans rfl, (zf G6.out 4).trans rfl, (zf G6.out 5).trans rfl, (zf G6.out 6).trans rfl, (zf G6.out 7).trans rfl, (zf G6.out 8).trans rfl, (zf G6.out 9).trans rfl⟩ (fun hHeld => ?_)
 clear hK K
 refine Go.Proofs.YtlijjnjpomnphaaGreatDoorW.PrintLast.norm_ (a' := ?_) ?_ ?_
 rotate_left
 ·show Act.put _ (some 11) _ = _
  simp only [Act.put, List.setIfInBounds_toArray, List.set_cons_zero, List.set_cons_succ, i64_w, i32_w]
  rfl
 refine one_ (i := 11) (N := some 14) #[true, true, true, true, true, true, true, true, true, true, true, true, true, true, false, true, true, true, true, false, false] rfl rfl (by kernel_rfl) (by decide) (fun K hK => ?_)
 refine goes_ Tryz.func76 (by kernel_rfl) rfl #[.agg #[.string (letB x.post), .pointer (oA qn1)]] (by rfl) rfl rfl (by simp only [List.map_toArray, List.map_cons, List.map_nil]; rfl) ?_
 with_reducible refine (HLpost.out _ B6.out).mono ?_
 rintro e w7 ⟨rfl, hb⟩
 refine ⟨_, rfl, ?_⟩
 have G7 := za.mk (zr G6.out hb)
 have H7 := za.mk (zr H6.out hb)
 have B7 := za.mk (zhc B6.out B6.out.size hb)
 have O7 := za.mk (Kd.R_below O6.out hb)
 clear hb
 refine hK.out _ _ ⟨(zf G7.out 0).trans rfl, (zf G7.out 1).trans rfl, (zf G7.out 2).trans rfl, (zf G7.out 3).trans rfl, (zf G7.out 4).trans rfl, (zf G7.out 5).trans rfl, (zf G7.out 6).trans rfl, (zf G7.out 7).trans rfl, (zf G7.out 8).trans rfl, (zf G7.out 9).trans rfl⟩ (fun hHeld => ?_)
 clear hK K
 refine Go.Proofs.YtlijjnjpomnphaaGreatDoorW.PrintLast.norm_ (a' := ?_) ?_ ?_
 rotate_left
 ·show Act.put _ (some 14) _ = _
  simp only [Act.put, List.setIfInBounds_toArray, List.set_cons_zero, List.set_cons_succ, i64_w, i32_w]
  rfl
 refine one_ (i := 14) (N := some 17) #[true, true, true, true, true, true, true, true, true, true, true, true, true, true, true, true, true, true, true, false, false] rfl rfl (by kernel_rfl) (by decide) (fun K hK => ?_)
 refine goes_ Tryz.func76 (by kernel_rfl) rfl #[.agg #[.string (letB x.dev), .pointer (oA dn1)]] (by rfl) rfl rfl (by simp only [List.map_toArray, List.map_cons, List.map_nil]; rfl) ?_
 with_reducible refine (HLdev.out _ B7.out).mono ?_
 rintro e w8 ⟨rfl, hb⟩
 refine ⟨_, rfl, ?_⟩
 have G8 := za.mk (zr G7.out hb)
 have H8 := za.mk (zr H7.out hb)
 have B8 := za.mk (zhc B7.out B7.out.size hb)
 have O8 := za.mk (Kd.R_below O7.out hb)
 clear hb
 have z0 := (zf H8.out 0).trans rfl
 have z1 := (zf H8.out 1).trans rfl
 have z2 := (zf H8.out 2).trans rfl
 have z3 := (zf H8.out 3).trans rfl
 have z4 := (zf H8.out 4).trans rfl
 have z5 := (zf H8.out 5).trans rfl
 have z6 := (zf H8.out 6).trans rfl
 have z7 := (zf H8.out 7).trans rfl
 have z8 := (zf H8.out 8).trans rfl
 have z9 := (zf H8.out 9).trans rfl
 have z10 := (zf H8.out 10).trans rfl
 have z11 := (zf H8.out 11).trans rfl
 have z12 := (zf H8.out 12).trans rfl
 have z13 := (zf H8.out 13).trans rfl
 have z14 := (zf H8.out 14).trans rfl
 have z15 := (zf H8.out 15).trans rfl
 have z16 := (zf H8.out 16).trans rfl
 have f0 := zi H8.out 0
 have f1 := zi H8.out 1
 have f2 := zi H8.out 2
 have f3 := zi H8.out 3
 have f4 := zi H8.out 4
 have f5 := zi H8.out 5
 have f6 := zi H8.out 6
 have f7 := zi H8.out 7
 have f8 := zi H8.out 8
 have f9 := zi H8.out 9
 have f10 := zi H8.out 10
 have f11 := zi H8.out 11
 have f12 := zi H8.out 12
 have f13 := zi H8.out 13
 have f14 := zi H8.out 14
 have f15 := zi H8.out 15
 have f16 := zi H8.out 16
 refine hK.out _ _ ⟨(zf G8.out 0).trans rfl, (zf G8.out 1).trans rfl, (zf G8.out 2).trans rfl, (zf G8.out 3).trans rfl, (zf G8.out 4).trans rfl, (zf G8.out 5).trans rfl, (zf G8.out 6).trans rfl, (zf G8.out 7).trans rfl, (zf G8.out 8).trans rfl, (zf G8.out 9).trans rfl⟩ (fun hHeld => ?_)
 clear hK K
 refine Go.Proofs.YtlijjnjpomnphaaGreatDoorW.PrintLast.norm_ (a' := ?_) ?_ ?_
 rotate_left
 ·show Act.put _ (some 17) _ = _
  simp only [Act.put, List.setIfInBounds_toArray, List.set_cons_zero, List.set_cons_succ, i64_w, i32_w]
  rfl
 refine pure_ (i := 19) (N := some 22) (v := ?_) (a' := ?_) #[true, true, true, true, true, true, true, true, true, true, true, true, true, true, true, true, true, true, true, true, false] rfl rfl (by kernel_rfl) (fun _ _ _ h => h) (Or.inl ⟨by rfl, ?_⟩) ?_ ?_
 rotate_left
 ·intro w'
  go_simp
  with_reducible rfl
 rotate_left
 ·simp only [Act.put, List.setIfInBounds_toArray, List.set_cons_zero, List.set_cons_succ, i64_w, i32_w]
  rfl
 refine last_ (i := 20) (N := none) #[true, true, true, true, true, true, true, true, true, true, true, true, true, true, true, true, true, true, true, true, true] rfl rfl (by kernel_rfl) (by decide) (fun K hK => ?_)
 refine skip_ (w1 := ?_) (by rfl) rfl ?_ ?_
 rotate_left
 ·go_simp
  rfl
 refine hK.out _ _ ?_
 clear hK K
 refine done_ (by kernel_rfl) ?_
 go_wp2
 (try simp only [Exit.inBlock, Exit.then])
 refine bodyPost_ret (zae rfl _ _ (w.heap.size + 1) 82 _ (0, 0) _ rfl (put17 H8.out) Tryz.underlying82 rfl (by kernel_rfl)) rfl ?_
 have hK := fun (W : World) (h : ∀ b, b ≠ w.heap.size + 1 → W.heap[b]? = w8.heap[b]?) => zaf (p := fun t => t != 82) (W := W) H8.out (by decide) h
 have t8 := Kd.R_below HT.out.1.1 B8.out
 have t10 := Kd.R_below HT.out.2.1 B8.out
 refine ⟨_, A2, A3, c2, c3, rfl, zqd (p := fun t => t != 82) rfl (by decide) O8.out (hK _ (fun b h => by repeat rw [Below.heap_setCell _ _ _ _ h])), zqd (p := fun t => t != 82) rfl (by decide) t8 (hK _ (fun b h => by repeat rw [Below.heap_setCell _ _ _ _ h])), HT.out.1.2, zqd (p := fun t => t != 82) rfl (by decide) t10 (hK _ (fun b h => by repeat rw [Below.heap_setCell _ _ _ _ h])), HT.out.2.2, ?_⟩
 have b5 := B8.out
 repeat (first | (with_reducible exact b5) | refine zo ?_ (Nat.le_succ _))
end Go.Proofs.YtlijjnjpomnphaaGreatDoorG
end
section
namespace Go.Proofs.YtlijjnjpomnphaaGreatDoorG
open Go.RowKit YtlijjnjpomnphaaGreatDoorH YtlijjnjpomnphaaGreatDoorB YtlijjnjpomnphaaGreatDoorC YtlijjnjpomnphaaGreatDoorM YtlijjnjpomnphaaGreatDoor.Q YtlijjnjpomnphaaGreatDoor.S YtlijjnjpomnphaaGreatDoorW.PrintWords YtlijjnjpomnphaaGreatDoorW.PrintLast
def pI (y : S77) : S29 := ⟨y.f0, y.f1⟩
theorem plains_l0 (l : List S77) (hl : l.length ≤ 1000000) : ∀ (n k : Nat) (acc : List S29), l.length - k = n → k ≤ l.length → acc.length ≤ k →
  Ev (fun q => zzb.l0 q acc l (l.length : Int) (k : Int)) (acc ++ (l.drop k).map pI) := by
 intro n
 induction n with
 | zero =>
  intro k acc hn hk ha
  refine Ev.succ ?_
  simp only [zzb.l0]
  refine Ev.neg (fun _ => by first | omega | assumption | nofun) ?_
  refine Ev.eq (Ev.now _) ?_
  rw [List.drop_of_length_le (by omega), List.map_nil, List.append_nil]
 | succ n ih =>
  intro k acc hn hk ha
  have hlt : k < l.length := by omega
  refine Ev.succ ?_
  simp only [zzb.l0]
  refine Ev.pos (fun _ => by first | omega | trivial | assumption) ?_
  refine Ev.pos (fun _ => by first | omega | trivial | assumption) ?_
  refine Ev.pos (fun _ => by first | omega | trivial | assumption) ?_
  refine Ev.pos (fun _ => by first | omega | trivial | assumption) ?_
  rw [w64 (by omega) (by omega)]
  refine Ev.eq (ih (k + 1) _ (by omega) (by omega) (by simp; omega)) ?_
  have e : zme l (k : Int) = l[k] := by
   show l.getD _ _ = _
   rw [Int.toNat_natCast, List.getD_eq_getElem?_getD, List.getElem?_eq_getElem hlt]
   rfl
  rw [e, List.drop_eq_getElem_cons hlt, List.map_cons, List.append_assoc]
  rfl
theorem plains_ev (l : List S77) (hl : l.length ≤ 1000000) : Ev (fun q => zzb.f q l) (l.map pI) := by
 have h := plains_l0 l hl _ 0 [] rfl (Nat.zero_le _) (Nat.le_refl _)
 simpa [zzb.f] using h
theorem infoStr : (Tryz.prog.info? 9).map (fun i => (i.zero, i.size, i.bytes)) = some (some (.string ⟨#[]⟩), 1, 16) := by kernel_rfl
theorem PVAt.rels {w : World} {v : Value} {x : YV} (h : PVAt w v x) : x.rel.length ≤ 1000000 := by
 obtain ⟨e1, r1, l1, g1, pn1, qn1, dn1, ns, rfl, _, ⟨_, h4, h12⟩, _⟩ := h
 rw [← h4, List.length_map]
 exact h12
theorem parseImpl_ (w : World) (s : ByteArray) (k : Nat) (q : YD) (x : YV) (hx : q.num = x) (hGL : GLe w) (h0 : parseY k s = some q) :
  Calls Tryz.prog 16 #[.string s] w fun e w' => ∃ v3 v16 v17 : Value, e = .returned (.tuple #[.agg #[.bool (decide (x.leg ≠ [])), .string (magB (if x.leg = [] then x.ep else 1)), v3, .bool x.pre.isSome, .string (letB x.pre), .bool false, .string (magO x.pre), .bool x.post.isSome, .string (letB x.post), .bool false, .string (magO x.post), .bool x.dev.isSome, .string (letB x.dev), .bool false, .string (magO x.dev), v16, v17], .bool true]) ∧
   Kd.R k29 29 w' w.heap.size (fun _ => True) v3 (x.rel.map fun n => ⟨false, magB n⟩) ∧ Kd.R Kd.string 9 w' w.heap.size (fun k_ => some k_ ≠ (v17 : Value).ownBlock) v16 x.loc ∧ Kd.R Kd.string 9 w' w.heap.size (fun k_ => some k_ ≠ (v16 : Value).ownBlock) v17 x.leg ∧ Below w.heap.size w w' := by
 have HP := za.mk (fun (W : World) (h : Below w.heap.size w W) => by
  have := parse_ W s k q h0 (hGL.lt h)
  rw [hx] at this
  exact this)
 obtain ⟨ng, hng⟩ : ∃ b, b = decide (x.leg ≠ []) := ⟨_, rfl⟩
 obtain ⟨nm, hnm⟩ : ∃ n, n = (if x.leg = [] then x.ep else 1) := ⟨_, rfl⟩
 have HT := za.mk (fun (W : World) (v : Value) (hv : PVAt W v x) => by
  have := pypiTold_ W v x hv
  rw [← hng, ← hnm] at this
  exact this)
 rw [← hng, ← hnm]
 clear hng hnm
 have HB := za.mk (Below.refl w.heap.size w)
 have G0 := za.mk (zjc w (.cells #[.bool false, .string ⟨#[]⟩, .slice none 0 0, .bool false, .string ⟨#[]⟩, .bool false, .string ⟨#[]⟩, .bool false, .string ⟨#[]⟩, .bool false, .string ⟨#[]⟩, .bool false, .string ⟨#[]⟩, .bool false, .string ⟨#[]⟩, .slice none 0 0, .slice none 0 0] 34))
 clear hGL h0 hx
 go_enter Tryz.func16, Tryz.ntmps16
 go_upto_region 5 with (first | (go_at_call 39; (with_reducible refine (HP.out _ (zg HB.out _)).mono ?_); rintro e' w1 ⟨u, rfl, hy, hb⟩; have HY := za.mk hy; have HRL := za.mk hy.rels; obtain ⟨e2, A4, A5, A6, n2, c4, c5, c6, pn2, qn2, dn2, hue⟩ := hy.form; subst hue; have B1 := za.mk (zw (zg HB.out _) hb); have G1 := za.mk (zr G0.out hb); have xx := fun j : Nat => zf (zjc w1 (.cells #[.pointer (some ⟨e2, 0, none⟩), .slice A4 n2 c4, .string (letB x.pre), .pointer (oA pn2), .string (letB x.post), .pointer (oA qn2), .string (letB x.dev), .pointer (oA dn2), .slice A5 x.loc.length c5, .slice A6 x.leg.length c6] 72)) j; clear hy hb) | (go_at_call 40; (with_reducible refine (HT.out _ _ (HY.out.below (zg (Below.refl _ _) _))).mono ?_); rintro e' w2 ⟨v5, A7, A8, c7, c8, rfl, hr5, hl7, hm7, hl8, hm8, hb⟩; obtain ⟨A9, c9, rfl⟩ := Kd.R_slice hr5; have R2 := za.mk hr5; have T2 := za.mk (And.intro (And.intro hl7 hm7) (And.intro hl8 hm8)); have B2 := za.mk (zw (zg B1.out _) hb); have G2 := za.mk (zr (zv G1.out _) hb); clear hr5 hl7 hm7 hl8 hm8 hb))
 obtain ⟨kp, hkp⟩ := plains_ev (zIs x.rel) (by rw [zIs_len]; exact HRL.out)
 have HPL := za.mk (hkp kp (Nat.le_refl _))
 have M2 := za.mk (And.intro T2.out.1.2 T2.out.2.2)
 have G3 := za.mk (zjc w2 (.cells #[.bool ng, .string (magB nm), .slice A9 (zIs x.rel).length c9, .bool x.pre.isSome, .string (letB x.pre), .bool false, .string (magO x.pre), .bool x.post.isSome, .string (letB x.post), .bool false, .string (magO x.post), .bool x.dev.isSome, .string (letB x.dev), .bool false, .string (magO x.dev), .slice A7 x.loc.length c7, .slice A8 x.leg.length c8] 82))
 have H3 := za.mk (zv G2.out (.cells #[.bool ng, .string (magB nm), .slice A9 (zIs x.rel).length c9, .bool x.pre.isSome, .string (letB x.pre), .bool false, .string (magO x.pre), .bool x.post.isSome, .string (letB x.post), .bool false, .string (magO x.post), .bool x.dev.isSome, .string (letB x.dev), .bool false, .string (magO x.dev), .slice A7 x.loc.length c7, .slice A8 x.leg.length c8] 82))
 have B3 := za.mk (zg B2.out (.cells #[.bool ng, .string (magB nm), .slice A9 (zIs x.rel).length c9, .bool x.pre.isSome, .string (letB x.pre), .bool false, .string (magO x.pre), .bool x.post.isSome, .string (letB x.post), .bool false, .string (magO x.post), .bool x.dev.isSome, .string (letB x.dev), .bool false, .string (magO x.dev), .slice A7 x.loc.length c7, .slice A8 x.leg.length c8] 82))
 have O3 := za.mk (Kd.R_alloc R2.out (.cells #[.bool ng, .string (magB nm), .slice A9 (zIs x.rel).length c9, .bool x.pre.isSome, .string (letB x.pre), .bool false, .string (magO x.pre), .bool x.post.isSome, .string (letB x.post), .bool false, .string (magO x.post), .bool x.dev.isSome, .string (letB x.dev), .bool false, .string (magO x.dev), .slice A7 x.loc.length c7, .slice A8 x.leg.length c8] 82))
 have T3 := za.mk (And.intro (Kd.R_alloc T2.out.1.1 (.cells #[.bool ng, .string (magB nm), .slice A9 (zIs x.rel).length c9, .bool x.pre.isSome, .string (letB x.pre), .bool false, .string (magO x.pre), .bool x.post.isSome, .string (letB x.post), .bool false, .string (magO x.post), .bool x.dev.isSome, .string (letB x.dev), .bool false, .string (magO x.dev), .slice A7 x.loc.length c7, .slice A8 x.leg.length c8] 82)) (Kd.R_alloc T2.out.2.1 (.cells #[.bool ng, .string (magB nm), .slice A9 (zIs x.rel).length c9, .bool x.pre.isSome, .string (letB x.pre), .bool false, .string (magO x.pre), .bool x.post.isSome, .string (letB x.post), .bool false, .string (magO x.post), .bool x.dev.isSome, .string (letB x.dev), .bool false, .string (magO x.dev), .slice A7 x.loc.length c7, .slice A8 x.leg.length c8] 82)))
 clear G0 G1 G2 HB B1 B2 R2 T2 HP HY xx HT hkp
 generalize w2.alloc (.cells #[.bool ng, .string (magB nm), .slice A9 (zIs x.rel).length c9, .bool x.pre.isSome, .string (letB x.pre), .bool false, .string (magO x.pre), .bool x.post.isSome, .string (letB x.post), .bool false, .string (magO x.post), .bool x.dev.isSome, .string (letB x.dev), .bool false, .string (magO x.dev), .slice A7 x.loc.length c7, .slice A8 x.leg.length c8] 82) = w3 at G3 H3 B3 O3 T3 ⊢
 generalize w2.heap.size = g6 at G3 ⊢
 refine start_ (n := 23) (S := fun w' => w'.cell? ⟨g6, 0, none⟩ = some (.bool ng) ∧ w'.cell? ⟨g6, 1, none⟩ = some (.string (magB nm)) ∧ w'.cell? ⟨g6, 2, none⟩ = some (.slice A9 (zIs x.rel).length c9) ∧ w'.cell? ⟨g6, 3, none⟩ = some (.bool x.pre.isSome) ∧ w'.cell? ⟨g6, 4, none⟩ = some (.string (letB x.pre)) ∧ w'.cell? ⟨g6, 5, none⟩ = some (.bool false) ∧ w'.cell? ⟨g6, 6, none⟩ = some (.string (magO x.pre)) ∧ w'.cell? ⟨g6, 7, none⟩ = some (.bool x.post.isSome) ∧ w'.cell? ⟨g6, 8, none⟩ = some (.string (letB x.post)) ∧ w'.cell? ⟨g6, 9, none⟩ = some (.bool false) ∧ w'.cell? ⟨g6, 10, none⟩ = some (.string (magO x.post)) ∧ w'.cell? ⟨g6, 11, none⟩ = some (.bool x.dev.isSome) ∧ w'.cell? ⟨g6, 12, none⟩ = some (.string (letB x.dev)) ∧ w'.cell? ⟨g6, 13, none⟩ = some (.bool false) ∧ w'.cell? ⟨g6, 14, none⟩ = some (.string (magO x.dev)) ∧ w'.cell? ⟨g6, 15, none⟩ = some (.slice A7 x.loc.length c7) ∧ w'.cell? ⟨g6, 16, none⟩ = some (.slice A8 x.leg.length c8)) (ds := [21]) #[false, false, false, false, false, false, false, false, false, false, false, false, false, false, false, false, false, false, false, false, false, false, false] (by kernel_rfl) rfl rfl ⟨(zf (zt G3.out) 0).trans rfl, (zf (zt G3.out) 1).trans rfl, (zf (zt G3.out) 2).trans rfl, (zf (zt G3.out) 3).trans rfl, (zf (zt G3.out) 4).trans rfl, (zf (zt G3.out) 5).trans rfl, (zf (zt G3.out) 6).trans rfl, (zf (zt G3.out) 7).trans rfl, (zf (zt G3.out) 8).trans rfl, (zf (zt G3.out) 9).trans rfl, (zf (zt G3.out) 10).trans rfl, (zf (zt G3.out) 11).trans rfl, (zf (zt G3.out) 12).trans rfl, (zf (zt G3.out) 13).trans rfl, (zf (zt G3.out) 14).trans rfl, (zf (zt G3.out) 15).trans rfl, (zf (zt G3.out) 16).trans rfl⟩ (fun hHeld => ?_)
 have G4 := za.mk (zt G3.out)
 have H4 := za.mk (zt H3.out)
 have B4 := za.mk (zvb B3.out)
 have O4 := za.mk (Kd.R_drew O3.out)
 have T4 := za.mk (And.intro (Kd.R_drew T3.out.1) (Kd.R_drew T3.out.2))
 clear G3 H3 B3 O3 T3
 generalize w3.drew = w4 at G4 H4 B4 O4 T4 hHeld ⊢
 refine pure_ (i := 0) (N := some 17) (v := ?_) (a' := ?_) #[true, false, false, false, false, false, false, false, false, false, false, false, false, false, false, false, false, false, false, false, false, false, false] rfl rfl (by kernel_rfl) (fun _ _ _ h => h) (Or.inl ⟨by rfl, ?_⟩) ?_ ?_
 rotate_left
 ·intro w'
  go_simp
  with_reducible rfl
 rotate_left
 ·simp only [Act.put, List.setIfInBounds_toArray, List.set_cons_zero, List.set_cons_succ, i64_w, i32_w]
  rfl
 refine pure_ (i := 2) (N := some 19) (v := ?_) (a' := ?_) #[true, false, true, false, false, false, false, false, false, false, false, false, false, false, false, false, false, false, false, false, false, false, false] rfl rfl (by kernel_rfl) (fun _ _ _ h => h) (Or.inl ⟨by rfl, ?_⟩) ?_ ?_
 rotate_left
 ·intro w'
  go_simp
  with_reducible rfl
 rotate_left
 ·simp only [Act.put, List.setIfInBounds_toArray, List.set_cons_zero, List.set_cons_succ, i64_w, i32_w]
  rfl
 refine pure_ (i := 5) (N := some 22) (v := ?_) (a' := ?_) #[true, false, true, false, false, true, false, false, false, false, false, false, false, false, false, false, false, false, false, false, false, false, false] rfl rfl (by kernel_rfl) (fun _ _ _ h => h) (Or.inl ⟨by rfl, ?_⟩) ?_ ?_
 rotate_left
 ·intro w'
  go_simp
  with_reducible rfl
 rotate_left
 ·simp only [Act.put, List.setIfInBounds_toArray, List.set_cons_zero, List.set_cons_succ, i64_w, i32_w]
  rfl
 refine pure_ (i := 8) (N := some 25) (v := ?_) (a' := ?_) #[true, false, true, false, false, true, false, false, true, false, false, false, false, false, false, false, false, false, false, false, false, false, false] rfl rfl (by kernel_rfl) (fun _ _ _ h => h) (Or.inl ⟨by rfl, ?_⟩) ?_ ?_
 rotate_left
 ·intro w'
  go_simp
  with_reducible rfl
 rotate_left
 ·simp only [Act.put, List.setIfInBounds_toArray, List.set_cons_zero, List.set_cons_succ, i64_w, i32_w]
  rfl
 refine pure_ (i := 11) (N := some 28) (v := ?_) (a' := ?_) #[true, false, true, false, false, true, false, false, true, false, false, true, false, false, false, false, false, false, false, false, false, false, false] rfl rfl (by kernel_rfl) (fun _ _ _ h => h) (Or.inl ⟨by rfl, ?_⟩) ?_ ?_
 rotate_left
 ·intro w'
  go_simp
  with_reducible rfl
 rotate_left
 ·simp only [Act.put, List.setIfInBounds_toArray, List.set_cons_zero, List.set_cons_succ, i64_w, i32_w]
  rfl
 refine pure_ (i := 14) (N := some 31) (v := ?_) (a' := ?_) #[true, false, true, false, false, true, false, false, true, false, false, true, false, false, true, false, false, false, false, false, false, false, false] rfl rfl (by kernel_rfl) (fun _ _ _ h => h) (Or.inl ⟨by rfl, ?_⟩) ?_ ?_
 rotate_left
 ·intro w'
  go_simp
  with_reducible rfl
 rotate_left
 ·simp only [Act.put, List.setIfInBounds_toArray, List.set_cons_zero, List.set_cons_succ, i64_w, i32_w]
  rfl
 refine pure_ (i := 17) (N := some 34) (v := ?_) (a' := ?_) #[true, false, true, false, false, true, false, false, true, false, false, true, false, false, true, false, false, true, false, false, false, false, false] rfl rfl (by kernel_rfl) (fun _ _ _ h => h) (Or.inl ⟨by rfl, ?_⟩) ?_ ?_
 rotate_left
 ·intro w'
  go_simp
  with_reducible rfl
 rotate_left
 ·simp only [Act.put, List.setIfInBounds_toArray, List.set_cons_zero, List.set_cons_succ, i64_w, i32_w]
  rfl
 refine take_ (i := 1) (N := some 18) (v := ?_) (a' := ?_) #[true, true, true, false, false, true, false, false, true, false, false, true, false, false, true, false, false, true, false, false, false, false, false] rfl rfl (by kernel_rfl) (fun _ _ _ h => h) (Or.inl ⟨by rfl, ?_⟩) hHeld ?_ ?_
 rotate_left
 ·rintro w' ⟨s0, s1, s2, s3, s4, s5, s6, s7, s8, s9, s10, s11, s12, s13, s14, s15, s16⟩
  go_simp
  with_reducible rfl
 rotate_left
 ·simp only [Act.put, List.setIfInBounds_toArray, List.set_cons_zero, List.set_cons_succ, i64_w, i32_w]
  rfl
 refine take_ (i := 3) (N := some 20) (v := ?_) (a' := ?_) #[true, true, true, true, false, true, false, false, true, false, false, true, false, false, true, false, false, true, false, false, false, false, false] rfl rfl (by kernel_rfl) (fun _ _ _ h => h) (Or.inl ⟨by rfl, ?_⟩) hHeld ?_ ?_
 rotate_left
 ·rintro w' ⟨s0, s1, s2, s3, s4, s5, s6, s7, s8, s9, s10, s11, s12, s13, s14, s15, s16⟩
  go_simp
  with_reducible rfl
 rotate_left
 ·simp only [Act.put, List.setIfInBounds_toArray, List.set_cons_zero, List.set_cons_succ, i64_w, i32_w]
  rfl
 refine take_ (i := 6) (N := some 23) (v := ?_) (a' := ?_) #[true, true, true, true, false, true, true, false, true, false, false, true, false, false, true, false, false, true, false, false, false, false, false] rfl rfl (by kernel_rfl) (fun _ _ _ h => h) (Or.inl ⟨by rfl, ?_⟩) hHeld ?_ ?_
 rotate_left
 ·rintro w' ⟨s0, s1, s2, s3, s4, s5, s6, s7, s8, s9, s10, s11, s12, s13, s14, s15, s16⟩
  go_simp
  with_reducible rfl
 rotate_left
 ·simp only [Act.put, List.setIfInBounds_toArray, List.set_cons_zero, List.set_cons_succ, i64_w, i32_w]
  rfl
 refine take_ (i := 9) (N := some 26) (v := ?_) (a' := ?_) #[true, true, true, true, false, true, true, false, true, true, false, true, false, false, true, false, false, true, false, false, false, false, false] rfl rfl (by kernel_rfl) (fun _ _ _ h => h) (Or.inl ⟨by rfl, ?_⟩) hHeld ?_ ?_
 rotate_left
 ·rintro w' ⟨s0, s1, s2, s3, s4, s5, s6, s7, s8, s9, s10, s11, s12, s13, s14, s15, s16⟩
  go_simp
  with_reducible rfl
 rotate_left
 ·simp only [Act.put, List.setIfInBounds_toArray, List.set_cons_zero, List.set_cons_succ, i64_w, i32_w]
  rfl
 refine take_ (i := 12) (N := some 29) (v := ?_) (a' := ?_) #[true, true, true, true, false, true, true, false, true, true, false, true, true, false, true, false, false, true, false, false, false, false, false] rfl rfl (by kernel_rfl) (fun _ _ _ h => h) (Or.inl ⟨by rfl, ?_⟩) hHeld ?_ ?_
 rotate_left
 ·rintro w' ⟨s0, s1, s2, s3, s4, s5, s6, s7, s8, s9, s10, s11, s12, s13, s14, s15, s16⟩
  go_simp
  with_reducible rfl
 rotate_left
 ·simp only [Act.put, List.setIfInBounds_toArray, List.set_cons_zero, List.set_cons_succ, i64_w, i32_w]
  rfl
 refine take_ (i := 15) (N := some 32) (v := ?_) (a' := ?_) #[true, true, true, true, false, true, true, false, true, true, false, true, true, false, true, true, false, true, false, false, false, false, false] rfl rfl (by kernel_rfl) (fun _ _ _ h => h) (Or.inl ⟨by rfl, ?_⟩) hHeld ?_ ?_
 rotate_left
 ·rintro w' ⟨s0, s1, s2, s3, s4, s5, s6, s7, s8, s9, s10, s11, s12, s13, s14, s15, s16⟩
  go_simp
  with_reducible rfl
 rotate_left
 ·simp only [Act.put, List.setIfInBounds_toArray, List.set_cons_zero, List.set_cons_succ, i64_w, i32_w]
  rfl
 refine take_ (i := 18) (N := some 35) (v := ?_) (a' := ?_) #[true, true, true, true, false, true, true, false, true, true, false, true, true, false, true, true, false, true, true, false, false, false, false] rfl rfl (by kernel_rfl) (fun _ _ _ h => h) (Or.inl ⟨by rfl, ?_⟩) hHeld ?_ ?_
 rotate_left
 ·rintro w' ⟨s0, s1, s2, s3, s4, s5, s6, s7, s8, s9, s10, s11, s12, s13, s14, s15, s16⟩
  go_simp
  with_reducible rfl
 rotate_left
 ·simp only [Act.put, List.setIfInBounds_toArray, List.set_cons_zero, List.set_cons_succ, i64_w, i32_w]
  rfl
 refine one_ (i := 4) (N := some 21) #[true, true, true, true, true, true, true, false, true, true, false, true, true, false, true, true, false, true, true, false, false, false, false] rfl rfl (by kernel_rfl) (by decide) (fun K hK => ?_)
 refine goes_ Tryz.func41 (by kernel_rfl) rfl #[.slice A9 (zIs x.rel).length c9] (by rfl) rfl rfl (by simp only [List.map_toArray, List.map_cons, List.map_nil]; rfl) ?_
 with_reducible refine (zzb.calls kp A9 c9 (zIs x.rel) _ w4 (Kd.R_reads' O4.out).2.2 (Kd.R_reads' O4.out).2.1 HPL.out).mono ?_
 rintro e w5 ⟨v5, rfl, ho, hb⟩
 refine ⟨_, rfl, ?_⟩
 have G5 := za.mk (zr G4.out hb)
 have H5 := za.mk (zr H4.out hb)
 have B5 := za.mk (zhc B4.out B4.out.size hb)
 have T5 := za.mk (And.intro (Kd.R_below T4.out.1 hb) (Kd.R_below T4.out.2 hb))
 obtain ⟨A10, c10, rfl⟩ := Kd.R_slice ho
 have O5 := za.mk (Kd.R_lower ho B4.out.size)
 clear ho hb
 refine hK.out _ _ ⟨(zf G5.out 0).trans rfl, (zf G5.out 1).trans rfl, (zf G5.out 2).trans rfl, (zf G5.out 3).trans rfl, (zf G5.out 4).trans rfl, (zf G5.out 5).trans rfl, (zf G5.out 6).trans rfl, (zf G5.out 7).trans rfl, (zf G5.out 8).trans rfl, (zf G5.out 9).trans rfl, (zf G5.out 10).trans rfl, (zf G5.out 11).trans rfl, (zf G5.out 12).trans rfl, (zf G5.out 13).trans rfl, (zf G5.out 14).trans rfl, (zf G5.out 15).trans rfl, (zf G5.out 16).trans rfl⟩ (fun hHeld => ?_)
 clear hK K
 refine Go.Proofs.YtlijjnjpomnphaaGreatDoorW.PrintLast.norm_ (a' := ?_) ?_ ?_
 rotate_left
 ·show Act.put _ (some 21) _ = _
  simp only [Act.put, List.setIfInBounds_toArray, List.set_cons_zero, List.set_cons_succ, i64_w, i32_w]
  rfl
 refine one_ (i := 7) (N := some 24) #[true, true, true, true, true, true, true, true, true, true, false, true, true, false, true, true, false, true, true, false, false, false, false] rfl rfl (by kernel_rfl) (by decide) (fun K hK => ?_)
 refine goes_ Tryz.func42 (by kernel_rfl) rfl #[.agg #[.bool x.pre.isSome, .string (letB x.pre), .bool false, .string (magO x.pre)]] (by rfl) rfl rfl (by simp only [List.map_toArray, List.map_cons, List.map_nil]; rfl) ?_
 with_reducible refine (zld.calls x.pre.isSome (letB x.pre) false (magO x.pre) _ _ _ _ _ rfl).mono ?_
 rintro e w6 ⟨rfl, hb⟩
 refine ⟨_, rfl, ?_⟩
 have G6 := za.mk (zr G5.out hb)
 have H6 := za.mk (zr H5.out hb)
 have B6 := za.mk (zhc B5.out B5.out.size hb)
 have T6 := za.mk (And.intro (Kd.R_below T5.out.1 hb) (Kd.R_below T5.out.2 hb))
 have O6 := za.mk (Kd.R_below O5.out hb)
 clear hb
 refine hK.out _ _ ⟨(zf G6.out 0).trans rfl, (zf G6.out 1).trans rfl, (zf G6.out 2).trans rfl, (zf G6.out 3).trans rfl, (zf G6.out 4).trans rfl, (zf G6.out 5).trans rfl, (zf G6.out 6).trans rfl, (zf G6.out 7).trans rfl, (zf G6.out 8).trans rfl, (zf G6.out 9).trans rfl, (zf G6.out 10).trans rfl, (zf G6.out 11).trans rfl, (zf G6.out 12).trans rfl, (zf G6.out 13).trans rfl, (zf G6.out 14).trans rfl, (zf G6.out 15).trans rfl, (zf G6.out 16).trans rfl⟩ (fun hHeld => ?_)
 clear hK K
 refine Go.Proofs.YtlijjnjpomnphaaGreatDoorW.PrintLast.norm_ (a' := ?_) ?_ ?_
 rotate_left
 ·show Act.put _ (some 24) _ = _
  simp only [Act.put, List.setIfInBounds_toArray, List.set_cons_zero, List.set_cons_succ, i64_w, i32_w]
  rfl
 refine one_ (i := 10) (N := some 27) #[true, true, true, true, true, true, true, true, true, true, true, true, true, false, true, true, false, true, true, false, false, false, false] rfl rfl (by kernel_rfl) (by decide) (fun K hK => ?_)
 refine goes_ Tryz.func42 (by kernel_rfl) rfl #[.agg #[.bool x.post.isSome, .string (letB x.post), .bool false, .string (magO x.post)]] (by rfl) rfl rfl (by simp only [List.map_toArray, List.map_cons, List.map_nil]; rfl) ?_
 with_reducible refine (zld.calls x.post.isSome (letB x.post) false (magO x.post) _ _ _ _ _ rfl).mono ?_
 rintro e w7 ⟨rfl, hb⟩
 refine ⟨_, rfl, ?_⟩
 have G7 := za.mk (zr G6.out hb)
 have H7 := za.mk (zr H6.out hb)
 have B7 := za.mk (zhc B6.out B6.out.size hb)
 have T7 := za.mk (And.intro (Kd.R_below T6.out.1 hb) (Kd.R_below T6.out.2 hb))
 have O7 := za.mk (Kd.R_below O6.out hb)
 clear hb
 refine hK.out _ _ ⟨(zf G7.out 0).trans rfl, (zf G7.out 1).trans rfl, (zf G7.out 2).trans rfl, (zf G7.out 3).trans rfl, (zf G7.out 4).trans rfl, (zf G7.out 5).trans rfl, (zf G7.out 6).trans rfl, (zf G7.out 7).trans rfl, (zf G7.out 8).trans rfl, (zf G7.out 9).trans rfl, (zf G7.out 10).trans rfl, (zf G7.out 11).trans rfl, (zf G7.out 12).trans rfl, (zf G7.out 13).trans rfl, (zf G7.out 14).trans rfl, (zf G7.out 15).trans rfl, (zf G7.out 16).trans rfl⟩ (fun hHeld => ?_)
 clear hK K
 refine Go.Proofs.YtlijjnjpomnphaaGreatDoorW.PrintLast.norm_ (a' := ?_) ?_ ?_
 rotate_left
 ·show Act.put _ (some 27) _ = _
  simp only [Act.put, List.setIfInBounds_toArray, List.set_cons_zero, List.set_cons_succ, i64_w, i32_w]
  rfl
 refine one_ (i := 13) (N := some 30) #[true, true, true, true, true, true, true, true, true, true, true, true, true, true, true, true, false, true, true, false, false, false, false] rfl rfl (by kernel_rfl) (by decide) (fun K hK => ?_)
 refine goes_ Tryz.func42 (by kernel_rfl) rfl #[.agg #[.bool x.dev.isSome, .string (letB x.dev), .bool false, .string (magO x.dev)]] (by rfl) rfl rfl (by simp only [List.map_toArray, List.map_cons, List.map_nil]; rfl) ?_
 with_reducible refine (zld.calls x.dev.isSome (letB x.dev) false (magO x.dev) _ _ _ _ _ rfl).mono ?_
 rintro e w8 ⟨rfl, hb⟩
 refine ⟨_, rfl, ?_⟩
 have G8 := za.mk (zr G7.out hb)
 have H8 := za.mk (zr H7.out hb)
 have B8 := za.mk (zhc B7.out B7.out.size hb)
 have T8 := za.mk (And.intro (Kd.R_below T7.out.1 hb) (Kd.R_below T7.out.2 hb))
 have O8 := za.mk (Kd.R_below O7.out hb)
 clear hb
 refine hK.out _ _ ⟨(zf G8.out 0).trans rfl, (zf G8.out 1).trans rfl, (zf G8.out 2).trans rfl, (zf G8.out 3).trans rfl, (zf G8.out 4).trans rfl, (zf G8.out 5).trans rfl, (zf G8.out 6).trans rfl, (zf G8.out 7).trans rfl, (zf G8.out 8).trans rfl, (zf G8.out 9).trans rfl, (zf G8.out 10).trans rfl, (zf G8.out 11).trans rfl, (zf G8.out 12).trans rfl, (zf G8.out 13).trans rfl, (zf G8.out 14).trans rfl, (zf G8.out 15).trans rfl, (zf G8.out 16).trans rfl⟩ (fun hHeld => ?_)
 clear hK K
 refine Go.Proofs.YtlijjnjpomnphaaGreatDoorW.PrintLast.norm_ (a' := ?_) ?_ ?_
 rotate_left
 ·show Act.put _ (some 30) _ = _
  simp only [Act.put, List.setIfInBounds_toArray, List.set_cons_zero, List.set_cons_succ, i64_w, i32_w]
  rfl
 refine one_ (i := 16) (N := some 33) #[true, true, true, true, true, true, true, true, true, true, true, true, true, true, true, true, true, true, true, false, false, false, false] rfl rfl (by kernel_rfl) (by decide) (fun K hK => ?_)
 refine Kd.R_append_rows_step Kd.string (w0 := w8) w8.heap.size (by rfl) (.const (.slice none 0 0)) (.tmp 32) 24 9 (.string ⟨#[]⟩) 16 rfl Tryz.underlying24 infoStr rfl (by decide) (by omega) (.slice none 0 0) ([] : List ByteArray) x.loc A7 x.loc.length c7 (fun _ => True) (fun _ => False) rfl rfl (Kd.R_nil _ _ _ _ _) (Kd.R_reads' T8.out.1).2.2 (fun _ _ h => h) (fun _ h => h.elim) (fun _ _ => trivial) (Below.refl _ _) (Nat.le_refl _) ?aL ?_
 (case aL => have h9 := M2.out; simp only [List.length_nil]; omega)
 intro va w9 ho hb hg hat
 rw [List.nil_append] at ho
 obtain ⟨A19, c19, rfl⟩ := Kd.R_slice ho
 have G9 := za.mk (zr G8.out hb)
 have H9 := za.mk (zr H8.out hb)
 have B9 := za.mk (zhc B8.out B8.out.size hb)
 have T9 := za.mk (And.intro (Kd.R_below T8.out.1 hb) (Kd.R_below T8.out.2 hb))
 have O9 := za.mk (Kd.R_below O8.out hb)
 have P9 := za.mk (Kd.R_lower ho B8.out.size)
 clear ho hb hg hat
 refine hK.out _ _ ⟨(zf G9.out 0).trans rfl, (zf G9.out 1).trans rfl, (zf G9.out 2).trans rfl, (zf G9.out 3).trans rfl, (zf G9.out 4).trans rfl, (zf G9.out 5).trans rfl, (zf G9.out 6).trans rfl, (zf G9.out 7).trans rfl, (zf G9.out 8).trans rfl, (zf G9.out 9).trans rfl, (zf G9.out 10).trans rfl, (zf G9.out 11).trans rfl, (zf G9.out 12).trans rfl, (zf G9.out 13).trans rfl, (zf G9.out 14).trans rfl, (zf G9.out 15).trans rfl, (zf G9.out 16).trans rfl⟩ (fun hHeld => ?_)
 clear hK K
 refine Go.Proofs.YtlijjnjpomnphaaGreatDoorW.PrintLast.norm_ (a' := ?_) ?_ ?_
 rotate_left
 ·show Act.put _ (some 33) _ = _
  simp only [Act.put, List.setIfInBounds_toArray, List.set_cons_zero, List.set_cons_succ, i64_w, i32_w]
  rfl
 refine one_ (i := 19) (N := some 36) #[true, true, true, true, true, true, true, true, true, true, true, true, true, true, true, true, true, true, true, true, false, false, false] rfl rfl (by kernel_rfl) (by decide) (fun K hK => ?_)
 refine Kd.R_append_rows_step Kd.string (w0 := w9) w9.heap.size (by rfl) (.const (.slice none 0 0)) (.tmp 35) 24 9 (.string ⟨#[]⟩) 16 rfl Tryz.underlying24 infoStr rfl (by decide) (by omega) (.slice none 0 0) ([] : List ByteArray) x.leg A8 x.leg.length c8 (fun k_ => w9.heap.size ≤ k_) (fun _ => False) rfl rfl (Kd.R_nil _ _ _ _ _) (Kd.R_reads' T9.out.2).2.2 (fun _ _ h => h) (fun _ h => h.elim) (fun _ h => h) (Below.refl _ _) (Nat.le_refl _) ?aL ?_
 (case aL => have h9 := M2.out; simp only [List.length_nil]; omega)
 intro va w10 ho hb hg hat
 rw [List.nil_append] at ho
 obtain ⟨A20, c20, rfl⟩ := Kd.R_slice ho
 have G10 := za.mk (zr G9.out hb)
 have H10 := za.mk (zr H9.out hb)
 have B10 := za.mk (zhc B9.out B9.out.size hb)
 have T10 := za.mk (And.intro (Kd.R_below T9.out.1 hb) (Kd.R_below T9.out.2 hb))
 have O10 := za.mk (Kd.R_below O9.out hb)
 have P10 := za.mk (Kd.R_after (Kd.R_apart_nil P9.out) hg hat)
 have Q10 := za.mk (Kd.R_mono (Kd.R_lower ho B9.out.size) (fun k_ hk => Kd.fresh' (Kd.R_lt P9.out) k_ hk))
 clear ho hb hg hat
 have z0 := (zf H10.out 0).trans rfl
 have z1 := (zf H10.out 1).trans rfl
 have z2 := (zf H10.out 2).trans rfl
 have z3 := (zf H10.out 3).trans rfl
 have z4 := (zf H10.out 4).trans rfl
 have z5 := (zf H10.out 5).trans rfl
 have z6 := (zf H10.out 6).trans rfl
 have z7 := (zf H10.out 7).trans rfl
 have z8 := (zf H10.out 8).trans rfl
 have z9 := (zf H10.out 9).trans rfl
 have z10 := (zf H10.out 10).trans rfl
 have z11 := (zf H10.out 11).trans rfl
 have z12 := (zf H10.out 12).trans rfl
 have z13 := (zf H10.out 13).trans rfl
 have z14 := (zf H10.out 14).trans rfl
 have z15 := (zf H10.out 15).trans rfl
 have z16 := (zf H10.out 16).trans rfl
 have f0 := zi H10.out 0
 have f1 := zi H10.out 1
 have f2 := zi H10.out 2
 have f3 := zi H10.out 3
 have f4 := zi H10.out 4
 have f5 := zi H10.out 5
 have f6 := zi H10.out 6
 have f7 := zi H10.out 7
 have f8 := zi H10.out 8
 have f9 := zi H10.out 9
 have f10 := zi H10.out 10
 have f11 := zi H10.out 11
 have f12 := zi H10.out 12
 have f13 := zi H10.out 13
 have f14 := zi H10.out 14
 have f15 := zi H10.out 15
 have f16 := zi H10.out 16
 refine hK.out _ _ ⟨(zf G10.out 0).trans rfl, (zf G10.out 1).trans rfl, (zf G10.out 2).trans rfl, (zf G10.out 3).trans rfl, (zf G10.out 4).trans rfl, (zf G10.out 5).trans rfl, (zf G10.out 6).trans rfl, (zf G10.out 7).trans rfl, (zf G10.out 8).trans rfl, (zf G10.out 9).trans rfl, (zf G10.out 10).trans rfl, (zf G10.out 11).trans rfl, (zf G10.out 12).trans rfl, (zf G10.out 13).trans rfl, (zf G10.out 14).trans rfl, (zf G10.out 15).trans rfl, (zf G10.out 16).trans rfl⟩ (fun hHeld => ?_)
 clear hK K
 refine Go.Proofs.YtlijjnjpomnphaaGreatDoorW.PrintLast.norm_ (a' := ?_) ?_ ?_
 rotate_left
 ·show Act.put _ (some 36) _ = _
  simp only [Act.put, List.setIfInBounds_toArray, List.set_cons_zero, List.set_cons_succ, i64_w, i32_w]
  rfl
 refine pure_ (i := 20) (N := some 37) (v := ?_) (a' := ?_) #[true, true, true, true, true, true, true, true, true, true, true, true, true, true, true, true, true, true, true, true, true, false, false] rfl rfl (by kernel_rfl) (fun _ _ _ h => h) (Or.inl ⟨by rfl, ?_⟩) ?_ ?_
 rotate_left
 ·intro w'
  go_simp
  with_reducible rfl
 rotate_left
 ·simp only [Act.put, List.setIfInBounds_toArray, List.set_cons_zero, List.set_cons_succ, i64_w, i32_w]
  rfl
 refine last_ (i := 21) (N := none) #[true, true, true, true, true, true, true, true, true, true, true, true, true, true, true, true, true, true, true, true, true, true, false] rfl rfl (by kernel_rfl) (by decide) (fun K hK => ?_)
 refine skip_ (w1 := ?_) (by rfl) rfl ?_ ?_
 rotate_left
 ·go_simp
  rfl
 refine hK.out _ _ ?_
 clear hK K
 refine pure_ (i := 22) (N := some 3) (v := ?_) (a' := ?_) #[true, true, true, true, true, true, true, true, true, true, true, true, true, true, true, true, true, true, true, true, true, true, true] rfl rfl (by kernel_rfl) (fun _ _ _ h => h) (Or.inl ⟨by rfl, ?_⟩) ?_ ?_
 rotate_left
 ·intro w'
  go_simp
  with_reducible rfl
 rotate_left
 ·simp only [Act.put, List.setIfInBounds_toArray, List.set_cons_zero, List.set_cons_succ, i64_w, i32_w]
  rfl
 refine done_ (by kernel_rfl) ?_
 go_wp2
 (try simp only [Exit.inBlock, Exit.then])
 have e3 : (zIs x.rel).map pI = x.rel.map (fun n => (⟨false, magB n⟩ : S29)) := by unfold zIs; rw [List.map_map]; rfl
 have o10 := O10.out
 rw [List.length_map] at o10
 have hK := fun (W : World) (h : ∀ b, b ≠ w.heap.size → W.heap[b]? = w10.heap[b]?) => zaf (p := fun t => t != 34) (W := W) H10.out (by decide) h
 refine bodyPost_ret (znc rfl _ _ w.heap.size 34 _ (0, 0) _ rfl (put17 H10.out) Tryz.underlying34 rfl (by kernel_rfl)) rfl ?_
 refine ⟨_, _, _, rfl, zqd (p := fun t => t != 34) rfl (by decide) ?_ (hK _ (fun b h => by repeat rw [Below.heap_setCell _ _ _ _ h])), zqd (p := fun t => t != 34) rfl (by decide) (Kd.R_mono P10.out (fun _ hk => hk.2)) (hK _ (fun b h => by repeat rw [Below.heap_setCell _ _ _ _ h])), zqd (p := fun t => t != 34) rfl (by decide) Q10.out (hK _ (fun b h => by repeat rw [Below.heap_setCell _ _ _ _ h])), ?_⟩
 ·rw [← e3]; exact o10
 ·have b5 := B10.out
  repeat (first | (with_reducible exact b5) | refine zo ?_ (Nat.le_refl _))
def zwd.f (a0 : ByteArray) : Option ToldT := if POk a0 then some (toldY (valL (bytesOf a0))) else none
theorem zwd.calls (a0 : ByteArray) (r1 : Bool) (r2 : ByteArray) (r3 : List S29) (r4 : Bool) (r5 : ByteArray) (r6 : Bool) (r7 : ByteArray) (r8 : Bool) (r9 : ByteArray) (r10 : Bool) (r11 : ByteArray) (r12 : Bool) (r13 : ByteArray) (r14 : Bool) (r15 : ByteArray) (r16 r17 : List ByteArray) (r18 : Bool) (w : World) (h : zwd.f a0 = some (r1, r2, r3, r4, r5, r6, r7, r8, r9, r10, r11, r12, r13, r14, r15, r16, r17, r18)) (hG : GL w) :
  Calls Tryz.prog 16 #[.string a0] w fun e w' => ∃ v3_ v16_ v17_ : Value, e = .returned (.tuple #[.agg #[.bool r1, .string r2, v3_, .bool r4, .string r5, .bool r6, .string r7, .bool r8, .string r9, .bool r10, .string r11, .bool r12, .string r13, .bool r14, .string r15, v16_, v17_], .bool r18]) ∧
   Kd.R k29 29 w' w.heap.size (fun _ => True) v3_ r3 ∧ Kd.R Kd.string 9 w' w.heap.size (fun k_ => some k_ ≠ (v17_ : Value).ownBlock) v16_ r16 ∧ Kd.R Kd.string 9 w' w.heap.size (fun k_ => some k_ ≠ (v16_ : Value).ownBlock) v17_ r17 ∧ Below w.heap.size w w' := by
 unfold zwd.f at h
 by_cases hc : POk a0
 ·rw [if_pos hc] at h
  unfold toldY at h
  simp only [Option.some.injEq, Prod.mk.injEq] at h
  obtain ⟨rfl, rfl, rfl, rfl, rfl, rfl, rfl, rfl, rfl, rfl, rfl, rfl, rfl, rfl, rfl, rfl, rfl, rfl⟩ := h
  obtain ⟨q, ⟨k1, h1⟩, n1⟩ := hc.ev
  exact parseImpl_ w a0 k1 q _ n1 hG (h1 k1 (Nat.le_refl _))
 ·rw [if_neg hc] at h
  cases h
end Go.Proofs.YtlijjnjpomnphaaGreatDoorG
end
section
namespace Go.Proofs.YtlijjnjpomnphaaGreatDoor.Q
open Go.RowKit YtlijjnjpomnphaaGreatDoorH YtlijjnjpomnphaaGreatDoorG YtlijjnjpomnphaaGreatDoorW.PrintWords YtlijjnjpomnphaaGreatDoorW.PrintLast YtlijjnjpomnphaaGreatDoorW.PrintMore
attribute [local go_sem] zgd zhd zbe zce zxc zyc zfd zid
theorem eqA29 (d : Nat) (w : World) (x0 y0 : Bool) (x1 y1 : ByteArray) :
  (Op.equalIn (d + 2) 29 (.agg #[.bool x0, .string x1]) (.agg #[.bool y0, .string y1])).run Tryz.prog w = .ok (x0 == y0 && (x1.toList == y1.toList)) w := by
 refine eqA_of Tryz.underlying29 (by kernel_rfl) ?_
 refine eqf_cons (by rfl) (by go_simp; rfl) (by go_simp; rfl) (by go_simp) ?_
 exact eqf_last (by rfl) (by go_simp; rfl) (by go_simp; rfl) (by go_simp)
end Go.Proofs.YtlijjnjpomnphaaGreatDoor.Q
end
section
namespace Go.Proofs.YtlijjnjpomnphaaGreatDoor.Q
open Go.RowKit YtlijjnjpomnphaaGreatDoorH YtlijjnjpomnphaaGreatDoorG YtlijjnjpomnphaaGreatDoorW.PrintWords YtlijjnjpomnphaaGreatDoorW.PrintLast YtlijjnjpomnphaaGreatDoorW.PrintMore
attribute [local go_sem] zgd zhd zbe zce zxc zyc zfd zid
theorem eqA32 (d : Nat) (w : World) (x0 y0 : Bool) (x1 y1 : ByteArray) (x2 y2 : Bool) (x3 y3 : ByteArray) :
  (Op.equalIn (d + 3) 32 (.agg #[.bool x0, .string x1, .bool x2, .string x3]) (.agg #[.bool y0, .string y1, .bool y2, .string y3])).run Tryz.prog w = .ok (x0 == y0 && (x1.toList == y1.toList && ((x2 == y2 && (x3.toList == y3.toList))))) w := by
 refine eqA_of Tryz.underlying32 (by kernel_rfl) ?_
 refine eqf_cons (by rfl) (by go_simp; rfl) (by go_simp; rfl) (by go_simp) ?_
 refine eqf_cons (by rfl) (by go_simp; rfl) (by go_simp; rfl) (by go_simp) ?_
 exact eqf_last (by rfl) (by go_simp) (by go_simp) (eqA29 (d + 0) w _ _ _ _)
end Go.Proofs.YtlijjnjpomnphaaGreatDoor.Q
end
section
namespace Go.Proofs.YtlijjnjpomnphaaGreatDoor.Q
open Go.RowKit YtlijjnjpomnphaaGreatDoorH YtlijjnjpomnphaaGreatDoorG YtlijjnjpomnphaaGreatDoorW.PrintWords YtlijjnjpomnphaaGreatDoorW.PrintLast YtlijjnjpomnphaaGreatDoorW.PrintMore
attribute [local go_sem] zgd zhd zbe zce zxc zyc zfd zid
attribute [local go_sem high] eqA29 eqA32
def zmc.l0 : Nat → List ByteArray → List ByteArray → Int → Int → Option (Bool)
 | 0, _, _, _, _ => none
 | k + 1, x0, x1, x12, x13 => if x13 < x12 then (if 0 ≤ x13 then (if x13 < (x0.length : Int) then (if x13 < (x1.length : Int) then (if (rdOf ByteArray.empty x0 x13).toList = (rdOf ByteArray.empty x1 x13).toList then (zmc.l0 k x0 x1 x12 (wrap64 (x13 + 1))) else (some false)) else (none)) else (none)) else (none)) else (some true)
def zmc.f (k : Nat) (l0 : List ByteArray) (l1 : List ByteArray) : Option (Bool) := if (l0.length : Int) = (l1.length : Int) then (zmc.l0 k l0 l1 (l0.length : Int) 0) else (some false)
theorem zmc.calls (k : Nat) (A0 : Option Addr) (c0 : Nat) (l0 : List ByteArray) (A1 : Option Addr) (c1 : Nat) (l1 : List ByteArray) (r : Bool) (w : World) (hr0 : Kd.C Kd.string w A0 l0.length l0) (hc0 : l0.length ≤ c0) (hr1 : Kd.C Kd.string w A1 l1.length l1) (hc1 : l1.length ≤ c1) (h : zmc.f k l0 l1 = some r) :
  Calls Tryz.prog 29 #[.slice A0 l0.length c0, .slice A1 l1.length c1] w fun e w' => e = .returned (.bool r) ∧ zk w w' := by
 have HR0 := za.mk hr0
 have HC0 := za.mk hc0
 clear hr0 hc0
 have HR1 := za.mk hr1
 have HC1 := za.mk hc1
 clear hr1 hc1
 have H : (if (l0.length : Int) = (l1.length : Int) then (zmc.l0 k l0 l1 (l0.length : Int) 0) else (some false)) = some r := h
 clear h
 by_cases c3 : (l0.length : Int) = (l1.length : Int)
 ·rw [if_pos c3] at H
  have c3b0 : ((l0.length : Int) == (l1.length : Int)) = true := beq_iff_eq.mpr c3
  have c3b1 : ((l0.length : Int) != (l1.length : Int)) = false := bne_eq_false_iff_eq.mpr c3
  have c3b2 : (l0.length == l1.length) = true := by first | simpa using c3 | (simp at c3 ⊢; omega)
  clear c3
  have H' := za.mk H
  clear H
  go_enter Tryz.func29, Tryz.ntmps29
  go_wp2
  repeat (go_quiet (fail); try go_wp2)
  (try simp only [Act.put, List.setIfInBounds_toArray, List.set_cons_zero, List.set_cons_succ])
  go_loopg [13] k (fun kq v13 w' => ∃ (x13_1 : Int), v13 = .int .i64 x13_1 ∧ za (zmc.l0 kq l0 l1 (l0.length : Int) x13_1 = some r) ∧ za (kq ≤ k) ∧ zk w w')
  case atStart => exact ⟨(0), (by first | rfl | (simp; done) | (simp [*]; done) | (simp [zc]; done) | (simp [zc, *]; done)), H', ⟨Nat.le_refl _⟩, by repeat (first | exact zk.refl _ | apply zk.step)⟩
  case round =>
   clear H'
   try clear c1
   try clear c2
   try clear p2
   try clear c3
   try clear c3b0
   try clear c3b1
   try clear c3b2
   obtain ⟨x13_1, rfl, HA, HK1, ⟨m1, rfl⟩⟩ := hrel
   cases gk with
   | zero => exact absurd HA.out (by simp [zmc.l0])
   | succ k1 =>
    have H := HA.out
    clear HA
    simp only [zmc.l0] at H
    by_cases c4 : x13_1 < (l0.length : Int)
    ·rw [if_pos c4] at H
     have c4b0 : decide (x13_1 < (l0.length : Int)) = true := decide_eq_true c4
     clear c4
     by_cases c5 : 0 ≤ x13_1
     ·rw [if_pos c5] at H
      have c5b0 : decide (0 ≤ x13_1) = true := decide_eq_true c5
      clear c5
      by_cases c6 : x13_1 < (l0.length : Int)
      ·rw [if_pos c6] at H
       have c6b0 : decide (x13_1 < (l0.length : Int)) = true := decide_eq_true c6
       clear c6
       by_cases c7 : x13_1 < (l1.length : Int)
       ·rw [if_pos c7] at H
        have c7b0 : decide (x13_1 < (l1.length : Int)) = true := decide_eq_true c7
        clear c7
        by_cases c8 : (rdOf ByteArray.empty l0 x13_1).toList = (rdOf ByteArray.empty l1 x13_1).toList
        ·rw [if_pos c8] at H
         have c8b0 : ((rdOf ByteArray.empty l0 x13_1).toList == (rdOf ByteArray.empty l1 x13_1).toList) = true := beq_iff_eq.mpr c8
         have c8b1 : ((rdOf ByteArray.empty l0 x13_1).toList != (rdOf ByteArray.empty l1 x13_1).toList) = false := bne_eq_false_iff_eq.mpr c8
         clear c8
         have H' := za.mk H
         clear H
         have p197 : 0 ≤ (x13_1 : Int) := of_decide_eq_true (by first | (with_reducible assumption) | assumption)
         have q197 : x13_1 < (l0.length : Int) := of_decide_eq_true (by first | (with_reducible assumption) | assumption)
         obtain ⟨ad197, e197, hx197_0⟩ := Kd.at_string HR0.out x13_1 p197 q197
         cases e197
         replace p197 := eq_true p197
         replace q197 := eq_true q197
         have p198 : 0 ≤ (x13_1 : Int) := of_decide_eq_true (by first | (with_reducible assumption) | assumption)
         have q198 : x13_1 < (l1.length : Int) := of_decide_eq_true (by first | (with_reducible assumption) | assumption)
         obtain ⟨ad198, e198, hx198_0⟩ := Kd.at_string HR1.out x13_1 p198 q198
         cases e198
         replace p198 := eq_true p198
         replace q198 := eq_true q198
         go_wp2
         repeat (go_quiet (fail); try go_wp2)
         go_roundg k1
         case measure => have := HK1.out; omega
         case rel => exact ⟨(wrap64 (x13_1 + 1)), (by first | rfl | (simp; done) | (simp [*]; done) | (simp [zc]; done) | (simp [zc, *]; done)), H', ⟨by have := HK1.out; omega⟩, by repeat (first | exact zk.refl _ | apply zk.step)⟩
        ·rw [if_neg c8] at H
         have c8b0 : ((rdOf ByteArray.empty l0 x13_1).toList == (rdOf ByteArray.empty l1 x13_1).toList) = false := beq_eq_false_iff_ne.mpr c8
         have c8b1 : ((rdOf ByteArray.empty l0 x13_1).toList != (rdOf ByteArray.empty l1 x13_1).toList) = true := bne_iff_ne.mpr c8
         obtain rfl := Option.some.inj H
         have p197 : 0 ≤ (x13_1 : Int) := of_decide_eq_true (by first | (with_reducible assumption) | assumption)
         have q197 : x13_1 < (l0.length : Int) := of_decide_eq_true (by first | (with_reducible assumption) | assumption)
         obtain ⟨ad197, e197, hx197_0⟩ := Kd.at_string HR0.out x13_1 p197 q197
         cases e197
         replace p197 := eq_true p197
         replace q197 := eq_true q197
         have p198 : 0 ≤ (x13_1 : Int) := of_decide_eq_true (by first | (with_reducible assumption) | assumption)
         have q198 : x13_1 < (l1.length : Int) := of_decide_eq_true (by first | (with_reducible assumption) | assumption)
         obtain ⟨ad198, e198, hx198_0⟩ := Kd.at_string HR1.out x13_1 p198 q198
         cases e198
         replace p198 := eq_true p198
         replace q198 := eq_true q198
         go_wp2
         repeat (go_quiet (fail); try go_wp2)
         go_ret
         exact ⟨by first | rfl | (simp; done) | (simp [*]; done) | (simp [zc]; done) | (simp [zc, *]; done), by repeat (first | exact zk.refl _ | apply zk.step)⟩
       ·rw [if_neg c7] at H
        exact absurd H (by simp)
      ·rw [if_neg c6] at H
       exact absurd H (by simp)
     ·rw [if_neg c5] at H
      exact absurd H (by simp)
    ·rw [if_neg c4] at H
     have c4b0 : decide (x13_1 < (l0.length : Int)) = false := decide_eq_false c4
     clear c4
     obtain rfl := Option.some.inj H
     go_wp2
     repeat (go_quiet (fail); try go_wp2)
     go_ret
     exact ⟨by first | rfl | (simp; done) | (simp [*]; done) | (simp [zc]; done) | (simp [zc, *]; done), by repeat (first | exact zk.refl _ | apply zk.step)⟩
 ·rw [if_neg c3] at H
  have c3b0 : ((l0.length : Int) == (l1.length : Int)) = false := beq_eq_false_iff_ne.mpr c3
  have c3b1 : ((l0.length : Int) != (l1.length : Int)) = true := bne_iff_ne.mpr c3
  have c3b2 : (l0.length == l1.length) = false := by first | simpa using c3 | (simp at c3 ⊢; omega)
  obtain rfl := Option.some.inj H
  go_enter Tryz.func29, Tryz.ntmps29
  go_wp2
  repeat (go_quiet (fail); try go_wp2)
  go_ret
  exact ⟨by first | rfl | (simp; done) | (simp [*]; done) | (simp [zc]; done) | (simp [zc, *]; done), by repeat (first | exact zk.refl _ | apply zk.step)⟩
def zwc.l0 : Nat → List (S29) → List (S29) → Int → Int → Option (Bool)
 | 0, _, _, _, _ => none
 | k + 1, x0, x1, x12, x13 => if x13 < x12 then (if 0 ≤ x13 then (if x13 < (x0.length : Int) then (if x13 < (x1.length : Int) then (if (!(((zfe x0 x13).f0) == ((zfe x1 x13).f0)) || (!((((zfe x0 x13).f1).toList) == (((zfe x1 x13).f1).toList)))) = true then (some false) else (zwc.l0 k x0 x1 x12 (wrap64 (x13 + 1)))) else (none)) else (none)) else (none)) else (some true)
def zwc.f (k : Nat) (l0 : List (S29)) (l1 : List (S29)) : Option (Bool) := if (l0.length : Int) = (l1.length : Int) then (zwc.l0 k l0 l1 (l0.length : Int) 0) else (some false)
theorem zwc.calls (k : Nat) (A0 : Option Addr) (c0 : Nat) (l0 : List (S29)) (A1 : Option Addr) (c1 : Nat) (l1 : List (S29)) (r : Bool) (w : World) (hr0 : Kd.C k29 w A0 l0.length l0) (hc0 : l0.length ≤ c0) (hr1 : Kd.C k29 w A1 l1.length l1) (hc1 : l1.length ≤ c1) (h : zwc.f k l0 l1 = some r) :
  Calls Tryz.prog 43 #[.slice A0 l0.length c0, .slice A1 l1.length c1] w fun e w' => e = .returned (.bool r) ∧ zk w w' := by
 have hu29 := Tryz.underlying29
 have HR0 := za.mk hr0
 have HC0 := za.mk hc0
 clear hr0 hc0
 have HR1 := za.mk hr1
 have HC1 := za.mk hc1
 clear hr1 hc1
 have H : (if (l0.length : Int) = (l1.length : Int) then (zwc.l0 k l0 l1 (l0.length : Int) 0) else (some false)) = some r := h
 clear h
 by_cases c3 : (l0.length : Int) = (l1.length : Int)
 ·rw [if_pos c3] at H
  have c3b0 : ((l0.length : Int) == (l1.length : Int)) = true := beq_iff_eq.mpr c3
  have c3b1 : ((l0.length : Int) != (l1.length : Int)) = false := bne_eq_false_iff_eq.mpr c3
  have c3b2 : (l0.length == l1.length) = true := by first | simpa using c3 | (simp at c3 ⊢; omega)
  clear c3
  have H' := za.mk H
  clear H
  go_enter Tryz.func43, Tryz.ntmps43
  go_wp2
  repeat (go_quiet (fail); try go_wp2)
  (try simp only [Act.put, List.setIfInBounds_toArray, List.set_cons_zero, List.set_cons_succ])
  go_loopg [13] k (fun kq v13 w' => ∃ (x13_1 : Int), v13 = .int .i64 x13_1 ∧ za (zwc.l0 kq l0 l1 (l0.length : Int) x13_1 = some r) ∧ za (kq ≤ k) ∧ zk w w')
  case atStart => exact ⟨(0), (by first | rfl | (simp; done) | (simp [*]; done) | (simp [zc]; done) | (simp [zc, *]; done)), H', ⟨Nat.le_refl _⟩, by repeat (first | exact zk.refl _ | apply zk.step)⟩
  case round =>
   clear H'
   try clear c1
   try clear p2
   try clear c3
   try clear c3b0
   try clear c3b1
   try clear c3b2
   obtain ⟨x13_1, rfl, HA, HK1, ⟨m1, rfl⟩⟩ := hrel
   cases gk with
   | zero => exact absurd HA.out (by simp [zwc.l0])
   | succ k1 =>
    have H := HA.out
    clear HA
    simp only [zwc.l0] at H
    by_cases c4 : x13_1 < (l0.length : Int)
    ·rw [if_pos c4] at H
     have c4b0 : decide (x13_1 < (l0.length : Int)) = true := decide_eq_true c4
     clear c4
     by_cases c5 : 0 ≤ x13_1
     ·rw [if_pos c5] at H
      have c5b0 : decide (0 ≤ x13_1) = true := decide_eq_true c5
      clear c5
      by_cases c6 : x13_1 < (l0.length : Int)
      ·rw [if_pos c6] at H
       have c6b0 : decide (x13_1 < (l0.length : Int)) = true := decide_eq_true c6
       clear c6
       by_cases c7 : x13_1 < (l1.length : Int)
       ·rw [if_pos c7] at H
        have c7b0 : decide (x13_1 < (l1.length : Int)) = true := decide_eq_true c7
        clear c7
        by_cases c8 : (!(((zfe l0 x13_1).f0) == ((zfe l1 x13_1).f0)) || (!((((zfe l0 x13_1).f1).toList) == (((zfe l1 x13_1).f1).toList)))) = true
        ·rw [if_pos c8] at H
         have c8b0 : (!(((zfe l0 x13_1).f0) == ((zfe l1 x13_1).f0)) || (!((((zfe l0 x13_1).f1).toList) == (((zfe l1 x13_1).f1).toList)))) = true := c8
         clear c8
         obtain rfl := Option.some.inj H
         have p199 : 0 ≤ (x13_1 : Int) := of_decide_eq_true (by first | (with_reducible assumption) | assumption)
         have q199 : x13_1 < (l0.length : Int) := of_decide_eq_true (by first | (with_reducible assumption) | assumption)
         obtain ⟨ad199, e199, hx199_0, hx199_1⟩ := at_T29 HR0.out x13_1 p199 q199
         cases e199
         replace p199 := eq_true p199
         replace q199 := eq_true q199
         have p200 : 0 ≤ (x13_1 : Int) := of_decide_eq_true (by first | (with_reducible assumption) | assumption)
         have q200 : x13_1 < (l1.length : Int) := of_decide_eq_true (by first | (with_reducible assumption) | assumption)
         obtain ⟨ad200, e200, hx200_0, hx200_1⟩ := at_T29 HR1.out x13_1 p200 q200
         cases e200
         replace p200 := eq_true p200
         replace q200 := eq_true q200
         go_wp2
         repeat (go_quiet (fail); try go_wp2)
         go_ret
         exact ⟨by first | rfl | (simp; done) | (simp [*]; done) | (simp [zc]; done) | (simp [zc, *]; done), by repeat (first | exact zk.refl _ | apply zk.step)⟩
        ·rw [if_neg c8] at H
         have c8b0 : (!(((zfe l0 x13_1).f0) == ((zfe l1 x13_1).f0)) || (!((((zfe l0 x13_1).f1).toList) == (((zfe l1 x13_1).f1).toList)))) = false := by simpa using c8
         clear c8
         have H' := za.mk H
         clear H
         have p199 : 0 ≤ (x13_1 : Int) := of_decide_eq_true (by first | (with_reducible assumption) | assumption)
         have q199 : x13_1 < (l0.length : Int) := of_decide_eq_true (by first | (with_reducible assumption) | assumption)
         obtain ⟨ad199, e199, hx199_0, hx199_1⟩ := at_T29 HR0.out x13_1 p199 q199
         cases e199
         replace p199 := eq_true p199
         replace q199 := eq_true q199
         have p200 : 0 ≤ (x13_1 : Int) := of_decide_eq_true (by first | (with_reducible assumption) | assumption)
         have q200 : x13_1 < (l1.length : Int) := of_decide_eq_true (by first | (with_reducible assumption) | assumption)
         obtain ⟨ad200, e200, hx200_0, hx200_1⟩ := at_T29 HR1.out x13_1 p200 q200
         cases e200
         replace p200 := eq_true p200
         replace q200 := eq_true q200
         go_wp2
         repeat (go_quiet (fail); try go_wp2)
         go_roundg k1
         case measure => have := HK1.out; omega
         case rel => exact ⟨(wrap64 (x13_1 + 1)), (by first | rfl | (simp; done) | (simp [*]; done) | (simp [zc]; done) | (simp [zc, *]; done)), H', ⟨by have := HK1.out; omega⟩, by repeat (first | exact zk.refl _ | apply zk.step)⟩
       ·rw [if_neg c7] at H
        exact absurd H (by simp)
      ·rw [if_neg c6] at H
       exact absurd H (by simp)
     ·rw [if_neg c5] at H
      exact absurd H (by simp)
    ·rw [if_neg c4] at H
     have c4b0 : decide (x13_1 < (l0.length : Int)) = false := decide_eq_false c4
     clear c4
     obtain rfl := Option.some.inj H
     go_wp2
     repeat (go_quiet (fail); try go_wp2)
     go_ret
     exact ⟨by first | rfl | (simp; done) | (simp [*]; done) | (simp [zc]; done) | (simp [zc, *]; done), by repeat (first | exact zk.refl _ | apply zk.step)⟩
 ·rw [if_neg c3] at H
  have c3b0 : ((l0.length : Int) == (l1.length : Int)) = false := beq_eq_false_iff_ne.mpr c3
  have c3b1 : ((l0.length : Int) != (l1.length : Int)) = true := bne_iff_ne.mpr c3
  have c3b2 : (l0.length == l1.length) = false := by first | simpa using c3 | (simp at c3 ⊢; omega)
  obtain rfl := Option.some.inj H
  go_enter Tryz.func43, Tryz.ntmps43
  go_wp2
  repeat (go_quiet (fail); try go_wp2)
  go_ret
  exact ⟨by first | rfl | (simp; done) | (simp [*]; done) | (simp [zc]; done) | (simp [zc, *]; done), by repeat (first | exact zk.refl _ | apply zk.step)⟩
end Go.Proofs.YtlijjnjpomnphaaGreatDoor.Q
end
section
namespace Go.Proofs.YtlijjnjpomnphaaGreatDoor.V
open Go.RowKit YtlijjnjpomnphaaGreatDoor.Q YtlijjnjpomnphaaGreatDoorG YtlijjnjpomnphaaGreatDoorH YtlijjnjpomnphaaGreatDoorB YtlijjnjpomnphaaGreatDoorC YtlijjnjpomnphaaGreatDoorM YtlijjnjpomnphaaGreatDoorY YtlijjnjpomnphaaGreatDoorP YtlijjnjpomnphaaGreatDoorW.PrintWords YtlijjnjpomnphaaGreatDoorW.PrintLast YtlijjnjpomnphaaGreatDoorW.PrintMore
def PyAt (w : World) : ToldT → Value → Prop
 | (n, m, rel, b1, t1, b2, t2, b3, t3, b4, t4, b5, t5, b6, t6, loc, leg, _), v => ∃ (A1 A2 A3 : Option Addr) (c1 c2 c3 : Nat), v = .agg #[.bool n, .string m, .slice A1 rel.length c1, .bool b1, .string t1, .bool b2, .string t2, .bool b3, .string t3, .bool b4, .string t4, .bool b5, .string t5, .bool b6, .string t6, .slice A2 loc.length c2, .slice A3 leg.length c3] ∧
  (Kd.C k29 w A1 rel.length rel ∧ rel.length ≤ c1) ∧ (Kd.C Kd.string w A2 loc.length loc ∧ loc.length ≤ c2) ∧ (Kd.C Kd.string w A3 leg.length leg ∧ leg.length ≤ c3)
theorem PyAt.below {w w' : World} {x : ToldT} {v : Value} (h : PyAt w x v) (hb : Below w.heap.size w w') : PyAt w' x v := by
 obtain ⟨n, m, rel, b1, t1, b2, t2, b3, t3, b4, t4, b5, t5, b6, t6, loc, leg, ok⟩ := x
 obtain ⟨A1, A2, A3, c1, c2, c3, rfl, ⟨h1, k1⟩, ⟨h2, k2⟩, h3, k3⟩ := h
 exact ⟨A1, A2, A3, c1, c2, c3, rfl, ⟨Kd.C_below h1 hb, k1⟩, ⟨Kd.C_below h2 hb, k2⟩, Kd.C_below h3 hb, k3⟩
theorem PyAt.agg {w : World} {x : ToldT} {v : Value} (h : PyAt w x v) : ∃ cs : Array Value, v = .agg cs ∧ cs.size = 17 ∧ cs.toList.all (·.oneCell') = true := by
  obtain ⟨n, m, rel, b1, t1, b2, t2, b3, t3, b4, t4, b5, t5, b6, t6, loc, leg, ok⟩ := x
  obtain ⟨A1, A2, A3, c1, c2, c3, rfl, _⟩ := h
  exact ⟨_, rfl, rfl, rfl⟩
theorem stageAt {w w' : World} {R : ByteArray} {x : ToldT} {e : Ending} (h : StageP w (R, x) e w') : ∃ v, e = .returned (.tuple #[.string R, v, .bool x.2.2.2.2.2.2.2.2.2.2.2.2.2.2.2.2.2]) ∧ PyAt w' x v ∧ Below w.heap.size w w' := by
 obtain ⟨n, m, rel, b1, t1, b2, t2, b3, t3, b4, t4, b5, t5, b6, t6, loc, leg, ok⟩ := x
 obtain ⟨v3, v16, v17, rfl, h1, h2, h3, hb⟩ := h
 obtain ⟨A1, c1, rfl⟩ := Kd.R_slice h1
 obtain ⟨A2, c2, rfl⟩ := Kd.R_slice h2
 obtain ⟨A3, c3, rfl⟩ := Kd.R_slice h3
 exact ⟨_, rfl, ⟨A1, A2, A3, c1, c2, c3, rfl, ⟨(Kd.R_reads' h1).2.2, (Kd.R_reads' h1).2.1⟩, ⟨(Kd.R_reads' h2).2.2, (Kd.R_reads' h2).2.1⟩, (Kd.R_reads' h3).2.2, (Kd.R_reads' h3).2.1⟩, hb⟩
theorem parseAt_ (w : World) {s : ByteArray} (hs : POk s) (hG : GL w) : Calls Tryz.prog 16 #[.string s] w fun e w' => ∃ v, e = .returned (.tuple #[v, .bool true]) ∧ PyAt w' (toldY (valL (bytesOf s))) v ∧ Below w.heap.size w w' := by
 refine (zwd.calls s _ _ _ _ _ _ _ _ _ _ _ _ _ _ _ _ _ _ w (by unfold zwd.f; rw [if_pos hs]) hG).mono ?_
 rintro e w' ⟨v3, v16, v17, rfl, h1, h2, h3, hb⟩
 obtain ⟨A1, c1, rfl⟩ := Kd.R_slice h1
 obtain ⟨A2, c2, rfl⟩ := Kd.R_slice h2
 obtain ⟨A3, c3, rfl⟩ := Kd.R_slice h3
 exact ⟨_, rfl, ⟨A1, A2, A3, c1, c2, c3, rfl, ⟨(Kd.R_reads' h1).2.2, (Kd.R_reads' h1).2.1⟩, ⟨(Kd.R_reads' h2).2.2, (Kd.R_reads' h2).2.1⟩, (Kd.R_reads' h3).2.2, (Kd.R_reads' h3).2.1⟩, hb⟩
theorem texts_from (l : List ByteArray) (hl : l.length ≤ 2147483647) : ∀ (n i : Nat), l.length - i = n → i ≤ l.length → Ev (fun k => zmc.l0 k l l (l.length : Int) (i : Int)) true := by
 intro n
 induction n with
 | zero =>
  intro i hn hi
  refine Ev.succ ?_
  simp only [zmc.l0]
  refine Ev.neg (fun _ => by omega) ?_
  exact Ev.now _
 | succ n ih =>
  intro i hn hi
  refine Ev.succ ?_
  simp only [zmc.l0]
  refine Ev.pos (fun _ => by omega) ?_
  refine Ev.pos (fun _ => by omega) ?_
  refine Ev.pos (fun _ => by omega) ?_
  refine Ev.pos (fun _ => by omega) ?_
  refine Ev.pos (fun _ => by first | trivial | rfl) ?_
  rw [w64 (by omega) (by omega)]
  exact ih (i + 1) (by omega) (by omega)
theorem texts_ (w : World) {A B : Option Addr} {c d : Nat} {l : List ByteArray} (hl : l.length ≤ 2147483647) (h1 : Kd.C Kd.string w A l.length l) (k1 : l.length ≤ c) (h2 : Kd.C Kd.string w B l.length l) (k2 : l.length ≤ d) : Calls Tryz.prog 29 #[.slice A l.length c, .slice B l.length d] w fun e w' => e = .returned (.bool true) ∧ Below w.heap.size w w' := by
 obtain ⟨k, hk⟩ : Ev (fun k => zmc.f k l l) true := by
  simp only [zmc.f]
  refine Ev.pos (fun _ => by first | trivial | rfl) ?_
  exact texts_from l hl _ 0 rfl (Nat.zero_le _)
 exact (zmc.calls k A c l B d l true w h1 k1 h2 k2 (hk k (Nat.le_refl _))).mono fun _ _ h => ⟨h.1, zde h.2⟩
theorem ints_from (l : List S29) (hl : l.length ≤ 2147483647) : ∀ (n i : Nat), l.length - i = n → i ≤ l.length → Ev (fun k => zwc.l0 k l l (l.length : Int) (i : Int)) true := by
 intro n
 induction n with
 | zero =>
  intro i hn hi
  refine Ev.succ ?_
  simp only [zwc.l0]
  refine Ev.neg (fun _ => by omega) ?_
  exact Ev.now _
 | succ n ih =>
  intro i hn hi
  refine Ev.succ ?_
  simp only [zwc.l0]
  refine Ev.pos (fun _ => by omega) ?_
  refine Ev.pos (fun _ => by omega) ?_
  refine Ev.pos (fun _ => by omega) ?_
  refine Ev.pos (fun _ => by omega) ?_
  refine Ev.neg (fun _ => by simp) ?_
  rw [w64 (by omega) (by omega)]
  exact ih (i + 1) (by omega) (by omega)
theorem ints_ (w : World) {A B : Option Addr} {c d : Nat} {l : List S29} (hl : l.length ≤ 2147483647) (h1 : Kd.C k29 w A l.length l) (k1 : l.length ≤ c) (h2 : Kd.C k29 w B l.length l) (k2 : l.length ≤ d) : Calls Tryz.prog 43 #[.slice A l.length c, .slice B l.length d] w fun e w' => e = .returned (.bool true) ∧ Below w.heap.size w w' := by
 obtain ⟨k, hk⟩ : Ev (fun k => zwc.f k l l) true := by
  simp only [zwc.f]
  refine Ev.pos (fun _ => by first | trivial | rfl) ?_
  exact ints_from l hl _ 0 rfl (Nat.zero_le _)
 exact (zwc.calls k A c l B d l true w h1 k1 h2 k2 (hk k (Nat.le_refl _))).mono fun _ _ h => ⟨h.1, zde h.2⟩
def ToldS (x : ToldT) : Prop := x.2.2.1.length ≤ 2147483647 ∧ x.2.2.2.2.2.2.2.2.2.2.2.2.2.2.2.1.length ≤ 2147483647 ∧ x.2.2.2.2.2.2.2.2.2.2.2.2.2.2.2.2.1.length ≤ 2147483647
theorem pypi_same (w : World) (x : ToldT) (v v' : Value) (h : PyAt w x v) (h' : PyAt w x v') (hx : ToldS x) : Calls Tryz.prog 17 #[v, v'] w fun e w' => e = .returned (.bool true) ∧ Below w.heap.size w w' := by
 obtain ⟨n, m, rel, b1, t1, b2, t2, b3, t3, b4, t4, b5, t5, b6, t6, loc, leg, ok⟩ := x
 obtain ⟨A1, A2, A3, c1, c2, c3, rfl, ⟨h1, k1⟩, ⟨h2, k2⟩, h3, k3⟩ := h
 obtain ⟨B1, B2, B3, d1, d2, d3, rfl, ⟨i1, j1⟩, ⟨i2, j2⟩, i3, j3⟩ := h'
 obtain ⟨x1, x2, x3⟩ := hx
 have HI := za.mk (fun (W : World) (hb : Below w.heap.size w W) => ints_ W x1 (Kd.C_below h1 hb) k1 (Kd.C_below i1 hb) j1)
 have HL := za.mk (fun (W : World) (hb : Below w.heap.size w W) => texts_ W x2 (Kd.C_below h2 hb) k2 (Kd.C_below i2 hb) j2)
 have HG := za.mk (fun (W : World) (hb : Below w.heap.size w W) => texts_ W x3 (Kd.C_below h3 hb) k3 (Kd.C_below i3 hb) j3)
 have HB := za.mk (Below.refl w.heap.size w)
 clear h1 k1 h2 k2 h3 k3 i1 j1 i2 j2 i3 j3 x1 x2 x3
 go_enter Tryz.func17, Tryz.ntmps17
 go_upto_region 1 with (first | ((with_reducible refine zrb (N := 2) rfl ?_); (try (refine zsb (by rfl) ?_; dsimp only)); go_loud (refine ztb ?hg (N := 2) ?hd (cs := #[.bool n, .string m, .slice A1 rel.length c1, .bool b1, .string t1, .bool b2, .string t2, .bool b3, .string t3, .bool b4, .string t4, .bool b5, .string t5, .bool b6, .string t6, .slice A2 loc.length c2, .slice A3 leg.length c3]) (t := 34) ?hr ?_; (case hd => rfl); (case hg => rfl); (case hr => first | (go_simp; done) | (go_simp; rfl)); intro g2 hg w3 hbox hb; have K2 := za.mk hbox; have P3 := za.mk (zw HB.out hb); clear hb hbox hg HB)) | ((with_reducible refine zrb (N := 3) rfl ?_); (try (refine zsb (by rfl) ?_; dsimp only)); go_loud (refine ztb ?hg (N := 3) ?hd (cs := #[.bool n, .string m, .slice B1 rel.length d1, .bool b1, .string t1, .bool b2, .string t2, .bool b3, .string t3, .bool b4, .string t4, .bool b5, .string t5, .bool b6, .string t6, .slice B2 loc.length d2, .slice B3 leg.length d3]) (t := 34) ?hr ?_; (case hd => rfl); (case hg => rfl); (case hr => first | (go_simp; done) | (go_simp; rfl)); intro g3 hg w4 hbox hb; have K3 := za.mk (zr K2.out hb); have K4 := za.mk hbox; have P4 := za.mk (zw P3.out hb); clear hb hbox hg K2 P3)))
 have y0 := cellAt K3.out 0 rfl
 have z0 := cellAt K4.out 0 rfl
 have y1 := cellAt K3.out 1 rfl
 have z1 := cellAt K4.out 1 rfl
 have y2 := cellAt K3.out 2 rfl
 have z2 := cellAt K4.out 2 rfl
 have y3 := cellAt K3.out 3 rfl
 have z3 := cellAt K4.out 3 rfl
 have y4 := cellAt K3.out 4 rfl
 have z4 := cellAt K4.out 4 rfl
 have y5 := cellAt K3.out 5 rfl
 have z5 := cellAt K4.out 5 rfl
 have y6 := cellAt K3.out 6 rfl
 have z6 := cellAt K4.out 6 rfl
 have y7 := cellAt K3.out 7 rfl
 have z7 := cellAt K4.out 7 rfl
 have y8 := cellAt K3.out 8 rfl
 have z8 := cellAt K4.out 8 rfl
 have y9 := cellAt K3.out 9 rfl
 have z9 := cellAt K4.out 9 rfl
 have y10 := cellAt K3.out 10 rfl
 have z10 := cellAt K4.out 10 rfl
 have y11 := cellAt K3.out 11 rfl
 have z11 := cellAt K4.out 11 rfl
 have y12 := cellAt K3.out 12 rfl
 have z12 := cellAt K4.out 12 rfl
 have y13 := cellAt K3.out 13 rfl
 have z13 := cellAt K4.out 13 rfl
 have y14 := cellAt K3.out 14 rfl
 have z14 := cellAt K4.out 14 rfl
 have y15 := cellAt K3.out 15 rfl
 have z15 := cellAt K4.out 15 rfl
 have y16 := cellAt K3.out 16 rfl
 have z16 := cellAt K4.out 16 rfl
 go_wp2_with (first | (go_at_call 43; (with_reducible refine (HI.out _ P4.out).mono ?_); rintro e' w5 ⟨rfl, hb⟩; have K5 := za.mk (zr K3.out hb); have K6 := za.mk (zr K4.out hb); have P5 := za.mk (zw P4.out hb); clear hb y0 z0 y1 z1 y2 z2 y3 z3 y4 z4 y5 z5 y6 z6 y7 z7 y8 z8 y9 z9 y10 z10 y11 z11 y12 z12 y13 z13 y14 z14 y15 z15 y16 z16 P4 K3 K4; have y3 := cellAt K5.out 3 rfl; have z3 := cellAt K6.out 3 rfl; have y4 := cellAt K5.out 4 rfl; have z4 := cellAt K6.out 4 rfl; have y5 := cellAt K5.out 5 rfl; have z5 := cellAt K6.out 5 rfl; have y6 := cellAt K5.out 6 rfl; have z6 := cellAt K6.out 6 rfl; have y7 := cellAt K5.out 7 rfl; have z7 := cellAt K6.out 7 rfl; have y8 := cellAt K5.out 8 rfl; have z8 := cellAt K6.out 8 rfl; have y9 := cellAt K5.out 9 rfl; have z9 := cellAt K6.out 9 rfl; have y10 := cellAt K5.out 10 rfl; have z10 := cellAt K6.out 10 rfl; have y11 := cellAt K5.out 11 rfl; have z11 := cellAt K6.out 11 rfl; have y12 := cellAt K5.out 12 rfl; have z12 := cellAt K6.out 12 rfl; have y13 := cellAt K5.out 13 rfl; have z13 := cellAt K6.out 13 rfl; have y14 := cellAt K5.out 14 rfl; have z14 := cellAt K6.out 14 rfl; have y15 := cellAt K5.out 15 rfl; have z15 := cellAt K6.out 15 rfl; have y16 := cellAt K5.out 16 rfl; have z16 := cellAt K6.out 16 rfl) | (go_at_call 29; (with_reducible refine (HL.out _ P5.out).mono ?_); rintro e' w6 ⟨rfl, hb⟩; have K7 := za.mk (zr K5.out hb); have K8 := za.mk (zr K6.out hb); have P6 := za.mk (zw P5.out hb); clear hb y3 z3 y4 z4 y5 z5 y6 z6 y7 z7 y8 z8 y9 z9 y10 z10 y11 z11 y12 z12 y13 z13 y14 z14 y15 z15 y16 z16 P5 K5 K6; have y16 := cellAt K7.out 16 rfl; have z16 := cellAt K8.out 16 rfl) | (go_at_call 29; (with_reducible refine (HG.out _ P6.out).mono ?_); rintro e' w7 ⟨rfl, hb⟩; have P7 := za.mk (zw P6.out hb); clear hb))
 go_ret
 exact ⟨by simp, P7.out⟩
end Go.Proofs.YtlijjnjpomnphaaGreatDoor.V
end
section
namespace Go.Proofs.YtlijjnjpomnphaaGreatDoor.V
open Go.RowKit YtlijjnjpomnphaaGreatDoor.Q YtlijjnjpomnphaaGreatDoorG YtlijjnjpomnphaaGreatDoorH YtlijjnjpomnphaaGreatDoorB YtlijjnjpomnphaaGreatDoorC YtlijjnjpomnphaaGreatDoorM YtlijjnjpomnphaaGreatDoorY YtlijjnjpomnphaaGreatDoorP YtlijjnjpomnphaaGreatDoorW.PrintWords YtlijjnjpomnphaaGreatDoorW.PrintLast YtlijjnjpomnphaaGreatDoorW.PrintMore
theorem fits_ (w : World) (e k a b c : Int) (hp hd : Bool) (A1 A8 : Option Addr) (c1 c8 : Nat) (ns : List Int) (l : List ByteArray) (hr1 : Kd.C (Kd.int .u16) w A1 ns.length ns) (hc1 : ns.length ≤ c1) (hr8 : Kd.C Kd.string w A8 l.length l) (hc8 : l.length ≤ c8) :
  ∃ fb : Bool, (∀ W : World, Below w.heap.size w W → Calls Tryz.prog 14 #[.agg #[.int .u16 e, .slice A1 ns.length c1, .int .u8 k, .int .u16 a, .int .u16 b, .int .u16 c, .bool hp, .bool hd, .slice A8 l.length c8]] W fun e w' => e = .returned (.bool fb) ∧ Below W.heap.size W w') ∧ (fb = true → l.length ≤ 2147483647) := by
 obtain ⟨b2, ⟨k2, hk2⟩, hb2⟩ := fits_ev l
 refine ⟨if (ns.length : Int) > 2147483647 then false else b2, fun W hb => ?_, fun h => ?_⟩
 ·refine zbf.calls k2 e A1 c1 ns k a b c hp hd A8 c8 l _ W (Kd.C_below hr1 hb) hc1 (Kd.C_below hr8 hb) hc8 ?_
  unfold zbf.f
  by_cases h1 : (ns.length : Int) > 2147483647
  ·rw [if_pos h1, if_pos h1]
  ·rw [if_neg h1, if_neg h1, show zob.f k2 l = some b2 from hk2 k2 (Nat.le_refl _)]
   cases b2 <;> rfl
 ·by_cases h1 : (ns.length : Int) > 2147483647
  ·rw [if_pos h1] at h; cases h
  ·rw [if_neg h1] at h; exact hb2 h
theorem stage_len {e : Int} {ns : List Int} {k a b c : Int} {hp hd : Bool} {l : List ByteArray} (hok : tOk ns l) (he : U16 e) (hne : ∀ x ∈ ns, U16 x) (ha : U16 a) (hb : U16 b) (hc : U16 c) : (zye e ns k a b c hp hd l).length ≤ 90000 := by
 have h1 : (epT (epO e)).length ≤ 6 := by
  unfold epO
  split
  ·have := zqg he; simp only [epT, List.length_append, List.length_cons, List.length_nil]; omega
  ·simp [epT]
 have h2 := relN_len hne ns.length
 unfold relN at h2
 rw [List.take_length] at h2
 have h3 : (preT (preO k a)).length ≤ 8 := by
  unfold preO
  split
  ·have := zqg ha
   have hw : (kindW (Int.tmod k 4)).length ≤ 2 := by unfold kindW; split; decide; split <;> decide
   simp only [preT, List.length_append]; omega
  ·simp [preT]
 have h4 : (postT (numO hp b)).length ≤ 11 := by
  unfold numO
  split
  ·have := zqg hb; simp only [postT, wPost, List.length_append, List.length_cons, List.length_nil]; omega
  ·simp [postT]
 have h5 : (devT (numO hd c)).length ≤ 11 := by
  unfold numO
  split
  ·have := zqg hc; simp only [devT, wDev, List.length_append, List.length_cons, List.length_nil]; omega
  ·simp [devT]
 have h6 := locN_len hok.2.2.2.1 l.length
 unfold locN at h6
 rw [List.take_length] at h6
 have h7 := hok.2.1
 have h8 := hok.2.2.1
 show (epT (epO e) ++ (relT (ns.map dec) ++ (preT (preO k a) ++ (postT (numO hp b) ++ (devT (numO hd c) ++ locT (l.map bytesOf)))))).length ≤ _
 simp only [List.length_append]
 omega
theorem stage_POk {e : Int} {ns : List Int} {k a b c : Int} {hp hd : Bool} {l : List ByteArray} (hok : tOk ns l) (he : U16 e) (hne : ∀ x ∈ ns, U16 x) (ha : U16 a) (hb : U16 b) (hc : U16 c) {R : ByteArray} (hR : bytesOf R = zye e ns k a b c hp hd l) : POk R := by
 have h2 : (sP e ns k a b c hp hd (lows l)).Ok := sP_ok hok.1 (zbg hok.2.2.2.2)
 refine ⟨?_, ?_⟩
 ·have := stage_len (k := k) (hp := hp) (hd := hd) hok he hne ha hb hc
  rw [zre, hR]; omega
 ·rw [hR]; exact asc_low h2 (stage_low e ns k a b c hp hd l h2)
theorem stage_told {e : Int} {ns : List Int} {k a b c : Int} {hp hd : Bool} {l : List ByteArray} (hok : tOk ns l) (he : U16 e) : ToldS (toldY (stageV e ns k a b c hp hd l)) := by
 have h2 : (sP e ns k a b c hp hd (lows l)).Ok := sP_ok hok.1 (zbg hok.2.2.2.2)
 rw [sP_told he.1 h2]
 have h7 := hok.2.1
 have h8 := hok.2.2.1
 refine ⟨?_, ?_, (Nat.zero_le _ : ([] : List ByteArray).length ≤ 2147483647)⟩
 ·show (intsN ns).length ≤ _
  unfold intsN; rw [List.length_map]; omega
 ·show (if l = [] then [(⟨#[]⟩ : ByteArray)] else wordL l).length ≤ _
  split
  ·decide
  ·unfold wordL; rw [List.length_map]; omega
theorem stageA_ (w : World) (e k a b c : Int) (hp hd : Bool) (A1 A8 : Option Addr) (c1 c8 : Nat) (ns : List Int) (l : List ByteArray) (hr1 : Kd.C (Kd.int .u16) w A1 ns.length ns) (hc1 : ns.length ≤ c1) (hr8 : Kd.C Kd.string w A8 l.length l) (hc8 : l.length ≤ c8) (he : U16 e) (hne : ∀ x ∈ ns, U16 x) (hk0 : 0 ≤ k) (ha : U16 a) (hb : U16 b) (hc : U16 c) (hl : l.length ≤ 2147483647) :
    Calls Tryz.prog 15 #[.agg #[.int .u16 e, .slice A1 ns.length c1, .int .u8 k, .int .u16 a, .int .u16 b, .int .u16 c, .bool hp, .bool hd, .slice A8 l.length c8]] w fun e' w' => ∃ (R : ByteArray) (cs : Array Value), e' = .returned (.tuple #[.string R, .agg cs, .bool (decide (tOk ns l))]) ∧ ((tOk ns l → bytesOf R = zye e ns k a b c hp hd l ∧ PyAt w' (toldY (stageV e ns k a b c hp hd l)) (.agg cs)) ∧ cs.size = 17 ∧ cs.toList.all (·.oneCell') = true) ∧ Below w.heap.size w w' := by
  refine (stage_ w e k a b c hp hd A1 A8 c1 c8 ns l hr1 hc1 hr8 hc8 he hne hk0 ha hb hc hl).mono ?_
  rintro e' w' h
  by_cases hok : tOk ns l
  · rw [if_pos hok] at h
    obtain ⟨v, rfl, hv, hb⟩ := stageAt h
    obtain ⟨cs, rfl, h1, h2⟩ := hv.agg
    exact ⟨_, cs, by rw [decide_eq_true hok]; rfl, ⟨fun _ => ⟨stageL_B hok, hv⟩, h1, h2⟩, hb⟩
  · rw [if_neg hok] at h
    obtain ⟨v, rfl, hv, hb⟩ := stageAt h
    obtain ⟨cs, rfl, h1, h2⟩ := hv.agg
    exact ⟨_, cs, by rw [decide_eq_false hok], ⟨fun h => absurd h hok, h1, h2⟩, hb⟩
theorem built_ (w : World) (e k a b c : Int) (hp hd : Bool) (A1 A8 : Option Addr) (c1 c8 : Nat) (ns : List Int) (l : List ByteArray) (hr1 : Kd.C (Kd.int .u16) w A1 ns.length ns) (hc1 : ns.length ≤ c1) (hr8 : Kd.C Kd.string w A8 l.length l) (hc8 : l.length ≤ c8) (he : U16 e) (hne : ∀ x ∈ ns, U16 x) (hk0 : 0 ≤ k) (ha : U16 a) (hb : U16 b) (hc : U16 c) (hG : GL w) :
  Calls Tryz.prog 3 #[.agg #[.int .u16 e, .slice A1 ns.length c1, .int .u8 k, .int .u16 a, .int .u16 b, .int .u16 c, .bool hp, .bool hd, .slice A8 l.length c8]] w fun e w' => e = .returned (.bool true) ∧ Below w.heap.size w w' := by
 obtain ⟨fb, hf1, hf2⟩ := fits_ w e k a b c hp hd A1 A8 c1 c8 ns l hr1 hc1 hr8 hc8
 have HF := za.mk hf1
 have HB := za.mk (Below.refl w.heap.size w)
 cases fb with
 | false =>
  clear hr1 hc1 hr8 hc8 he hne hk0 ha hb hc hG hf1 hf2
  go_enter Tryz.func3, Tryz.ntmps3
  go_wp2_with (first | ((with_reducible refine zrb (N := 1) rfl ?_); (try (refine zsb (by rfl) ?_; dsimp only)); refine ztb ?hg (N := 1) ?hd (cs := #[.int .u16 e, .slice A1 ns.length c1, .int .u8 k, .int .u16 a, .int .u16 b, .int .u16 c, .bool hp, .bool hd, .slice A8 l.length c8]) (t := 26) ?hr ?_; (case hd => rfl); (case hg => rfl); (case hr => first | (go_simp; done) | (go_simp; rfl)); intro g1 hg w1 hbox hb; have K1 := za.mk hbox; have B1 := za.mk (zw HB.out hb); clear hb hbox hg HB; have y0 := cellAt K1.out 0 rfl; have y1 := cellAt K1.out 1 rfl; have y2 := cellAt K1.out 2 rfl; have y3 := cellAt K1.out 3 rfl; have y4 := cellAt K1.out 4 rfl; have y5 := cellAt K1.out 5 rfl; have y6 := cellAt K1.out 6 rfl; have y7 := cellAt K1.out 7 rfl; have y8 := cellAt K1.out 8 rfl) | (go_at_call 14; (with_reducible refine (HF.out _ B1.out).mono ?_); rintro e' w2 ⟨rfl, hb⟩; have K2 := za.mk (zr K1.out hb); have B2 := za.mk (zw B1.out hb); clear hb B1 K1 y0 y1 y2 y3 y4 y5 y6 y7 y8; have y0 := cellAt K2.out 0 rfl; have y1 := cellAt K2.out 1 rfl; have y2 := cellAt K2.out 2 rfl; have y3 := cellAt K2.out 3 rfl; have y4 := cellAt K2.out 4 rfl; have y5 := cellAt K2.out 5 rfl; have y6 := cellAt K2.out 6 rfl; have y7 := cellAt K2.out 7 rfl; have y8 := cellAt K2.out 8 rfl))
  go_ret
  exact ⟨rfl, B2.out⟩
 | true =>
  have hl := hf2 rfl
  obtain ⟨bk, hbk⟩ : ∃ b, b = decide (tOk ns l) := ⟨_, rfl⟩
  have HST := za.mk (fun (W : World) (hB : Below w.heap.size w W) => by
   have := stageA_ W e k a b c hp hd A1 A8 c1 c8 ns l (Kd.C_below hr1 hB) hc1 (Kd.C_below hr8 hB) hc8 he hne hk0 ha hb hc hl
   rewrite [← hbk] at this
   exact this)
  obtain ⟨X, hX⟩ : ∃ x, x = toldY (stageV e ns k a b c hp hd l) := ⟨_, rfl⟩
  have HPA := za.mk (fun (W : World) (R : ByteArray) (hok : tOk ns l) (hR : bytesOf R = zye e ns k a b c hp hd l) (hB : Below w.heap.size w W) => by
   have := parseAt_ W (stage_POk hok he hne ha hb hc hR) (hG.at hB)
   rewrite [hR, stage_val (sP_ok hok.1 (zbg hok.2.2.2.2)), ← hX] at this
   exact this)
  have HTS : za (tOk ns l → ToldS X) := ⟨fun hok => by rw [hX]; exact stage_told hok he⟩
  rewrite [← hX] at HST
  have HBK := za.mk hbk
  clear hr1 hc1 hr8 hc8 he hne hk0 ha hb hc hG hf1 hf2 hl hbk hX
  cases bk with
  | false =>
   go_enter Tryz.func3, Tryz.ntmps3
   go_wp2_with (first | ((with_reducible refine zrb (N := 1) rfl ?_); (try (refine zsb (by rfl) ?_; dsimp only)); refine ztb ?hg (N := 1) ?hd (cs := #[.int .u16 e, .slice A1 ns.length c1, .int .u8 k, .int .u16 a, .int .u16 b, .int .u16 c, .bool hp, .bool hd, .slice A8 l.length c8]) (t := 26) ?hr ?_; (case hd => rfl); (case hg => rfl); (case hr => first | (go_simp; done) | (go_simp; rfl)); intro g1 hg w1 hbox hb; have K1 := za.mk hbox; have B1 := za.mk (zw HB.out hb); clear hb hbox hg HB; have y0 := cellAt K1.out 0 rfl; have y1 := cellAt K1.out 1 rfl; have y2 := cellAt K1.out 2 rfl; have y3 := cellAt K1.out 3 rfl; have y4 := cellAt K1.out 4 rfl; have y5 := cellAt K1.out 5 rfl; have y6 := cellAt K1.out 6 rfl; have y7 := cellAt K1.out 7 rfl; have y8 := cellAt K1.out 8 rfl) | (go_at_call 14; (with_reducible refine (HF.out _ B1.out).mono ?_); rintro e' w2 ⟨rfl, hb⟩; have K2 := za.mk (zr K1.out hb); have B2 := za.mk (zw B1.out hb); clear hb B1 K1 y0 y1 y2 y3 y4 y5 y6 y7 y8; have y0 := cellAt K2.out 0 rfl; have y1 := cellAt K2.out 1 rfl; have y2 := cellAt K2.out 2 rfl; have y3 := cellAt K2.out 3 rfl; have y4 := cellAt K2.out 4 rfl; have y5 := cellAt K2.out 5 rfl; have y6 := cellAt K2.out 6 rfl; have y7 := cellAt K2.out 7 rfl; have y8 := cellAt K2.out 8 rfl) | (go_at_call 15; (with_reducible refine (HST.out _ B2.out).mono ?_); rintro e' w3 ⟨R, cs, rfl, hR, hb⟩; have HR := za.mk hR; have B3 := za.mk (zw B2.out hb); clear hb hR B2 K2 y0 y1 y2 y3 y4 y5 y6 y7 y8) | ((with_reducible refine zrb (N := 4) rfl ?_); (try (refine zsb (by rfl) ?_; dsimp only)); refine ztb ?hg (N := 4) ?hd (cs := #[.bool false, .string ⟨#[]⟩, .slice none 0 0, .bool false, .string ⟨#[]⟩, .bool false, .string ⟨#[]⟩, .bool false, .string ⟨#[]⟩, .bool false, .string ⟨#[]⟩, .bool false, .string ⟨#[]⟩, .bool false, .string ⟨#[]⟩, .slice none 0 0, .slice none 0 0]) (t := 34) ?hr ?_; (case hd => rfl); (case hg => rfl); (case hr => first | (go_simp; done) | (go_simp; rfl)); intro g4 hg w4 hbox hb; have L4 : za (w.heap.size ≤ g4) := ⟨by rw [hg]; exact B3.out.size⟩; have B4 := za.mk (zw B3.out hb); have Q4 : za (Below w3.heap.size w3 w4 ∧ w3.heap.size ≤ g4) := ⟨hb, by rw [hg]; exact Nat.le_refl _⟩; have K4 := za.mk hbox; clear hb hbox hg B3) | ((with_reducible refine zhe (t := 34) rfl ?_); refine zif rfl 34 _ _ rfl _ _ cs 34 rfl rfl (by with_reducible exact K4.out) (HR.out.2.1.trans rfl) (by rw [HR.out.2.1]; exact zxd) HR.out.2.2 ?_; generalize hq : World.setCells w4 g4 0 _ = w5; have B5 : za (Below w.heap.size w w5) := ⟨hq ▸ zjd B4.out L4.out⟩; have K5 : za (w5.heap[g4]? = some (.cells cs 34 (0, 0))) := ⟨hq ▸ zze K4.out (HR.out.2.1.trans rfl)⟩; have HV5 : za (tOk ns l → PyAt w5 X (.agg cs)) := ⟨fun h => ((HR.out.1 h).2).below (hq ▸ zjd Q4.out.1 Q4.out.2)⟩; clear hq B4 K4 Q4))
   go_ret
   exact ⟨rfl, B5.out⟩
  | true =>
   have HK : za (tOk ns l) := ⟨of_decide_eq_true HBK.out.symm⟩
   go_enter Tryz.func3, Tryz.ntmps3
   go_wp2_with (first | ((with_reducible refine zrb (N := 1) rfl ?_); (try (refine zsb (by rfl) ?_; dsimp only)); refine ztb ?hg (N := 1) ?hd (cs := #[.int .u16 e, .slice A1 ns.length c1, .int .u8 k, .int .u16 a, .int .u16 b, .int .u16 c, .bool hp, .bool hd, .slice A8 l.length c8]) (t := 26) ?hr ?_; (case hd => rfl); (case hg => rfl); (case hr => first | (go_simp; done) | (go_simp; rfl)); intro g1 hg w1 hbox hb; have K1 := za.mk hbox; have B1 := za.mk (zw HB.out hb); clear hb hbox hg HB; have y0 := cellAt K1.out 0 rfl; have y1 := cellAt K1.out 1 rfl; have y2 := cellAt K1.out 2 rfl; have y3 := cellAt K1.out 3 rfl; have y4 := cellAt K1.out 4 rfl; have y5 := cellAt K1.out 5 rfl; have y6 := cellAt K1.out 6 rfl; have y7 := cellAt K1.out 7 rfl; have y8 := cellAt K1.out 8 rfl) | (go_at_call 14; (with_reducible refine (HF.out _ B1.out).mono ?_); rintro e' w2 ⟨rfl, hb⟩; have K2 := za.mk (zr K1.out hb); have B2 := za.mk (zw B1.out hb); clear hb B1 K1 y0 y1 y2 y3 y4 y5 y6 y7 y8; have y0 := cellAt K2.out 0 rfl; have y1 := cellAt K2.out 1 rfl; have y2 := cellAt K2.out 2 rfl; have y3 := cellAt K2.out 3 rfl; have y4 := cellAt K2.out 4 rfl; have y5 := cellAt K2.out 5 rfl; have y6 := cellAt K2.out 6 rfl; have y7 := cellAt K2.out 7 rfl; have y8 := cellAt K2.out 8 rfl) | (go_at_call 15; (with_reducible refine (HST.out _ B2.out).mono ?_); rintro e' w3 ⟨R, cs, rfl, hR, hb⟩; have HR := za.mk hR; have B3 := za.mk (zw B2.out hb); clear hb hR B2 K2 y0 y1 y2 y3 y4 y5 y6 y7 y8) | ((with_reducible refine zrb (N := 4) rfl ?_); (try (refine zsb (by rfl) ?_; dsimp only)); refine ztb ?hg (N := 4) ?hd (cs := #[.bool false, .string ⟨#[]⟩, .slice none 0 0, .bool false, .string ⟨#[]⟩, .bool false, .string ⟨#[]⟩, .bool false, .string ⟨#[]⟩, .bool false, .string ⟨#[]⟩, .bool false, .string ⟨#[]⟩, .bool false, .string ⟨#[]⟩, .slice none 0 0, .slice none 0 0]) (t := 34) ?hr ?_; (case hd => rfl); (case hg => rfl); (case hr => first | (go_simp; done) | (go_simp; rfl)); intro g4 hg w4 hbox hb; have L4 : za (w.heap.size ≤ g4) := ⟨by rw [hg]; exact B3.out.size⟩; have B4 := za.mk (zw B3.out hb); have Q4 : za (Below w3.heap.size w3 w4 ∧ w3.heap.size ≤ g4) := ⟨hb, by rw [hg]; exact Nat.le_refl _⟩; have K4 := za.mk hbox; clear hb hbox hg B3) | ((with_reducible refine zhe (t := 34) rfl ?_); refine zif rfl 34 _ _ rfl _ _ cs 34 rfl rfl (by with_reducible exact K4.out) (HR.out.2.1.trans rfl) (by rw [HR.out.2.1]; exact zxd) HR.out.2.2 ?_; generalize hq : World.setCells w4 g4 0 _ = w5; have B5 : za (Below w.heap.size w w5) := ⟨hq ▸ zjd B4.out L4.out⟩; have K5 : za (w5.heap[g4]? = some (.cells cs 34 (0, 0))) := ⟨hq ▸ zze K4.out (HR.out.2.1.trans rfl)⟩; have HV5 : za (tOk ns l → PyAt w5 X (.agg cs)) := ⟨fun h => ((HR.out.1 h).2).below (hq ▸ zjd Q4.out.1 Q4.out.2)⟩; clear hq B4 K4 Q4) | (go_at_call 16; (with_reducible refine (HPA.out _ R HK.out (HR.out.1 HK.out).1 B5.out).mono ?_); rintro e' w6 ⟨v6, rfl, hv, hb⟩; obtain ⟨cs6, rfl, hs6⟩ := hv.agg; have H6 := za.mk hs6; have B6 := za.mk (zw B5.out hb); have K6 := za.mk (zr K5.out hb); have V6 := za.mk hv; have U6 := za.mk ((HV5.out HK.out).below hb); clear hb hv hs6 B5 K5) | ((with_reducible refine zrb (N := 6) rfl ?_); (try (refine zsb (by rfl) ?_; dsimp only)); refine ztb ?hg (N := 6) ?hd (cs := #[.bool false, .string ⟨#[]⟩, .slice none 0 0, .bool false, .string ⟨#[]⟩, .bool false, .string ⟨#[]⟩, .bool false, .string ⟨#[]⟩, .bool false, .string ⟨#[]⟩, .bool false, .string ⟨#[]⟩, .bool false, .string ⟨#[]⟩, .slice none 0 0, .slice none 0 0]) (t := 34) ?hr ?_; (case hd => rfl); (case hg => rfl); (case hr => first | (go_simp; done) | (go_simp; rfl)); intro g6 hg w7 hbox hb; have L6 : za (w.heap.size ≤ g6 ∧ g4 ≠ g6) := ⟨by rw [hg]; exact B6.out.size, by rw [hg]; exact Nat.ne_of_lt (zhf K6.out)⟩; have B7 := za.mk (zw B6.out hb); have Q6 : za (Below w6.heap.size w6 w7 ∧ w6.heap.size ≤ g6) := ⟨hb, by rw [hg]; exact Nat.le_refl _⟩; have J7 := za.mk (zr K6.out hb); have K7 := za.mk hbox; clear hb hbox hg B6 K6) | ((with_reducible refine zhe (t := 34) rfl ?_); refine zif rfl 34 _ _ rfl _ _ cs6 34 rfl rfl (by with_reducible exact K7.out) (H6.out.1.trans rfl) (by rw [H6.out.1]; exact zxd) H6.out.2 ?_; generalize hq : World.setCells w7 g6 0 _ = w8; have B8 : za (Below w.heap.size w w8) := ⟨hq ▸ zjd B7.out L6.out.1⟩; have K8 : za (w8.heap[g6]? = some (.cells cs6 34 (0, 0))) := ⟨hq ▸ zze K7.out (H6.out.1.trans rfl)⟩; have J8 : za (w8.heap[g4]? = some (.cells cs 34 (0, 0))) := ⟨hq ▸ (zrd _ _ _ L6.out.2).trans J7.out⟩; have Q8 : za (Below w6.heap.size w6 w8) := ⟨hq ▸ zjd Q6.out.1 Q6.out.2⟩; have V8 := za.mk (V6.out.below Q8.out); have U8 := za.mk (U6.out.below Q8.out); clear hq B7 K7 V6 U6 J7 Q6 Q8) | ((with_reducible refine zrb (N := 26) rfl ?_); (try (refine zsb (by rfl) ?_; dsimp only)); refine wpList_load_row rfl 34 (.tmp 6) rfl g6 rfl 34 cs6 (0, 0) _ (by with_reducible exact K8.out) Tryz.underlying34 rfl (by rw [H6.out.1]; exact zxd) ?_) | ((with_reducible refine zrb (N := 27) rfl ?_); (try (refine zsb (by rfl) ?_; dsimp only)); refine wpList_load_row rfl 34 (.tmp 4) rfl g4 rfl 34 cs (0, 0) _ (by with_reducible exact J8.out) Tryz.underlying34 rfl (by rw [HR.out.2.1]; exact zxd) ?_) | (go_at_call 17; (with_reducible refine (pypi_same _ X _ _ V8.out U8.out (HTS.out HK.out)).mono ?_); rintro e' w9 ⟨rfl, hb⟩; have B9 := za.mk (zw B8.out hb); clear hb))
   go_ret
   exact ⟨by simp, B9.out⟩
theorem FnPyPIBuilt_walk (a0_0 : Int) (a0_1 : Option Addr) (len0_1 cap0_1 : Nat) (z0_1 : List Int) (a0_2 : Int) (a0_3 : Int) (a0_4 : Int) (a0_5 : Int) (a0_6 : Bool) (a0_7 : Bool) (a0_8 : Option Addr) (len0_8 cap0_8 : Nat) (z0_8 : List ByteArray) (w : World) (w0_0 : (Lit.int .u16 a0_0).wf = true) (w0_1 : ((a0_1 = none ∧ len0_1 = 0 ∧ cap0_1 = 0 ∧ z0_1 = []) ∨ ∃ x, a0_1 = some x ∧ len0_1 ≤ cap0_1 ∧ cap0_1 ≤ maxLen ∧ z0_1.length = cap0_1 ∧ (∀ i, i < z0_1.length → w.cell? (x.add i) = some (.int .u16 (z0_1.getD i 0))) ∧ ∀ n ∈ z0_1, (Lit.int .u16 n).wf = true)) (w0_2 : (Lit.int .u8 a0_2).wf = true) (w0_3 : (Lit.int .u16 a0_3).wf = true) (w0_4 : (Lit.int .u16 a0_4).wf = true) (w0_5 : (Lit.int .u16 a0_5).wf = true) (w0_8 : ((a0_8 = none ∧ len0_8 = 0 ∧ cap0_8 = 0 ∧ z0_8 = []) ∨ ∃ x, a0_8 = some x ∧ len0_8 ≤ cap0_8 ∧ cap0_8 ≤ maxLen ∧ z0_8.length = cap0_8 ∧ (∀ i, i < z0_8.length → w.cell? (x.add i) = some (.string (z0_8.getD i ByteArray.empty))) ∧ ∀ s ∈ z0_8, s.size ≤ maxLen)) (hG : GL w) :
  Calls Tryz.prog 3 #[.agg #[.int .u16 a0_0, .slice a0_1 len0_1 cap0_1, .int .u8 a0_2, .int .u16 a0_3, .int .u16 a0_4, .int .u16 a0_5, .bool a0_6, .bool a0_7, .slice a0_8 len0_8 cap0_8]] w fun e w' => e = .returned (.bool true) ∧ Below w.heap.size w w' := by
 obtain ⟨l0_1, rfl, hr0_1, hm0_1, hw0_1, hc0_1⟩ := zkd.ofRowC w0_1
 obtain ⟨l0_8, rfl, hr0_8, hm0_8, hc0_8⟩ := C_of_strings w0_8
 have hk : 0 ≤ a0_2 := by
  simp [Lit.wf, IntKind.min, IntKind.max, IntKind.signed, IntKind.bits] at w0_2
  omega
 exact built_ w a0_0 a0_2 a0_3 a0_4 a0_5 a0_6 a0_7 a0_1 a0_8 cap0_1 cap0_8 l0_1 l0_8 (Kd.C_of_reads (d := (0 : Int)) (h1 := fun _ => rfl) hr0_1) hc0_1 hr0_8 hc0_8 (u16_of w0_0) (fun x hx => u16_of (hw0_1 x hx)) hk (u16_of w0_3) (u16_of w0_4) (u16_of w0_5) hG
end Go.Proofs.YtlijjnjpomnphaaGreatDoor.V
end
section
namespace Go.Proofs.YtlijjnjpomnphaaGreatDoorG
open Go.RowKit Go.ChangeShapes YtlijjnjpomnphaaGreatDoorW.PrintWords YtlijjnjpomnphaaGreatDoorW.PrintLast
theorem err_star : "*" ++ "errors.errorString" = "*errors.errorString" := by decide
theorem err_row (u : TypeId) (h : Tryz.prog.typeName? 3 u = some "*errors.errorString") : u = 243 :=
 typeName_ptr_named (nm := "errors.errorString") (by rw [err_star]; kernel_rfl) (by kernel_rfl) (by decide) u (by rw [err_star]; exact h)
theorem sent {n : String} {text : List UInt8} {g : Nat} {W : World} (hg : Tryz.prog.globalNamed n = some g) (ht : (Tryz.prog.globals[g]?).map (·.type) = some 74)
    (h : laidMet Tryz.prog [(n, .iface "*errors.errorString" (.ptr (.agg [.lit (.string text)])))] W) : (∃ a, W.cell? ⟨g, 0, none⟩ = some (ErrV a)) ∧ g < W.heap.size := by
  obtain ⟨a, s, hv, _⟩ := laid_sentinel h hg ht Tryz.underlying74 err_row Tryz.underlying243 Tryz.underlying258 rfl rfl Tryz.underlying9 (by kernel_rfl) (by kernel_rfl)
  have hc : W.cell? ⟨g, 0, none⟩ = some (ErrV a) := by
    have h0 := World.var?_cell hg hv 0
    simpa [ErrV] using h0
  refine ⟨⟨a, hc⟩, ?_⟩
  rcases Nat.lt_or_ge g W.heap.size with hl | hl
  · exact hl
  · unfold World.cell? at hc
    rw [Array.getElem?_eq_none hl] at hc
    cases hc
theorem GL_of {l : List (String × DataW Unit)} {W : World} (hL : laidMetH Tryz.prog l W) (hp : (l.all fun x => x.2.handleName?.isNone) = true)
  (e1 : l.filter (fun x => x.1 == "io.EOF") = [("io.EOF", Go.Proofs.YtlijjnjpomnphaaGreatDoor.Rows.laid_io_EOF)])
  (e2 : l.filter (fun x => x.1 == "pub-primogeniture/pub/bigall.errNoDigits") = [("pub-primogeniture/pub/bigall.errNoDigits", Go.Proofs.YtlijjnjpomnphaaGreatDoor.Rows.laid_pub_primogeniture_pub_bigall_errNoDigits)])
  (e3 : l.filter (fun x => x.1 == "pub-primogeniture/pub/scalibr/semantic.ErrInvalidVersion") = [("pub-primogeniture/pub/scalibr/semantic.ErrInvalidVersion", Go.Proofs.YtlijjnjpomnphaaGreatDoor.Rows.laid_pub_primogeniture_pub_scalibr_semantic_ErrInvalidVersion)]) : GL W := by
 have one : ∀ (n : String) (d : DataW Unit), l.filter (fun x => x.1 == n) = [(n, d)] → d.handleName?.isNone = true → laidMet Tryz.prog [(n, d)] W := by
  intro n d e hd
  have h := hL.filter (fun x => x.1 == n)
  rw [e, MakeChecks.laidMetH_plain _ _ _ (by simp [hd])] at h
  exact h
 obtain ⟨h1, g1⟩ := sent (g := 2) (by kernel_rfl) (by kernel_rfl) (one _ _ e1 (by kernel_rfl))
 obtain ⟨h2, g2⟩ := sent (g := 7) (by kernel_rfl) (by kernel_rfl) (one _ _ e2 (by kernel_rfl))
 obtain ⟨h3, g3⟩ := sent (g := 0) (by kernel_rfl) (by kernel_rfl) (one _ _ e3 (by kernel_rfl))
 exact ⟨by omega, h3, h1, h2⟩
end Go.Proofs.YtlijjnjpomnphaaGreatDoorG
end
