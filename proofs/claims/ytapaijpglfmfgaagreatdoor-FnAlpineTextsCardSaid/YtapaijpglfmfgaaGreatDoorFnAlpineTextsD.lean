/- Proved here, for the row of the law FnAlpineTexts: contracts of the Go functions that it reaches, each as its theorem 'calls' says, and the words and plain laws that they need (AZ, Qx4, AU, CA, CB, Qx5, Qx8, Qx9). -/
import Derived.Test.YtapaijpglfmfgaaGreatDoorFnAlpineTextsC
set_option linter.unusedVariables false
set_option linter.unusedSimpArgs false
set_option maxHeartbeats 8000000
set_option maxRecDepth 100000
section
namespace Go.Proofs.YtapaijpglfmfgaaGreatDoorG
open Go.RowKit YtapaijpglfmfgaaGreatDoorH YtapaijpglfmfgaaGreatDoorB YtapaijpglfmfgaaGreatDoorM YtapaijpglfmfgaaGreatDoor.Q YtapaijpglfmfgaaGreatDoorW.PrintWords YtapaijpglfmfgaaGreatDoorW.PrintLast
theorem zth (n : Nat) : val (bytesOf (magB n)).reverse = n := by rw [B_mag]; exact (zag n).eq
theorem rd_nums {l : List Nm} {k : Nat} {x : Nm} (h : l[k]? = some x) : zcd (numsT l) (k : Int) = tnN x k := by
 unfold zcd numsT
 rw [Int.toNat_natCast, List.getD_eq_getElem?_getD, List.getElem?_map, Kd.zip_at h]
 rfl
theorem rd_sufs {l : List Sx} {k : Nat} {x : Sx} (h : l[k]? = some x) : zqd (sufsT l) (k : Int) = tsS x := by
 unfold zqd sufsT
 rw [Int.toNat_natCast, List.getD_eq_getElem?_getD, List.getElem?_map, h]
 rfl
section
variable {w wr : World} {g1 g2 g3 : Nat} {cs1 : Array Value} {o r l h : ByteArray} {i : Bool} {cv sv : Value} {a n : Nat} {ns : List Nm} {ss : List Sx}
structure VInv (w wr : World) (g1 g2 g3 : Nat) (cs1 : Array Value) (o r l h : ByteArray) (i : Bool) (cv sv : Value) (a n : Nat) (ns : List Nm) (ss : List Sx) : Prop where
 b1 : wr.heap[g1]? = some (.cells cs1 87 (0, 0))
 b2 : wr.heap[g2]? = some (.cells #[.string ⟨#[]⟩, .bool false, .string ⟨#[]⟩, .slice none 0 0, .string ⟨#[]⟩, .slice none 0 0, .string ⟨#[]⟩, .pointer none] 71 (0, 0))
 b3 : VBlk wr g3 o i r cv l sv h (.pointer (some ⟨a, 0, none⟩))
 num : BigAt wr a n
 own3 : NOwn wr w.heap.size cv ns
 own5 : SOwn wr w.heap.size sv ss
 below : Below w.heap.size w wr
theorem VInv.to (H : VInv w wr g1 g2 g3 cs1 o r l h i cv sv a n ns ss) {w' : World} (k : Below wr.heap.size wr w') : VInv w w' g1 g2 g3 cs1 o r l h i cv sv a n ns ss :=
 ⟨zc H.b1 k, zc H.b2 k, zc H.b3 k, H.num.below k, ⟨Kd.R_below H.own3.1 k, fun x hx => (H.own3.2 x hx).below k⟩, H.own5.below k, zfb H.below H.below.size k⟩
theorem VInv.step3 (H : VInv w wr g1 g2 g3 cs1 o r l h i cv sv a n ns ss) (hg3 : w.heap.size ≤ g3) (h13 : g1 ≠ g3) (h23 : g2 ≠ g3) {w7 : World} {v1 : Value} {d : ByteArray} {b k : Nat} (hk : ns.length = k) (hA : BigAt wr b (dv d d.size)) (hs : 0 < d.size)
  (ho : Kd.R (Kd.raw 3) 114 w7 w.heap.size (fun _ => True) v1 (zse ns ++ [[.string d, .pointer (some ⟨b, 0, none⟩), .int .i64 (k : Int)]])) (hg : wr.grownBy w7 cv.ownBlock) :
  VBlk w7 g3 o i r cv l sv h (.pointer (some ⟨a, 0, none⟩)) ∧ VInv w (w7.setCell ⟨g3, 3, none⟩ v1) g1 g2 g3 cs1 o r l h i v1 sv a n (ns ++ [⟨d, b, dv d d.size⟩]) ss := by
 have K : KeptT notNum wr w7 := KeptT.row (by decide) H.own3.1 hg
 have B3 : VBlk w7 g3 o i r cv l sv h (.pointer (some ⟨a, 0, none⟩)) := K.blk H.b3 (by decide)
 have KN2 : KeptT numT wr (w7.setCell ⟨g3, 3, none⟩ v1) := (K.sub numT_notNum).trans (KeptT.set B3 (by decide) 3 _)
 refine ⟨B3, ?_, ?_, zq B3 3 _ rfl, H.num.kept KN2, ⟨?_, fun x hx => ?_⟩, ⟨?_, fun x hx => (H.own5.2 x hx).kept KN2⟩, ?_⟩
 ·rw [World.setCell, Array.getElem?_modify, if_neg (fun e => h13 e.symm)]; exact K.blk H.b1 (by decide)
 ·rw [World.setCell, Array.getElem?_modify, if_neg (fun e => h23 e.symm)]; exact K.blk H.b2 (by decide)
 ·rw [zlj, hk]
  exact Kd.R_set ho B3 (by intro q hq; have : q = 114 := (by simpa [Kd.raw] using hq); subst this; decide) 3 _
 ·rcases List.mem_append.mp hx with hx | hx
  ·exact (H.own3.2 x hx).kept KN2
  ·simp at hx; subst hx; exact ⟨hA.kept KN2, rfl, hs⟩
 ·refine zrd (p := fun t => t == 117) rfl (by decide) H.own5.1 ((K.sub fun t ht => ?_).trans (KeptT.set B3 (by decide) 3 _))
  rw [of_decide_eq_true ht]; decide
 ·exact (H.below.grown hg H.below.size (fun b e => Kd.R_base H.own3.1 b e)).setCell (p := ⟨g3, 3, none⟩) hg3 _
theorem VInv.step5 (H : VInv w wr g1 g2 g3 cs1 o r l h i cv sv a n ns ss) (hg3 : w.heap.size ≤ g3) (h13 : g1 ≠ g3) (h23 : g2 ≠ g3) {w7 : World} {v1 : Value} {wt : Int} {b m : Nat} (hA : BigAt wr b m)
  (ho : Kd.R (Kd.raw 2) 117 w7 w.heap.size (fun _ => True) v1 (zne ss ++ [[.int .i64 wt, .pointer (some ⟨b, 0, none⟩)]])) (hg : wr.grownBy w7 sv.ownBlock) :
  VBlk w7 g3 o i r cv l sv h (.pointer (some ⟨a, 0, none⟩)) ∧ VInv w (w7.setCell ⟨g3, 5, none⟩ v1) g1 g2 g3 cs1 o r l h i cv v1 a n ns (ss ++ [⟨wt, b, m⟩]) := by
 have K : KeptT notSuf wr w7 := KeptT.row (by decide) H.own5.1 hg
 have B3 : VBlk w7 g3 o i r cv l sv h (.pointer (some ⟨a, 0, none⟩)) := K.blk H.b3 (by decide)
 have KN2 : KeptT numT wr (w7.setCell ⟨g3, 5, none⟩ v1) := (K.sub numT_notSuf).trans (KeptT.set B3 (by decide) 5 _)
 refine ⟨B3, ?_, ?_, zq B3 5 _ rfl, H.num.kept KN2, ⟨?_, fun x hx => (H.own3.2 x hx).kept KN2⟩, ⟨?_, fun x hx => ?_⟩, ?_⟩
 ·rw [World.setCell, Array.getElem?_modify, if_neg (fun e => h13 e.symm)]; exact K.blk H.b1 (by decide)
 ·rw [World.setCell, Array.getElem?_modify, if_neg (fun e => h23 e.symm)]; exact K.blk H.b2 (by decide)
 ·refine zrd (p := fun t => t == 114) rfl (by decide) H.own3.1 ((K.sub fun t ht => ?_).trans (KeptT.set B3 (by decide) 5 _))
  rw [of_decide_eq_true ht]; decide
 ·rw [zjj]
  exact Kd.R_set ho B3 (by intro q hq; have : q = 117 := (by simpa [Kd.raw] using hq); subst this; decide) 5 _
 ·rcases List.mem_append.mp hx with hx | hx
  ·exact (H.own5.2 x hx).kept KN2
  ·simp at hx; subst hx; exact hA.kept KN2
 ·exact (H.below.grown hg H.below.size (fun b e => Kd.R_base H.own5.1 b e)).setCell (p := ⟨g3, 5, none⟩) hg3 _
end
theorem version_ (w : World) (o r l h : ByteArray) (i : Bool) (xc : List Nm) (xs : List Sx) (n : Nat) (p5 p6 : Option Addr) (c5 c6 : Nat)
  (hr5 : Kd.C k110 w p5 (numsT xc).length (numsT xc)) (hc5 : (numsT xc).length ≤ c5) (hr6 : Kd.C k112 w p6 (sufsT xs).length (sufsT xs)) (hc6 : (sufsT xs).length ≤ c6)
  (hxc : ∀ x ∈ xc, x.n = dv x.o x.o.size ∧ 0 < x.o.size ∧ (magB x.n).size ≤ 1000000) (hxs : ∀ x ∈ xs, (magB x.n).size ≤ 1000000) (hn : (magB n).size ≤ 1000000) (hlc : xc.length ≤ 1000000) (hls : xs.length ≤ 1000000) :
  Calls Tryz.prog 58 #[.agg #[.string o, .string r, .string l, .string h, .bool i, .slice p5 (numsT xc).length c5, .slice p6 (sufsT xs).length c6, .bool true, .bool false, .string (magB n)]] w fun e w' => ∃ cv sv a ns ss, e = .returned (AVv o i r cv l sv h (.pointer (some ⟨a, 0, none⟩))) ∧
   NOwn w' w.heap.size cv ns ∧ SOwn w' w.heap.size sv ss ∧ BigAt w' a n ∧ ns.map (·.o) = xc.map (·.o) ∧ zuc ss = zuc xs ∧ Below w.heap.size w w' := by
 have hu85 := Tryz.underlying85
 have hu110 := Tryz.underlying110
 have hu112 := Tryz.underlying112
 have HR5 := za.mk hr5
 have HR6 := za.mk hr6
 have HXC := za.mk hxc
 have HXS := za.mk hxs
 have HZ := za.mk (fun (W : World) => zzBig_ W (magB n) hn)
 have HV := za.mk (zth n)
 have LC := za.mk hlc
 have LS := za.mk hls
 have LNT : (numsT xc).length = xc.length := zbg xc
 have LST : (sufsT xs).length = xs.length := by simp [sufsT]
 rw [LNT, LST]
 clear hr5 hc5 hr6 hc6 hxc hxs hlc hls hn LNT LST
 obtain ⟨C1, hC1⟩ : ∃ C1 : Array Value, C1 = #[.string o, .string r, .string l, .string h, .bool i, .slice p5 xc.length c5, .slice p6 xs.length c6, .bool true, .bool false, .string (magB n)] := ⟨_, rfl⟩
 obtain ⟨W0, hW0⟩ : ∃ W0, W0 = (((w.alloc (.cells #[.string o, .string r, .string l, .string h, .bool i, .slice p5 xc.length c5, .slice p6 xs.length c6, .bool true, .bool false, .string (magB n)] 87)).alloc (.cells #[.string ⟨#[]⟩, .bool false, .string ⟨#[]⟩, .slice none 0 0, .string ⟨#[]⟩, .slice none 0 0, .string ⟨#[]⟩, .pointer none] 71)).alloc (.cells #[.string o, .bool i, .string r, .slice none 0 0, .string l, .slice none 0 0, .string h, .pointer none] 71)) := ⟨_, rfl⟩
 have hb1 : W0.heap[w.heap.size]? = some (.cells #[.string o, .string r, .string l, .string h, .bool i, .slice p5 xc.length c5, .slice p6 xs.length c6, .bool true, .bool false, .string (magB n)] 87 (0, 0)) := by rw [hW0]; exact zvb (zvb (zvc w _) _) _
 have hb2 : W0.heap[w.heap.size + 1]? = some (.cells #[.string ⟨#[]⟩, .bool false, .string ⟨#[]⟩, .slice none 0 0, .string ⟨#[]⟩, .slice none 0 0, .string ⟨#[]⟩, .pointer none] 71 (0, 0)) := by
  rw [hW0]
  have h := zvb (zvc (w.alloc (.cells #[.string o, .string r, .string l, .string h, .bool i, .slice p5 xc.length c5, .slice p6 xs.length c6, .bool true, .bool false, .string (magB n)] 87)) (.cells #[.string ⟨#[]⟩, .bool false, .string ⟨#[]⟩, .slice none 0 0, .string ⟨#[]⟩, .slice none 0 0, .string ⟨#[]⟩, .pointer none] 71)) (.cells #[.string o, .bool i, .string r, .slice none 0 0, .string l, .slice none 0 0, .string h, .pointer none] 71)
  rw [zsb] at h
  exact h
 have hb3 : W0.heap[w.heap.size + 1 + 1]? = some (.cells #[.string o, .bool i, .string r, .slice none 0 0, .string l, .slice none 0 0, .string h, .pointer none] 71 (0, 0)) := by
  rw [hW0]
  have h := zvc ((w.alloc (.cells #[.string o, .string r, .string l, .string h, .bool i, .slice p5 xc.length c5, .slice p6 xs.length c6, .bool true, .bool false, .string (magB n)] 87)).alloc (.cells #[.string ⟨#[]⟩, .bool false, .string ⟨#[]⟩, .slice none 0 0, .string ⟨#[]⟩, .slice none 0 0, .string ⟨#[]⟩, .pointer none] 71)) (.cells #[.string o, .bool i, .string r, .slice none 0 0, .string l, .slice none 0 0, .string h, .pointer none] 71)
  rw [zsb, zsb] at h
  exact h
 have hbW : Below w.heap.size w W0 := by rw [hW0]; exact zj (zj (zj (Below.refl _ _) _) _) _
 rw [← hC1] at hb1
 have B1 := za.mk hb1
 have B2 := za.mk hb2
 have B3 := za.mk hb3
 have BW := za.mk hbW
 have HC1 := za.mk hC1
 have y5 := (zb hb1 5).trans (by rw [hC1]; rfl : C1[5]? = some (.slice p5 xc.length c5))
 have y7 := (zb hb1 7).trans (by rw [hC1]; rfl : C1[7]? = some (.bool true))
 have y8 := (zb hb1 8).trans (by rw [hC1]; rfl : C1[8]? = some (.bool false))
 have y9 := (zb hb1 9).trans (by rw [hC1]; rfl : C1[9]? = some (.string (magB n)))
 have HW0 := za.mk hW0
 rw [hW0] at y5 y7 y8 y9
 clear hb1 hb2 hb3 hbW hC1 hW0
 go_enter Tryz.func58, Tryz.ntmps58
 go_wp2_with (first | (go_at_call 77; rw [← HW0.out]; (with_reducible refine (HZ.out _).mono ?_); rintro e' w1 ⟨a, rfl, hA, hb⟩; rw [HV.out] at hA; have A1 := za.mk hA; have HB1 := za.mk hb; have G3 := za.mk (zc B3.out hb); have x7 := (zb G3.out 7).trans rfl; have f7 := zz G3.out 7; have z5 := (zb (zqg (zc B1.out hb) (b := w.heap.size + 1 + 1) (by omega) 7 (.pointer (some ⟨a, 0, none⟩))) 5).trans (by rw [HC1.out]; rfl : C1[5]? = some (.slice p5 xc.length c5)); clear hA hb))
 have I1 : za (VInv w (w1.setCell ⟨w.heap.size + 1 + 1, 7, none⟩ (.pointer (some ⟨a, 0, none⟩))) w.heap.size (w.heap.size + 1) (w.heap.size + 1 + 1) C1 o r l h i (.slice none 0 0) (.slice none 0 0) a n [] []) := ⟨by
  refine ⟨zqg (zc B1.out HB1.out) (by omega) 7 _, zqg (zc B2.out HB1.out) (by omega) 7 _, zq G3.out 7 _ rfl, A1.out.kept (KeptT.set G3.out (by decide) 7 _), ⟨Kd.R_nil _ _ _ _ _, fun x hx => by simp at hx⟩, ⟨Kd.R_nil _ _ _ _ _, fun x hx => by simp at hx⟩, zl (zfb BW.out BW.out.size HB1.out) (by omega)⟩⟩
 go_loopw [28] (fun iv wr => ∃ (k : Nat) (cv : Value) (ns : List Nm), k ≤ xc.length ∧ iv = .int .i64 (k : Int) ∧ za (VInv w wr w.heap.size (w.heap.size + 1) (w.heap.size + 1 + 1) C1 o r l h i cv (.slice none 0 0) a n ns []) ∧ za (ns.map (·.o) = (xc.take k).map (·.o))) (fun iv _ => xc.length - (intOf iv).toNat)
 case atStart => exact ⟨0, _, [], Nat.zero_le _, rfl, I1, ⟨rfl⟩⟩
 case round =>
  obtain ⟨k, cv, ns, hk, rfl, HI, HT⟩ := hrel
  clear I1 x7 f7 z5
  by_cases hlt : k < xc.length
  ·have i3 : decide ((k : Int) < (xc.length : Int)) = true := decide_eq_true (by omega)
   have i4 : ((k : Int) < (xc.length : Int)) = True := eq_true (by omega)
   have i5 : (0 ≤ (k : Int)) = True := eq_true (by omega)
   have WR : wrap64 ((k : Int) + 1) = ((k + 1 : Nat) : Int) := by have := LC.out; unfold wrap64; omega
   have LT := za.mk hlt
   obtain ⟨x, hx⟩ : ∃ x, x = xc[k] := ⟨_, rfl⟩
   have hx2 : xc[k]? = some x := by rw [hx, List.getElem?_eq_getElem hlt]
   have HX := HXC.out x (List.mem_of_getElem? hx2)
   have HXN := za.mk HX.1
   have HXP := za.mk HX.2.1
   have HZX := za.mk (fun (W : World) => zzBig_ W (magB x.n) HX.2.2)
   obtain ⟨ad, e5, k0, k1, k2, k3⟩ := at_T110 HR5.out (k : Int) (by omega) (by rw [zbg]; omega)
   rw [rd_nums hx2] at k0 k1 k2 k3
   rw [Int.toNat_natCast] at k0 k1 k2 k3
   replace k0 := zlc HI.out.below k0
   replace k1 := zlc HI.out.below k1
   replace k2 := zlc HI.out.below k2
   replace k3 := zlc HI.out.below k3
   simp only [tnN] at k0 k1 k2 k3
   cases e5
   have HNK : za (ns.length = k) := ⟨by have := congrArg List.length HT.out; rw [List.length_map, List.length_map, List.length_take] at this; omega⟩
   have HNL : za (ns.length ≤ 1000000) := ⟨by have := HNK.out; have := LC.out; omega⟩
   have HT2 : za (∀ b : Nat, (ns ++ [(⟨x.o, b, dv x.o x.o.size⟩ : Nm)]).map (·.o) = (xc.take (k + 1)).map (·.o)) := ⟨fun b => by rw [List.take_add_one, hx2, List.map_append, HT.out, List.map_append]; rfl⟩
   clear hlt hk hx hx2 HX HT
   go_upto_region 7 with (fail)
   have M3 := za.mk (HI.out.to (zj (Below.refl _ _) (.cells #[.string x.o, .bool false, .string (magB x.n), .int .i64 (k : Int)] 110)))
   have Y3 := za.mk (zvc wr (.cells #[.string x.o, .bool false, .string (magB x.n), .int .i64 (k : Int)] 110))
   clear HI
   generalize wr.alloc (.cells #[.string x.o, .bool false, .string (magB x.n), .int .i64 (k : Int)] 110) = w3 at M3 Y3 ⊢
   generalize wr.heap.size = g5 at Y3 ⊢
   refine zuf (n := 14) (S := fun w' => w'.cell? ⟨w.heap.size + 1 + 1, 3, none⟩ = some cv ∧ w'.cell? ⟨g5, 0, none⟩ = some (.string x.o) ∧ w'.cell? ⟨g5, 1, none⟩ = some (.bool false) ∧ w'.cell? ⟨g5, 2, none⟩ = some (.string (magB x.n)) ∧ w'.cell? ⟨g5, 3, none⟩ = some (.int .i64 (k : Int))) (ds := [11, 13]) #[false, false, false, false, false, false, false, false, false, false, false, false, false, false] (by kernel_rfl) rfl rfl ⟨(zb (zub M3.out.b3) 3).trans rfl, (zb (zub Y3.out) 0).trans rfl, (zb (zub Y3.out) 1).trans rfl, (zb (zub Y3.out) 2).trans rfl, (zb (zub Y3.out) 3).trans rfl⟩ (fun hHeld => ?_)
   have M4 := za.mk (M3.out.to (zed (Below.refl _ _)))
   have Y4 := za.mk (zub Y3.out)
   clear M3 Y3
   generalize w3.drew = w4 at M4 Y4 hHeld ⊢
   refine pure_ (i := 0) (N := some 32) #[true, false, false, false, false, false, false, false, false, false, false, false, false, false] rfl rfl (by kernel_rfl) (fun _ _ _ h => h) (Or.inl ⟨by rfl, fun w' => by go_simp; with_reducible rfl⟩) (by simp only [Act.put, List.setIfInBounds_toArray, List.set_cons_zero, List.set_cons_succ, i64_w, i32_w]; rfl) ?_
   refine pure_ (i := 2) (N := some 34) #[true, false, true, false, false, false, false, false, false, false, false, false, false, false] rfl rfl (by kernel_rfl) (fun _ _ _ h => h) (Or.inl ⟨by rfl, fun w' => by go_simp; with_reducible rfl⟩) (by simp only [Act.put, List.setIfInBounds_toArray, List.set_cons_zero, List.set_cons_succ, i64_w, i32_w]; rfl) ?_
   refine pure_ (i := 4) (N := some 36) #[true, false, true, false, true, false, false, false, false, false, false, false, false, false] rfl rfl (by kernel_rfl) (fun _ _ _ h => h) (Or.inl ⟨by rfl, fun w' => by go_simp; with_reducible rfl⟩) (by simp only [Act.put, List.setIfInBounds_toArray, List.set_cons_zero, List.set_cons_succ, i64_w, i32_w]; rfl) ?_
   refine pure_ (i := 7) (N := some 39) #[true, false, true, false, true, false, false, true, false, false, false, false, false, false] rfl rfl (by kernel_rfl) (fun _ _ _ h => h) (Or.inl ⟨by rfl, fun w' => by go_simp; with_reducible rfl⟩) (by simp only [Act.put, List.setIfInBounds_toArray, List.set_cons_zero, List.set_cons_succ, i64_w, i32_w]; rfl) ?_
   refine take_ (i := 1) (N := some 33) #[true, true, true, false, true, false, false, true, false, false, false, false, false, false] rfl rfl (by kernel_rfl) (fun _ _ _ h => h) (Or.inl ⟨by rfl, by rintro w' ⟨s0, s1, s2, s3, s4⟩; go_simp; with_reducible rfl⟩) hHeld (by simp only [Act.put, List.setIfInBounds_toArray, List.set_cons_zero, List.set_cons_succ, i64_w, i32_w]; rfl) ?_
   refine take_ (i := 3) (N := some 35) #[true, true, true, true, true, false, false, true, false, false, false, false, false, false] rfl rfl (by kernel_rfl) (fun _ _ _ h => h) (Or.inl ⟨by rfl, by rintro w' ⟨s0, s1, s2, s3, s4⟩; go_simp; with_reducible rfl⟩) hHeld (by simp only [Act.put, List.setIfInBounds_toArray, List.set_cons_zero, List.set_cons_succ, i64_w, i32_w]; rfl) ?_
   refine take_ (i := 5) (N := some 37) #[true, true, true, true, true, true, false, true, false, false, false, false, false, false] rfl rfl (by kernel_rfl) (fun _ _ _ h => h) (Or.inl ⟨by rfl, by rintro w' ⟨s0, s1, s2, s3, s4⟩; go_simp; with_reducible rfl⟩) hHeld (by simp only [Act.put, List.setIfInBounds_toArray, List.set_cons_zero, List.set_cons_succ, i64_w, i32_w]; rfl) ?_
   refine take_ (i := 8) (N := some 40) #[true, true, true, true, true, true, false, true, true, false, false, false, false, false] rfl rfl (by kernel_rfl) (fun _ _ _ h => h) (Or.inl ⟨by rfl, by rintro w' ⟨s0, s1, s2, s3, s4⟩; go_simp; with_reducible rfl⟩) hHeld (by simp only [Act.put, List.setIfInBounds_toArray, List.set_cons_zero, List.set_cons_succ, i64_w, i32_w]; rfl) ?_
   refine one_ (i := 6) (N := some 38) #[true, true, true, true, true, true, true, true, true, false, false, false, false, false] rfl rfl (by kernel_rfl) (by decide) (fun K hK => ?_)
   refine goes_ Tryz.func77 (by kernel_rfl) rfl #[.agg #[.bool false, .string (magB x.n)]] (by rfl) rfl rfl (by simp only [List.map_toArray, List.map_cons, List.map_nil]; rfl) ?_
   with_reducible refine (HZX.out _).mono ?_
   rintro e w5 ⟨b, rfl, hA, hb⟩
   refine ⟨_, rfl, ?_⟩
   have M5 := za.mk (M4.out.to hb)
   have Y5 := za.mk (zc Y4.out hb)
   rw [zth, HXN.out] at hA
   have A5 := za.mk hA
   clear hb hA M4 Y4
   refine hK.out _ _ ⟨(zb M5.out.b3 3).trans rfl, (zb Y5.out 0).trans rfl, (zb Y5.out 1).trans rfl, (zb Y5.out 2).trans rfl, (zb Y5.out 3).trans rfl⟩ (fun hHeld => ?_)
   clear hK K
   refine Go.Proofs.YtapaijpglfmfgaaGreatDoorW.PrintLast.norm_ (by show Act.put _ (some 38) _ = _; simp only [Act.put, List.setIfInBounds_toArray, List.set_cons_zero, List.set_cons_succ, i64_w, i32_w]; rfl) ?_
   refine pure_ (i := 9) (N := some 41) #[true, true, true, true, true, true, true, true, true, true, false, false, false, false] rfl rfl (by kernel_rfl) (fun _ _ _ h => h) (Or.inl ⟨by rfl, fun w' => by go_simp; with_reducible rfl⟩) (by simp only [Act.put, List.setIfInBounds_toArray, List.set_cons_zero, List.set_cons_succ, i64_w, i32_w]; rfl) ?_
   refine one_ (i := 10) (N := some 42) #[true, true, true, true, true, true, true, true, true, true, true, false, false, false] rfl rfl (by kernel_rfl) (by decide) (fun K hK => ?_)
   refine zoh (w1 := ?_) (v := ?_) (by rfl) rfl ?_ ?_
   rotate_left 2
   ·go_simp
    constructor
    ·rfl
    ·rfl
   refine hK.out _ _ ⟨(zb (zvb M5.out.b3 _) 3).trans rfl, (zb (zvb Y5.out _) 0).trans rfl, (zb (zvb Y5.out _) 1).trans rfl, (zb (zvb Y5.out _) 2).trans rfl, (zb (zvb Y5.out _) 3).trans rfl⟩ (fun hHeld => ?_)
   clear hK K
   refine Go.Proofs.YtapaijpglfmfgaaGreatDoorW.PrintLast.norm_ (by show Act.put _ (some 42) _ = _; simp only [Act.put, List.setIfInBounds_toArray, List.set_cons_zero, List.set_cons_succ, i64_w, i32_w]; rfl) ?_
   refine last_ (i := 11) (N := some 43) #[true, true, true, true, true, true, true, true, true, true, true, true, false, false] rfl rfl (by kernel_rfl) (by decide) (fun K hK => ?_)
   refine Kd.R_append_step (Kd.raw 3) (w0 := w5) w.heap.size (by rfl) (.tmp 33) (.tmp 42) 67 114 (.agg #[.string ⟨#[]⟩, .pointer none, .int .i64 0]) 32 rfl Tryz.underlying67 infoNum rfl (by decide) (by omega) cv (zse ns) [.string x.o, .pointer (some ⟨b, 0, none⟩), .int .i64 (k : Int)] [.string x.o, .pointer (some ⟨b, 0, none⟩), .int .i64 (k : Int)] (fun _ => True) (fun _ => False) rfl rfl ?aP (fun _ hk => hk.elim) (fun _ _ => trivial) M5.out.own3.1 (Below.refl _ _) M5.out.below.size ?aL ?_
   (case aP => exact ⟨rfl, rfl, by intro u hu; simp at hu; rcases hu with rfl | rfl | rfl <;> rfl⟩)
   (case aL => rw [zlf]; have := HNL.out; omega)
   intro v1 w7 ho hb hg hat
   obtain ⟨A1, n1, cp1, rfl⟩ : ∃ A n c, v1 = .slice A n c := by
    obtain ⟨A, c, e⟩ := Kd.R_slice ho
    exact ⟨A, _, c, e⟩
   obtain ⟨b7, i7⟩ := M5.out.step3 (by omega) (by omega) (by omega) HNK.out A5.out HXP.out ho hg
   have x7 := (zb b7 3).trans rfl
   have f7 := zz b7 3
   have I7 := za.mk i7
   clear ho hb hg hat b7 i7
   refine hK.out _ _ ?_
   clear hK K
   refine Go.Proofs.YtapaijpglfmfgaaGreatDoorW.PrintLast.norm_ (by show Act.put _ (some 43) _ = _; simp only [Act.put, List.setIfInBounds_toArray, List.set_cons_zero, List.set_cons_succ, i64_w, i32_w]; rfl) ?_
   refine pure_ (i := 12) (N := some 44) #[true, true, true, true, true, true, true, true, true, true, true, true, true, false] rfl rfl (by kernel_rfl) (fun _ _ _ h => h) (Or.inl ⟨by rfl, fun w' => by go_simp; with_reducible rfl⟩) (by simp only [Act.put, List.setIfInBounds_toArray, List.set_cons_zero, List.set_cons_succ, i64_w, i32_w]; rfl) ?_
   refine last_ (i := 13) (N := none) #[true, true, true, true, true, true, true, true, true, true, true, true, true, true] rfl rfl (by kernel_rfl) (by decide) (fun K hK => ?_)
   refine skip_ (w1 := ?_) (by rfl) rfl ?_ ?_
   rotate_left
   ·go_simp
    rfl
   refine hK.out _ _ ?_
   clear hK K
   refine done_ (by kernel_rfl) ?_
   go_wp2
   go_roundw
   all_goals first | exact ⟨k + 1, .slice A1 n1 cp1, _, LT.out, by first | rfl | go_num, I7, ⟨HT2.out _⟩⟩ | exact zge _ k LT.out | exact meas_up1 _ k LT.out | exact zre _ k LT.out WR
  ·obtain rfl : k = xc.length := by omega
   have i3 : decide ((xc.length : Int) < (xc.length : Int)) = false := decide_eq_false (by omega)
   have i4 : ((xc.length : Int) < (xc.length : Int)) = False := eq_false (by omega)
   have z6 := (zb HI.out.b1 6).trans (by rw [HC1.out]; rfl : C1[6]? = some (.slice p6 xs.length c6))
   have ht := HT.out
   rw [List.take_length] at ht
   have HTN := za.mk ht
   have H2 := za.mk HI.out
   clear hlt hk HI HT ht
   go_wp2
   go_loopw [49] (fun iv wr => ∃ (k : Nat) (sv : Value) (ss : List Sx), k ≤ xs.length ∧ iv = .int .i64 (k : Int) ∧ za (VInv w wr w.heap.size (w.heap.size + 1) (w.heap.size + 1 + 1) C1 o r l h i cv sv a n ns ss) ∧ za (zuc ss = zuc (xs.take k))) (fun iv _ => xs.length - (intOf iv).toNat)
   case atStart => exact ⟨0, _, [], Nat.zero_le _, rfl, H2, ⟨rfl⟩⟩
   case round =>
    obtain ⟨k, sv, ss, hk, rfl, HI, HT⟩ := hrel
    clear H2 z6
    by_cases hlt : k < xs.length
    ·have i3 : decide ((k : Int) < (xs.length : Int)) = true := decide_eq_true (by omega)
     have i4 : ((k : Int) < (xs.length : Int)) = True := eq_true (by omega)
     have i5 : (0 ≤ (k : Int)) = True := eq_true (by omega)
     have WR : wrap64 ((k : Int) + 1) = ((k + 1 : Nat) : Int) := by have := LS.out; unfold wrap64; omega
     have LT := za.mk hlt
     obtain ⟨x, hx⟩ : ∃ x, x = xs[k] := ⟨_, rfl⟩
     have hx2 : xs[k]? = some x := by rw [hx, List.getElem?_eq_getElem hlt]
     have HX := HXS.out x (List.mem_of_getElem? hx2)
     have HZX := za.mk (fun (W : World) => zzBig_ W (magB x.n) HX)
     obtain ⟨ad, e5, k0, k1, k2⟩ := at_T112 HR6.out (k : Int) (by omega) (by rw [show (sufsT xs).length = xs.length by simp [sufsT]]; omega)
     rw [rd_sufs hx2] at k0 k1 k2
     rw [Int.toNat_natCast] at k0 k1 k2
     replace k0 := zlc HI.out.below k0
     replace k1 := zlc HI.out.below k1
     replace k2 := zlc HI.out.below k2
     simp only [tsS] at k0 k1 k2
     cases e5
     have HNK : za (ss.length = k) := ⟨by have := congrArg List.length HT.out; unfold zuc at this; rw [List.length_map, List.length_map, List.length_take] at this; omega⟩
     have HNL : za (ss.length ≤ 1000000) := ⟨by have := HNK.out; have := LS.out; omega⟩
     have HT2 : za (∀ b : Nat, zuc (ss ++ [(⟨x.wt, b, x.n⟩ : Sx)]) = zuc (xs.take (k + 1))) := ⟨fun b => by
      have h := HT.out
      unfold zuc at h ⊢
      rw [List.take_add_one, hx2, List.map_append, h, List.map_append]; rfl⟩
     clear hlt hk hx hx2 HX HT
     go_upto_region 12 with (fail)
     have M3 := za.mk (HI.out.to (zj (Below.refl _ _) (.cells #[.int .i64 x.wt, .bool false, .string (magB x.n)] 112)))
     have Y3 := za.mk (zvc wr (.cells #[.int .i64 x.wt, .bool false, .string (magB x.n)] 112))
     clear HI
     generalize wr.alloc (.cells #[.int .i64 x.wt, .bool false, .string (magB x.n)] 112) = w3 at M3 Y3 ⊢
     generalize wr.heap.size = g5 at Y3 ⊢
     refine zuf (n := 12) (S := fun w' => w'.cell? ⟨w.heap.size + 1 + 1, 5, none⟩ = some sv ∧ w'.cell? ⟨g5, 0, none⟩ = some (.int .i64 x.wt) ∧ w'.cell? ⟨g5, 1, none⟩ = some (.bool false) ∧ w'.cell? ⟨g5, 2, none⟩ = some (.string (magB x.n))) (ds := [9, 11]) #[false, false, false, false, false, false, false, false, false, false, false, false] (by kernel_rfl) rfl rfl ⟨(zb (zub M3.out.b3) 5).trans rfl, (zb (zub Y3.out) 0).trans rfl, (zb (zub Y3.out) 1).trans rfl, (zb (zub Y3.out) 2).trans rfl⟩ (fun hHeld => ?_)
     have M4 := za.mk (M3.out.to (zed (Below.refl _ _)))
     have Y4 := za.mk (zub Y3.out)
     clear M3 Y3
     generalize w3.drew = w4 at M4 Y4 hHeld ⊢
     refine pure_ (i := 0) (N := some 53) #[true, false, false, false, false, false, false, false, false, false, false, false] rfl rfl (by kernel_rfl) (fun _ _ _ h => h) (Or.inl ⟨by rfl, fun w' => by go_simp; with_reducible rfl⟩) (by simp only [Act.put, List.setIfInBounds_toArray, List.set_cons_zero, List.set_cons_succ, i64_w, i32_w]; rfl) ?_
     refine pure_ (i := 2) (N := some 55) #[true, false, true, false, false, false, false, false, false, false, false, false] rfl rfl (by kernel_rfl) (fun _ _ _ h => h) (Or.inl ⟨by rfl, fun w' => by go_simp; with_reducible rfl⟩) (by simp only [Act.put, List.setIfInBounds_toArray, List.set_cons_zero, List.set_cons_succ, i64_w, i32_w]; rfl) ?_
     refine pure_ (i := 4) (N := some 57) #[true, false, true, false, true, false, false, false, false, false, false, false] rfl rfl (by kernel_rfl) (fun _ _ _ h => h) (Or.inl ⟨by rfl, fun w' => by go_simp; with_reducible rfl⟩) (by simp only [Act.put, List.setIfInBounds_toArray, List.set_cons_zero, List.set_cons_succ, i64_w, i32_w]; rfl) ?_
     refine take_ (i := 1) (N := some 54) #[true, true, true, false, true, false, false, false, false, false, false, false] rfl rfl (by kernel_rfl) (fun _ _ _ h => h) (Or.inl ⟨by rfl, by rintro w' ⟨s0, s1, s2, s3⟩; go_simp; with_reducible rfl⟩) hHeld (by simp only [Act.put, List.setIfInBounds_toArray, List.set_cons_zero, List.set_cons_succ, i64_w, i32_w]; rfl) ?_
     refine take_ (i := 3) (N := some 56) #[true, true, true, true, true, false, false, false, false, false, false, false] rfl rfl (by kernel_rfl) (fun _ _ _ h => h) (Or.inl ⟨by rfl, by rintro w' ⟨s0, s1, s2, s3⟩; go_simp; with_reducible rfl⟩) hHeld (by simp only [Act.put, List.setIfInBounds_toArray, List.set_cons_zero, List.set_cons_succ, i64_w, i32_w]; rfl) ?_
     refine take_ (i := 5) (N := some 58) #[true, true, true, true, true, true, false, false, false, false, false, false] rfl rfl (by kernel_rfl) (fun _ _ _ h => h) (Or.inl ⟨by rfl, by rintro w' ⟨s0, s1, s2, s3⟩; go_simp; with_reducible rfl⟩) hHeld (by simp only [Act.put, List.setIfInBounds_toArray, List.set_cons_zero, List.set_cons_succ, i64_w, i32_w]; rfl) ?_
     refine one_ (i := 6) (N := some 59) #[true, true, true, true, true, true, true, false, false, false, false, false] rfl rfl (by kernel_rfl) (by decide) (fun K hK => ?_)
     refine goes_ Tryz.func77 (by kernel_rfl) rfl #[.agg #[.bool false, .string (magB x.n)]] (by rfl) rfl rfl (by simp only [List.map_toArray, List.map_cons, List.map_nil]; rfl) ?_
     with_reducible refine (HZX.out _).mono ?_
     rintro e w5 ⟨b, rfl, hA, hb⟩
     refine ⟨_, rfl, ?_⟩
     have M5 := za.mk (M4.out.to hb)
     have Y5 := za.mk (zc Y4.out hb)
     rw [zth] at hA
     have A5 := za.mk hA
     clear hb hA M4 Y4
     refine hK.out _ _ ⟨(zb M5.out.b3 5).trans rfl, (zb Y5.out 0).trans rfl, (zb Y5.out 1).trans rfl, (zb Y5.out 2).trans rfl⟩ (fun hHeld => ?_)
     clear hK K
     refine Go.Proofs.YtapaijpglfmfgaaGreatDoorW.PrintLast.norm_ (by show Act.put _ (some 59) _ = _; simp only [Act.put, List.setIfInBounds_toArray, List.set_cons_zero, List.set_cons_succ, i64_w, i32_w]; rfl) ?_
     refine pure_ (i := 7) (N := some 60) #[true, true, true, true, true, true, true, true, false, false, false, false] rfl rfl (by kernel_rfl) (fun _ _ _ h => h) (Or.inl ⟨by rfl, fun w' => by go_simp; with_reducible rfl⟩) (by simp only [Act.put, List.setIfInBounds_toArray, List.set_cons_zero, List.set_cons_succ, i64_w, i32_w]; rfl) ?_
     refine one_ (i := 8) (N := some 61) #[true, true, true, true, true, true, true, true, true, false, false, false] rfl rfl (by kernel_rfl) (by decide) (fun K hK => ?_)
     refine zoh (w1 := ?_) (v := ?_) (by rfl) rfl ?_ ?_
     rotate_left 2
     ·go_simp
      constructor
      ·rfl
      ·rfl
     refine hK.out _ _ ⟨(zb (zvb M5.out.b3 _) 5).trans rfl, (zb (zvb Y5.out _) 0).trans rfl, (zb (zvb Y5.out _) 1).trans rfl, (zb (zvb Y5.out _) 2).trans rfl⟩ (fun hHeld => ?_)
     clear hK K
     refine Go.Proofs.YtapaijpglfmfgaaGreatDoorW.PrintLast.norm_ (by show Act.put _ (some 61) _ = _; simp only [Act.put, List.setIfInBounds_toArray, List.set_cons_zero, List.set_cons_succ, i64_w, i32_w]; rfl) ?_
     refine last_ (i := 9) (N := some 62) #[true, true, true, true, true, true, true, true, true, true, false, false] rfl rfl (by kernel_rfl) (by decide) (fun K hK => ?_)
     refine Kd.R_append_step (Kd.raw 2) (w0 := w5) w.heap.size (by rfl) (.tmp 54) (.tmp 61) 68 117 (.agg #[.int .i64 0, .pointer none]) 16 rfl Tryz.underlying68 infoSuf rfl (by decide) (by omega) sv (zne ss) [.int .i64 x.wt, .pointer (some ⟨b, 0, none⟩)] [.int .i64 x.wt, .pointer (some ⟨b, 0, none⟩)] (fun _ => True) (fun _ => False) rfl rfl ?aP (fun _ hk => hk.elim) (fun _ _ => trivial) M5.out.own5.1 (Below.refl _ _) M5.out.below.size ?aL ?_
     (case aP => exact ⟨rfl, rfl, by intro u hu; simp at hu; rcases hu with rfl | rfl <;> rfl⟩)
     (case aL => rw [zwe]; have := HNL.out; omega)
     intro v1 w7 ho hb hg hat
     obtain ⟨A1, n1, cp1, rfl⟩ : ∃ A n c, v1 = .slice A n c := by
      obtain ⟨A, c, e⟩ := Kd.R_slice ho
      exact ⟨A, _, c, e⟩
     obtain ⟨b7, i7⟩ := M5.out.step5 (by omega) (by omega) (by omega) A5.out ho hg
     have x7 := (zb b7 5).trans rfl
     have f7 := zz b7 5
     have I7 := za.mk i7
     clear ho hb hg hat b7 i7
     refine hK.out _ _ ?_
     clear hK K
     refine Go.Proofs.YtapaijpglfmfgaaGreatDoorW.PrintLast.norm_ (by show Act.put _ (some 62) _ = _; simp only [Act.put, List.setIfInBounds_toArray, List.set_cons_zero, List.set_cons_succ, i64_w, i32_w]; rfl) ?_
     refine pure_ (i := 10) (N := some 63) #[true, true, true, true, true, true, true, true, true, true, true, false] rfl rfl (by kernel_rfl) (fun _ _ _ h => h) (Or.inl ⟨by rfl, fun w' => by go_simp; with_reducible rfl⟩) (by simp only [Act.put, List.setIfInBounds_toArray, List.set_cons_zero, List.set_cons_succ, i64_w, i32_w]; rfl) ?_
     refine last_ (i := 11) (N := none) #[true, true, true, true, true, true, true, true, true, true, true, true] rfl rfl (by kernel_rfl) (by decide) (fun K hK => ?_)
     refine skip_ (w1 := ?_) (by rfl) rfl ?_ ?_
     rotate_left
     ·go_simp
      rfl
     refine hK.out _ _ ?_
     clear hK K
     refine done_ (by kernel_rfl) ?_
     go_wp2
     go_roundw
     all_goals first | exact ⟨k + 1, .slice A1 n1 cp1, _, LT.out, by first | rfl | go_num, I7, ⟨HT2.out _⟩⟩ | exact zge _ k LT.out | exact meas_up1 _ k LT.out | exact zre _ k LT.out WR
    ·obtain rfl : k = xs.length := by omega
     have i3 : decide ((xs.length : Int) < (xs.length : Int)) = false := decide_eq_false (by omega)
     have i4 : ((xs.length : Int) < (xs.length : Int)) = False := eq_false (by omega)
     have ht := HT.out
     rw [List.take_length] at ht
     have HTS := za.mk ht
     have hi2 := HI.out
     obtain ⟨A5, n5, c5', e5⟩ : ∃ A n c, cv = .slice A n c := by
      obtain ⟨A, c, e⟩ := Kd.R_slice hi2.own3.1
      exact ⟨A, _, c, e⟩
     subst e5
     obtain ⟨A6, n6, c6', e6⟩ : ∃ A n c, sv = .slice A n c := by
      obtain ⟨A, c, e⟩ := Kd.R_slice hi2.own5.1
      exact ⟨A, _, c, e⟩
     subst e6
     have H2 := za.mk hi2
     have xF := fun j : Nat => zb hi2.b3 j
     have zF := fun j : Nat => zb hi2.b2 j
     have zf := fun j : Nat => zz hi2.b2 j
     clear hlt hk HI HT ht hi2
     go_wp2
     (try simp only [Exit.inBlock, Exit.then])
     have p0 := zq (cs' := #[.string o, .bool false, .string ⟨#[]⟩, .slice none 0 0, .string ⟨#[]⟩, .slice none 0 0, .string ⟨#[]⟩, .pointer none]) H2.out.b2 0 (.string o) rfl
     have p1 := zq (cs' := #[.string o, .bool i, .string ⟨#[]⟩, .slice none 0 0, .string ⟨#[]⟩, .slice none 0 0, .string ⟨#[]⟩, .pointer none]) p0 1 (.bool i) rfl
     have p2 := zq (cs' := #[.string o, .bool i, .string r, .slice none 0 0, .string ⟨#[]⟩, .slice none 0 0, .string ⟨#[]⟩, .pointer none]) p1 2 (.string r) rfl
     have p3 := zq (cs' := #[.string o, .bool i, .string r, .slice A5 n5 c5', .string ⟨#[]⟩, .slice none 0 0, .string ⟨#[]⟩, .pointer none]) p2 3 (.slice A5 n5 c5') rfl
     have p4 := zq (cs' := #[.string o, .bool i, .string r, .slice A5 n5 c5', .string l, .slice none 0 0, .string ⟨#[]⟩, .pointer none]) p3 4 (.string l) rfl
     have p5 := zq (cs' := #[.string o, .bool i, .string r, .slice A5 n5 c5', .string l, .slice A6 n6 c6', .string ⟨#[]⟩, .pointer none]) p4 5 (.slice A6 n6 c6') rfl
     have p6 := zq (cs' := #[.string o, .bool i, .string r, .slice A5 n5 c5', .string l, .slice A6 n6 c6', .string h, .pointer none]) p5 6 (.string h) rfl
     have p7 := zq (cs' := #[.string o, .bool i, .string r, .slice A5 n5 c5', .string l, .slice A6 n6 c6', .string h, .pointer (some ⟨a, 0, none⟩)]) p6 7 (.pointer (some ⟨a, 0, none⟩)) rfl
     refine bodyPost_ret (results_cell_row rfl _ _ (w.heap.size + 1) 71 #[.string o, .bool i, .string r, .slice A5 n5 c5', .string l, .slice A6 n6 c6', .string h, .pointer (some ⟨a, 0, none⟩)] (0, 0) _ rfl p7 Tryz.underlying71 rfl (by kernel_rfl)) rfl ?_
     have hk : ∀ (W : World), (∀ b, b ≠ w.heap.size + 1 → W.heap[b]? = wr.heap[b]?) → KeptT (butT 71) wr W := fun W h b cs t fr hb ht => by
      refine h b (fun e => ?_)
      subst e; rw [H2.out.b2] at hb; cases hb; exact absurd ht (by decide)
     have K := hk ((((((((wr.setCell ⟨w.heap.size + 1, 0, none⟩ (.string o)).setCell ⟨w.heap.size + 1, 1, none⟩ (.bool i)).setCell ⟨w.heap.size + 1, 2, none⟩ (.string r)).setCell ⟨w.heap.size + 1, 3, none⟩ (.slice A5 n5 c5')).setCell ⟨w.heap.size + 1, 4, none⟩ (.string l)).setCell ⟨w.heap.size + 1, 5, none⟩ (.slice A6 n6 c6')).setCell ⟨w.heap.size + 1, 6, none⟩ (.string h)).setCell ⟨w.heap.size + 1, 7, none⟩ (.pointer (some ⟨a, 0, none⟩))) (fun b h1 => by repeat rw [Below.heap_setCell _ _ _ _ h1])
     have KN := K.sub zsf
     refine ⟨_, _, a, ns, ss, rfl, ⟨zrd (p := butT 71) rfl (by decide) H2.out.own3.1 K, fun x hx => (H2.out.own3.2 x hx).kept KN⟩, ⟨zrd (p := butT 71) rfl (by decide) H2.out.own5.1 K, fun x hx => (H2.out.own5.2 x hx).kept KN⟩, H2.out.num.kept KN, HTN.out, HTS.out, ?_⟩
     have b5 := H2.out.below
     repeat (first | (with_reducible exact b5) | refine zl ?_ (by omega))
end Go.Proofs.YtapaijpglfmfgaaGreatDoorG
end
section
namespace Go.Proofs.YtapaijpglfmfgaaGreatDoor.Q
open Go.RowKit YtapaijpglfmfgaaGreatDoorH YtapaijpglfmfgaaGreatDoorG YtapaijpglfmfgaaGreatDoorW.PrintWords YtapaijpglfmfgaaGreatDoorW.PrintLast YtapaijpglfmfgaaGreatDoorW.PrintMore YtapaijpglfmfgaaGreatDoorC
attribute [local go_sem] zfd zjd ztd zud zsc ztc zgd zkd
mutual
def zjb.l0 : Nat → List (S110) → Int → Int → ByteArray → ByteArray → ByteArray → ByteArray → Bool → List (S110) → List (S112) → Bool → Bool → ByteArray → ByteArray → ByteArray → ByteArray → ByteArray → Bool → List (S52) → Bool → Bool → ByteArray → Option (ByteArray × ByteArray × ByteArray × ByteArray × Bool × (List (S52)) × (List (S56)) × Bool × Bool × ByteArray)
 | 0, _, _, _, _, _, _, _, _, _, _, _, _, _, _, _, _, _, _, _, _, _, _ => none
 | k + 1, x24, x25, x26, x102000, x102001, x102002, x102003, x102004, x102005, x102006, x102007, x102008, x102009, x104000, x104001, x104002, x104003, x104004, x104005, x104007, x104008, x104009 => if x26 < x25 then (if 0 ≤ x26 then (if x26 < (x24.length : Int) then (if x104005.length < 2932031007402 then (zjb.l0 k x24 x25 (wrap64 (x26 + 1)) x102000 x102001 x102002 x102003 x102004 x102005 x102006 x102007 x102008 x102009 x104000 x104001 x104002 x104003 x104004 (x104005 ++ [(⟨(zcd x24 x26).f0, (⟨(zcd x24 x26).f1.f0, (zcd x24 x26).f1.f1⟩ : S31), (zcd x24 x26).f2⟩ : S52)]) x104007 x104008 x104009) else (none)) else (none)) else (none)) else (zjb.l1 k x102006 (x102006.length : Int) 0 x104000 x104001 x104002 x104003 x104004 x104005 ([] : List (S56)) x104007 x104008 x104009)
def zjb.l1 : Nat → List (S112) → Int → Int → ByteArray → ByteArray → ByteArray → ByteArray → Bool → List (S52) → List (S56) → Bool → Bool → ByteArray → Option (ByteArray × ByteArray × ByteArray × ByteArray × Bool × (List (S52)) × (List (S56)) × Bool × Bool × ByteArray)
 | 0, _, _, _, _, _, _, _, _, _, _, _, _, _ => none
 | k + 1, x44, x45, x46, x104000, x104001, x104002, x104003, x104004, x104005, x104006, x104007, x104008, x104009 => if x46 < x45 then (if 0 ≤ x46 then (if x46 < (x44.length : Int) then (if x104006.length < 4398046511104 then (zjb.l1 k x44 x45 (wrap64 (x46 + 1)) x104000 x104001 x104002 x104003 x104004 x104005 (x104006 ++ [(⟨(zqd x44 x46).f0, (⟨(zqd x44 x46).f1.f0, (zqd x44 x46).f1.f1⟩ : S31)⟩ : S56)]) x104007 x104008 x104009) else (none)) else (none)) else (none)) else (some (x104000, x104001, x104002, x104003, x104004, x104005, x104006, x104007, x104008, x104009))
end
def zjb.f (k : Nat) (a0_0 : ByteArray) (a0_1 : ByteArray) (a0_2 : ByteArray) (a0_3 : ByteArray) (a0_4 : Bool) (l0_5 : List (S110)) (l0_6 : List (S112)) (a0_7 : Bool) (a0_8 : Bool) (a0_9 : ByteArray) : Option (ByteArray × ByteArray × ByteArray × ByteArray × Bool × (List (S52)) × (List (S56)) × Bool × Bool × ByteArray) := zjb.l0 k l0_5 (l0_5.length : Int) 0 a0_0 a0_1 a0_2 a0_3 a0_4 l0_5 l0_6 a0_7 a0_8 a0_9 a0_0 a0_1 a0_2 a0_3 a0_4 ([] : List (S52)) a0_7 a0_8 a0_9
theorem zjb.calls (k : Nat) (a0_0 : ByteArray) (a0_1 : ByteArray) (a0_2 : ByteArray) (a0_3 : ByteArray) (a0_4 : Bool) (A0_5 : Option Addr) (c0_5 : Nat) (l0_5 : List (S110)) (A0_6 : Option Addr) (c0_6 : Nat) (l0_6 : List (S112)) (a0_7 : Bool) (a0_8 : Bool) (a0_9 : ByteArray) (r1 : ByteArray) (r2 : ByteArray) (r3 : ByteArray) (r4 : ByteArray) (r5 : Bool) (r6 : List (S52)) (r7 : List (S56)) (r8 : Bool) (r9 : Bool) (r10 : ByteArray) (w : World) (hr0_5 : Kd.C k110 w A0_5 l0_5.length l0_5) (hc0_5 : l0_5.length ≤ c0_5) (hr0_6 : Kd.C k112 w A0_6 l0_6.length l0_6) (hc0_6 : l0_6.length ≤ c0_6) (h : zjb.f k a0_0 a0_1 a0_2 a0_3 a0_4 l0_5 l0_6 a0_7 a0_8 a0_9 = some (r1, r2, r3, r4, r5, r6, r7, r8, r9, r10)) :
  Calls Tryz.prog 36 #[.agg #[.string a0_0, .string a0_1, .string a0_2, .string a0_3, .bool a0_4, .slice A0_5 l0_5.length c0_5, .slice A0_6 l0_6.length c0_6, .bool a0_7, .bool a0_8, .string a0_9]] w fun e w' => ∃ v5_ v6_ : Value, e = .returned (.agg #[.string r1, .string r2, .string r3, .string r4, .bool r5, v5_, v6_, .bool r8, .bool r9, .string r10]) ∧ Kd.R k52 52 w' w.heap.size (fun _ => True) v5_ r6 ∧ Kd.R k56 56 w' w.heap.size (fun _ => True) v6_ r7 ∧ Below w.heap.size w w' := by
 have hu87 := Tryz.underlying87
 have hu33 := Tryz.underlying33
 have hu85 := Tryz.underlying85
 have hu110 := Tryz.underlying110
 have hu52 := Tryz.underlying52
 have hu112 := Tryz.underlying112
 have hu56 := Tryz.underlying56
 have HR0_5 := za.mk hr0_5
 have HC0_5 := za.mk hc0_5
 clear hr0_5 hc0_5
 have HR0_6 := za.mk hr0_6
 have HC0_6 := za.mk hc0_6
 clear hr0_6 hc0_6
 have HB := za.mk (Below.refl w.heap.size w)
 have H : (zjb.l0 k l0_5 (l0_5.length : Int) 0 a0_0 a0_1 a0_2 a0_3 a0_4 l0_5 l0_6 a0_7 a0_8 a0_9 a0_0 a0_1 a0_2 a0_3 a0_4 ([] : List (S52)) a0_7 a0_8 a0_9) = some (r1, r2, r3, r4, r5, r6, r7, r8, r9, r10) := h
 clear h
 have H' := za.mk H
 clear H
 go_enter Tryz.func36, Tryz.ntmps36
 go_wp2_with (first | ((with_reducible refine znb (N := 1) rfl ?_); refine zzb ?hg (N := 1) ?hd (cs := #[.string a0_0, .string a0_1, .string a0_2, .string a0_3, .bool a0_4, .slice A0_5 l0_5.length c0_5, .slice A0_6 l0_6.length c0_6, .bool a0_7, .bool a0_8, .string a0_9]) (t := 87) ?hr ?_; (case hd => rfl); (case hg => rfl); (case hr => first | (go_simp; done) | (go_simp; rfl)); intro gb101 hg w2 hbox hb; have BK101 := za.mk hbox; have GW101 := za.mk ((by rw [hg]; exact (zm (by (with_reducible exact HB.out))) : w.heap.size ≤ gb101)); have GE101 := za.mk ((by rw [hg]; exact (zm (by (with_reducible exact HB.out))) : w.heap.size ≤ gb101)); replace HB := BS HB hb; clear hb hbox hg) | ((with_reducible refine znb (N := 2) rfl ?_); refine zzb ?hg (N := 2) ?hd (cs := #[.string ⟨#[]⟩, .string ⟨#[]⟩, .string ⟨#[]⟩, .string ⟨#[]⟩, .bool false, .slice none 0 0, .slice none 0 0, .bool false, .bool false, .string ⟨#[]⟩]) (t := 33) ?hr ?_; (case hd => rfl); (case hg => rfl); (case hr => first | (go_simp; done) | (go_simp; rfl)); intro gb102 hg w3 hbox hb; have n0_ := za.mk (zc BK101.out hb); have n1_ := za.mk (zib (by (with_reducible exact HB.out)) hb); have n2_ := za.mk hbox; have n3_ := za.mk ((by rw [hg]; exact (zm (by (with_reducible exact HB.out))) : w.heap.size ≤ gb102)); have n4_ := za.mk ((by rw [hg]; exact (zm (by (with_reducible exact HB.out))) : w.heap.size ≤ gb102)); have n5_ := za.mk ((by rw [hg]; exact Nat.ne_of_lt (zyb BK101.out) : gb101 ≠ gb102)); have n6_ := za.mk ((by rw [hg]; exact Nat.ne_of_gt (zyb BK101.out) : gb102 ≠ gb101)); clear BK101; clear HB; have BK101 := n0_; have HB := n1_; have BK102 := n2_; have GW102 := n3_; have GE102 := n4_; have NB101_102 := n5_; have NB102_101 := n6_; clear n0_ n1_ n2_ n3_ n4_ n5_ n6_; clear hb hbox hg; have hnb4 := NB101_102.out; have hnc4 := NB102_101.out; obtain ⟨z5_0, z5_1, z5_2, z5_3, z5_4, z5_5, z5_6, z5_7, z5_8, z5_9, y5_0, y5_1, y5_2, y5_3, y5_4, y5_5, y5_6, y5_7, y5_8, y5_9⟩ := cl10 BK101.out) | ((with_reducible refine znb (N := 3) rfl ?_); refine zzb ?hg (N := 3) ?hd (cs := #[.string ⟨#[]⟩, .string ⟨#[]⟩, .string ⟨#[]⟩, .string ⟨#[]⟩, .bool false, .slice none 0 0, .slice none 0 0, .bool false, .bool false, .string ⟨#[]⟩]) (t := 33) ?hr ?_; (case hd => rfl); (case hg => rfl); (case hr => first | (go_simp; done) | (go_simp; rfl)); intro gb103 hg w6 hbox hb; have n0_ := za.mk (zc BK101.out hb); have n1_ := za.mk (zc BK102.out hb); have n2_ := za.mk (zib (by (with_reducible exact HB.out)) hb); have n3_ := za.mk hbox; have n4_ := za.mk ((by rw [hg]; exact (zm (by (with_reducible exact HB.out))) : w.heap.size ≤ gb103)); have n5_ := za.mk ((by rw [hg]; exact (zm (by (with_reducible exact HB.out))) : w.heap.size ≤ gb103)); have n6_ := za.mk ((by rw [hg]; exact Nat.ne_of_lt (zyb BK101.out) : gb101 ≠ gb103)); have n7_ := za.mk ((by rw [hg]; exact Nat.ne_of_gt (zyb BK101.out) : gb103 ≠ gb101)); have n8_ := za.mk ((by rw [hg]; exact Nat.ne_of_lt (zyb BK102.out) : gb102 ≠ gb103)); have n9_ := za.mk ((by rw [hg]; exact Nat.ne_of_gt (zyb BK102.out) : gb103 ≠ gb102)); clear BK101; clear BK102; clear HB; have BK101 := n0_; have BK102 := n1_; have HB := n2_; have BK103 := n3_; have GW103 := n4_; have GE103 := n5_; have NB101_103 := n6_; have NB103_101 := n7_; have NB102_103 := n8_; have NB103_102 := n9_; clear n0_ n1_ n2_ n3_ n4_ n5_ n6_ n7_ n8_ n9_; clear hb hbox hg; have hnb7 := NB103_101.out; have hnc7 := NB101_103.out; have hnb8 := NB103_102.out; have hnc8 := NB102_103.out; obtain ⟨z9_0, z9_1, z9_2, z9_3, z9_4, z9_5, z9_6, z9_7, z9_8, z9_9, y9_0, y9_1, y9_2, y9_3, y9_4, y9_5, y9_6, y9_7, y9_8, y9_9⟩ := cl10 BK103.out; obtain ⟨z10_0, z10_1, z10_2, z10_3, z10_4, z10_5, z10_6, z10_7, z10_8, z10_9, y10_0, y10_1, y10_2, y10_3, y10_4, y10_5, y10_6, y10_7, y10_8, y10_9⟩ := cl10 BK101.out))
 (try simp only [Act.put, List.setIfInBounds_toArray, List.set_cons_zero, List.set_cons_succ])
 go_loopg [26] k (fun kq v26 w' => ∃ (x26_1 : Int) (x104005_1 : List (S52)) (u104005 : Value), v26 = .int .i64 x26_1 ∧ za (zjb.l0 kq l0_5 (l0_5.length : Int) x26_1 a0_0 a0_1 a0_2 a0_3 a0_4 l0_5 l0_6 a0_7 a0_8 a0_9 a0_0 a0_1 a0_2 a0_3 a0_4 x104005_1 a0_7 a0_8 a0_9 = some (r1, r2, r3, r4, r5, r6, r7, r8, r9, r10)) ∧ za (kq ≤ k) ∧ za (Kd.R k52 52 w' w.heap.size (fun _ => True) u104005 x104005_1) ∧ za (w'.heap[gb101]? = some (.cells #[.string a0_0, .string a0_1, .string a0_2, .string a0_3, .bool a0_4, (.slice A0_5 l0_5.length c0_5), (.slice A0_6 l0_6.length c0_6), .bool a0_7, .bool a0_8, .string a0_9] 87 (0, 0))) ∧ za (w'.heap[gb102]? = some (.cells #[.string ⟨#[]⟩, .string ⟨#[]⟩, .string ⟨#[]⟩, .string ⟨#[]⟩, .bool false, (.slice none 0 0), (.slice none 0 0), .bool false, .bool false, .string ⟨#[]⟩] 33 (0, 0))) ∧ za (w'.heap[gb103]? = some (.cells #[.string a0_0, .string a0_1, .string a0_2, .string a0_3, .bool a0_4, u104005, (.slice none 0 0), .bool a0_7, .bool a0_8, .string a0_9] 33 (0, 0))) ∧ za (Below w.heap.size w w'))
 case atStart => exact ⟨(0), (([] : List (S52))), (.slice none 0 0), (by rfl), H', ⟨Nat.le_refl _⟩, ⟨by exact Kd.R_nil _ _ _ _ _⟩, ⟨by (iterate 10 refine zwb ?_ NB101_103.out _); exact BK101.out⟩, ⟨by (iterate 10 refine zwb ?_ NB102_103.out _); exact BK102.out⟩, ⟨by exact put10 BK103.out⟩, ⟨by repeat (first | (with_reducible first | exact HB.out | apply zj | apply zd | apply zab | refine zl ?_ GE101.out | refine zl ?_ GE102.out | refine zl ?_ GE103.out) | exact HB.out)⟩⟩
 case round =>
  clear H'
  clear z10_0 z10_1 z10_2 z10_3 z10_4 z10_5 z10_6 z10_7 z10_8 z10_9 z5_0 z5_1 z5_2 z5_3 z5_4 z5_5 z5_6 z5_7 z5_8 z5_9 z9_0 z9_1 z9_2 z9_3 z9_4 z9_5 z9_6 z9_7 z9_8 z9_9 y10_0 y10_1 y10_2 y10_3 y10_4 y10_5 y10_6 y10_7 y10_8 y10_9 y5_0 y5_1 y5_2 y5_3 y5_4 y5_5 y5_6 y5_7 y5_8 y5_9 y9_0 y9_1 y9_2 y9_3 y9_4 y9_5 y9_6 y9_7 y9_8 y9_9
  obtain ⟨x26_1, x104005_1, u104005, rfl, HA, HK1, HO_104005, BK101, BK102, BK103, HB⟩ := hrel
  cases gk with
  | zero => exact absurd HA.out (by simp [zjb.l0])
  | succ k1 =>
   have H := HA.out
   clear HA
   simp only [zjb.l0] at H
   by_cases c11 : x26_1 < (l0_5.length : Int)
   ·rw [if_pos c11] at H
    have c11b0 : decide (x26_1 < (l0_5.length : Int)) = true := decide_eq_true c11
    clear c11
    by_cases c12 : 0 ≤ x26_1
    ·rw [if_pos c12] at H
     have c12b0 : decide (0 ≤ x26_1) = true := decide_eq_true c12
     clear c12
     by_cases c13 : x26_1 < (l0_5.length : Int)
     ·rw [if_pos c13] at H
      have c13b0 : decide (x26_1 < (l0_5.length : Int)) = true := decide_eq_true c13
      clear c13
      by_cases c14 : x104005_1.length < 2932031007402
      ·rw [if_pos c14] at H
       have LMc14 := za.mk c14
       clear c14
       obtain ⟨y106, hy106⟩ : ∃ y_ : List (S52), y_ = (x104005_1 ++ [(⟨(zcd l0_5 x26_1).f0, (⟨(zcd l0_5 x26_1).f1.f0, (zcd l0_5 x26_1).f1.f1⟩ : S31), (zcd l0_5 x26_1).f2⟩ : S52)]) := ⟨_, rfl⟩
       replace H : (zjb.l0 k1 l0_5 (l0_5.length : Int) (wrap64 (x26_1 + 1)) a0_0 a0_1 a0_2 a0_3 a0_4 l0_5 l0_6 a0_7 a0_8 a0_9 a0_0 a0_1 a0_2 a0_3 a0_4 y106 a0_7 a0_8 a0_9) = some (r1, r2, r3, r4, r5, r6, r7, r8, r9, r10) := by (rw [hy106]; with_reducible exact H)
       have Ny106 := za.mk hy106
       clear hy106
       have H' := za.mk H
       clear H
       have p104 : 0 ≤ (x26_1 : Int) := of_decide_eq_true (by (with_reducible assumption))
       have q104 : x26_1 < (l0_5.length : Int) := of_decide_eq_true (by (with_reducible assumption))
       obtain ⟨ad104, e104, hx104_0, hx104_1, hx104_2, hx104_3⟩ := at_T110 HR0_5.out x26_1 p104 q104
       cases e104
       replace hx104_0 := (HB.out.cell (World.block_lt_of_cell? w _ hx104_0)).trans hx104_0
       replace hx104_1 := (HB.out.cell (World.block_lt_of_cell? w _ hx104_1)).trans hx104_1
       replace hx104_2 := (HB.out.cell (World.block_lt_of_cell? w _ hx104_2)).trans hx104_2
       replace hx104_3 := (HB.out.cell (World.block_lt_of_cell? w _ hx104_3)).trans hx104_3
       replace p104 := eq_true p104
       replace q104 := eq_true q104
       go_wp2_with (first | ((with_reducible refine znb (N := 5) rfl ?_); refine zzb ?hg (N := 5) ?hd (cs := #[.string ⟨#[]⟩, .bool false, .string ⟨#[]⟩, .int .i64 0]) (t := 110) ?hr ?_; (case hd => rfl); (case hg => rfl); (case hr => first | (go_simp; done) | (go_simp; rfl)); intro gb105 hg w15 hbox hb; have n0_ := za.mk (Kd.R_below (RW HO_104005.out) hb); have n1_ := za.mk (zc BK101.out hb); have n2_ := za.mk (zc BK102.out hb); have n3_ := za.mk (zc BK103.out hb); have n4_ := za.mk (zib (by (with_reducible exact HB.out)) hb); have n5_ := za.mk hbox; have n6_ := za.mk ((by rw [hg]; exact (zm (by (with_reducible exact HB.out))) : w.heap.size ≤ gb105)); have n7_ := za.mk ((by rw [hg]; exact (zm (by (with_reducible exact HB.out))) : w.heap.size ≤ gb105)); have n8_ := za.mk ((by rw [hg]; exact Nat.ne_of_lt (zyb BK101.out) : gb101 ≠ gb105)); have n9_ := za.mk ((by rw [hg]; exact Nat.ne_of_gt (zyb BK101.out) : gb105 ≠ gb101)); have n10_ := za.mk ((by rw [hg]; exact Nat.ne_of_lt (zyb BK102.out) : gb102 ≠ gb105)); have n11_ := za.mk ((by rw [hg]; exact Nat.ne_of_gt (zyb BK102.out) : gb105 ≠ gb102)); have n12_ := za.mk ((by rw [hg]; exact Nat.ne_of_lt (zyb BK103.out) : gb103 ≠ gb105)); have n13_ := za.mk ((by rw [hg]; exact Nat.ne_of_gt (zyb BK103.out) : gb105 ≠ gb103)); clear HO_104005; clear BK101; clear BK102; clear BK103; clear HB; have HO_104005 := n0_; have BK101 := n1_; have BK102 := n2_; have BK103 := n3_; have HB := n4_; have BK105 := n5_; have GW105 := n6_; have GE105 := n7_; have NB101_105 := n8_; have NB105_101 := n9_; have NB102_105 := n10_; have NB105_102 := n11_; have NB103_105 := n12_; have NB105_103 := n13_; clear n0_ n1_ n2_ n3_ n4_ n5_ n6_ n7_ n8_ n9_ n10_ n11_ n12_ n13_; clear hb hbox hg; have hnb16 := NB105_101.out; have hnc16 := NB101_105.out; have hnb17 := NB105_102.out; have hnc17 := NB102_105.out; have hnb18 := NB105_103.out; have hnc18 := NB103_105.out; obtain ⟨z19_0, z19_1, z19_2, z19_3, y19_0, y19_1, y19_2, y19_3⟩ := cl4 BK105.out; have hnb20 := NB103_101.out; have hnc20 := NB101_103.out; have hnb21 := NB103_102.out; have hnc21 := NB102_103.out; obtain ⟨z22_0, z22_1, z22_2, z22_3, z22_4, z22_5, z22_6, z22_7, z22_8, z22_9, y22_0, y22_1, y22_2, y22_3, y22_4, y22_5, y22_6, y22_7, y22_8, y22_9⟩ := cl10 BK103.out) | ((with_reducible refine zyd (b := .append) (xs := #[.tmp 31, .tmp 39]) rfl ?_); at_builtin; refine Kd.R_append k52 (w0 := w) w.heap.size rfl (.tmp 31) (.tmp 39) 28 52 (.agg #[(.string ⟨#[]⟩), (.bool false), (.string ⟨#[]⟩), (.int .i64 0)]) 48 rfl Tryz.underlying28 info52 rfl (by decide) (by omega) u104005 x104005_1 (⟨(zcd l0_5 x26_1).f0, (⟨(zcd l0_5 x26_1).f1.f0, (zcd l0_5 x26_1).f1.f1⟩ : S31), (zcd l0_5 x26_1).f2⟩ : S52) [.string ((zcd l0_5 x26_1).f0), .bool ((zcd l0_5 x26_1).f1.f0), .string ((zcd l0_5 x26_1).f1.f1), .int .i64 ((zcd l0_5 x26_1).f2)] (fun _ => True) (fun _ => False) rfl (by (go_simp; done)) ?aP (fun _ hk => hk.elim) ?aF ?aO ?aB ?aS ?aL ?_; (case aP => exact k52_mkM _ _ _ (⟨(zcd l0_5 x26_1).f0, (⟨(zcd l0_5 x26_1).f1.f0, (zcd l0_5 x26_1).f1.f1⟩ : S31), (zcd l0_5 x26_1).f2⟩ : S52)); (case aB => exact (by (with_reducible refine zl ?_ GE105.out; with_reducible refine zl ?_ GE105.out; with_reducible refine zl ?_ GE105.out; with_reducible refine zl ?_ GE105.out; with_reducible exact HB.out))); (case aF => exact (fun _ _ => trivial)); (case aO => exact (RW (Kd.R_mono (farC4 (Kd.R_types HO_104005.out BK105.out (by decide))) (fun _ hk => trivial)))); (case aS => exact (zm (by (with_reducible refine zl ?_ GE105.out; with_reducible refine zl ?_ GE105.out; with_reducible refine zl ?_ GE105.out; with_reducible refine zl ?_ GE105.out; with_reducible exact HB.out)))); (case aL => have := LMc14.out; omega); intro v107 w23 ho hb hg hat; rw [← Ny106.out] at ho; replace BK101 := za.mk (zpe (g := gb101) (o := .cells #[.string a0_0, .string a0_1, .string a0_2, .string a0_3, .bool a0_4, .slice (some ad104) l0_5.length c0_5, .slice A0_6 l0_6.length c0_6, .bool a0_7, .bool a0_8, .string a0_9] 87 (0, 0)) (by (iterate 4 refine zwb ?_ NB101_105.out _); exact BK101.out) hg (Kd.R_ne HO_104005.out BK101.out (by decide))); replace BK102 := za.mk (zpe (g := gb102) (o := .cells #[.string ⟨#[]⟩, .string ⟨#[]⟩, .string ⟨#[]⟩, .string ⟨#[]⟩, .bool false, .slice none 0 0, .slice none 0 0, .bool false, .bool false, .string ⟨#[]⟩] 33 (0, 0)) (by (iterate 4 refine zwb ?_ NB102_105.out _); exact BK102.out) hg (Kd.R_ne HO_104005.out BK102.out (by decide))); replace BK103 := za.mk (zpe (g := gb103) (o := .cells #[.string a0_0, .string a0_1, .string a0_2, .string a0_3, .bool a0_4, u104005, .slice none 0 0, .bool a0_7, .bool a0_8, .string a0_9] 33 (0, 0)) (by (iterate 4 refine zwb ?_ NB103_105.out _); exact BK103.out) hg (Kd.R_ne HO_104005.out BK103.out (by decide))); replace BK105 := za.mk (zpe (g := gb105) (o := .cells #[.string ((zcd l0_5 x26_1).f0), .bool ((zcd l0_5 x26_1).f1.f0), .string ((zcd l0_5 x26_1).f1.f1), .int .i64 ((zcd l0_5 x26_1).f2)] 110 (0, 0)) (by exact put4 BK105.out) hg (Kd.R_ne HO_104005.out BK105.out (by decide))); have HO108 := za.mk ho; replace HB := za.mk hb; clear HO_104005; clear ho hb hg hat; obtain ⟨Ao24, co24, eo24⟩ := Kd.R_slice HO108.out; subst eo24; obtain ⟨z25_0, z25_1, z25_2, z25_3, z25_4, z25_5, z25_6, z25_7, z25_8, z25_9, y25_0, y25_1, y25_2, y25_3, y25_4, y25_5, y25_6, y25_7, y25_8, y25_9⟩ := cl10 BK103.out))
       go_roundg k1
       case measure => have := HK1.out; omega
       case rel => exact ⟨(wrap64 (x26_1 + 1)), (y106), (.slice Ao24 y106.length co24), (by rfl), H', ⟨by have := HK1.out; omega⟩, ⟨by (with_reducible repeat (first | apply Kd.R_alloc | apply Kd.R_drewN | apply Kd.R_drew)); exact Kd.R_mono (farC (Kd.R_types HO108.out BK103.out (by decide))) (fun _ hk => trivial)⟩, ⟨by refine zwb ?_ NB101_103.out _; exact BK101.out⟩, ⟨by refine zwb ?_ NB102_103.out _; exact BK102.out⟩, ⟨by refine zq (cs := #[.string a0_0, .string a0_1, .string a0_2, .string a0_3, .bool a0_4, u104005, .slice none 0 0, .bool a0_7, .bool a0_8, .string a0_9]) ?_ 5 _ rfl; exact BK103.out⟩, ⟨by (with_reducible refine zl ?_ GE103.out; with_reducible exact HB.out)⟩⟩
      ·rw [if_neg c14] at H
       exact absurd H (by simp)
     ·rw [if_neg c13] at H
      exact absurd H (by simp)
    ·rw [if_neg c12] at H
     exact absurd H (by simp)
   ·rw [if_neg c11] at H
    have c11b0 : decide (x26_1 < (l0_5.length : Int)) = false := decide_eq_false c11
    clear c11
    have H' := za.mk H
    clear H
    have hnb26 := NB101_102.out
    have hnc26 := NB102_101.out
    have hnb27 := NB101_103.out
    have hnc27 := NB103_101.out
    obtain ⟨z28_0, z28_1, z28_2, z28_3, z28_4, z28_5, z28_6, z28_7, z28_8, z28_9, y28_0, y28_1, y28_2, y28_3, y28_4, y28_5, y28_6, y28_7, y28_8, y28_9⟩ := cl10 BK101.out
    go_wp2
    (try simp only [Act.put, List.setIfInBounds_toArray, List.set_cons_zero, List.set_cons_succ])
    go_loopg [46] k1 (fun kq v46 w' => ∃ (x46_2 : Int) (x104006_2 : List (S56)) (u104006 : Value), v46 = .int .i64 x46_2 ∧ za (zjb.l1 kq l0_6 (l0_6.length : Int) x46_2 a0_0 a0_1 a0_2 a0_3 a0_4 x104005_1 x104006_2 a0_7 a0_8 a0_9 = some (r1, r2, r3, r4, r5, r6, r7, r8, r9, r10)) ∧ za (kq ≤ k1) ∧ za (Kd.R k52 52 w' w.heap.size (fun _ => True) u104005 x104005_1) ∧ za (Kd.R k56 56 w' w.heap.size (fun _ => True) u104006 x104006_2) ∧ za (w'.heap[gb101]? = some (.cells #[.string a0_0, .string a0_1, .string a0_2, .string a0_3, .bool a0_4, (.slice A0_5 l0_5.length c0_5), (.slice A0_6 l0_6.length c0_6), .bool a0_7, .bool a0_8, .string a0_9] 87 (0, 0))) ∧ za (w'.heap[gb102]? = some (.cells #[.string ⟨#[]⟩, .string ⟨#[]⟩, .string ⟨#[]⟩, .string ⟨#[]⟩, .bool false, (.slice none 0 0), (.slice none 0 0), .bool false, .bool false, .string ⟨#[]⟩] 33 (0, 0))) ∧ za (w'.heap[gb103]? = some (.cells #[.string a0_0, .string a0_1, .string a0_2, .string a0_3, .bool a0_4, u104005, u104006, .bool a0_7, .bool a0_8, .string a0_9] 33 (0, 0))) ∧ za (Below w.heap.size w w'))
    case atStart => exact ⟨(0), (([] : List (S56))), (.slice none 0 0), (by rfl), H', ⟨Nat.le_refl _⟩, ⟨by (with_reducible repeat (first | apply Kd.R_alloc | apply Kd.R_drewN | apply Kd.R_drew)); exact HO_104005.out⟩, ⟨by exact Kd.R_nil _ _ _ _ _⟩, ⟨by exact BK101.out⟩, ⟨by exact BK102.out⟩, ⟨by exact BK103.out⟩, ⟨by (with_reducible exact HB.out)⟩⟩
    case round =>
     clear H'
     clear c11b0 z28_0 z28_1 z28_2 z28_3 z28_4 z28_5 z28_6 z28_7 z28_8 z28_9 y28_0 y28_1 y28_2 y28_3 y28_4 y28_5 y28_6 y28_7 y28_8 y28_9
     obtain ⟨x46_2, x104006_2, u104006, rfl, HA, HK2, HO_104005, HO_104006, BK101, BK102, BK103, HB⟩ := hrel
     cases gk with
     | zero => exact absurd HA.out (by simp [zjb.l1])
     | succ k2 =>
      have H := HA.out
      clear HA
      simp only [zjb.l1] at H
      by_cases c29 : x46_2 < (l0_6.length : Int)
      ·rw [if_pos c29] at H
       have c29b0 : decide (x46_2 < (l0_6.length : Int)) = true := decide_eq_true c29
       clear c29
       by_cases c30 : 0 ≤ x46_2
       ·rw [if_pos c30] at H
        have c30b0 : decide (0 ≤ x46_2) = true := decide_eq_true c30
        clear c30
        by_cases c31 : x46_2 < (l0_6.length : Int)
        ·rw [if_pos c31] at H
         have c31b0 : decide (x46_2 < (l0_6.length : Int)) = true := decide_eq_true c31
         clear c31
         by_cases c32 : x104006_2.length < 4398046511104
         ·rw [if_pos c32] at H
          have LMc32 := za.mk c32
          clear c32
          obtain ⟨y111, hy111⟩ : ∃ y_ : List (S56), y_ = (x104006_2 ++ [(⟨(zqd l0_6 x46_2).f0, (⟨(zqd l0_6 x46_2).f1.f0, (zqd l0_6 x46_2).f1.f1⟩ : S31)⟩ : S56)]) := ⟨_, rfl⟩
          replace H : (zjb.l1 k2 l0_6 (l0_6.length : Int) (wrap64 (x46_2 + 1)) a0_0 a0_1 a0_2 a0_3 a0_4 x104005_1 y111 a0_7 a0_8 a0_9) = some (r1, r2, r3, r4, r5, r6, r7, r8, r9, r10) := by (rw [hy111]; with_reducible exact H)
          have Ny111 := za.mk hy111
          clear hy111
          have H' := za.mk H
          clear H
          have p109 : 0 ≤ (x46_2 : Int) := of_decide_eq_true (by (with_reducible assumption))
          have q109 : x46_2 < (l0_6.length : Int) := of_decide_eq_true (by (with_reducible assumption))
          obtain ⟨ad109, e109, hx109_0, hx109_1, hx109_2⟩ := at_T112 HR0_6.out x46_2 p109 q109
          cases e109
          replace hx109_0 := (HB.out.cell (World.block_lt_of_cell? w _ hx109_0)).trans hx109_0
          replace hx109_1 := (HB.out.cell (World.block_lt_of_cell? w _ hx109_1)).trans hx109_1
          replace hx109_2 := (HB.out.cell (World.block_lt_of_cell? w _ hx109_2)).trans hx109_2
          replace p109 := eq_true p109
          replace q109 := eq_true q109
          go_wp2_with (first | ((with_reducible refine znb (N := 7) rfl ?_); refine zzb ?hg (N := 7) ?hd (cs := #[.int .i64 0, .bool false, .string ⟨#[]⟩]) (t := 112) ?hr ?_; (case hd => rfl); (case hg => rfl); (case hr => first | (go_simp; done) | (go_simp; rfl)); intro gb110 hg w33 hbox hb; have n0_ := za.mk (Kd.R_below (RW HO_104005.out) hb); have n1_ := za.mk (Kd.R_below (RW HO_104006.out) hb); have n2_ := za.mk (zc BK101.out hb); have n3_ := za.mk (zc BK102.out hb); have n4_ := za.mk (zc BK103.out hb); have n5_ := za.mk (zib (by (with_reducible exact HB.out)) hb); have n6_ := za.mk hbox; have n7_ := za.mk ((by rw [hg]; exact (zm (by (with_reducible exact HB.out))) : w.heap.size ≤ gb110)); have n8_ := za.mk ((by rw [hg]; exact (zm (by (with_reducible exact HB.out))) : w.heap.size ≤ gb110)); have n9_ := za.mk ((by rw [hg]; exact Nat.ne_of_lt (zyb BK101.out) : gb101 ≠ gb110)); have n10_ := za.mk ((by rw [hg]; exact Nat.ne_of_gt (zyb BK101.out) : gb110 ≠ gb101)); have n11_ := za.mk ((by rw [hg]; exact Nat.ne_of_lt (zyb BK102.out) : gb102 ≠ gb110)); have n12_ := za.mk ((by rw [hg]; exact Nat.ne_of_gt (zyb BK102.out) : gb110 ≠ gb102)); have n13_ := za.mk ((by rw [hg]; exact Nat.ne_of_lt (zyb BK103.out) : gb103 ≠ gb110)); have n14_ := za.mk ((by rw [hg]; exact Nat.ne_of_gt (zyb BK103.out) : gb110 ≠ gb103)); clear HO_104005; clear HO_104006; clear BK101; clear BK102; clear BK103; clear HB; have HO_104005 := n0_; have HO_104006 := n1_; have BK101 := n2_; have BK102 := n3_; have BK103 := n4_; have HB := n5_; have BK110 := n6_; have GW110 := n7_; have GE110 := n8_; have NB101_110 := n9_; have NB110_101 := n10_; have NB102_110 := n11_; have NB110_102 := n12_; have NB103_110 := n13_; have NB110_103 := n14_; clear n0_ n1_ n2_ n3_ n4_ n5_ n6_ n7_ n8_ n9_ n10_ n11_ n12_ n13_ n14_; clear hb hbox hg; have hnb34 := NB110_101.out; have hnc34 := NB101_110.out; have hnb35 := NB110_102.out; have hnc35 := NB102_110.out; have hnb36 := NB110_103.out; have hnc36 := NB103_110.out; obtain ⟨z37_0, z37_1, z37_2, y37_0, y37_1, y37_2⟩ := cl3 BK110.out; have hnb38 := NB103_101.out; have hnc38 := NB101_103.out; have hnb39 := NB103_102.out; have hnc39 := NB102_103.out; obtain ⟨z40_0, z40_1, z40_2, z40_3, z40_4, z40_5, z40_6, z40_7, z40_8, z40_9, y40_0, y40_1, y40_2, y40_3, y40_4, y40_5, y40_6, y40_7, y40_8, y40_9⟩ := cl10 BK103.out) | ((with_reducible refine zyd (b := .append) (xs := #[.tmp 51, .tmp 57]) rfl ?_); at_builtin; refine Kd.R_append k56 (w0 := w) w.heap.size rfl (.tmp 51) (.tmp 57) 29 56 (.agg #[(.int .i64 0), (.bool false), (.string ⟨#[]⟩)]) 32 rfl Tryz.underlying29 info56 rfl (by decide) (by omega) u104006 x104006_2 (⟨(zqd l0_6 x46_2).f0, (⟨(zqd l0_6 x46_2).f1.f0, (zqd l0_6 x46_2).f1.f1⟩ : S31)⟩ : S56) [.int .i64 ((zqd l0_6 x46_2).f0), .bool ((zqd l0_6 x46_2).f1.f0), .string ((zqd l0_6 x46_2).f1.f1)] (fun _ => True) (fun _ => False) rfl (by (go_simp; done)) ?aP (fun _ hk => hk.elim) ?aF ?aO ?aB ?aS ?aL ?_; (case aP => exact k56_mkM _ _ _ (⟨(zqd l0_6 x46_2).f0, (⟨(zqd l0_6 x46_2).f1.f0, (zqd l0_6 x46_2).f1.f1⟩ : S31)⟩ : S56)); (case aB => exact (by (with_reducible refine zl ?_ GE110.out; with_reducible refine zl ?_ GE110.out; with_reducible refine zl ?_ GE110.out; with_reducible exact HB.out))); (case aF => exact (fun _ _ => trivial)); (case aO => exact (RW (Kd.R_mono (farC3 (Kd.R_types HO_104006.out BK110.out (by decide))) (fun _ hk => trivial)))); (case aS => exact (zm (by (with_reducible refine zl ?_ GE110.out; with_reducible refine zl ?_ GE110.out; with_reducible refine zl ?_ GE110.out; with_reducible exact HB.out)))); (case aL => have := LMc32.out; omega); intro v112 w41 ho hb hg hat; rw [← Ny111.out] at ho; replace HO_104005 := za.mk (Kd.R_over' (RW (Kd.R_mono (farC3 (Kd.R_types HO_104005.out BK110.out (by decide))) (fun _ h_ => h_.1))) (Kd.R_typed (RW (Kd.R_mono (farC3 (Kd.R_types HO_104006.out BK110.out (by decide))) (fun _ h_ => h_.1)))) (by decide) hg); replace BK101 := za.mk (zpe (g := gb101) (o := .cells #[.string a0_0, .string a0_1, .string a0_2, .string a0_3, .bool a0_4, .slice A0_5 l0_5.length c0_5, .slice (some ad109) l0_6.length c0_6, .bool a0_7, .bool a0_8, .string a0_9] 87 (0, 0)) (by (iterate 3 refine zwb ?_ NB101_110.out _); exact BK101.out) hg (Kd.R_ne HO_104006.out BK101.out (by decide))); replace BK102 := za.mk (zpe (g := gb102) (o := .cells #[.string ⟨#[]⟩, .string ⟨#[]⟩, .string ⟨#[]⟩, .string ⟨#[]⟩, .bool false, .slice none 0 0, .slice none 0 0, .bool false, .bool false, .string ⟨#[]⟩] 33 (0, 0)) (by (iterate 3 refine zwb ?_ NB102_110.out _); exact BK102.out) hg (Kd.R_ne HO_104006.out BK102.out (by decide))); replace BK103 := za.mk (zpe (g := gb103) (o := .cells #[.string a0_0, .string a0_1, .string a0_2, .string a0_3, .bool a0_4, u104005, u104006, .bool a0_7, .bool a0_8, .string a0_9] 33 (0, 0)) (by (iterate 3 refine zwb ?_ NB103_110.out _); exact BK103.out) hg (Kd.R_ne HO_104006.out BK103.out (by decide))); replace BK110 := za.mk (zpe (g := gb110) (o := .cells #[.int .i64 ((zqd l0_6 x46_2).f0), .bool ((zqd l0_6 x46_2).f1.f0), .string ((zqd l0_6 x46_2).f1.f1)] 112 (0, 0)) (by exact put3 BK110.out) hg (Kd.R_ne HO_104006.out BK110.out (by decide))); have HO113 := za.mk ho; replace HB := za.mk hb; clear HO_104006; clear ho hb hg hat; obtain ⟨Ao42, co42, eo42⟩ := Kd.R_slice HO113.out; subst eo42; obtain ⟨z43_0, z43_1, z43_2, z43_3, z43_4, z43_5, z43_6, z43_7, z43_8, z43_9, y43_0, y43_1, y43_2, y43_3, y43_4, y43_5, y43_6, y43_7, y43_8, y43_9⟩ := cl10 BK103.out))
          go_roundg k2
          case measure => have := HK1.out; have := HK2.out; omega
          case rel => exact ⟨(wrap64 (x46_2 + 1)), (y111), (.slice Ao42 y111.length co42), (by rfl), H', ⟨by have := HK1.out; have := HK2.out; omega⟩, ⟨by (with_reducible repeat (first | apply Kd.R_alloc | apply Kd.R_drewN | apply Kd.R_drew)); exact Kd.R_mono (farC (Kd.R_types HO_104005.out BK103.out (by decide))) (fun _ hk => trivial)⟩, ⟨by (with_reducible repeat (first | apply Kd.R_alloc | apply Kd.R_drewN | apply Kd.R_drew)); exact Kd.R_mono (farC (Kd.R_types HO113.out BK103.out (by decide))) (fun _ hk => trivial)⟩, ⟨by refine zwb ?_ NB101_103.out _; exact BK101.out⟩, ⟨by refine zwb ?_ NB102_103.out _; exact BK102.out⟩, ⟨by refine zq (cs := #[.string a0_0, .string a0_1, .string a0_2, .string a0_3, .bool a0_4, u104005, u104006, .bool a0_7, .bool a0_8, .string a0_9]) ?_ 6 _ rfl; exact BK103.out⟩, ⟨by (with_reducible refine zl ?_ GE103.out; with_reducible exact HB.out)⟩⟩
         ·rw [if_neg c32] at H
          exact absurd H (by simp)
        ·rw [if_neg c31] at H
         exact absurd H (by simp)
       ·rw [if_neg c30] at H
        exact absurd H (by simp)
      ·rw [if_neg c29] at H
       have c29b0 : decide (x46_2 < (l0_6.length : Int)) = false := decide_eq_false c29
       clear c29
       simp only [Option.some.injEq, Prod.mk.injEq] at H
       obtain ⟨rfl, rfl, rfl, rfl, rfl, rfl, rfl, rfl, rfl, rfl⟩ := H
       have hnb44 := NB103_101.out
       have hnc44 := NB101_103.out
       have hnb45 := NB103_102.out
       have hnc45 := NB102_103.out
       obtain ⟨z46_0, z46_1, z46_2, z46_3, z46_4, z46_5, z46_6, z46_7, z46_8, z46_9, y46_0, y46_1, y46_2, y46_3, y46_4, y46_5, y46_6, y46_7, y46_8, y46_9⟩ := cl10 BK103.out
       have hnb47 := NB102_101.out
       have hnc47 := NB101_102.out
       obtain ⟨z48_0, z48_1, z48_2, z48_3, z48_4, z48_5, z48_6, z48_7, z48_8, z48_9, y48_0, y48_1, y48_2, y48_3, y48_4, y48_5, y48_6, y48_7, y48_8, y48_9⟩ := cl10 BK102.out
       obtain ⟨Ao49, co49, eo49⟩ := Kd.R_slice HO_104005.out
       subst eo49
       obtain ⟨Ao50, co50, eo50⟩ := Kd.R_slice HO_104006.out
       subst eo50
       go_wp2
       refine bodyPost_ret (results_cell_row rfl _ _ gb102 33 #[.string a0_0, .string a0_1, .string a0_2, .string a0_3, .bool a0_4, .slice Ao49 x104005_1.length co49, .slice Ao50 x104006_2.length co50, .bool a0_7, .bool a0_8, .string a0_9] (0, 0) _ rfl (by exact put10 BK102.out) Tryz.underlying33 rfl (by kernel_rfl)) rfl ?_
       exact ⟨_, _, by rfl, by (with_reducible repeat (first | apply Kd.R_alloc | apply Kd.R_drewN | apply Kd.R_drew)); exact Kd.R_mono (zrb (Kd.R_types HO_104005.out BK102.out (by decide))) (fun _ hk => trivial), by (with_reducible repeat (first | apply Kd.R_alloc | apply Kd.R_drewN | apply Kd.R_drew)); exact Kd.R_mono (zrb (Kd.R_types HO_104006.out BK102.out (by decide))) (fun _ hk => trivial), by repeat (first | (with_reducible first | exact HB.out | apply zj | apply zd | apply zab | refine zl ?_ GE101.out | refine zl ?_ GE102.out | refine zl ?_ GE103.out) | exact HB.out)⟩
def laws_zzFits1.f (l0_0 : List Int) (a0_1 : Int) (l0_2 : List Int) (l0_3 : List Int) (a0_4 : ByteArray) (a0_5 : Bool) (a0_6 : Int) : Option (Bool) := if (l0_0.length : Int) > 2147483647 then (some false) else (if (l0_2.length : Int) > 2147483647 then (some false) else (if (l0_3.length : Int) > 2147483647 then (some false) else (if (a0_4.size : Int) > 2147483647 then (some false) else (some true))))
def zbh.l0 : Nat → Int → ByteArray → Option (ByteArray)
 | 0, _, _ => none
 | k + 1, x0, x3 => if (Utf8.encode (wrap32 (IntKind.u16.wrap (48 + (Int.tmod x0 10))))).size + x3.size ≤ 9223372036854775807 then (if (IntKind.u16.wrap (Int.tdiv x0 10)) = 0 then (some ((Utf8.encode (wrap32 (IntKind.u16.wrap (48 + (Int.tmod x0 10))))) ++ x3)) else (zbh.l0 k (IntKind.u16.wrap (Int.tdiv x0 10)) ((Utf8.encode (wrap32 (IntKind.u16.wrap (48 + (Int.tmod x0 10))))) ++ x3))) else (none)
def zbh.f (k : Nat) (a0 : Int) : Option (ByteArray) := zbh.l0 k a0 (⟨#[]⟩ : ByteArray)
end Go.Proofs.YtapaijpglfmfgaaGreatDoor.Q
end
section
namespace Go.Proofs.YtapaijpglfmfgaaGreatDoorG
open Go.RowKit YtapaijpglfmfgaaGreatDoorH YtapaijpglfmfgaaGreatDoorB YtapaijpglfmfgaaGreatDoorM YtapaijpglfmfgaaGreatDoorP YtapaijpglfmfgaaGreatDoor.Q YtapaijpglfmfgaaGreatDoorW.PrintWords YtapaijpglfmfgaaGreatDoorW.PrintLast
def pNum (y : S110) : S52 := ⟨y.f0, ⟨y.f1.f0, y.f1.f1⟩, y.f2⟩
def pSuf (y : S112) : S56 := ⟨y.f0, ⟨y.f1.f0, y.f1.f1⟩⟩
theorem rd_at {α : Type} (z : α) (l : List α) (i : Nat) (h : i < l.length) : l.getD ((i : Int)).toNat z = l[i] := by
 rw [Int.toNat_natCast, List.getD_eq_getElem?_getD, List.getElem?_eq_getElem h]
 rfl
theorem plain_l1 (ss : List S112) (hs : ss.length ≤ 1000000) (o r l h : ByteArray) (i : Bool) (ys : List S52) (hb ng : Bool) (m : ByteArray) : ∀ (n k : Nat) (acc : List S56), ss.length - k = n → k ≤ ss.length → acc.length ≤ k →
  Ev (fun q => zjb.l1 q ss (ss.length : Int) (k : Int) o r l h i ys acc hb ng m) (o, r, l, h, i, ys, acc ++ (ss.drop k).map pSuf, hb, ng, m) := by
 intro n
 induction n with
 | zero =>
  intro k acc hn hk ha
  refine Ev.succ ?_
  simp only [zjb.l1]
  refine Ev.neg (fun _ => by first | omega | assumption | nofun) ?_
  refine Ev.eq (Ev.now _) ?_
  rw [List.drop_of_length_le (by omega), List.map_nil, List.append_nil]
 | succ n ih =>
  intro k acc hn hk ha
  have hlt : k < ss.length := by omega
  refine Ev.succ ?_
  simp only [zjb.l1]
  refine Ev.pos (fun _ => by first | omega | trivial | assumption) ?_
  refine Ev.pos (fun _ => by first | omega | trivial | assumption) ?_
  refine Ev.pos (fun _ => by first | omega | trivial | assumption) ?_
  refine Ev.pos (fun _ => by first | omega | trivial | assumption) ?_
  rw [w64 (by omega) (by omega)]
  refine Ev.eq (ih (k + 1) _ (by omega) (by omega) (by simp; omega)) ?_
  have e : zqd ss (k : Int) = ss[k] := rd_at _ _ _ hlt
  rw [e, List.drop_eq_getElem_cons hlt, List.map_cons, List.append_assoc]
  rfl
theorem plain_l0 (ns : List S110) (ss : List S112) (hn1 : ns.length ≤ 1000000) (hs : ss.length ≤ 1000000) (o r l h : ByteArray) (i : Bool) (hb ng : Bool) (m : ByteArray) : ∀ (n k : Nat) (acc : List S52), ns.length - k = n → k ≤ ns.length → acc.length ≤ k →
  Ev (fun q => zjb.l0 q ns (ns.length : Int) (k : Int) o r l h i ns ss hb ng m o r l h i acc hb ng m) (o, r, l, h, i, acc ++ (ns.drop k).map pNum, ss.map pSuf, hb, ng, m) := by
 intro n
 induction n with
 | zero =>
  intro k acc hn hk ha
  refine Ev.succ ?_
  simp only [zjb.l0]
  refine Ev.neg (fun _ => by first | omega | assumption | nofun) ?_
  refine Ev.eq (plain_l1 ss hs o r l h i acc hb ng m _ 0 [] rfl (Nat.zero_le _) (Nat.le_refl _)) ?_
  rw [List.drop_zero, List.nil_append, show ns.drop k = [] from List.drop_of_length_le (by omega), List.map_nil, List.append_nil]
 | succ n ih =>
  intro k acc hn hk ha
  have hlt : k < ns.length := by omega
  refine Ev.succ ?_
  simp only [zjb.l0]
  refine Ev.pos (fun _ => by first | omega | trivial | assumption) ?_
  refine Ev.pos (fun _ => by first | omega | trivial | assumption) ?_
  refine Ev.pos (fun _ => by first | omega | trivial | assumption) ?_
  refine Ev.pos (fun _ => by first | omega | trivial | assumption) ?_
  rw [w64 (by omega) (by omega)]
  refine Ev.eq (ih (k + 1) _ (by omega) (by omega) (by simp; omega)) ?_
  have e : zcd ns (k : Int) = ns[k] := rd_at _ _ _ hlt
  rw [e, List.drop_eq_getElem_cons hlt, List.map_cons, List.append_assoc]
  rfl
theorem plain_ev (ns : List S110) (ss : List S112) (hn1 : ns.length ≤ 1000000) (hs : ss.length ≤ 1000000) (o r l h : ByteArray) (i hb ng : Bool) (m : ByteArray) :
  Ev (fun q => zjb.f q o r l h i ns ss hb ng m) (o, r, l, h, i, ns.map pNum, ss.map pSuf, hb, ng, m) := by
 have h1 := plain_l0 ns ss hn1 hs o r l h i hb ng m _ 0 [] rfl (Nat.zero_le _) (Nat.le_refl _)
 simpa [zjb.f] using h1
def numsA (c : List (List Int)) : List S52 := c.zipIdx.map fun p => ⟨strOfNums p.1, ⟨false, magB (decL p.1)⟩, (p.2 : Int)⟩
def sufsA (s : List (List Int × List Int)) : List S56 := s.map fun x => ⟨(wgt x.1 : Int), ⟨false, magB (decL x.2)⟩⟩
def zbc.f (a0 : ByteArray) : Option (ByteArray × ByteArray × ByteArray × ByteArray × Bool × List S52 × List S56 × Bool × Bool × ByteArray × Bool) := if AOk a0 then
 some (a0, strOfNums (zwc (bytesOf a0)).r, strOfNums (zwc (bytesOf a0)).l, strOfNums (zwc (bytesOf a0)).h, (zwc (bytesOf a0)).i, numsA (zwc (bytesOf a0)).c, sufsA (zwc (bytesOf a0)).s, true, false, magB (decL (zwc (bytesOf a0)).b), true) else none
theorem nums_told {l : List Nm} {c : List (List Int)} (h : l.map (·.o) = c.map strOfNums) (hn : ∀ y ∈ l, y.n = dv y.o y.o.size) (hc : ∀ d ∈ c, ∀ x ∈ d, 0 ≤ x ∧ x ≤ 255) : (numsT l).map pNum = numsA c := by
 have e1 : ∀ (l : List Nm) (k : Nat), (∀ y ∈ l, y.n = dv y.o y.o.size) → (l.zipIdx k).map (fun p => pNum (tnN p.1 p.2)) = ((l.map (·.o)).zipIdx k).map (fun p => (⟨p.1, ⟨false, magB (dv p.1 p.1.size)⟩, (p.2 : Int)⟩ : S52)) := by
  intro l
  induction l with
  | nil => intro k _; rfl
  | cons y l ih =>
   intro k hy
   have e := hy y List.mem_cons_self
   simp only [List.map_cons, List.zipIdx_cons, List.map_cons]
   rw [ih (k + 1) (fun z hz => hy z (List.mem_cons_of_mem _ hz))]
   congr 1
   show pNum (tnN y k) = _
   unfold pNum tnN
   rw [e]
 have e2 : ∀ (c : List (List Int)) (k : Nat), (∀ d ∈ c, ∀ x ∈ d, 0 ≤ x ∧ x ≤ 255) → ((c.map strOfNums).zipIdx k).map (fun p => (⟨p.1, ⟨false, magB (dv p.1 p.1.size)⟩, (p.2 : Int)⟩ : S52)) = (c.zipIdx k).map (fun p => (⟨strOfNums p.1, ⟨false, magB (decL p.1)⟩, (p.2 : Int)⟩ : S52)) := by
  intro c
  induction c with
  | nil => intro k _; rfl
  | cons d c ih =>
   intro k hd
   simp only [List.map_cons, List.zipIdx_cons, List.map_cons]
   rw [ih (k + 1) (fun z hz => hd z (List.mem_cons_of_mem _ hz)), dv_str (hd d List.mem_cons_self)]
 unfold numsT numsA
 rw [List.map_map]
 have := e1 l 0 hn
 rw [h, e2 c 0 hc] at this
 exact this
theorem sufs_told2 {l : List Sx} {s : List (List Int × List Int)} (h : zuc l = zoe (s.map convS)) (hd : ∀ x ∈ s, (∀ c ∈ x.2, isD c = true) ∧ x.2.length ≤ 1000000) : (sufsT l).map pSuf = sufsA s := by
 have e1 : (sufsT l).map pSuf = (zuc l).map (fun p => (⟨p.1, ⟨false, magB p.2⟩⟩ : S56)) := by
  unfold sufsT zuc
  rw [List.map_map, List.map_map]
  rfl
 rw [e1, h]
 unfold sufsA zoe
 rw [List.map_map, List.map_map]
 refine List.map_congr_left (fun x hx => ?_)
 have := (zxi (hd x hx).1 (hd x hx).2).2.2
 show (⟨(convS x).1, ⟨false, magB (dv (convS x).2 (convS x).2.size)⟩⟩ : S56) = _
 unfold convS
 simp only
 rw [this]
theorem AVAt.lens {w : World} {v : Value} {x : AV} (h : AVAt w v x) : x.c.length ≤ 1000000 ∧ x.s.length ≤ 1000000 := by
 obtain ⟨cv, sv, a, _, h1, h2, _⟩ := h
 obtain ⟨_, _, _, k1, _⟩ := h1
 obtain ⟨_, _, _, k2, _⟩ := h2
 exact ⟨k1, k2⟩
theorem parseImpl_ (w : World) (s : ByteArray) (p : AP) (q : Nat) (hGL : GLe w) (h0 : parseA q s = some p) :
  Calls Tryz.prog 14 #[.string s] w fun e w' => ∃ (x : AV) (v5 v6 : Value), Told x p ∧ e = .returned (.tuple #[.agg #[.string x.o, .string x.r, .string x.l, .string x.h, .bool x.i, v5, v6, .bool true, .bool false, .string (magB x.b)], .bool true]) ∧
   Kd.R k52 52 w' w.heap.size (fun _ => True) v5 ((numsT x.c).map pNum) ∧ Kd.R k56 56 w' w.heap.size (fun _ => True) v6 ((sufsT x.s).map pSuf) ∧ Below w.heap.size w w' := by
 have HP := za.mk (fun (W : World) (h : Below w.heap.size w W) => parse_ W s p q (hGL.lt h) h0)
 have HB := za.mk (Below.refl w.heap.size w)
 have G0 := za.mk (zvc w (.cells #[.string ⟨#[]⟩, .string ⟨#[]⟩, .string ⟨#[]⟩, .string ⟨#[]⟩, .bool false, .slice none 0 0, .slice none 0 0, .bool false, .bool false, .string ⟨#[]⟩] 33))
 clear hGL h0
 go_enter Tryz.func14, Tryz.ntmps14
 go_wp2_with (first | (go_at_call 30; (with_reducible refine (HP.out _ (zj HB.out _)).mono ?_); rintro e' w1 ⟨u, y, rfl, hy, hty, hb⟩; have HY := za.mk hy; have HYL := za.mk hy.lens; obtain ⟨p3, c3, p4, c4, a', e⟩ := hy.form; unfold AVv at e; subst e; have HTY := za.mk hty; have B1 := za.mk (zib (zj HB.out _) hb); have G1 := za.mk (zc G0.out hb); have xx := fun j : Nat => zb (zvc w1 (.cells #[.string y.o, .bool y.i, .string y.r, .slice p3 y.c.length c3, .string y.l, .slice p4 y.s.length c4, .string y.h, .pointer (some ⟨a', 0, none⟩)] 71)) j; clear hy hty hb) | (go_at_call 37; (with_reducible refine (told_ _ _ y (HY.out.below (zj (Below.refl _ _) _))).mono ?_); rintro e' w2 ⟨v5, v6, rfl, ho5, ho6, hb⟩; obtain ⟨A5, c5, rfl⟩ := Kd.R_slice ho5; obtain ⟨A6, c6, rfl⟩ := Kd.R_slice ho6; have O5 := za.mk ho5; have O6 := za.mk ho6; have B2 := za.mk (zib (zj B1.out _) hb); have G2 := za.mk (zc (zvb G1.out _) hb); clear ho5 ho6 hb) | (go_at_call 36; obtain ⟨q2, hq2⟩ := plain_ev (numsT y.c) (sufsT y.s) (by rw [zbg]; exact HYL.out.1) (by unfold sufsT; rw [List.length_map]; exact HYL.out.2) y.o y.r y.l y.h y.i true false (magB y.b); (with_reducible refine (zjb.calls q2 y.o y.r y.l y.h y.i A5 c5 (numsT y.c) A6 c6 (sufsT y.s) true false (magB y.b) _ _ _ _ _ _ _ _ _ _ _ (Kd.R_reads' O5.out).2.2 (Kd.R_reads' O5.out).2.1 (Kd.R_reads' O6.out).2.2 (Kd.R_reads' O6.out).2.1 (hq2 q2 (Nat.le_refl _))).mono ?_); rintro e' w3 ⟨v7, v8, rfl, ho7, ho8, hb⟩; obtain ⟨A7, c7, rfl⟩ := Kd.R_slice ho7; obtain ⟨A8, c8, rfl⟩ := Kd.R_slice ho8; have B3 := za.mk (zib B2.out hb); have G3 := za.mk (zc G2.out hb); have zF := fun j : Nat => zb G3.out j; have zf := fun j : Nat => zz G3.out j; have O7 := za.mk (Kd.R_lower ho7 B2.out.size); have O8 := za.mk (Kd.R_lower ho8 B2.out.size); clear ho7 ho8 hb hq2))
 (try simp only [Exit.inBlock, Exit.then])
 have p0 := zq (cs' := #[.string y.o, .string ⟨#[]⟩, .string ⟨#[]⟩, .string ⟨#[]⟩, .bool false, .slice none 0 0, .slice none 0 0, .bool false, .bool false, .string ⟨#[]⟩]) G3.out 0 (.string y.o) rfl
 have p1 := zq (cs' := #[.string y.o, .string y.r, .string ⟨#[]⟩, .string ⟨#[]⟩, .bool false, .slice none 0 0, .slice none 0 0, .bool false, .bool false, .string ⟨#[]⟩]) p0 1 (.string y.r) rfl
 have p2 := zq (cs' := #[.string y.o, .string y.r, .string y.l, .string ⟨#[]⟩, .bool false, .slice none 0 0, .slice none 0 0, .bool false, .bool false, .string ⟨#[]⟩]) p1 2 (.string y.l) rfl
 have p3 := zq (cs' := #[.string y.o, .string y.r, .string y.l, .string y.h, .bool false, .slice none 0 0, .slice none 0 0, .bool false, .bool false, .string ⟨#[]⟩]) p2 3 (.string y.h) rfl
 have p4 := zq (cs' := #[.string y.o, .string y.r, .string y.l, .string y.h, .bool y.i, .slice none 0 0, .slice none 0 0, .bool false, .bool false, .string ⟨#[]⟩]) p3 4 (.bool y.i) rfl
 have p5 := zq (cs' := #[.string y.o, .string y.r, .string y.l, .string y.h, .bool y.i, .slice A7 (numsT y.c).length c7, .slice none 0 0, .bool false, .bool false, .string ⟨#[]⟩]) p4 5 (.slice A7 (numsT y.c).length c7) rfl
 have p6 := zq (cs' := #[.string y.o, .string y.r, .string y.l, .string y.h, .bool y.i, .slice A7 (numsT y.c).length c7, .slice A8 (sufsT y.s).length c8, .bool false, .bool false, .string ⟨#[]⟩]) p5 6 (.slice A8 (sufsT y.s).length c8) rfl
 have p7 := zq (cs' := #[.string y.o, .string y.r, .string y.l, .string y.h, .bool y.i, .slice A7 (numsT y.c).length c7, .slice A8 (sufsT y.s).length c8, .bool true, .bool false, .string ⟨#[]⟩]) p6 7 (.bool true) rfl
 have p8 := zq (cs' := #[.string y.o, .string y.r, .string y.l, .string y.h, .bool y.i, .slice A7 (numsT y.c).length c7, .slice A8 (sufsT y.s).length c8, .bool true, .bool false, .string ⟨#[]⟩]) p7 8 (.bool false) rfl
 have p9 := zq (cs' := #[.string y.o, .string y.r, .string y.l, .string y.h, .bool y.i, .slice A7 (numsT y.c).length c7, .slice A8 (sufsT y.s).length c8, .bool true, .bool false, .string (magB y.b)]) p8 9 (.string (magB y.b)) rfl
 have o7 := O7.out
 have o8 := O8.out
 rw [List.length_map] at o7 o8
 refine bodyPost_ret (zkg rfl _ _ w.heap.size 33 #[.string y.o, .string y.r, .string y.l, .string y.h, .bool y.i, .slice A7 (numsT y.c).length c7, .slice A8 (sufsT y.s).length c8, .bool true, .bool false, .string (magB y.b)] (0, 0) _ rfl p9 Tryz.underlying33 rfl (by kernel_rfl)) rfl ?_
 have hk : ∀ (W : World), (∀ b, b ≠ w.heap.size → W.heap[b]? = w3.heap[b]?) → KeptT (butT 33) w3 W := fun W h b cs t fr hb ht => by
  refine h b (fun e => ?_)
  subst e; rw [G3.out] at hb; cases hb; exact absurd ht (by decide)
 have K := hk ((((((((((w3.setCell ⟨w.heap.size, 0, none⟩ (.string y.o)).setCell ⟨w.heap.size, 1, none⟩ (.string y.r)).setCell ⟨w.heap.size, 2, none⟩ (.string y.l)).setCell ⟨w.heap.size, 3, none⟩ (.string y.h)).setCell ⟨w.heap.size, 4, none⟩ (.bool y.i)).setCell ⟨w.heap.size, 5, none⟩ (.slice A7 (numsT y.c).length c7)).setCell ⟨w.heap.size, 6, none⟩ (.slice A8 (sufsT y.s).length c8)).setCell ⟨w.heap.size, 7, none⟩ (.bool true)).setCell ⟨w.heap.size, 8, none⟩ (.bool false)).setCell ⟨w.heap.size, 9, none⟩ (.string (magB y.b))) (fun b h1 => by repeat rw [Below.heap_setCell _ _ _ _ h1])
 refine ⟨y, _, _, HTY.out, rfl, zrd (p := butT 33) rfl (by decide) o7 K, zrd (p := butT 33) rfl (by decide) o8 K, ?_⟩
 have b5 := B3.out
 repeat (first | (with_reducible exact b5) | refine zl ?_ (Nat.le_refl _))
theorem zbc.calls (a0 : ByteArray) (r1 r2 r3 r4 : ByteArray) (r5 : Bool) (r6 : List S52) (r7 : List S56) (r8 r9 : Bool) (r10 : ByteArray) (r11 : Bool) (w : World) (h : zbc.f a0 = some (r1, r2, r3, r4, r5, r6, r7, r8, r9, r10, r11)) (hG : GL w) :
  Calls Tryz.prog 14 #[.string a0] w fun e w' => ∃ v5_ v6_ : Value, e = .returned (.tuple #[.agg #[.string r1, .string r2, .string r3, .string r4, .bool r5, v5_, v6_, .bool r8, .bool r9, .string r10], .bool r11]) ∧ Kd.R k52 52 w' w.heap.size (fun _ => True) v5_ r6 ∧ Kd.R k56 56 w' w.heap.size (fun _ => True) v6_ r7 ∧ Below w.heap.size w w' := by
 unfold zbc.f at h
 by_cases hc : AOk a0
 ·rw [if_pos hc] at h
  simp only [Option.some.injEq, Prod.mk.injEq] at h
  obtain ⟨rfl, rfl, rfl, rfl, rfl, rfl, rfl, rfl, rfl, rfl, rfl⟩ := h
  obtain ⟨k1, h1⟩ := hc.ev
  refine (parseImpl_ w a0 _ k1 hG (h1 k1 (Nat.le_refl _))).mono ?_
  rintro e w' ⟨x, v5, v6, ⟨t1, t2, t3, t4, t5, t6, t7, t8, t9⟩, rfl, h5, h6, hb⟩
  have e1 : x.o = a0 := t1.trans (str_B a0)
  rw [nums_told t4 t5 (fun d hd => digs_asc (by
   obtain ⟨_, _, _, _, k⟩ := zif (bytesOf a0).length (bytesOf a0)
   exact (k d hd).2))] at h5
  rw [sufs_told2 t7 (fun y hy => by
   have k := sufsP_mem _ _ y hy
   refine ⟨k.2.2, ?_⟩
   have k2 := zlg (bytesOf a0)
   have k3 := hc.1
   rw [zfc] at k3
   omega)] at h6
  refine ⟨v5, v6, ?_, h5, h6, hb⟩
  rw [e1, t2, t3, t6, t8, t9]
  rfl
 ·rw [if_neg hc] at h
  cases h
end Go.Proofs.YtapaijpglfmfgaaGreatDoorG
end
section
namespace Go.Proofs.YtapaijpglfmfgaaGreatDoorG
open Go.RowKit YtapaijpglfmfgaaGreatDoorH YtapaijpglfmfgaaGreatDoorB YtapaijpglfmfgaaGreatDoorM YtapaijpglfmfgaaGreatDoorP YtapaijpglfmfgaaGreatDoor.Q YtapaijpglfmfgaaGreatDoorW.PrintWords YtapaijpglfmfgaaGreatDoorW.PrintLast
theorem rd_pnums {l : List Nm} {k : Nat} {x : Nm} (h : l[k]? = some x) : zwd ((numsT l).map pNum) (k : Int) = pNum (tnN x k) := by
 unfold zwd numsT
 rw [Int.toNat_natCast, List.getD_eq_getElem?_getD, List.getElem?_map, List.getElem?_map, Kd.zip_at h]
 rfl
theorem rd_psufs {l : List Sx} {k : Nat} {x : Sx} (h : l[k]? = some x) : zhd ((sufsT l).map pSuf) (k : Int) = pSuf (tsS x) := by
 unfold zhd sufsT
 rw [Int.toNat_natCast, List.getD_eq_getElem?_getD, List.getElem?_map, List.getElem?_map, h]
 rfl
section
variable {w wr : World} {g1 g2 g3 : Nat} {cs1 : Array Value} {o r l h m : ByteArray} {i : Bool} {v5 v6 : Value} {ys : List S110} {zs : List S112}
structure UInv (w wr : World) (g1 g2 g3 : Nat) (cs1 : Array Value) (o r l h m : ByteArray) (i : Bool) (v5 v6 : Value) (ys : List S110) (zs : List S112) : Prop where
 b1 : wr.heap[g1]? = some (.cells cs1 33 (0, 0))
 b2 : wr.heap[g2]? = some (.cells #[.string ⟨#[]⟩, .bool false, .string ⟨#[]⟩, .slice none 0 0, .string ⟨#[]⟩, .slice none 0 0, .string ⟨#[]⟩, .pointer none] 71 (0, 0))
 b3 : wr.heap[g3]? = some (.cells #[.string o, .string r, .string l, .string h, .bool i, v5, v6, .bool true, .bool false, .string m] 87 (0, 0))
 own5 : Kd.R k110 110 wr w.heap.size (fun _ => True) v5 ys
 own6 : Kd.R k112 112 wr w.heap.size (fun _ => True) v6 zs
 below : Below w.heap.size w wr
theorem UInv.to (H : UInv w wr g1 g2 g3 cs1 o r l h m i v5 v6 ys zs) {w' : World} (k : Below wr.heap.size wr w') : UInv w w' g1 g2 g3 cs1 o r l h m i v5 v6 ys zs :=
 ⟨zc H.b1 k, zc H.b2 k, zc H.b3 k, Kd.R_below H.own5 k, Kd.R_below H.own6 k, zfb H.below H.below.size k⟩
theorem UInv.step5 (H : UInv w wr g1 g2 g3 cs1 o r l h m i v5 v6 ys zs) (hg3 : w.heap.size ≤ g3) (h13 : g1 ≠ g3) (h23 : g2 ≠ g3) {w7 : World} {v1 : Value} {ys' : List S110} (ho : Kd.R k110 110 w7 w.heap.size (fun _ => True) v1 ys') (hg : wr.grownBy w7 v5.ownBlock) :
  w7.heap[g3]? = some (.cells #[.string o, .string r, .string l, .string h, .bool i, v5, v6, .bool true, .bool false, .string m] 87 (0, 0)) ∧ UInv w (w7.setCell ⟨g3, 5, none⟩ v1) g1 g2 g3 cs1 o r l h m i v1 v6 ys' zs := by
 have K : KeptT (butT 110) wr w7 := KeptT.row (by decide) H.own5 hg
 have B3 := K.blk H.b3 (by decide)
 refine ⟨B3, ?_, ?_, zq B3 5 _ rfl, ?_, ?_, ?_⟩
 ·rw [World.setCell, Array.getElem?_modify, if_neg (fun e => h13 e.symm)]; exact K.blk H.b1 (by decide)
 ·rw [World.setCell, Array.getElem?_modify, if_neg (fun e => h23 e.symm)]; exact K.blk H.b2 (by decide)
 ·exact zrd (p := fun t => t != 87) rfl (by decide) ho (KeptT.set B3 (by decide) 5 _)
 ·exact zrd (p := fun t => t == 112) rfl (by decide) H.own6 ((K.sub fun t ht => by rw [of_decide_eq_true ht]; decide).trans (KeptT.set B3 (by decide) 5 _))
 ·exact (H.below.grown hg H.below.size (fun b e => Kd.R_base H.own5 b e)).setCell (p := ⟨g3, 5, none⟩) hg3 _
theorem UInv.step6 (H : UInv w wr g1 g2 g3 cs1 o r l h m i v5 v6 ys zs) (hg3 : w.heap.size ≤ g3) (h13 : g1 ≠ g3) (h23 : g2 ≠ g3) {w7 : World} {v1 : Value} {zs' : List S112} (ho : Kd.R k112 112 w7 w.heap.size (fun _ => True) v1 zs') (hg : wr.grownBy w7 v6.ownBlock) :
  w7.heap[g3]? = some (.cells #[.string o, .string r, .string l, .string h, .bool i, v5, v6, .bool true, .bool false, .string m] 87 (0, 0)) ∧ UInv w (w7.setCell ⟨g3, 6, none⟩ v1) g1 g2 g3 cs1 o r l h m i v5 v1 ys zs' := by
 have K : KeptT (butT 112) wr w7 := KeptT.row (by decide) H.own6 hg
 have B3 := K.blk H.b3 (by decide)
 refine ⟨B3, ?_, ?_, zq B3 6 _ rfl, ?_, ?_, ?_⟩
 ·rw [World.setCell, Array.getElem?_modify, if_neg (fun e => h13 e.symm)]; exact K.blk H.b1 (by decide)
 ·rw [World.setCell, Array.getElem?_modify, if_neg (fun e => h23 e.symm)]; exact K.blk H.b2 (by decide)
 ·exact zrd (p := fun t => t == 110) rfl (by decide) H.own5 ((K.sub fun t ht => by rw [of_decide_eq_true ht]; decide).trans (KeptT.set B3 (by decide) 6 _))
 ·exact zrd (p := fun t => t != 87) rfl (by decide) ho (KeptT.set B3 (by decide) 6 _)
 ·exact (H.below.grown hg H.below.size (fun b e => Kd.R_base H.own6 b e)).setCell (p := ⟨g3, 6, none⟩) hg3 _
end
theorem alpine_ (w : World) (o r l h : ByteArray) (i : Bool) (xc : List Nm) (xs : List Sx) (n : Nat) (p5 p6 : Option Addr) (c5 c6 : Nat)
  (hr5 : Kd.C k52 w p5 ((numsT xc).map pNum).length ((numsT xc).map pNum)) (hc5 : ((numsT xc).map pNum).length ≤ c5) (hr6 : Kd.C k56 w p6 ((sufsT xs).map pSuf).length ((sufsT xs).map pSuf)) (hc6 : ((sufsT xs).map pSuf).length ≤ c6)
  (hxc : ∀ x ∈ xc, x.n = dv x.o x.o.size ∧ 0 < x.o.size ∧ (magB x.n).size ≤ 1000000) (hxs : ∀ x ∈ xs, (magB x.n).size ≤ 1000000) (hn : (magB n).size ≤ 1000000) (hlc : xc.length ≤ 1000000) (hls : xs.length ≤ 1000000) :
  Calls Tryz.prog 44 #[.agg #[.string o, .string r, .string l, .string h, .bool i, .slice p5 ((numsT xc).map pNum).length c5, .slice p6 ((sufsT xs).map pSuf).length c6, .bool true, .bool false, .string (magB n)]] w fun e w' => ∃ v ns ss, e = .returned v ∧
   AVAt w' v ⟨o, i, r, ns, l, ss, h, n⟩ ∧ ns.map (·.o) = xc.map (·.o) ∧ (∀ y ∈ ns, y.n = dv y.o y.o.size) ∧ zuc ss = zuc xs ∧ Below w.heap.size w w' := by
 have hu31 := Tryz.underlying31
 have hu52 := Tryz.underlying52
 have hu56 := Tryz.underlying56
 have hu85 := Tryz.underlying85
 have hu110 := Tryz.underlying110
 have hu112 := Tryz.underlying112
 have HR5 := za.mk hr5
 have HR6 := za.mk hr6
 have LC := za.mk hlc
 have LS := za.mk hls
 have HV := za.mk (fun (W : World) p5 p6 c5 c6 h1 h2 h3 h4 => version_ W o r l h i xc xs n p5 p6 c5 c6 h1 h2 h3 h4 hxc hxs hn hlc hls)
 have LNT : ((numsT xc).map pNum).length = xc.length := by rw [List.length_map, zbg]
 have LST : ((sufsT xs).map pSuf).length = xs.length := by rw [List.length_map]; simp [sufsT]
 rw [LNT, LST]
 clear hr5 hc5 hr6 hc6 hxc hxs hlc hls hn LNT LST
 obtain ⟨C1, hC1⟩ : ∃ C1 : Array Value, C1 = #[.string o, .string r, .string l, .string h, .bool i, .slice p5 xc.length c5, .slice p6 xs.length c6, .bool true, .bool false, .string (magB n)] := ⟨_, rfl⟩
 obtain ⟨m, hm⟩ : ∃ m, m = magB n := ⟨_, rfl⟩
 rw [← hm] at hC1 HV ⊢
 obtain ⟨W0, hW0⟩ : ∃ W0, W0 = (((w.alloc (.cells #[.string o, .string r, .string l, .string h, .bool i, .slice p5 xc.length c5, .slice p6 xs.length c6, .bool true, .bool false, .string m] 33)).alloc (.cells #[.string ⟨#[]⟩, .bool false, .string ⟨#[]⟩, .slice none 0 0, .string ⟨#[]⟩, .slice none 0 0, .string ⟨#[]⟩, .pointer none] 71)).alloc (.cells #[.string o, .string r, .string l, .string h, .bool i, .slice none 0 0, .slice none 0 0, .bool true, .bool false, .string m] 87)) := ⟨_, rfl⟩
 have hb1 : W0.heap[w.heap.size]? = some (.cells #[.string o, .string r, .string l, .string h, .bool i, .slice p5 xc.length c5, .slice p6 xs.length c6, .bool true, .bool false, .string m] 33 (0, 0)) := by rw [hW0]; exact zvb (zvb (zvc w _) _) _
 have hb2 : W0.heap[w.heap.size + 1]? = some (.cells #[.string ⟨#[]⟩, .bool false, .string ⟨#[]⟩, .slice none 0 0, .string ⟨#[]⟩, .slice none 0 0, .string ⟨#[]⟩, .pointer none] 71 (0, 0)) := by
  rw [hW0]
  have h := zvb (zvc (w.alloc (.cells #[.string o, .string r, .string l, .string h, .bool i, .slice p5 xc.length c5, .slice p6 xs.length c6, .bool true, .bool false, .string m] 33)) (.cells #[.string ⟨#[]⟩, .bool false, .string ⟨#[]⟩, .slice none 0 0, .string ⟨#[]⟩, .slice none 0 0, .string ⟨#[]⟩, .pointer none] 71)) (.cells #[.string o, .string r, .string l, .string h, .bool i, .slice none 0 0, .slice none 0 0, .bool true, .bool false, .string m] 87)
  rw [zsb] at h
  exact h
 have hb3 : W0.heap[w.heap.size + 1 + 1]? = some (.cells #[.string o, .string r, .string l, .string h, .bool i, .slice none 0 0, .slice none 0 0, .bool true, .bool false, .string m] 87 (0, 0)) := by
  rw [hW0]
  have h := zvc ((w.alloc (.cells #[.string o, .string r, .string l, .string h, .bool i, .slice p5 xc.length c5, .slice p6 xs.length c6, .bool true, .bool false, .string m] 33)).alloc (.cells #[.string ⟨#[]⟩, .bool false, .string ⟨#[]⟩, .slice none 0 0, .string ⟨#[]⟩, .slice none 0 0, .string ⟨#[]⟩, .pointer none] 71)) (.cells #[.string o, .string r, .string l, .string h, .bool i, .slice none 0 0, .slice none 0 0, .bool true, .bool false, .string m] 87)
  rw [zsb, zsb] at h
  exact h
 have hbW : Below w.heap.size w W0 := by rw [hW0]; exact zj (zj (zj (Below.refl _ _) _) _) _
 rw [← hC1] at hb1
 have I0 : za (UInv w W0 w.heap.size (w.heap.size + 1) (w.heap.size + 1 + 1) C1 o r l h m i (.slice none 0 0) (.slice none 0 0) [] []) := ⟨⟨hb1, hb2, hb3, Kd.R_nil _ _ _ _ _, Kd.R_nil _ _ _ _ _, hbW⟩⟩
 have HC1 := za.mk hC1
 have y5 := (zb hb1 5).trans (by rw [hC1]; rfl : C1[5]? = some (.slice p5 xc.length c5))
 have HW0 := za.mk hW0
 rw [hW0] at y5
 clear hb1 hb2 hb3 hbW hC1 hW0 hm
 go_enter Tryz.func44, Tryz.ntmps44
 go_wp2
 try rw [← HW0.out]
 go_loopw [26] (fun iv wr => ∃ (k : Nat) (v5 : Value), k ≤ xc.length ∧ iv = .int .i64 (k : Int) ∧ za (UInv w wr w.heap.size (w.heap.size + 1) (w.heap.size + 1 + 1) C1 o r l h m i v5 (.slice none 0 0) (numsT (xc.take k)) [])) (fun iv _ => xc.length - (intOf iv).toNat)
 case atStart => exact ⟨0, _, Nat.zero_le _, rfl, I0⟩
 case round =>
  obtain ⟨k, v5, hk, rfl, HI⟩ := hrel
  clear I0 y5
  by_cases hlt : k < xc.length
  ·have i3 : decide ((k : Int) < (xc.length : Int)) = true := decide_eq_true (by omega)
   have i4 : ((k : Int) < (xc.length : Int)) = True := eq_true (by omega)
   have i5 : (0 ≤ (k : Int)) = True := eq_true (by omega)
   have WR : wrap64 ((k : Int) + 1) = ((k + 1 : Nat) : Int) := by have := LC.out; unfold wrap64; omega
   have LT := za.mk hlt
   obtain ⟨x, hx⟩ : ∃ x, x = xc[k] := ⟨_, rfl⟩
   have hx2 : xc[k]? = some x := by rw [hx, List.getElem?_eq_getElem hlt]
   obtain ⟨ad, e5, k0, k1, k2, k3⟩ := at_T52 HR5.out (k : Int) (by omega) (by rw [List.length_map, zbg]; omega)
   rw [rd_pnums hx2] at k0 k1 k2 k3
   rw [Int.toNat_natCast] at k0 k1 k2 k3
   replace k0 := zlc HI.out.below k0
   replace k1 := zlc HI.out.below k1
   replace k2 := zlc HI.out.below k2
   replace k3 := zlc HI.out.below k3
   simp only [tnN, pNum] at k0 k1 k2 k3
   cases e5
   have SN : za (numsT (xc.take (k + 1)) = numsT (xc.take k) ++ [tnN x k]) := ⟨by
    rw [List.take_add_one, hx2]
    show numsT (xc.take k ++ [x]) = _
    rw [numsT_snoc, List.length_take, Nat.min_eq_left (Nat.le_of_lt hlt)]⟩
   have HLY : za ((numsT (xc.take k)).length ≤ 1000000) := ⟨by rw [zbg, List.length_take]; have := LC.out; omega⟩
   clear hlt hk hx hx2
   go_upto_region 5 with (fail)
   have M3 := za.mk (HI.out.to (zj (Below.refl _ _) (.cells #[.string x.o, .bool false, .string (magB x.n), .int .i64 (k : Int)] 52)))
   have Y3 := za.mk (zvc wr (.cells #[.string x.o, .bool false, .string (magB x.n), .int .i64 (k : Int)] 52))
   clear HI
   generalize wr.alloc (.cells #[.string x.o, .bool false, .string (magB x.n), .int .i64 (k : Int)] 52) = w3 at M3 Y3 ⊢
   generalize wr.heap.size = g5 at Y3 ⊢
   have x5 := (zb M3.out.b3 5).trans rfl
   have t0 := (zb Y3.out 0).trans rfl
   have t1 := (zb Y3.out 1).trans rfl
   have t2 := (zb Y3.out 2).trans rfl
   have t3 := (zb Y3.out 3).trans rfl
   go_wp2_with (first | ((with_reducible refine zyd (b := .append) (xs := #[.tmp 31, .tmp 39]) rfl ?_); at_builtin; go_loud (refine Kd.R_append k110 (w0 := w3) w.heap.size rfl (.tmp 31) (.tmp 39) 83 110 (.agg #[.string ⟨#[]⟩, .bool false, .string ⟨#[]⟩, .int .i64 0]) 48 rfl Tryz.underlying83 infoZN rfl (by decide) (by omega) v5 (numsT (xc.take k)) (tnN x k) [.string x.o, .bool false, .string (magB x.n), .int .i64 (k : Int)] (fun _ => True) (fun _ => False) rfl rfl ?aP (fun _ hk => hk.elim) (fun _ _ => trivial) M3.out.own5 (Below.refl _ _) M3.out.below.size ?aL ?_; (case aP => exact k110_mkM _ _ _ (tnN x k)); (case aL => have := HLY.out; omega); intro v1 w7 ho hb hg hat; obtain ⟨A1, n1, cp1, rfl⟩ : ∃ A n c, v1 = .slice A n c := (by obtain ⟨A, c, e⟩ := Kd.R_slice ho; exact ⟨A, _, c, e⟩); obtain ⟨b7, i7⟩ := M3.out.step5 (by omega) (by omega) (by omega) ho hg; have x7 := (zb b7 5).trans rfl; have f7 := zz b7 5; have I7 := za.mk i7; clear ho hb hg hat b7 i7)))
   go_roundw
   all_goals first | exact ⟨k + 1, .slice A1 n1 cp1, LT.out, by first | rfl | go_num, ⟨by rw [SN.out]; exact I7.out⟩⟩ | exact zge _ k LT.out | exact meas_up1 _ k LT.out | exact zre _ k LT.out WR
  ·obtain rfl : k = xc.length := by omega
   have i3 : decide ((xc.length : Int) < (xc.length : Int)) = false := decide_eq_false (by omega)
   have i4 : ((xc.length : Int) < (xc.length : Int)) = False := eq_false (by omega)
   have hi2 := HI.out
   rw [List.take_length] at hi2
   have z6 := (zb hi2.b1 6).trans (by rw [HC1.out]; rfl : C1[6]? = some (.slice p6 xs.length c6))
   have H2 := za.mk hi2
   clear hlt hk HI hi2
   go_wp2
   go_loopw [46] (fun iv wr => ∃ (k : Nat) (v6 : Value), k ≤ xs.length ∧ iv = .int .i64 (k : Int) ∧ za (UInv w wr w.heap.size (w.heap.size + 1) (w.heap.size + 1 + 1) C1 o r l h m i v5 v6 (numsT xc) (sufsT (xs.take k)))) (fun iv _ => xs.length - (intOf iv).toNat)
   case atStart => exact ⟨0, _, Nat.zero_le _, rfl, H2⟩
   case round =>
    obtain ⟨k, v6, hk, rfl, HI⟩ := hrel
    clear H2 z6
    by_cases hlt : k < xs.length
    ·have i3 : decide ((k : Int) < (xs.length : Int)) = true := decide_eq_true (by omega)
     have i4 : ((k : Int) < (xs.length : Int)) = True := eq_true (by omega)
     have i5 : (0 ≤ (k : Int)) = True := eq_true (by omega)
     have WR : wrap64 ((k : Int) + 1) = ((k + 1 : Nat) : Int) := by have := LS.out; unfold wrap64; omega
     have LT := za.mk hlt
     obtain ⟨x, hx⟩ : ∃ x, x = xs[k] := ⟨_, rfl⟩
     have hx2 : xs[k]? = some x := by rw [hx, List.getElem?_eq_getElem hlt]
     obtain ⟨ad, e5, k0, k1, k2⟩ := at_T56 HR6.out (k : Int) (by omega) (by rw [List.length_map, show (sufsT xs).length = xs.length by simp [sufsT]]; omega)
     rw [rd_psufs hx2] at k0 k1 k2
     rw [Int.toNat_natCast] at k0 k1 k2
     replace k0 := zlc HI.out.below k0
     replace k1 := zlc HI.out.below k1
     replace k2 := zlc HI.out.below k2
     simp only [tsS, pSuf] at k0 k1 k2
     cases e5
     have SN : za (sufsT (xs.take (k + 1)) = sufsT (xs.take k) ++ [tsS x]) := ⟨by
      rw [List.take_add_one, hx2]
      show sufsT (xs.take k ++ [x]) = _
      simp [sufsT]⟩
     have HLY : za ((sufsT (xs.take k)).length ≤ 1000000) := ⟨by unfold sufsT; rw [List.length_map, List.length_take]; have := LS.out; omega⟩
     clear hlt hk hx hx2
     go_upto_region 10 with (fail)
     have M3 := za.mk (HI.out.to (zj (Below.refl _ _) (.cells #[.int .i64 x.wt, .bool false, .string (magB x.n)] 56)))
     have Y3 := za.mk (zvc wr (.cells #[.int .i64 x.wt, .bool false, .string (magB x.n)] 56))
     clear HI
     generalize wr.alloc (.cells #[.int .i64 x.wt, .bool false, .string (magB x.n)] 56) = w3 at M3 Y3 ⊢
     generalize wr.heap.size = g5 at Y3 ⊢
     have x6 := (zb M3.out.b3 6).trans rfl
     have t0 := (zb Y3.out 0).trans rfl
     have t1 := (zb Y3.out 1).trans rfl
     have t2 := (zb Y3.out 2).trans rfl
     go_wp2_with (first | ((with_reducible refine zyd (b := .append) (xs := #[.tmp 51, .tmp 57]) rfl ?_); at_builtin; go_loud (refine Kd.R_append k112 (w0 := w3) w.heap.size rfl (.tmp 51) (.tmp 57) 84 112 (.agg #[.int .i64 0, .bool false, .string ⟨#[]⟩]) 32 rfl Tryz.underlying84 infoZS rfl (by decide) (by omega) v6 (sufsT (xs.take k)) (tsS x) [.int .i64 x.wt, .bool false, .string (magB x.n)] (fun _ => True) (fun _ => False) rfl rfl ?aP (fun _ hk => hk.elim) (fun _ _ => trivial) M3.out.own6 (Below.refl _ _) M3.out.below.size ?aL ?_; (case aP => exact k112_mkM _ _ _ (tsS x)); (case aL => have := HLY.out; omega); intro v1 w7 ho hb hg hat; obtain ⟨A1, n1, cp1, rfl⟩ : ∃ A n c, v1 = .slice A n c := (by obtain ⟨A, c, e⟩ := Kd.R_slice ho; exact ⟨A, _, c, e⟩); obtain ⟨b7, i7⟩ := M3.out.step6 (by omega) (by omega) (by omega) ho hg; have x7 := (zb b7 6).trans rfl; have f7 := zz b7 6; have I7 := za.mk i7; clear ho hb hg hat b7 i7)))
     go_roundw
     all_goals first | exact ⟨k + 1, .slice A1 n1 cp1, LT.out, by first | rfl | go_num, ⟨by rw [SN.out]; exact I7.out⟩⟩ | exact zge _ k LT.out | exact meas_up1 _ k LT.out | exact zre _ k LT.out WR
    ·obtain rfl : k = xs.length := by omega
     have i3 : decide ((xs.length : Int) < (xs.length : Int)) = false := decide_eq_false (by omega)
     have i4 : ((xs.length : Int) < (xs.length : Int)) = False := eq_false (by omega)
     have hi2 := HI.out
     rw [List.take_length] at hi2
     obtain ⟨A5, c5', e5⟩ := Kd.R_slice hi2.own5
     subst e5
     obtain ⟨A6, c6', e6⟩ := Kd.R_slice hi2.own6
     subst e6
     have H2 := za.mk hi2
     have O5 := za.mk (Kd.R_reads' hi2.own5)
     have O6 := za.mk (Kd.R_reads' hi2.own6)
     have xF := fun j : Nat => zb hi2.b3 j
     clear hlt hk HI hi2
     go_wp2_with (first | (go_at_call 58; go_loud ((with_reducible refine (HV.out _ A5 A6 c5' c6' O5.out.2.2 O5.out.2.1 O6.out.2.2 O6.out.2.1).mono ?_); rintro e' w5 ⟨cv, sv, a, ns, ss, rfl, q1, q2, q3, q4, q5, hb⟩; obtain ⟨A7, n7, c7, e7⟩ : ∃ A n c, cv = .slice A n c := (by obtain ⟨A, c, e⟩ := Kd.R_slice q1.1; exact ⟨A, _, c, e⟩); subst e7; obtain ⟨A8, n8, c8, e8⟩ : ∃ A n c, sv = .slice A n c := (by obtain ⟨A, c, e⟩ := Kd.R_slice q2.1; exact ⟨A, _, c, e⟩); subst e8; have H5 := za.mk (H2.out.to hb); have Q := za.mk (And.intro q1 (And.intro q2 (And.intro q3 (And.intro q4 q5)))); have zF := fun j : Nat => zb H5.out.b2 j; have zf := fun j : Nat => zz H5.out.b2 j; unfold AVv; clear q1 q2 q3 q4 q5 hb)))
     (try simp only [Exit.inBlock, Exit.then])
     have p0 := zq (cs' := #[.string o, .bool false, .string ⟨#[]⟩, .slice none 0 0, .string ⟨#[]⟩, .slice none 0 0, .string ⟨#[]⟩, .pointer none]) H5.out.b2 0 (.string o) rfl
     have p1 := zq (cs' := #[.string o, .bool i, .string ⟨#[]⟩, .slice none 0 0, .string ⟨#[]⟩, .slice none 0 0, .string ⟨#[]⟩, .pointer none]) p0 1 (.bool i) rfl
     have p2 := zq (cs' := #[.string o, .bool i, .string r, .slice none 0 0, .string ⟨#[]⟩, .slice none 0 0, .string ⟨#[]⟩, .pointer none]) p1 2 (.string r) rfl
     have p3 := zq (cs' := #[.string o, .bool i, .string r, .slice A7 n7 c7, .string ⟨#[]⟩, .slice none 0 0, .string ⟨#[]⟩, .pointer none]) p2 3 (.slice A7 n7 c7) rfl
     have p4 := zq (cs' := #[.string o, .bool i, .string r, .slice A7 n7 c7, .string l, .slice none 0 0, .string ⟨#[]⟩, .pointer none]) p3 4 (.string l) rfl
     have p5 := zq (cs' := #[.string o, .bool i, .string r, .slice A7 n7 c7, .string l, .slice A8 n8 c8, .string ⟨#[]⟩, .pointer none]) p4 5 (.slice A8 n8 c8) rfl
     have p6 := zq (cs' := #[.string o, .bool i, .string r, .slice A7 n7 c7, .string l, .slice A8 n8 c8, .string h, .pointer none]) p5 6 (.string h) rfl
     have p7 := zq (cs' := #[.string o, .bool i, .string r, .slice A7 n7 c7, .string l, .slice A8 n8 c8, .string h, .pointer (some ⟨a, 0, none⟩)]) p6 7 (.pointer (some ⟨a, 0, none⟩)) rfl
     refine bodyPost_ret (results_cell_row rfl _ _ (w.heap.size + 1) 71 #[.string o, .bool i, .string r, .slice A7 n7 c7, .string l, .slice A8 n8 c8, .string h, .pointer (some ⟨a, 0, none⟩)] (0, 0) _ rfl p7 Tryz.underlying71 rfl (by kernel_rfl)) rfl ?_
     have hk : ∀ (W : World), (∀ b, b ≠ w.heap.size + 1 → W.heap[b]? = w5.heap[b]?) → KeptT (butT 71) w5 W := fun W h b cs t fr hb ht => by
      refine h b (fun e => ?_)
      subst e; rw [H5.out.b2] at hb; cases hb; exact absurd ht (by decide)
     have K := hk ((((((((w5.setCell ⟨w.heap.size + 1, 0, none⟩ (.string o)).setCell ⟨w.heap.size + 1, 1, none⟩ (.bool i)).setCell ⟨w.heap.size + 1, 2, none⟩ (.string r)).setCell ⟨w.heap.size + 1, 3, none⟩ (.slice A7 n7 c7)).setCell ⟨w.heap.size + 1, 4, none⟩ (.string l)).setCell ⟨w.heap.size + 1, 5, none⟩ (.slice A8 n8 c8)).setCell ⟨w.heap.size + 1, 6, none⟩ (.string h)).setCell ⟨w.heap.size + 1, 7, none⟩ (.pointer (some ⟨a, 0, none⟩))) (fun b h1 => by repeat rw [Below.heap_setCell _ _ _ _ h1])
     have KN := K.sub zsf
     obtain ⟨q1, q2, q3, q4, q5⟩ := Q.out
     refine ⟨_, ns, ss, rfl, ⟨_, _, a, rfl, NOwn.crow ⟨zrd (p := butT 71) rfl (by decide) q1.1 K, fun x hx => (q1.2 x hx).kept KN⟩ ?_, SOwn.srow ⟨zrd (p := butT 71) rfl (by decide) q2.1 K, fun x hx => (q2.2 x hx).kept KN⟩ ?_, q3.kept KN⟩, q4, fun y hy => (q1.2 y hy).2.1, q5, ?_⟩
     ·show ns.length ≤ 1000000; have := congrArg List.length q4; rw [List.length_map, List.length_map] at this; have := LC.out; omega
     ·show ss.length ≤ 1000000; have := congrArg List.length q5; unfold zuc at this; rw [List.length_map, List.length_map] at this; have := LS.out; omega
     ·have b5 := H5.out.below
      repeat (first | (with_reducible exact b5) | refine zl ?_ (by omega))
theorem zzCompare_ (w : World) (v1 v2 : Value) (x y : AV) (h1 : AVAt w v1 x) (h2 : AVAt w v2 y) :
  Calls Tryz.prog 43 #[v1, v2] w fun e w' => e = .returned (.int .i64 (avC x y)) ∧ Below w.heap.size w w' := by
 have HB := za.mk (Below.refl w.heap.size w)
 have HC := za.mk (fun (W : World) (hb : Below w.heap.size w W) => compare_ W v1 v2 x y (h1.below hb) (h2.below hb))
 obtain ⟨p1, c1, p2, c2, a1, e1⟩ := h1.form
 obtain ⟨p3, c3, p4, c4, a2, e2⟩ := h2.form
 unfold AVv at e1 e2
 subst e1
 subst e2
 clear h1 h2
 have xx := fun j : Nat => zb (zvb (zvc w (.cells #[.string x.o, .bool x.i, .string x.r, .slice p1 x.c.length c1, .string x.l, .slice p2 x.s.length c2, .string x.h, .pointer (some ⟨a1, 0, none⟩)] 71)) (.cells #[.string y.o, .bool y.i, .string y.r, .slice p3 y.c.length c3, .string y.l, .slice p4 y.s.length c4, .string y.h, .pointer (some ⟨a2, 0, none⟩)] 71)) j
 go_enter Tryz.func43, Tryz.ntmps43
 go_wp2_with (first | (go_at_call 53; go_loud ((with_reducible refine (HC.out _ (zj (zj HB.out _) _)).mono ?_); rintro e' w1 ⟨rfl, hb⟩; have B1 := za.mk (zib (zj (zj HB.out _) _) hb); clear hb)))
 go_ret
 exact ⟨rfl, B1.out⟩
end Go.Proofs.YtapaijpglfmfgaaGreatDoorG
end
section
namespace Go.Proofs.YtapaijpglfmfgaaGreatDoorG
open Go.RowKit YtapaijpglfmfgaaGreatDoorH YtapaijpglfmfgaaGreatDoorB YtapaijpglfmfgaaGreatDoorM YtapaijpglfmfgaaGreatDoorP YtapaijpglfmfgaaGreatDoor.Q YtapaijpglfmfgaaGreatDoorW.PrintWords YtapaijpglfmfgaaGreatDoorW.PrintLast
theorem sx_same {l l' : List Sx} (h : zuc l' = zuc l) (k : Nat) : sxW l' k = sxW l k ∧ sxN l' k = sxN l k := by
 have e : (zuc l')[k]? = (zuc l)[k]? := by rw [h]
 unfold zuc at e
 rw [List.getElem?_map, List.getElem?_map] at e
 unfold sxW sxN
 cases e1 : l'[k]? with
 | none =>
  cases e2 : l[k]? with
  | none => exact ⟨rfl, rfl⟩
  | some y => rw [e1, e2] at e; simp at e
 | some x =>
  cases e2 : l[k]? with
  | none => rw [e1, e2] at e; simp at e
  | some y =>
   rw [e1, e2] at e
   have e3 : (x.wt, x.n) = (y.wt, y.n) := by simpa using e
   exact ⟨congrArg Prod.fst e3, congrArg Prod.snd e3⟩
theorem sufs_same {l l' m m' : List Sx} (h : zuc l' = zuc l) (h' : zuc m' = zuc m) : sufsC l' m' = sufsC l m := by
 unfold sufsC
 have e1 : l'.length = l.length := by have := congrArg List.length h; simpa [zuc] using this
 have e2 : m'.length = m.length := by have := congrArg List.length h'; simpa [zuc] using this
 rw [e1, e2]
 refine fromC_eq (fun k => ?_) _ _
 obtain ⟨a1, a2⟩ := sx_same h k
 obtain ⟨b1, b2⟩ := sx_same h' k
 unfold sufD
 rw [a1, a2, b1, b2]
theorem comps_same {l l' m m' : List Nm} (h : l'.map (·.o) = l.map (·.o)) (h' : m'.map (·.o) = m.map (·.o)) (h1 : ∀ y ∈ l', y.n = dv y.o y.o.size) (h2 : ∀ y ∈ l, y.n = dv y.o y.o.size) (h3 : ∀ y ∈ m', y.n = dv y.o y.o.size) (h4 : ∀ y ∈ m, y.n = dv y.o y.o.size) : zee l' m' = zee l m :=
 (zbj h h1 h' h3).trans (zbj rfl h2 rfl h4).symm
def Tg (x : AV) : Prop := (∀ y ∈ x.c, y.n = dv y.o y.o.size ∧ 0 < y.o.size ∧ (magB y.n).size ≤ 1000000) ∧ (∀ y ∈ x.s, (magB y.n).size ≤ 1000000) ∧ (magB x.b).size ≤ 1000000 ∧ x.c.length ≤ 1000000 ∧ x.s.length ≤ 1000000
theorem compareA_ (w : World) (x y : AV) (p5 p6 q5 q6 : Option Addr) (c5 c6 d5 d6 : Nat)
  (hx5 : Kd.C k52 w p5 ((numsT x.c).map pNum).length ((numsT x.c).map pNum)) (hc5 : ((numsT x.c).map pNum).length ≤ c5) (hx6 : Kd.C k56 w p6 ((sufsT x.s).map pSuf).length ((sufsT x.s).map pSuf)) (hc6 : ((sufsT x.s).map pSuf).length ≤ c6)
  (hy5 : Kd.C k52 w q5 ((numsT y.c).map pNum).length ((numsT y.c).map pNum)) (hd5 : ((numsT y.c).map pNum).length ≤ d5) (hy6 : Kd.C k56 w q6 ((sufsT y.s).map pSuf).length ((sufsT y.s).map pSuf)) (hd6 : ((sufsT y.s).map pSuf).length ≤ d6) (tx : Tg x) (ty : Tg y) :
  Calls Tryz.prog 19 #[.agg #[.string x.o, .string x.r, .string x.l, .string x.h, .bool x.i, .slice p5 ((numsT x.c).map pNum).length c5, .slice p6 ((sufsT x.s).map pSuf).length c6, .bool true, .bool false, .string (magB x.b)], .agg #[.string y.o, .string y.r, .string y.l, .string y.h, .bool y.i, .slice q5 ((numsT y.c).map pNum).length d5, .slice q6 ((sufsT y.s).map pSuf).length d6, .bool true, .bool false, .string (magB y.b)]] w
   fun e w' => e = .returned (.int .i64 (avC x y)) ∧ Below w.heap.size w w' := by
 have hu33 := Tryz.underlying33
 have hu31 := Tryz.underlying31
 have HX := fun (W : World) (hb : Below w.heap.size w W) => alpine_ W x.o x.r x.l x.h x.i x.c x.s x.b p5 p6 c5 c6 (Kd.C_below hx5 hb) hc5 (Kd.C_below hx6 hb) hc6 tx.1 tx.2.1 tx.2.2.1 tx.2.2.2.1 tx.2.2.2.2
 have HY := fun (W : World) (hb : Below w.heap.size w W) => alpine_ W y.o y.r y.l y.h y.i y.c y.s y.b q5 q6 d5 d6 (Kd.C_below hy5 hb) hd5 (Kd.C_below hy6 hb) hd6 ty.1 ty.2.1 ty.2.2.1 ty.2.2.2.1 ty.2.2.2.2
 have TX := za.mk (fun z hz => (tx.1 z hz).1)
 have TY := za.mk (fun z hz => (ty.1 z hz).1)
 clear hx5 hc5 hx6 hc6 hy5 hd5 hy6 hd6 tx ty
 obtain ⟨s5, hs5⟩ : ∃ s, s = Value.slice p5 ((numsT x.c).map pNum).length c5 := ⟨_, rfl⟩
 obtain ⟨s6, hs6⟩ : ∃ s, s = Value.slice p6 ((sufsT x.s).map pSuf).length c6 := ⟨_, rfl⟩
 obtain ⟨t5, ht5⟩ : ∃ s, s = Value.slice q5 ((numsT y.c).map pNum).length d5 := ⟨_, rfl⟩
 obtain ⟨t6, ht6⟩ : ∃ s, s = Value.slice q6 ((sufsT y.s).map pSuf).length d6 := ⟨_, rfl⟩
 rw [← hs5, ← hs6] at HX ⊢
 rw [← ht5, ← ht6] at HY ⊢
 replace HX := za.mk HX
 replace HY := za.mk HY
 obtain ⟨L5, hL5⟩ : ∃ n, n = ((numsT x.c).map pNum).length := ⟨_, rfl⟩
 obtain ⟨L6, hL6⟩ : ∃ n, n = ((sufsT x.s).map pSuf).length := ⟨_, rfl⟩
 obtain ⟨M5, hM5⟩ : ∃ n, n = ((numsT y.c).map pNum).length := ⟨_, rfl⟩
 obtain ⟨M6, hM6⟩ : ∃ n, n = ((sufsT y.s).map pSuf).length := ⟨_, rfl⟩
 rw [← hL5] at hs5
 rw [← hL6] at hs6
 rw [← hM5] at ht5
 rw [← hM6] at ht6
 clear hL5 hL6 hM5 hM6
 subst hs5 hs6 ht5 ht6
 have G1 := za.mk (zvb (zvc w (.cells #[.string x.o, .string x.r, .string x.l, .string x.h, .bool x.i, .slice p5 L5 c5, .slice p6 L6 c6, .bool true, .bool false, .string (magB x.b)] 33)) (.cells #[.string y.o, .string y.r, .string y.l, .string y.h, .bool y.i, .slice q5 M5 d5, .slice q6 M6 d6, .bool true, .bool false, .string (magB y.b)] 33))
 have g2 := zvc (w.alloc (.cells #[.string x.o, .string x.r, .string x.l, .string x.h, .bool x.i, .slice p5 L5 c5, .slice p6 L6 c6, .bool true, .bool false, .string (magB x.b)] 33)) (.cells #[.string y.o, .string y.r, .string y.l, .string y.h, .bool y.i, .slice q5 M5 d5, .slice q6 M6 d6, .bool true, .bool false, .string (magB y.b)] 33)
 rw [zsb] at g2
 have G2 := za.mk g2
 have BB := za.mk (zj (zj (Below.refl w.heap.size w) (.cells #[.string x.o, .string x.r, .string x.l, .string x.h, .bool x.i, .slice p5 L5 c5, .slice p6 L6 c6, .bool true, .bool false, .string (magB x.b)] 33)) (.cells #[.string y.o, .string y.r, .string y.l, .string y.h, .bool y.i, .slice q5 M5 d5, .slice q6 M6 d6, .bool true, .bool false, .string (magB y.b)] 33))
 clear g2
 go_enter Tryz.func19, Tryz.ntmps19
 go_upto_region 1 with (fail)
 generalize (w.alloc (.cells #[.string x.o, .string x.r, .string x.l, .string x.h, .bool x.i, .slice p5 L5 c5, .slice p6 L6 c6, .bool true, .bool false, .string (magB x.b)] 33)).alloc (.cells #[.string y.o, .string y.r, .string y.l, .string y.h, .bool y.i, .slice q5 M5 d5, .slice q6 M6 d6, .bool true, .bool false, .string (magB y.b)] 33) = w2 at G1 G2 BB ⊢
 refine zuf (n := 6) (S := fun w' => w'.cell? ⟨w.heap.size, 0, none⟩ = some (.string x.o) ∧ w'.cell? ⟨w.heap.size, 1, none⟩ = some (.string x.r) ∧ w'.cell? ⟨w.heap.size, 2, none⟩ = some (.string x.l) ∧ w'.cell? ⟨w.heap.size, 3, none⟩ = some (.string x.h) ∧ w'.cell? ⟨w.heap.size, 4, none⟩ = some (.bool x.i) ∧ w'.cell? ⟨w.heap.size, 5, none⟩ = some (.slice p5 L5 c5) ∧ w'.cell? ⟨w.heap.size, 6, none⟩ = some (.slice p6 L6 c6) ∧ w'.cell? ⟨w.heap.size, 7, none⟩ = some (.bool true) ∧ w'.cell? ⟨w.heap.size, 8, none⟩ = some (.bool false) ∧ w'.cell? ⟨w.heap.size, 9, none⟩ = some (.string (magB x.b)) ∧ w'.cell? ⟨w.heap.size + 1, 0, none⟩ = some (.string y.o) ∧ w'.cell? ⟨w.heap.size + 1, 1, none⟩ = some (.string y.r) ∧ w'.cell? ⟨w.heap.size + 1, 2, none⟩ = some (.string y.l) ∧ w'.cell? ⟨w.heap.size + 1, 3, none⟩ = some (.string y.h) ∧ w'.cell? ⟨w.heap.size + 1, 4, none⟩ = some (.bool y.i) ∧ w'.cell? ⟨w.heap.size + 1, 5, none⟩ = some (.slice q5 M5 d5) ∧ w'.cell? ⟨w.heap.size + 1, 6, none⟩ = some (.slice q6 M6 d6) ∧ w'.cell? ⟨w.heap.size + 1, 7, none⟩ = some (.bool true) ∧ w'.cell? ⟨w.heap.size + 1, 8, none⟩ = some (.bool false) ∧ w'.cell? ⟨w.heap.size + 1, 9, none⟩ = some (.string (magB y.b))) (ds := [4]) #[false, false, false, false, false, false] (by kernel_rfl) rfl rfl ⟨(zb (zub G1.out) 0).trans rfl, (zb (zub G1.out) 1).trans rfl, (zb (zub G1.out) 2).trans rfl, (zb (zub G1.out) 3).trans rfl, (zb (zub G1.out) 4).trans rfl, (zb (zub G1.out) 5).trans rfl, (zb (zub G1.out) 6).trans rfl, (zb (zub G1.out) 7).trans rfl, (zb (zub G1.out) 8).trans rfl, (zb (zub G1.out) 9).trans rfl, (zb (zub G2.out) 0).trans rfl, (zb (zub G2.out) 1).trans rfl, (zb (zub G2.out) 2).trans rfl, (zb (zub G2.out) 3).trans rfl, (zb (zub G2.out) 4).trans rfl, (zb (zub G2.out) 5).trans rfl, (zb (zub G2.out) 6).trans rfl, (zb (zub G2.out) 7).trans rfl, (zb (zub G2.out) 8).trans rfl, (zb (zub G2.out) 9).trans rfl⟩ (fun hHeld => ?_)
 have H1 := za.mk (zub G1.out)
 have H2 := za.mk (zub G2.out)
 have B3 := za.mk (zed BB.out)
 clear G1 G2 BB
 generalize w2.drew = w3 at H1 H2 B3 hHeld ⊢
 refine take_ (i := 0) (N := some 5) #[true, false, false, false, false, false] rfl rfl (by kernel_rfl) (fun _ _ _ h => h) (Or.inl ⟨by rfl, by rintro w' ⟨s0, s1, s2, s3, s4, s5, s6, s7, s8, s9, s10, s11, s12, s13, s14, s15, s16, s17, s18, s19⟩; go_simp; with_reducible rfl⟩) hHeld (by simp only [Act.put, List.setIfInBounds_toArray, List.set_cons_zero, List.set_cons_succ, i64_w, i32_w]; rfl) ?_
 refine take_ (i := 2) (N := some 7) #[true, false, true, false, false, false] rfl rfl (by kernel_rfl) (fun _ _ _ h => h) (Or.inl ⟨by rfl, by rintro w' ⟨s0, s1, s2, s3, s4, s5, s6, s7, s8, s9, s10, s11, s12, s13, s14, s15, s16, s17, s18, s19⟩; go_simp; with_reducible rfl⟩) hHeld (by simp only [Act.put, List.setIfInBounds_toArray, List.set_cons_zero, List.set_cons_succ, i64_w, i32_w]; rfl) ?_
 refine one_ (i := 1) (N := some 6) #[true, true, true, false, false, false] rfl rfl (by kernel_rfl) (by decide) (fun K hK => ?_)
 refine goes_ Tryz.func44 (by kernel_rfl) rfl #[.agg #[.string x.o, .string x.r, .string x.l, .string x.h, .bool x.i, .slice p5 L5 c5, .slice p6 L6 c6, .bool true, .bool false, .string (magB x.b)]] (by rfl) rfl rfl (by simp only [List.map_toArray, List.map_cons, List.map_nil]; rfl) ?_
 with_reducible refine (HX.out _ B3.out).mono ?_
 rintro e w4 ⟨v1, ns1, ss1, rfl, ha, q1, q2, q3, hb⟩
 refine ⟨_, rfl, ?_⟩
 have J1 := za.mk (zc H1.out hb)
 have J2 := za.mk (zc H2.out hb)
 have B4 := za.mk (zfb B3.out B3.out.size hb)
 have A1 := za.mk ha
 have Q1 := za.mk (And.intro q1 (And.intro q2 q3))
 clear ha q1 q2 q3 hb
 refine hK.out _ _ ⟨(zb J1.out 0).trans rfl, (zb J1.out 1).trans rfl, (zb J1.out 2).trans rfl, (zb J1.out 3).trans rfl, (zb J1.out 4).trans rfl, (zb J1.out 5).trans rfl, (zb J1.out 6).trans rfl, (zb J1.out 7).trans rfl, (zb J1.out 8).trans rfl, (zb J1.out 9).trans rfl, (zb J2.out 0).trans rfl, (zb J2.out 1).trans rfl, (zb J2.out 2).trans rfl, (zb J2.out 3).trans rfl, (zb J2.out 4).trans rfl, (zb J2.out 5).trans rfl, (zb J2.out 6).trans rfl, (zb J2.out 7).trans rfl, (zb J2.out 8).trans rfl, (zb J2.out 9).trans rfl⟩ (fun hHeld => ?_)
 clear hK K
 refine Go.Proofs.YtapaijpglfmfgaaGreatDoorW.PrintLast.norm_ (by show Act.put _ (some 6) _ = _; simp only [Act.put, List.setIfInBounds_toArray, List.set_cons_zero, List.set_cons_succ, i64_w, i32_w]; rfl) ?_
 refine one_ (i := 3) (N := some 8) #[true, true, true, true, false, false] rfl rfl (by kernel_rfl) (by decide) (fun K hK => ?_)
 refine goes_ Tryz.func44 (by kernel_rfl) rfl #[.agg #[.string y.o, .string y.r, .string y.l, .string y.h, .bool y.i, .slice q5 M5 d5, .slice q6 M6 d6, .bool true, .bool false, .string (magB y.b)]] (by rfl) rfl rfl (by simp only [List.map_toArray, List.map_cons, List.map_nil]; rfl) ?_
 with_reducible refine (HY.out _ B4.out).mono ?_
 rintro e w5 ⟨v2, ns2, ss2, rfl, ha, q1, q2, q3, hb⟩
 refine ⟨_, rfl, ?_⟩
 have K1 := za.mk (zc J1.out hb)
 have K2 := za.mk (zc J2.out hb)
 have B5 := za.mk (zfb B4.out B4.out.size hb)
 have A2 := za.mk ha
 have Q2 := za.mk (And.intro q1 (And.intro q2 q3))
 have A3 := za.mk (A1.out.below hb)
 clear ha q1 q2 q3 hb
 refine hK.out _ _ ⟨(zb K1.out 0).trans rfl, (zb K1.out 1).trans rfl, (zb K1.out 2).trans rfl, (zb K1.out 3).trans rfl, (zb K1.out 4).trans rfl, (zb K1.out 5).trans rfl, (zb K1.out 6).trans rfl, (zb K1.out 7).trans rfl, (zb K1.out 8).trans rfl, (zb K1.out 9).trans rfl, (zb K2.out 0).trans rfl, (zb K2.out 1).trans rfl, (zb K2.out 2).trans rfl, (zb K2.out 3).trans rfl, (zb K2.out 4).trans rfl, (zb K2.out 5).trans rfl, (zb K2.out 6).trans rfl, (zb K2.out 7).trans rfl, (zb K2.out 8).trans rfl, (zb K2.out 9).trans rfl⟩ (fun hHeld => ?_)
 clear hK K
 refine Go.Proofs.YtapaijpglfmfgaaGreatDoorW.PrintLast.norm_ (by show Act.put _ (some 8) _ = _; simp only [Act.put, List.setIfInBounds_toArray, List.set_cons_zero, List.set_cons_succ, i64_w, i32_w]; rfl) ?_
 refine last_ (i := 4) (N := some 9) #[true, true, true, true, true, false] rfl rfl (by kernel_rfl) (by decide) (fun K hK => ?_)
 refine goes_ Tryz.func43 (by kernel_rfl) rfl #[v1, v2] (by rfl) rfl rfl (by simp only [List.map_toArray, List.map_cons, List.map_nil]; rfl) ?_
 with_reducible refine (zzCompare_ _ _ _ _ _ A3.out A2.out).mono ?_
 rintro e w6 ⟨rfl, hb⟩
 refine ⟨_, rfl, ?_⟩
 have B6 := za.mk (zfb B5.out B5.out.size hb)
 clear hb
 refine hK.out _ _ ?_
 clear hK K
 refine Go.Proofs.YtapaijpglfmfgaaGreatDoorW.PrintLast.norm_ (by show Act.put _ (some 9) _ = _; simp only [Act.put, List.setIfInBounds_toArray, List.set_cons_zero, List.set_cons_succ, i64_w, i32_w]; rfl) ?_
 refine pure_ (i := 5) (N := some 4) #[true, true, true, true, true, true] rfl rfl (by kernel_rfl) (fun _ _ _ h => h) (Or.inl ⟨by rfl, fun w' => by go_simp; with_reducible rfl⟩) (by simp only [Act.put, List.setIfInBounds_toArray, List.set_cons_zero, List.set_cons_succ, i64_w, i32_w]; rfl) ?_
 refine done_ (by kernel_rfl) ?_
 go_wp2
 go_ret
 refine ⟨?_, B6.out⟩
 have e : avC ⟨x.o, x.i, x.r, ns1, x.l, ss1, x.h, x.b⟩ ⟨y.o, y.i, y.r, ns2, y.l, ss2, y.h, y.b⟩ = avC x y := by
  unfold avC
  simp only
  rw [comps_same Q1.out.1 Q2.out.1 Q1.out.2.1 TX.out Q2.out.2.1 TY.out, sufs_same Q1.out.2.2 Q2.out.2.2]
 rw [e]
 rfl
def Tl (x : AV) (a0 a1 a2 a3 : ByteArray) (a4 : Bool) (l5 : List S52) (l6 : List S56) (a7 a8 : Bool) (a9 : ByteArray) : Prop :=
 a0 = x.o ∧ a1 = x.r ∧ a2 = x.l ∧ a3 = x.h ∧ a4 = x.i ∧ l5 = (numsT x.c).map pNum ∧ l6 = (sufsT x.s).map pSuf ∧ a7 = true ∧ a8 = false ∧ a9 = magB x.b ∧ Tg x
instance decN : DecidableEq S52 := fun a b => decidable_of_iff (a.f0 = b.f0 ∧ a.f1.f0 = b.f1.f0 ∧ a.f1.f1 = b.f1.f1 ∧ a.f2 = b.f2) ⟨fun h => by
 obtain ⟨a0, ⟨a1, a2⟩, a3⟩ := a
 obtain ⟨b0, ⟨b1, b2⟩, b3⟩ := b
 obtain ⟨rfl, rfl, rfl, rfl⟩ := h
 rfl, fun h => by subst h; exact ⟨rfl, rfl, rfl, rfl⟩⟩
instance decS : DecidableEq S56 := fun a b => decidable_of_iff (a.f0 = b.f0 ∧ a.f1.f0 = b.f1.f0 ∧ a.f1.f1 = b.f1.f1) ⟨fun h => by
 obtain ⟨a0, ⟨a1, a2⟩⟩ := a
 obtain ⟨b0, ⟨b1, b2⟩⟩ := b
 obtain ⟨rfl, rfl, rfl⟩ := h
 rfl, fun h => by subst h; exact ⟨rfl, rfl, rfl⟩⟩
instance decTg (x : AV) : Decidable (Tg x) := by unfold Tg; infer_instance
instance decTl (x : AV) (a0 a1 a2 a3 : ByteArray) (a4 : Bool) (l5 : List S52) (l6 : List S56) (a7 a8 : Bool) (a9 : ByteArray) : Decidable (Tl x a0 a1 a2 a3 a4 l5 l6 a7 a8 a9) := by unfold Tl; infer_instance
def nmOf (y : S52) : Nm := ⟨y.f0, 0, dv y.f0 y.f0.size⟩
def sxOf (y : S56) : Sx := ⟨y.f0, 0, val (bytesOf y.f1.f1).reverse⟩
def avOf (a0 a1 a2 a3 : ByteArray) (a4 : Bool) (l5 : List S52) (l6 : List S56) (a9 : ByteArray) : AV := ⟨a0, a4, a1, l5.map nmOf, a2, l6.map sxOf, a3, val (bytesOf a9).reverse⟩
theorem nums_of : ∀ (l : List Nm) (k : Nat), ((((l.zipIdx k).map fun p => tnN p.1 p.2).map pNum).map nmOf) = l.map fun z => (⟨z.o, 0, dv z.o z.o.size⟩ : Nm)
 | [], _ => rfl
 | x :: l, k => by
  simp only [List.zipIdx_cons, List.map_cons, nums_of l (k + 1)]
  rfl
theorem nums_back : ∀ (l : List Nm) (k : Nat), (∀ y ∈ l, y.n = dv y.o y.o.size) → (((l.map fun z => (⟨z.o, 0, dv z.o z.o.size⟩ : Nm)).zipIdx k).map fun p => tnN p.1 p.2) = (l.zipIdx k).map fun p => tnN p.1 p.2
 | [], _, _ => rfl
 | x :: l, k, h => by
  have ih := nums_back l (k + 1) (fun y hy => h y (List.mem_cons_of_mem _ hy))
  simp only [List.map_cons, List.zipIdx_cons]
  rw [ih]
  simp only [tnN, ← h x List.mem_cons_self]
theorem Tl_of {x : AV} {a0 a1 a2 a3 : ByteArray} {a4 : Bool} {l5 : List S52} {l6 : List S56} {a7 a8 : Bool} {a9 : ByteArray} (h : Tl x a0 a1 a2 a3 a4 l5 l6 a7 a8 a9) : Tl (avOf a0 a1 a2 a3 a4 l5 l6 a9) a0 a1 a2 a3 a4 l5 l6 a7 a8 a9 := by
 obtain ⟨rfl, rfl, rfl, rfl, rfl, rfl, rfl, rfl, rfl, rfl, t1, t2, t3, t4, t5⟩ := h
 have e5 : ((numsT x.c).map pNum).map nmOf = x.c.map fun z => (⟨z.o, 0, dv z.o z.o.size⟩ : Nm) := nums_of x.c 0
 have e6 : ((sufsT x.s).map pSuf).map sxOf = x.s.map fun z => (⟨z.wt, 0, z.n⟩ : Sx) := by
  unfold sufsT
  rw [List.map_map, List.map_map]
  refine List.map_congr_left (fun z _ => ?_)
  show (⟨z.wt, 0, val (bytesOf (magB z.n)).reverse⟩ : Sx) = _
  rw [zth]
 unfold avOf
 rw [e5, e6, zth]
 refine ⟨rfl, rfl, rfl, rfl, rfl, ?_, ?_, rfl, rfl, rfl, ?_, ?_, t3, ?_, ?_⟩
 ·show _ = (numsT _).map pNum
  unfold numsT
  rw [nums_back x.c 0 (fun y hy => (t1 y hy).1)]
 ·show _ = (((x.s.map fun z => (⟨z.wt, 0, z.n⟩ : Sx)).map tsS).map pSuf)
  unfold sufsT
  simp only [List.map_map]
  rfl
 ·intro y hy
  obtain ⟨z, hz, rfl⟩ := List.mem_map.1 hy
  obtain ⟨k1, k2, k3⟩ := t1 z hz
  exact ⟨rfl, k2, by rw [k1] at k3; exact k3⟩
 ·intro y hy
  obtain ⟨z, hz, rfl⟩ := List.mem_map.1 hy
  exact t2 z hz
 ·show (x.c.map _).length ≤ _; rw [List.length_map]; exact t4
 ·show (x.s.map _).length ≤ _; rw [List.length_map]; exact t5
def zmb.f (a0_0 a0_1 a0_2 a0_3 : ByteArray) (a0_4 : Bool) (l0_5 : List S52) (l0_6 : List S56) (a0_7 a0_8 : Bool) (a0_9 : ByteArray) (a1_0 a1_1 a1_2 a1_3 : ByteArray) (a1_4 : Bool) (l1_5 : List S52) (l1_6 : List S56) (a1_7 a1_8 : Bool) (a1_9 : ByteArray) : Option Int :=
 if Tl (avOf a0_0 a0_1 a0_2 a0_3 a0_4 l0_5 l0_6 a0_9) a0_0 a0_1 a0_2 a0_3 a0_4 l0_5 l0_6 a0_7 a0_8 a0_9 ∧ Tl (avOf a1_0 a1_1 a1_2 a1_3 a1_4 l1_5 l1_6 a1_9) a1_0 a1_1 a1_2 a1_3 a1_4 l1_5 l1_6 a1_7 a1_8 a1_9 then some (avC (avOf a0_0 a0_1 a0_2 a0_3 a0_4 l0_5 l0_6 a0_9) (avOf a1_0 a1_1 a1_2 a1_3 a1_4 l1_5 l1_6 a1_9)) else none
theorem zmb.calls (a0_0 a0_1 a0_2 a0_3 : ByteArray) (a0_4 : Bool) (A0_5 : Option Addr) (c0_5 : Nat) (l0_5 : List S52) (A0_6 : Option Addr) (c0_6 : Nat) (l0_6 : List S56) (a0_7 a0_8 : Bool) (a0_9 : ByteArray) (a1_0 a1_1 a1_2 a1_3 : ByteArray) (a1_4 : Bool) (A1_5 : Option Addr) (c1_5 : Nat) (l1_5 : List S52) (A1_6 : Option Addr) (c1_6 : Nat) (l1_6 : List S56) (a1_7 a1_8 : Bool) (a1_9 : ByteArray) (r : Int) (w : World)
  (hr0_5 : Kd.C k52 w A0_5 l0_5.length l0_5) (hc0_5 : l0_5.length ≤ c0_5) (hr0_6 : Kd.C k56 w A0_6 l0_6.length l0_6) (hc0_6 : l0_6.length ≤ c0_6) (hr1_5 : Kd.C k52 w A1_5 l1_5.length l1_5) (hc1_5 : l1_5.length ≤ c1_5) (hr1_6 : Kd.C k56 w A1_6 l1_6.length l1_6) (hc1_6 : l1_6.length ≤ c1_6)
  (h : zmb.f a0_0 a0_1 a0_2 a0_3 a0_4 l0_5 l0_6 a0_7 a0_8 a0_9 a1_0 a1_1 a1_2 a1_3 a1_4 l1_5 l1_6 a1_7 a1_8 a1_9 = some r) :
  Calls Tryz.prog 19 #[.agg #[.string a0_0, .string a0_1, .string a0_2, .string a0_3, .bool a0_4, .slice A0_5 l0_5.length c0_5, .slice A0_6 l0_6.length c0_6, .bool a0_7, .bool a0_8, .string a0_9], .agg #[.string a1_0, .string a1_1, .string a1_2, .string a1_3, .bool a1_4, .slice A1_5 l1_5.length c1_5, .slice A1_6 l1_6.length c1_6, .bool a1_7, .bool a1_8, .string a1_9]] w fun e w' => e = .returned (.int .i64 r) ∧ Below w.heap.size w w' := by
 unfold zmb.f at h
 by_cases hx : Tl (avOf a0_0 a0_1 a0_2 a0_3 a0_4 l0_5 l0_6 a0_9) a0_0 a0_1 a0_2 a0_3 a0_4 l0_5 l0_6 a0_7 a0_8 a0_9 ∧ Tl (avOf a1_0 a1_1 a1_2 a1_3 a1_4 l1_5 l1_6 a1_9) a1_0 a1_1 a1_2 a1_3 a1_4 l1_5 l1_6 a1_7 a1_8 a1_9
 ·rw [if_pos hx] at h
  have e := Option.some.inj h
  generalize avOf a0_0 a0_1 a0_2 a0_3 a0_4 l0_5 l0_6 a0_9 = x at hx e
  generalize avOf a1_0 a1_1 a1_2 a1_3 a1_4 l1_5 l1_6 a1_9 = y at hx e
  subst e
  obtain ⟨⟨rfl, rfl, rfl, rfl, rfl, rfl, rfl, rfl, rfl, rfl, tx⟩, ⟨rfl, rfl, rfl, rfl, rfl, rfl, rfl, rfl, rfl, rfl, ty⟩⟩ := hx
  exact compareA_ w x y A0_5 A0_6 A1_5 A1_6 c0_5 c0_6 c1_5 c1_6 hr0_5 hc0_5 hr0_6 hc0_6 hr1_5 hc1_5 hr1_6 hc1_6 tx ty
 ·rw [if_neg hx] at h
  cases h
theorem compareA_eq {x y : AV} {p q : AP} {a0_0 a0_1 a0_2 a0_3 : ByteArray} {a0_4 : Bool} {l0_5 : List S52} {l0_6 : List S56} {a0_7 a0_8 : Bool} {a0_9 : ByteArray} {a1_0 a1_1 a1_2 a1_3 : ByteArray} {a1_4 : Bool} {l1_5 : List S52} {l1_6 : List S56} {a1_7 a1_8 : Bool} {a1_9 : ByteArray}
  (hx : Tl x a0_0 a0_1 a0_2 a0_3 a0_4 l0_5 l0_6 a0_7 a0_8 a0_9) (hy : Tl y a1_0 a1_1 a1_2 a1_3 a1_4 l1_5 l1_6 a1_7 a1_8 a1_9) (hp : ∀ z, Tl z a0_0 a0_1 a0_2 a0_3 a0_4 l0_5 l0_6 a0_7 a0_8 a0_9 → Told z p) (hq : ∀ z, Tl z a1_0 a1_1 a1_2 a1_3 a1_4 l1_5 l1_6 a1_7 a1_8 a1_9 → Told z q) :
  zmb.f a0_0 a0_1 a0_2 a0_3 a0_4 l0_5 l0_6 a0_7 a0_8 a0_9 a1_0 a1_1 a1_2 a1_3 a1_4 l1_5 l1_6 a1_7 a1_8 a1_9 = some (apC p q) := by
 have k1 := Tl_of hx
 have k2 := Tl_of hy
 unfold zmb.f
 rw [if_pos ⟨k1, k2⟩, av_told (hp _ k1) (hq _ k2)]
end Go.Proofs.YtapaijpglfmfgaaGreatDoorG
end
section
namespace Go.Proofs.YtapaijpglfmfgaaGreatDoor.Q
open Go.RowKit YtapaijpglfmfgaaGreatDoorH YtapaijpglfmfgaaGreatDoorG YtapaijpglfmfgaaGreatDoorW.PrintWords YtapaijpglfmfgaaGreatDoorW.PrintLast YtapaijpglfmfgaaGreatDoorW.PrintMore YtapaijpglfmfgaaGreatDoorC
attribute [local go_sem] zfd zjd ztd zud zsc ztc zgd zkd
mutual
def zeb.l0 : Nat → ByteArray → List Int → Int → Option (Bool × ByteArray)
 | 0, _, _, _ => none
 | k + 1, x0, x3, x4 => if x4 < (x0.size : Int) then (if 0 ≤ x4 then (zeb.l1 k x0 x3 x4 (((bt x0 x4) - 48) % 256) 0) else (none)) else (if 0 ≤ (x3.length : Int) then (if ((x3.length : Int) : Int).toNat ≤ 281474976710656 then (zeb.l2 k x3 (List.replicate ((x3.length : Int) : Int).toNat 0) 0) else (none)) else (none))
def zeb.l1 : Nat → ByteArray → List Int → Int → Int → Int → Option (Bool × ByteArray)
 | 0, _, _, _, _, _ => none
 | k + 1, x0, x3, x4, x5, x6 => if x6 < (x3.length : Int) then (if 0 ≤ x6 then (zeb.l1 k x0 (x3.set (x6 : Int).toNat ((Int.tmod (wrap64 (x5 + (wrap64 (10 * (wrap64 (rd x3 x6)))))) 256) % 256)) x4 (wrap64 (Int.tdiv (wrap64 (x5 + (wrap64 (10 * (wrap64 (rd x3 x6)))))) 256)) (wrap64 (x6 + 1))) else (none)) else (if x5 > 0 then (if x3.length < 140737488355328 then (zeb.l0 k x0 (x3 ++ [(x5) % 256]) (wrap64 (x4 + 1))) else (none)) else (zeb.l0 k x0 x3 (wrap64 (x4 + 1))))
def zeb.l2 : Nat → List Int → List Int → Int → Option (Bool × ByteArray)
 | 0, _, _, _ => none
 | k + 1, x3, x7, x8 => if x8 < (x3.length : Int) then (if 0 ≤ x8 then (if 0 ≤ (wrap64 ((wrap64 ((x3.length : Int) - 1)) - x8)) then (if (wrap64 ((wrap64 ((x3.length : Int) - 1)) - x8)) < (x7.length : Int) then (zeb.l2 k x3 (x7.set ((wrap64 ((wrap64 ((x3.length : Int) - 1)) - x8)) : Int).toNat (rd x3 x8)) (wrap64 (x8 + 1))) else (none)) else (none)) else (none)) else (some (false, strOfNums x7))
end
def zeb.f (k : Nat) (a0 : ByteArray) : Option (Bool × ByteArray) := zeb.l0 k a0 ([] : List Int) 0
theorem zeb.calls (k : Nat) (a0 : ByteArray) (r1 : Bool) (r2 : ByteArray) (w : World) (h : zeb.f k a0 = some (r1, r2)) :
  Calls Tryz.prog 41 #[.string a0] w fun e w' => e = .returned (.agg #[.bool r1, .string r2]) ∧ Below w.heap.size w w' := by
 have hu31 := Tryz.underlying31
 have HB := za.mk (Below.refl w.heap.size w)
 have H : (zeb.l0 k a0 ([] : List Int) 0) = some (r1, r2) := h
 clear h
 have H' := za.mk H
 clear H
 go_enter Tryz.func41, Tryz.ntmps41
 go_wp2_with (((with_reducible refine znb (N := 2) rfl ?_); refine zzb ?hg (N := 2) ?hd (cs := #[.bool false, .string ⟨#[]⟩]) (t := 31) ?hr ?_; (case hd => rfl); (case hg => rfl); (case hr => first | (go_simp; done) | (go_simp; rfl)); intro gb115 hg w2 hbox hb; have BK115 := za.mk hbox; have GW115 := za.mk ((by rw [hg]; exact (zm (by (with_reducible exact HB.out))) : w.heap.size ≤ gb115)); have GE115 := za.mk ((by rw [hg]; exact (zm (by (with_reducible exact HB.out))) : w.heap.size ≤ gb115)); replace HB := BS HB hb; clear hb hbox hg))
 (try simp only [Act.put, List.setIfInBounds_toArray, List.set_cons_zero, List.set_cons_succ])
 go_loopg [3, 4] k (fun kq v3 v4 w' => ∃ (x3_1 : List Int) (x4_1 : Int), v4 = .int .i64 x4_1 ∧ za (zeb.l0 kq a0 x3_1 x4_1 = some (r1, r2)) ∧ za (kq ≤ k) ∧ za (Kd.R (Kd.int .u8) 5 w' w.heap.size (fun _ => True) v3 x3_1) ∧ za (w'.heap[gb115]? = some (.cells #[.bool false, .string ⟨#[]⟩] 31 (0, 0))) ∧ za (Below w.heap.size w w'))
 case atStart => exact ⟨(([] : List Int)), (0), (by rfl), H', ⟨Nat.le_refl _⟩, ⟨by exact Kd.R_nil _ _ _ _ _⟩, ⟨by exact BK115.out⟩, ⟨by (with_reducible exact HB.out)⟩⟩
 case round =>
  clear H'
  obtain ⟨x3_1, x4_1, rfl, HA, HK1, HO_3, BK115, HB⟩ := hrel
  cases gk with
  | zero => exact absurd HA.out (by simp [zeb.l0])
  | succ k1 =>
   have H := HA.out
   clear HA
   simp only [zeb.l0] at H
   by_cases c3 : x4_1 < (a0.size : Int)
   ·rw [if_pos c3] at H
    have c3b0 : decide (x4_1 < (a0.size : Int)) = true := decide_eq_true c3
    clear c3
    by_cases c4 : 0 ≤ x4_1
    ·rw [if_pos c4] at H
     have c4b0 : decide (0 ≤ x4_1) = true := decide_eq_true c4
     clear c4
     have H' := za.mk H
     clear H
     have p5 : 0 ≤ (x4_1 : Int) := of_decide_eq_true (by (with_reducible assumption))
     have q5 : x4_1 < (a0.size : Int) := of_decide_eq_true (by (with_reducible assumption))
     have hx5 := bt_at a0 x4_1
     replace p5 := eq_true p5
     replace q5 := eq_true q5
     go_wp2
     (try simp only [Act.put, List.setIfInBounds_toArray, List.set_cons_zero, List.set_cons_succ])
     go_loopg [5, 6] k1 (fun kq v5 v6 w' => ∃ (x3_2 : List Int) (x5_2 : Int) (x6_2 : Int), v5 = .int .i64 x5_2 ∧ v6 = .int .i64 x6_2 ∧ za (zeb.l1 kq a0 x3_2 x4_1 x5_2 x6_2 = some (r1, r2)) ∧ za (kq ≤ k1) ∧ za (Kd.R (Kd.int .u8) 5 w' w.heap.size (fun _ => True) u3 x3_2) ∧ za (w'.heap[gb115]? = some (.cells #[.bool false, .string ⟨#[]⟩] 31 (0, 0))) ∧ za (Below w.heap.size w w'))
     case atStart => exact ⟨(x3_1), (((bt a0 x4_1) - 48) % 256), (0), (by rfl), (by rfl), H', ⟨Nat.le_refl _⟩, ⟨by (with_reducible repeat (first | apply Kd.R_alloc | apply Kd.R_drewN | apply Kd.R_drew)); exact HO_3.out⟩, ⟨by exact BK115.out⟩, ⟨by (with_reducible exact HB.out)⟩⟩
     case round =>
      clear H'
      clear c3b0 c4b0 p5 q5 hx5
      obtain ⟨x3_2, x5_2, x6_2, rfl, rfl, HA, HK2, HO_3, BK115, HB⟩ := hrel
      cases gk with
      | zero => exact absurd HA.out (by simp [zeb.l1])
      | succ k2 =>
       have H := HA.out
       clear HA
       simp only [zeb.l1] at H
       by_cases c6 : x6_2 < (x3_2.length : Int)
       ·rw [if_pos c6] at H
        have c6b0 : decide (x6_2 < (x3_2.length : Int)) = true := decide_eq_true c6
        clear c6
        by_cases c7 : 0 ≤ x6_2
        ·rw [if_pos c7] at H
         have c7b0 : decide (0 ≤ x6_2) = true := decide_eq_true c7
         clear c7
         obtain ⟨y117, hy117⟩ : ∃ y_ : List Int, y_ = (x3_2.set (x6_2 : Int).toNat ((Int.tmod (wrap64 (x5_2 + (wrap64 (10 * (wrap64 (rd x3_2 x6_2)))))) 256) % 256)) := ⟨_, rfl⟩
         replace H : (zeb.l1 k2 a0 y117 x4_1 (wrap64 (Int.tdiv (wrap64 (x5_2 + (wrap64 (10 * (wrap64 (rd x3_2 x6_2)))))) 256)) (wrap64 (x6_2 + 1))) = some (r1, r2) := by (rw [hy117]; with_reducible exact H)
         have Ny117 := za.mk hy117
         clear hy117
         have H' := za.mk H
         clear H
         obtain ⟨Ao9, co9, eo9⟩ := Kd.R_slice HO_3.out
         subst eo9
         have p116 : 0 ≤ (x6_2 : Int) := of_decide_eq_true (by (with_reducible assumption))
         have q116 : x6_2 < (x3_2.length : Int) := of_decide_eq_true (by (with_reducible assumption))
         obtain ⟨ad116, e116, hx116_0⟩ := Kd.at_int (Kd.R_reads' HO_3.out).2.2 x6_2 p116 q116
         cases e116
         replace p116 := eq_true p116
         replace q116 := eq_true q116
         have p8 : 0 ≤ (x6_2 : Int) := of_decide_eq_true (by (with_reducible assumption))
         have q8 : (x6_2 : Int) < ((x3_2.length : Int) : Int) := of_decide_eq_true (by (with_reducible assumption))
         obtain ⟨go8, co8, eo8, gb8, gl8, cl8, HG8⟩ := Kd.R_form HO_3.out (by omega)
         (first | cases eo8 | (injection eo8 with ea_ en_ ec_; (first | subst ea_ | (injection ea_ with ea_; subst ea_)); subst ec_; clear en_))
         have GB8 := za.mk gb8
         have GG8 := za.mk HG8
         clear gb8 gl8 HG8
         (first | simp only [add_plain] at hx116_0 | skip)
         obtain ⟨hx8_0, hf8_0⟩ := Kd.R_celln 0 HO_3.out (x6_2 : Int) p8 q8
         replace p8 := eq_true p8
         replace q8 := eq_true q8
         have HP10 := Kd.R_putg HO_3.out (x6_2 : Int) ((Int.tmod (wrap64 (x5_2 + (wrap64 (10 * (wrap64 (rd x3_2 x6_2)))))) 256) % 256)
         go_wp2_with (((with_reducible refine gate_store (t := 5) (p := 39) rfl ?_); refine store_event (t := 5) (p := 39) (v := ?vo_w11) (w1 := (wr.setCell ⟨go8, (x6_2 : Int).toNat, none⟩ (.int .u8 ((Int.tmod (wrap64 (x5_2 + (wrap64 (10 * (wrap64 (rd x3_2 x6_2)))))) 256) % 256)))) ?hg ?ho ?hn ?hr ?_; (case ho => rfl); (case hg => rfl); (case hn => rfl); (case hr => first | (go_simp; done) | (go_simp; rfl)); intro w11 hw; have hg : wr.grownBy w11 (some go8) := (by rw [hw]; exact HP10.2); have hp_ : Kd.R (Kd.int .u8) 5 w11 w.heap.size (fun _ => True) (.slice (some ⟨go8, 0, none⟩) x3_2.length co9) y117 := (by rw [hw, Ny117.out]; exact HP10.1); clear HP10; have n0_ := za.mk hp_; have n1_ := za.mk (zpe BK115.out hg (Kd.R_ne HO_3.out BK115.out (by decide))); have n2_ := za.mk ((by rw [hw]; exact zl (HB.out) GB8.out : Below w.heap.size w w11)); clear HO_3; clear BK115; clear HB; have HO_3 := n0_; have BK115 := n1_; have HB := n2_; clear n0_ n1_ n2_; clear hg hw hp_))
         go_roundg k2
         case measure => have := HK1.out; have := HK2.out; omega
         case rel => exact ⟨(y117), (wrap64 (Int.tdiv (wrap64 (x5_2 + (wrap64 (10 * (wrap64 (rd x3_2 x6_2)))))) 256)), (wrap64 (x6_2 + 1)), (by rfl), (by rfl), H', ⟨by have := HK1.out; have := HK2.out; omega⟩, ⟨by (with_reducible repeat (first | apply Kd.R_alloc | apply Kd.R_drewN | apply Kd.R_drew)); exact HO_3.out⟩, ⟨by exact BK115.out⟩, ⟨by (with_reducible exact HB.out)⟩⟩
        ·rw [if_neg c7] at H
         exact absurd H (by simp)
       ·rw [if_neg c6] at H
        have c6b0 : decide (x6_2 < (x3_2.length : Int)) = false := decide_eq_false c6
        clear c6
        by_cases c12 : x5_2 > 0
        ·rw [if_pos c12] at H
         have c12b0 : decide (0 < x5_2) = true := decide_eq_true c12
         clear c12
         by_cases c13 : x3_2.length < 140737488355328
         ·rw [if_pos c13] at H
          have LMc13 := za.mk c13
          clear c13
          obtain ⟨y118, hy118⟩ : ∃ y_ : List Int, y_ = (x3_2 ++ [(x5_2) % 256]) := ⟨_, rfl⟩
          replace H : (zeb.l0 k2 a0 y118 (wrap64 (x4_1 + 1))) = some (r1, r2) := by (rw [hy118]; with_reducible exact H)
          have Ny118 := za.mk hy118
          clear hy118
          have H' := za.mk H
          clear H
          obtain ⟨Ao14, co14, eo14⟩ := Kd.R_slice HO_3.out
          subst eo14
          go_wp2_with (((with_reducible refine zyd (b := .append) (xs := #[.tmp 44, .tmp 47]) rfl ?_); at_builtin; refine Kd.R_append (Kd.int .u8) (w0 := w) w.heap.size rfl (.tmp 44) (.tmp 47) 23 5 (.int .u8 0) 1 rfl Tryz.underlying23 info5 rfl (by decide) (by omega) (.slice Ao14 x3_2.length co14) x3_2 ((x5_2) % 256) [.int .u8 ((x5_2) % 256)] (fun _ => True) (fun _ => False) rfl rfl ?aP (fun _ hk => hk.elim) ?aF ?aO ?aB ?aS ?aL ?_; (case aP => exact rfl); (case aB => exact (by (with_reducible exact HB.out))); (case aF => exact (fun _ _ => trivial)); (case aO => exact (RW HO_3.out)); (case aS => exact (zm (by (with_reducible exact HB.out)))); (case aL => have := LMc13.out; omega); intro v119 w15 ho hb hg hat; rw [← Ny118.out] at ho; replace BK115 := za.mk (zpe BK115.out hg (Kd.R_ne HO_3.out BK115.out (by decide))); have HO120 := za.mk ho; replace HB := za.mk hb; clear HO_3; clear ho hb hg hat))
          go_roundg k2
          case measure => have := HK1.out; have := HK2.out; omega
          case rel => exact ⟨(y118), (wrap64 (x4_1 + 1)), (by rfl), H', ⟨by have := HK1.out; have := HK2.out; omega⟩, ⟨by (with_reducible repeat (first | apply Kd.R_alloc | apply Kd.R_drewN | apply Kd.R_drew)); exact HO120.out⟩, ⟨by exact BK115.out⟩, ⟨by (with_reducible exact HB.out)⟩⟩
         ·rw [if_neg c13] at H
          exact absurd H (by simp)
        ·rw [if_neg c12] at H
         have c12b0 : decide (0 < x5_2) = false := decide_eq_false c12
         clear c12
         have H' := za.mk H
         clear H
         obtain ⟨Ao16, co16, eo16⟩ := Kd.R_slice HO_3.out
         subst eo16
         go_wp2
         go_roundg k2
         case measure => have := HK1.out; have := HK2.out; omega
         case rel => exact ⟨(x3_2), (wrap64 (x4_1 + 1)), (by rfl), H', ⟨by have := HK1.out; have := HK2.out; omega⟩, ⟨by (with_reducible repeat (first | apply Kd.R_alloc | apply Kd.R_drewN | apply Kd.R_drew)); exact HO_3.out⟩, ⟨by exact BK115.out⟩, ⟨by (with_reducible exact HB.out)⟩⟩
    ·rw [if_neg c4] at H
     exact absurd H (by simp)
   ·rw [if_neg c3] at H
    have c3b0 : decide (x4_1 < (a0.size : Int)) = false := decide_eq_false c3
    clear c3
    by_cases c17 : 0 ≤ (x3_1.length : Int)
    ·rw [if_pos c17] at H
     have c17b0 := eq_true c17
     have c17b1 : decide (0 ≤ (x3_1.length : Int)) = true := decide_eq_true c17
     clear c17
     by_cases c18 : ((x3_1.length : Int) : Int).toNat ≤ 281474976710656
     ·rw [if_pos c18] at H
      have c18b0 := eq_true c18
      have c18b1 : decide (((x3_1.length : Int) : Int).toNat ≤ 281474976710656) = true := decide_eq_true c18
      clear c18
      obtain ⟨y121, hy121⟩ : ∃ y_ : List Int, y_ = (List.replicate ((x3_1.length : Int) : Int).toNat 0) := ⟨_, rfl⟩
      replace H : (zeb.l2 k1 x3_1 y121 0) = some (r1, r2) := by (rw [hy121]; with_reducible exact H)
      have Ny121 := za.mk hy121
      clear hy121
      have H' := za.mk H
      clear H
      obtain ⟨Ao19, co19, eo19⟩ := Kd.R_slice HO_3.out
      subst eo19
      go_wp2_with (((with_reducible refine znb (N := 51) rfl ?_); refine Kd.R_make (Kd.int .u8) _ 5 rfl (N := 51) rfl 23 _ _ rfl (x3_1.length : Int) rfl rfl Tryz.underlying23 (.int .u8 0) 1 info5 rfl (by decide) (by omega) 0 (ok := fun _ => True) (okp := fun _ => True) rfl (fun _ hk => hk) trivial (of_decide_eq_true (by (with_reducible assumption))) (Nat.le_trans (Nat.mul_le_mul_right _ (of_decide_eq_true (by (with_reducible assumption)) : (x3_1.length : Int).toNat ≤ 281474976710656)) (by omega)) (Below.refl _ _) (Nat.le_refl _) ?_; intro v122 w20 ho21 hb hg_ hnew_; clear hg_ hnew_; (first | rw [← Ny121.out] at ho21 | (simp only [Int.reduceToNat] at ho21; rw [← Ny121.out] at ho21)); have n0_ := za.mk (Kd.R_elder' (RW HO_3.out) (Kd.R_base ho21) hb); have n1_ := za.mk (Kd.R_lower (Kd.R_new' ho21 (Kd.R_lt (RW HO_3.out))) (zm (by (with_reducible exact HB.out)))); have n2_ := za.mk (zc BK115.out hb); have n3_ := za.mk (zib (by (with_reducible exact HB.out)) hb); clear HO_3; clear BK115; clear HB; have HO_3 := n0_; have HO123 := n1_; have BK115 := n2_; have HB := n3_; clear n0_ n1_ n2_ n3_; clear hb ho21))
      (try simp only [Act.put, List.setIfInBounds_toArray, List.set_cons_zero, List.set_cons_succ])
      go_loopg [8] k1 (fun kq v8 w' => ∃ (x7_2 : List Int) (x8_2 : Int), v8 = .int .i64 x8_2 ∧ za (zeb.l2 kq x3_1 x7_2 x8_2 = some (r1, r2)) ∧ za (kq ≤ k1) ∧ za (Kd.R (Kd.int .u8) 5 w' w.heap.size (fun k_ => some k_ ≠ (v122 : Value).ownBlock) (.slice Ao19 x3_1.length co19) x3_1) ∧ za (Kd.R (Kd.int .u8) 5 w' w.heap.size (fun k_ => some k_ ≠ ((.slice Ao19 x3_1.length co19) : Value).ownBlock) v122 x7_2) ∧ za (w'.heap[gb115]? = some (.cells #[.bool false, .string ⟨#[]⟩] 31 (0, 0))) ∧ za (Below w.heap.size w w'))
      case atStart => exact ⟨(y121), (0), (by rfl), H', ⟨Nat.le_refl _⟩, ⟨by (with_reducible repeat (first | apply Kd.R_alloc | apply Kd.R_drewN | apply Kd.R_drew)); exact Kd.R_mono HO_3.out (fun _ hk => hk.2)⟩, ⟨by (with_reducible repeat (first | apply Kd.R_alloc | apply Kd.R_drewN | apply Kd.R_drew)); exact Kd.R_mono HO123.out (fun _ hk => hk.2)⟩, ⟨by exact BK115.out⟩, ⟨by (with_reducible exact HB.out)⟩⟩
      case round =>
       clear H'
       clear c3b0 c17b0 c17b1 c18b0 c18b1
       obtain ⟨x7_2, x8_2, rfl, HA, HK2, HO_3, HO_7, BK115, HB⟩ := hrel
       cases gk with
       | zero => exact absurd HA.out (by simp [zeb.l2])
       | succ k2 =>
        have H := HA.out
        clear HA
        simp only [zeb.l2] at H
        by_cases c22 : x8_2 < (x3_1.length : Int)
        ·rw [if_pos c22] at H
         have c22b0 : decide (x8_2 < (x3_1.length : Int)) = true := decide_eq_true c22
         clear c22
         by_cases c23 : 0 ≤ x8_2
         ·rw [if_pos c23] at H
          have c23b0 : decide (0 ≤ x8_2) = true := decide_eq_true c23
          clear c23
          obtain ⟨ji24, hji24⟩ : ∃ j_ : Int, (wrap64 ((wrap64 ((x3_1.length : Int) - 1)) - x8_2)) = j_ := ⟨_, rfl⟩
          replace H : (if 0 ≤ (ji24) then (if (ji24) < (x7_2.length : Int) then (zeb.l2 k2 x3_1 (x7_2.set ((ji24) : Int).toNat (rd x3_1 x8_2)) (wrap64 (x8_2 + 1))) else (none)) else (none)) = some (r1, r2) := by (rw [hji24] at H; exact H)
          have hji24w : (IntKind.i64.wrap ((wrap64 ((x3_1.length : Int) - 1)) - x8_2)) = ji24 := (i64_w _).trans hji24
          by_cases c25 : 0 ≤ (ji24)
          ·rw [if_pos c25] at H
           have c25b0 : decide (0 ≤ (ji24)) = true := decide_eq_true c25
           clear c25
           by_cases c26 : (ji24) < (x7_2.length : Int)
           ·rw [if_pos c26] at H
            have c26b0 : decide ((ji24) < (x7_2.length : Int)) = true := decide_eq_true c26
            clear c26
            obtain ⟨y125, hy125⟩ : ∃ y_ : List Int, y_ = (x7_2.set ((ji24) : Int).toNat (rd x3_1 x8_2)) := ⟨_, rfl⟩
            replace H : (zeb.l2 k2 x3_1 y125 (wrap64 (x8_2 + 1))) = some (r1, r2) := by (rw [hy125]; with_reducible exact H)
            have Ny125 := za.mk hy125
            clear hy125
            have H' := za.mk H
            clear H
            have p124 : 0 ≤ (x8_2 : Int) := of_decide_eq_true (by (with_reducible assumption))
            have q124 : x8_2 < (x3_1.length : Int) := of_decide_eq_true (by (with_reducible assumption))
            obtain ⟨ad124, e124, hx124_0⟩ := Kd.at_int (Kd.R_reads' HO_3.out).2.2 x8_2 p124 q124
            cases e124
            replace p124 := eq_true p124
            replace q124 := eq_true q124
            have p27 : 0 ≤ ((ji24) : Int) := of_decide_eq_true (by (with_reducible assumption))
            have q27 : ((ji24) : Int) < ((x7_2.length : Int) : Int) := of_decide_eq_true (by (with_reducible assumption))
            obtain ⟨go27, co27, eo27, gb27, gl27, cl27, HG27⟩ := Kd.R_form HO_7.out (by omega)
            (first | cases eo27 | (injection eo27 with ea_ en_ ec_; (first | subst ea_ | (injection ea_ with ea_; subst ea_)); subst ec_; clear en_))
            have GB27 := za.mk gb27
            have GG27 := za.mk HG27
            clear gb27 gl27 HG27
            obtain ⟨hx27_0, hf27_0⟩ := Kd.R_celln 0 HO_7.out ((ji24) : Int) p27 q27
            replace p27 := eq_true p27
            replace q27 := eq_true q27
            have HP28 := Kd.R_putg HO_7.out ((ji24) : Int) (rd x3_1 x8_2)
            go_wp2_with (((with_reducible refine gate_store (t := 5) (p := 68) rfl ?_); refine store_event (t := 5) (p := 68) (v := ?vo_w29) (w1 := (wr.setCell ⟨go27, ((ji24) : Int).toNat, none⟩ (.int .u8 (rd x3_1 x8_2)))) ?hg ?ho ?hn ?hr ?_; (case ho => rfl); (case hg => rfl); (case hn => rfl); (case hr => first | (go_simp; done) | (go_simp; rfl)); intro w29 hw; have hg : wr.grownBy w29 (some go27) := (by rw [hw]; exact HP28.2); have hp_ : Kd.R (Kd.int .u8) 5 w29 w.heap.size (fun k_ => some k_ ≠ (.slice (some ad124) x3_1.length co19 : Value).ownBlock) (.slice (some ⟨go27, 0, none⟩) x7_2.length co27) y125 := (by rw [hw, Ny125.out]; exact HP28.1); clear HP28; have n0_ := za.mk (Kd.R_after (v := (.slice (some ⟨go27, 0, none⟩) x7_2.length co27)) (v1 := (.slice (some ⟨go27, 0, none⟩) x7_2.length co27)) (ok := (fun _ => True)) (RW (Kd.R_mono HO_3.out (fun _ hk => ⟨trivial, hk⟩))) hg (.inl rfl)); have n1_ := za.mk hp_; have n2_ := za.mk (zpe BK115.out hg (Kd.R_ne HO_7.out BK115.out (by decide))); have n3_ := za.mk ((by rw [hw]; exact zl (HB.out) GB27.out : Below w.heap.size w w29)); clear HO_3; clear HO_7; clear BK115; clear HB; have HO_3 := n0_; have HO_7 := n1_; have BK115 := n2_; have HB := n3_; clear n0_ n1_ n2_ n3_; clear hg hw hp_))
            go_roundg k2
            case measure => have := HK1.out; have := HK2.out; omega
            case rel => exact ⟨(y125), (wrap64 (x8_2 + 1)), (by rfl), H', ⟨by have := HK1.out; have := HK2.out; omega⟩, ⟨by (with_reducible repeat (first | apply Kd.R_alloc | apply Kd.R_drewN | apply Kd.R_drew)); exact Kd.R_mono HO_3.out (fun _ hk => hk.2)⟩, ⟨by (with_reducible repeat (first | apply Kd.R_alloc | apply Kd.R_drewN | apply Kd.R_drew)); exact HO_7.out⟩, ⟨by exact BK115.out⟩, ⟨by (with_reducible exact HB.out)⟩⟩
           ·rw [if_neg c26] at H
            exact absurd H (by simp)
          ·rw [if_neg c25] at H
           exact absurd H (by simp)
         ·rw [if_neg c23] at H
          exact absurd H (by simp)
        ·rw [if_neg c22] at H
         have c22b0 : decide (x8_2 < (x3_1.length : Int)) = false := decide_eq_false c22
         clear c22
         simp only [Option.some.injEq, Prod.mk.injEq] at H
         obtain ⟨rfl, rfl⟩ := H
         have hcv30 := own_string (P := Tryz.prog) Tryz.underlying23 Tryz.underlying5 Tryz.underlying9 (Kd.own_of_R HO_7.out)
         obtain ⟨z31_0, z31_1, y31_0, y31_1⟩ := cl2 BK115.out
         go_wp2
         refine bodyPost_ret (results_cell_row rfl _ _ gb115 31 #[.bool false, .string (strOfNums x7_2)] (0, 0) _ rfl (by exact put2 BK115.out) Tryz.underlying31 rfl (by kernel_rfl)) rfl ?_
         exact ⟨by rfl, by (with_reducible refine zl ?_ GE115.out; with_reducible refine zl ?_ GE115.out; with_reducible exact HB.out)⟩
     ·rw [if_neg c18] at H
      exact absurd H (by simp)
    ·rw [if_neg c17] at H
     exact absurd H (by simp)
def zqb.f (a0 : Int) : Option (Bool) := if a0 ≥ 48 then (some (decide (a0 ≤ 57))) else (some false)
theorem zqb.calls (a0 : Int) (r : Bool) (w : World) (h : zqb.f a0 = some r) :
  Calls Tryz.prog 40 #[.int .u8 a0] w fun e w' => e = .returned (.bool r) ∧ zn w w' := by
 have H : (if a0 ≥ 48 then (some (decide (a0 ≤ 57))) else (some false)) = some r := h
 clear h
 by_cases c2 : a0 ≥ 48
 ·rw [if_pos c2] at H
  have c2b0 : decide (48 ≤ a0) = true := decide_eq_true c2
  clear c2
  obtain rfl := Option.some.inj H
  go_enter Tryz.func40, Tryz.ntmps40
  go_wp2
  go_ret
  exact ⟨by rfl, by repeat (first | exact zn.refl _ | apply zn.step)⟩
 ·rw [if_neg c2] at H
  have c2b0 : decide (48 ≤ a0) = false := decide_eq_false c2
  clear c2
  obtain rfl := Option.some.inj H
  go_enter Tryz.func40, Tryz.ntmps40
  go_wp2
  go_ret
  exact ⟨by rfl, by repeat (first | exact zn.refl _ | apply zn.step)⟩
def spec_allDigits.l0 : Nat → ByteArray → Int → Option (Bool)
 | 0, _, _ => none
 | k + 1, x0, x3 => if x3 < (x0.size : Int) then (if 0 ≤ x3 then ((zqb.f (bt x0 x3)).bind fun t126 => (if t126 = true then (spec_allDigits.l0 k x0 (wrap64 (x3 + 1))) else (some false))) else (none)) else (some (decide ((x0.size : Int) > 0)))
end Go.Proofs.YtapaijpglfmfgaaGreatDoor.Q
end
section
namespace Go.Proofs.YtapaijpglfmfgaaGreatDoor.Q
open Go.RowKit YtapaijpglfmfgaaGreatDoorH YtapaijpglfmfgaaGreatDoorG YtapaijpglfmfgaaGreatDoorW.PrintWords YtapaijpglfmfgaaGreatDoorW.PrintLast YtapaijpglfmfgaaGreatDoorW.PrintMore YtapaijpglfmfgaaGreatDoorC
attribute [local go_sem] zfd zjd ztd zud zsc ztc zgd zkd
def zxc.l0 : Nat → ByteArray → Int → Option (Bool)
 | 0, _, _ => none
 | k + 1, x0, x3 => if x3 < (x0.size : Int) then (if 0 ≤ x3 then (if (bt x0 x3) > 127 then (some false) else (zxc.l0 k x0 (wrap64 (x3 + 1)))) else (none)) else (some true)
def zxc.f (k : Nat) (a0 : ByteArray) : Option (Bool) := zxc.l0 k a0 0
theorem zxc.calls (k : Nat) (a0 : ByteArray) (r : Bool) (w : World) (h : zxc.f k a0 = some r) :
  Calls Tryz.prog 24 #[.string a0] w fun e w' => e = .returned (.bool r) ∧ zn w w' := by
 have H : (zxc.l0 k a0 0) = some r := h
 clear h
 have H' := za.mk H
 clear H
 go_enter Tryz.func24, Tryz.ntmps24
 go_wp2
 (try simp only [Act.put, List.setIfInBounds_toArray, List.set_cons_zero, List.set_cons_succ])
 go_loopg [3] k (fun kq v3 w' => ∃ (x3_1 : Int), v3 = .int .i64 x3_1 ∧ za (zxc.l0 kq a0 x3_1 = some r) ∧ za (kq ≤ k) ∧ zn w w')
 case atStart => exact ⟨(0), (by rfl), H', ⟨Nat.le_refl _⟩, by repeat (first | exact zn.refl _ | apply zn.step)⟩
 case round =>
  clear H'
  obtain ⟨x3_1, rfl, HA, HK1, ⟨m1, rfl⟩⟩ := hrel
  cases gk with
  | zero => exact absurd HA.out (by simp [zxc.l0])
  | succ k1 =>
   have H := HA.out
   clear HA
   simp only [zxc.l0] at H
   by_cases c2 : x3_1 < (a0.size : Int)
   ·rw [if_pos c2] at H
    have c2b0 : decide (x3_1 < (a0.size : Int)) = true := decide_eq_true c2
    clear c2
    by_cases c3 : 0 ≤ x3_1
    ·rw [if_pos c3] at H
     have c3b0 : decide (0 ≤ x3_1) = true := decide_eq_true c3
     clear c3
     by_cases c5 : (bt a0 x3_1) > 127
     ·rw [if_pos c5] at H
      have c5b0 : decide (127 < (bt a0 x3_1)) = true := decide_eq_true c5
      clear c5
      obtain rfl := Option.some.inj H
      have p4 : 0 ≤ (x3_1 : Int) := of_decide_eq_true (by (with_reducible assumption))
      have q4 : x3_1 < (a0.size : Int) := of_decide_eq_true (by (with_reducible assumption))
      have hx4 := bt_at a0 x3_1
      replace p4 := eq_true p4
      replace q4 := eq_true q4
      go_wp2
      go_ret
      exact ⟨by rfl, by repeat (first | exact zn.refl _ | apply zn.step)⟩
     ·rw [if_neg c5] at H
      have c5b0 : decide (127 < (bt a0 x3_1)) = false := decide_eq_false c5
      clear c5
      have H' := za.mk H
      clear H
      have p4 : 0 ≤ (x3_1 : Int) := of_decide_eq_true (by (with_reducible assumption))
      have q4 : x3_1 < (a0.size : Int) := of_decide_eq_true (by (with_reducible assumption))
      have hx4 := bt_at a0 x3_1
      replace p4 := eq_true p4
      replace q4 := eq_true q4
      go_wp2
      go_roundg k1
      case measure => have := HK1.out; omega
      case rel => exact ⟨(wrap64 (x3_1 + 1)), (by rfl), H', ⟨by have := HK1.out; omega⟩, by repeat (first | exact zn.refl _ | apply zn.step)⟩
    ·rw [if_neg c3] at H
     exact absurd H (by simp)
   ·rw [if_neg c2] at H
    have c2b0 : decide (x3_1 < (a0.size : Int)) = false := decide_eq_false c2
    clear c2
    obtain rfl := Option.some.inj H
    go_wp2
    go_ret
    exact ⟨by rfl, by repeat (first | exact zn.refl _ | apply zn.step)⟩
def zp.l0 : Nat → ByteArray → List (S52) → Option ((List (S52)) × ByteArray)
 | 0, _, _ => none
 | k + 1, x0, x2 => (E1.zbb.f k x0).bind fun t185 => (if t185 = 0 then (some (x2, x0)) else (if 0 ≤ t185 then (if t185 ≤ (x0.size : Int) then ((zeb.f k (x0.extract 0 (t185 : Int).toNat)).bind fun bt186 => (if x2.length < 2932031007402 then ((some (x2 ++ [(⟨x0.extract 0 (t185 : Int).toNat, (⟨bt186.1, bt186.2⟩ : S31), (x2.length : Int)⟩ : S52)] : List (S52))).bind fun y188 => ((some (x0.extract (t185 : Int).toNat x0.size : ByteArray)).bind fun y191 => (if y191.toList = ([] : List UInt8) then (some (y188, y191)) else (if 0 < (y191.size : Int) then (if (bt y191 0) = 46 then (if 1 ≤ (y191.size : Int) then (zp.l0 k (y191.extract 1 y191.size) y188) else (none)) else (some (y188, y191))) else (none))))) else (none))) else (none)) else (none)))
def zp.f (k : Nat) (a0 : ByteArray) : Option ((List (S52)) × ByteArray) := zp.l0 k a0 ([] : List (S52))
def zp.T4 : Bool × List (List Nat × List Nat) := (true, [([], []), ([], []), ([], []), ([1, 2], [1, 2]), ([], []), ([], []), ([4, 5], [4, 5]), ([6], [6]), ([], []), ([8], [8]), ([3, 7, 9], [3, 7, 9]), ([10], [10]), ([0, 11, 7], [0, 11]), ([12, 12, 0, 1, 2, 3, 4, 5, 6, 7, 8, 9, 10, 11, 12], [0, 8, 12])])
def zp.B4 : List Nat := [0, 0, 0, 6, 0, 0, 48, 112, 0, 256, 1022, 2046, 4095, 8191]
theorem zp.tab4 : rtab .any (opsOf Tryz.f25 4) = zp.T4 := by kernel_rfl
theorem zp.bits4 : zfi zp.T4.2 zp.B4 = true := by kernel_rfl
theorem zp.calls (k : Nat) (a0 : ByteArray) (r1 : List (S52)) (r2 : ByteArray) (w : World) (h : zp.f k a0 = some (r1, r2)) :
  Calls Tryz.prog 25 #[.string a0] w fun e w' => ∃ v0_ : Value, e = .returned (.tuple #[v0_, .string r2]) ∧ Kd.R k52 52 w' w.heap.size (fun _ => True) v0_ r1 ∧ Below w.heap.size w w' := by
 have hu52 := Tryz.underlying52
 have HB := za.mk (Below.refl w.heap.size w)
 have H : (zp.l0 k a0 ([] : List (S52))) = some (r1, r2) := h
 clear h
 have H' := za.mk H
 clear H
 go_enter Tryz.func25, Tryz.ntmps25
 go_wp2
 (try simp only [Act.put, List.setIfInBounds_toArray, List.set_cons_zero, List.set_cons_succ])
 go_loopg [0, 2] k (fun kq v0 v2 w' => ∃ (x0_1 : ByteArray) (x2_1 : List (S52)), v0 = .string x0_1 ∧ za (zp.l0 kq x0_1 x2_1 = some (r1, r2)) ∧ za (kq ≤ k) ∧ za (Kd.R k52 52 w' w.heap.size (fun _ => True) v2 x2_1) ∧ za (Below w.heap.size w w'))
 case atStart => exact ⟨(a0), (([] : List (S52))), (by rfl), H', ⟨Nat.le_refl _⟩, ⟨by exact Kd.R_nil _ _ _ _ _⟩, ⟨by (with_reducible exact HB.out)⟩⟩
 case round =>
  clear H'
  obtain ⟨x0_1, x2_1, rfl, HA, HK1, HO_2, HB⟩ := hrel
  cases gk with
  | zero => exact absurd HA.out (by simp [zp.l0])
  | succ k1 =>
   have H := HA.out
   clear HA
   simp only [zp.l0] at H
   replace H := Option.bind_eq_some_iff.mp H
   obtain ⟨t185, A20, H⟩ := H
   replace H : (if t185 = 0 then (some (x2_1, x0_1)) else (if 0 ≤ t185 then (if t185 ≤ (x0_1.size : Int) then ((zeb.f k1 (x0_1.extract 0 (t185 : Int).toNat)).bind fun bt186 => (if x2_1.length < 2932031007402 then ((some (x2_1 ++ [(⟨x0_1.extract 0 (t185 : Int).toNat, (⟨bt186.1, bt186.2⟩ : S31), (x2_1.length : Int)⟩ : S52)] : List (S52))).bind fun y188 => ((some (x0_1.extract (t185 : Int).toNat x0_1.size : ByteArray)).bind fun y191 => (if y191.toList = ([] : List UInt8) then (some (y188, y191)) else (if 0 < (y191.size : Int) then (if (bt y191 0) = 46 then (if 1 ≤ (y191.size : Int) then (zp.l0 k1 (y191.extract 1 y191.size) y188) else (none)) else (some (y188, y191))) else (none))))) else (none))) else (none)) else (none))) = some (r1, r2) := H
   have A2 := za.mk A20
   clear A20
   by_cases c3 : t185 = 0
   ·rw [if_pos c3] at H
    have c3b0 : (t185 == 0) = true := beq_iff_eq.mpr c3
    have c3b1 : (t185 != 0) = false := bne_eq_false_iff_eq.mpr c3
    clear c3
    simp only [Option.some.injEq, Prod.mk.injEq] at H
    obtain ⟨rfl, rfl⟩ := H
    go_wp2_with (((with_reducible refine zw (f := 39) rfl ?_); refine goesA (some 6) Tryz.func39 #[.string x0_1, .func (.func 40) #[] #[]] ?_; (with_reducible refine (E1.zbb.calls k1 x0_1 t185 _ A2.out).mono ?_); rintro e w' ⟨rfl, ⟨nd, rfl⟩⟩; refine ⟨_, rfl, ?_⟩))
    go_ret2
    exact ⟨_, by rfl, by (with_reducible repeat (first | apply Kd.R_alloc | apply Kd.R_drewN | apply Kd.R_drew)); exact HO_2.out, by (with_reducible apply zd; with_reducible exact HB.out)⟩
   ·rw [if_neg c3] at H
    have c3b0 : (t185 == 0) = false := beq_eq_false_iff_ne.mpr c3
    have c3b1 : (t185 != 0) = true := bne_iff_ne.mpr c3
    by_cases c4 : 0 ≤ t185
    ·rw [if_pos c4] at H
     have c4b0 := eq_true c4
     have c4b1 : decide (0 ≤ t185) = true := decide_eq_true c4
     clear c4
     by_cases c5 : t185 ≤ (x0_1.size : Int)
     ·rw [if_pos c5] at H
      have c5b0 := eq_true c5
      have c5b1 : decide (t185 ≤ (x0_1.size : Int)) = true := decide_eq_true c5
      clear c5
      have c6b0 := eq_true (of_decide_eq_true (by (with_reducible assumption)) : 0 ≤ t185)
      have c7b0 := eq_true (of_decide_eq_true (by (with_reducible assumption)) : t185 ≤ (x0_1.size : Int))
      replace H := Option.bind_eq_some_iff.mp H
      obtain ⟨⟨t186, t187⟩, A80, H⟩ := H
      replace H : (if x2_1.length < 2932031007402 then ((some (x2_1 ++ [(⟨x0_1.extract 0 (t185 : Int).toNat, (⟨t186, t187⟩ : S31), (x2_1.length : Int)⟩ : S52)] : List (S52))).bind fun y188 => ((some (x0_1.extract (t185 : Int).toNat x0_1.size : ByteArray)).bind fun y191 => (if y191.toList = ([] : List UInt8) then (some (y188, y191)) else (if 0 < (y191.size : Int) then (if (bt y191 0) = 46 then (if 1 ≤ (y191.size : Int) then (zp.l0 k1 (y191.extract 1 y191.size) y188) else (none)) else (some (y188, y191))) else (none))))) else (none)) = some (r1, r2) := H
      have A8 := za.mk A80
      clear A80
      by_cases c9 : x2_1.length < 2932031007402
      ·rw [if_pos c9] at H
       have LMc9 := za.mk c9
       clear c9
       obtain ⟨y188, hy188⟩ : ∃ y_ : List (S52), y_ = (x2_1 ++ [(⟨x0_1.extract 0 (t185 : Int).toNat, (⟨t186, t187⟩ : S31), (x2_1.length : Int)⟩ : S52)]) := ⟨_, rfl⟩
       replace H : ((some (x0_1.extract (t185 : Int).toNat x0_1.size : ByteArray)).bind fun y191 => (if y191.toList = ([] : List UInt8) then (some (y188, y191)) else (if 0 < (y191.size : Int) then (if (bt y191 0) = 46 then (if 1 ≤ (y191.size : Int) then (zp.l0 k1 (y191.extract 1 y191.size) y188) else (none)) else (some (y188, y191))) else (none)))) = some (r1, r2) := by (have H2_ := (Option.bind_some _ _).symm.trans H; rw [hy188]; with_reducible exact H2_)
       have Ny188 := za.mk hy188
       clear hy188
       have c10b0 := eq_true (of_decide_eq_true (by (with_reducible assumption)) : 0 ≤ t185)
       have c11b0 := eq_true (of_decide_eq_true (by (with_reducible assumption)) : t185 ≤ (x0_1.size : Int))
       obtain ⟨y191, hy191⟩ : ∃ y_ : ByteArray, y_ = (x0_1.extract (t185 : Int).toNat x0_1.size) := ⟨_, rfl⟩
       replace H : (if y191.toList = ([] : List UInt8) then (some (y188, y191)) else (if 0 < (y191.size : Int) then (if (bt y191 0) = 46 then (if 1 ≤ (y191.size : Int) then (zp.l0 k1 (y191.extract 1 y191.size) y188) else (none)) else (some (y188, y191))) else (none))) = some (r1, r2) := by (have H2_ := (Option.bind_some _ _).symm.trans H; rw [hy191]; with_reducible exact H2_)
       have Ny191 := za.mk hy191
       clear hy191
       by_cases c12 : y191.toList = ([] : List UInt8)
       ·rw [if_pos c12] at H
        have c12b0 : (y191.toList == ([] : List UInt8)) = true := beq_iff_eq.mpr c12
        have c12b1 : (y191.toList != ([] : List UInt8)) = false := bne_eq_false_iff_eq.mpr c12
        try have c12b9 : y191.toList.isEmpty = true := by simpa using c12b0
        clear c12
        simp only [Option.some.injEq, Prod.mk.injEq] at H
        obtain ⟨rfl, rfl⟩ := H
        try go_wp2_with (((with_reducible refine zw (f := 39) rfl ?_); refine goesA (some 6) Tryz.func39 #[.string x0_1, .func (.func 40) #[] #[]] ?_; (with_reducible refine (E1.zbb.calls k1 x0_1 t185 _ A2.out).mono ?_); rintro e w' ⟨rfl, ⟨nd, rfl⟩⟩; refine ⟨_, rfl, ?_⟩))
        (try (rw [zmf wr]; generalize hq_ : World.drewN wr _ = wr; have n0_ : za (Kd.R k52 52 wr w.heap.size (fun _ => True) u2 x2_1) := ⟨by rw [← hq_]; exact (RW HO_2.out)⟩; have n1_ : za (Below w.heap.size w wr) := ⟨by rw [← hq_]; exact (by (with_reducible apply zd; with_reducible exact HB.out))⟩; clear HO_2 HB hq_; have HO_2 := n0_; have HB := n1_; clear n0_ n1_))
        replace HO_2 := za.mk (Kd.R_drew HO_2.out)
        replace HB := za.mk (zab HB.out)
        obtain ⟨Ao14, co14, eo14⟩ := Kd.R_slice HO_2.out
        (first | subst eo14 | (injection eo14 with f1_ f2_ f3_; have f4_ := f1_.symm; have f5_ := f3_.symm; clear f1_ f2_ f3_; subst f4_; subst f5_))
        refine zuf (n := 14) (S := fun w' => True) (ds := []) #[false, false, false, false, false, false, false, false, false, false, false, false, false, false] (by kernel_rfl) rfl rfl trivial (fun hHeld => ?_); refine zxf zp.tab4 zp.bits4 (fun HT_ HW_ => ?_)
        generalize wr.drew = w13 at HO_2 HB hHeld ⊢
        refine pureA 0 (some 11) #[true, false, false, false, false, false, false, false, false, false, false, false, false, false] ?_ (hc := zdc HT_.out (by kernel_rfl))
        refine pureA 1 (some 12) #[true, true, false, false, false, false, false, false, false, false, false, false, false, false] ?_ (hc := zdc HT_.out (by kernel_rfl))
        refine pureA 2 (some 13) #[true, true, true, false, false, false, false, false, false, false, false, false, false, false] ?_ (hc := zdc HT_.out (by kernel_rfl))
        refine pureA 3 (some 14) #[true, true, true, true, false, false, false, false, false, false, false, false, false, false] ?_ (hc := zdc HT_.out (by kernel_rfl))
        refine pureA 4 (some 15) #[true, true, true, true, true, false, false, false, false, false, false, false, false, false] ?_ (hc := zdc HT_.out (by kernel_rfl))
        refine pureA 5 (some 16) #[true, true, true, true, true, true, false, false, false, false, false, false, false, false] ?_ (hc := zdc HT_.out (by kernel_rfl))
        refine pureA 6 (some 17) #[true, true, true, true, true, true, true, false, false, false, false, false, false, false] ?_ (hc := zdc HT_.out (by kernel_rfl))
        refine pureA 8 (some 19) #[true, true, true, true, true, true, true, false, true, false, false, false, false, false] ?_ (hc := zdc HT_.out (by kernel_rfl))
        refine pureA 9 (some 20) #[true, true, true, true, true, true, true, false, true, true, false, false, false, false] ?_ (hc := zdc HT_.out (by kernel_rfl))
        refine one_ (i := 7) (N := some 18) #[true, true, true, true, true, true, true, true, true, true, false, false, false, false] rfl rfl (zxe HT_.out (by kernel_rfl)) (by decide) (fun K hK => ?_)
        refine goes_ Tryz.func41 (by kernel_rfl) rfl #[.string (x0_1.extract 0 (t185 : Int).toNat)] (by rfl) rfl rfl (by (try simp only [List.map_toArray, List.map_cons, List.map_nil]); first | done | rfl | (simp only [List.length_drop, List.length_take]; rfl)) ?_
        with_reducible refine (zeb.calls k1 (x0_1.extract 0 (t185 : Int).toNat) t186 t187 _ A8.out).mono ?_
        rintro e w15 ⟨rfl, hb⟩
        refine ⟨_, rfl, ?_⟩
        replace HO_2 := RB HO_2 hb
        replace HB := BS HB hb
        (try clear hb)
        (try clear hb2)
        (try clear hk)
        (try clear hi)
        refine hK.out _ _ trivial (fun hHeld => ?_)
        clear hK K
        refine norm_ (a' := ?_) ?_ ?_
        rotate_left
        ·show Act.put _ (some 18) _ = _
         simp only [Act.put, List.setIfInBounds_toArray, List.set_cons_zero, List.set_cons_succ, i64_w, i32_w]
         rfl
        refine pureA 10 (some 21) #[true, true, true, true, true, true, true, true, true, true, true, false, false, false] ?_ (hc := zdc HT_.out (by kernel_rfl))
        refine one_ (i := 11) (N := some 22) #[true, true, true, true, true, true, true, true, true, true, true, true, false, false] rfl rfl (zxe HT_.out (by kernel_rfl)) (by decide) (fun K hK => ?_)
        refine zoh (w1 := ?_) (v := ?_) (by rfl) rfl ?_ ?_
        rotate_left 2
        ·go_simp
         constructor
         ·rfl
         ·rfl
        refine hK.out _ _ trivial (fun hHeld => ?_)
        clear hK K
        refine norm_ (a' := ?_) ?_ ?_
        rotate_left
        ·show Act.put _ (some 22) _ = _
         simp only [Act.put, List.setIfInBounds_toArray, List.set_cons_zero, List.set_cons_succ, i64_w, i32_w]
         rfl
        refine one_ (i := 12) (N := some 23) #[true, true, true, true, true, true, true, true, true, true, true, true, true, false] rfl rfl (zxe HT_.out (by kernel_rfl)) (by decide) (fun K hK => ?_)
        refine Kd.R_append_step k52 (w0 := w) w.heap.size (by rfl) (.tmp 11) (.tmp 22) 28 52 (.agg #[(.string ⟨#[]⟩), (.bool false), (.string ⟨#[]⟩), (.int .i64 0)]) 48 rfl Tryz.underlying28 info52 rfl (by decide) (by omega) (.slice Ao14 x2_1.length co14) x2_1 (⟨x0_1.extract 0 (t185 : Int).toNat, (⟨t186, t187⟩ : S31), (x2_1.length : Int)⟩ : S52) [.string (x0_1.extract 0 (t185 : Int).toNat), .bool t186, .string t187, .int .i64 (x2_1.length : Int)] (fun _ => True) (fun _ => False) rfl rfl ?aP (fun _ hk => hk.elim) ?aF ?aO ?aB ?aS ?aL ?_
        (case aP => exact k52_mkM _ _ _ (⟨x0_1.extract 0 (t185 : Int).toNat, (⟨t186, t187⟩ : S31), (x2_1.length : Int)⟩ : S52))
        (case aB => exact (by (with_reducible exact HB.out)))
        (case aF => exact (fun _ _ => trivial))
        (case aO => exact (RW HO_2.out))
        (case aS => exact (zm (by (with_reducible exact HB.out))))
        (case aL => have := LMc9.out; omega)
        intro v189 w16 ho hb hg hat
        rw [← Ny188.out] at ho
        have HO190 := za.mk ho
        replace HB := za.mk hb
        clear HO_2
        clear ho hb hg hat
        refine hK.out _ _ trivial (fun hHeld => ?_)
        clear hK K
        refine norm_ (a' := ?_) ?_ ?_
        rotate_left
        ·show Act.put _ (some 23) _ = _
         simp only [Act.put, List.setIfInBounds_toArray, List.set_cons_zero, List.set_cons_succ, i64_w, i32_w]
         rfl
        refine pureA 13 (some 2) #[true, true, true, true, true, true, true, true, true, true, true, true, true, true] ?_ (hc := zdc HT_.out (by kernel_rfl))
        refine done_ (zdi HT_.out (by kernel_rfl)) ?_
        try go_wp2_with (((with_reducible refine znb (N := 26) rfl ?_); refine zce ?hg (N := 26) ?hd (v := .string (x0_1.extract (t185 : Int).toNat x0_1.size)) (v' := .string y191) ?hr (congrArg Value.string Ny191.out.symm) ?_; (case hd => rfl); (case hg => rfl); (case hr => first | (go_simp; done) | (go_simp; rfl))))
        go_ret2
        exact ⟨_, by rfl, by (with_reducible repeat (first | apply Kd.R_alloc | apply Kd.R_drewN | apply Kd.R_drew)); exact HO190.out, by (with_reducible exact HB.out)⟩
       ·rw [if_neg c12] at H
        have c12b0 : (y191.toList == ([] : List UInt8)) = false := beq_eq_false_iff_ne.mpr c12
        have c12b1 : (y191.toList != ([] : List UInt8)) = true := bne_iff_ne.mpr c12
        try have c12b9 : y191.toList.isEmpty = false := by simpa using c12b0
        by_cases c17 : 0 < (y191.size : Int)
        ·rw [if_pos c17] at H
         have c17b0 : decide (0 < (y191.size : Int)) = true := decide_eq_true c17
         have c17b1 : decide (0 < y191.size) = true := decide_eq_true (by omega)
         clear c17
         by_cases c19 : (bt y191 0) = 46
         ·rw [if_pos c19] at H
          have c19b0 : ((bt y191 0) == 46) = true := beq_iff_eq.mpr c19
          have c19b1 : ((bt y191 0) != 46) = false := bne_eq_false_iff_eq.mpr c19
          clear c19
          by_cases c20 : 1 ≤ (y191.size : Int)
          ·rw [if_pos c20] at H
           have c20b0 := eq_true c20
           have c20b1 : decide (1 ≤ (y191.size : Int)) = true := decide_eq_true c20
           clear c20
           obtain ⟨y192, hy192⟩ : ∃ y_ : ByteArray, y_ = (y191.extract 1 y191.size) := ⟨_, rfl⟩
           replace H : (zp.l0 k1 y192 y188) = some (r1, r2) := by (rw [hy192]; with_reducible exact H)
           have Ny192 := za.mk hy192
           clear hy192
           have H' := za.mk H
           clear H
           try go_wp2_with (((with_reducible refine zw (f := 39) rfl ?_); refine goesA (some 6) Tryz.func39 #[.string x0_1, .func (.func 40) #[] #[]] ?_; (with_reducible refine (E1.zbb.calls k1 x0_1 t185 _ A2.out).mono ?_); rintro e w' ⟨rfl, ⟨nd, rfl⟩⟩; refine ⟨_, rfl, ?_⟩))
           (try (rw [zmf wr]; generalize hq_ : World.drewN wr _ = wr; have n0_ : za (Kd.R k52 52 wr w.heap.size (fun _ => True) u2 x2_1) := ⟨by rw [← hq_]; exact (RW HO_2.out)⟩; have n1_ : za (Below w.heap.size w wr) := ⟨by rw [← hq_]; exact (by (with_reducible apply zd; with_reducible exact HB.out))⟩; clear HO_2 HB hq_; have HO_2 := n0_; have HB := n1_; clear n0_ n1_))
           replace HO_2 := za.mk (Kd.R_drew HO_2.out)
           replace HB := za.mk (zab HB.out)
           obtain ⟨Ao22, co22, eo22⟩ := Kd.R_slice HO_2.out
           (first | subst eo22 | (injection eo22 with f1_ f2_ f3_; have f4_ := f1_.symm; have f5_ := f3_.symm; clear f1_ f2_ f3_; subst f4_; subst f5_))
           refine zuf (n := 14) (S := fun w' => True) (ds := []) #[false, false, false, false, false, false, false, false, false, false, false, false, false, false] (by kernel_rfl) rfl rfl trivial (fun hHeld => ?_); refine zxf zp.tab4 zp.bits4 (fun HT_ HW_ => ?_)
           generalize wr.drew = w21 at HO_2 HB hHeld ⊢
           refine pureA 0 (some 11) #[true, false, false, false, false, false, false, false, false, false, false, false, false, false] ?_ (hc := zdc HT_.out (by kernel_rfl))
           refine pureA 1 (some 12) #[true, true, false, false, false, false, false, false, false, false, false, false, false, false] ?_ (hc := zdc HT_.out (by kernel_rfl))
           refine pureA 2 (some 13) #[true, true, true, false, false, false, false, false, false, false, false, false, false, false] ?_ (hc := zdc HT_.out (by kernel_rfl))
           refine pureA 3 (some 14) #[true, true, true, true, false, false, false, false, false, false, false, false, false, false] ?_ (hc := zdc HT_.out (by kernel_rfl))
           refine pureA 4 (some 15) #[true, true, true, true, true, false, false, false, false, false, false, false, false, false] ?_ (hc := zdc HT_.out (by kernel_rfl))
           refine pureA 5 (some 16) #[true, true, true, true, true, true, false, false, false, false, false, false, false, false] ?_ (hc := zdc HT_.out (by kernel_rfl))
           refine pureA 6 (some 17) #[true, true, true, true, true, true, true, false, false, false, false, false, false, false] ?_ (hc := zdc HT_.out (by kernel_rfl))
           refine pureA 8 (some 19) #[true, true, true, true, true, true, true, false, true, false, false, false, false, false] ?_ (hc := zdc HT_.out (by kernel_rfl))
           refine pureA 9 (some 20) #[true, true, true, true, true, true, true, false, true, true, false, false, false, false] ?_ (hc := zdc HT_.out (by kernel_rfl))
           refine one_ (i := 7) (N := some 18) #[true, true, true, true, true, true, true, true, true, true, false, false, false, false] rfl rfl (zxe HT_.out (by kernel_rfl)) (by decide) (fun K hK => ?_)
           refine goes_ Tryz.func41 (by kernel_rfl) rfl #[.string (x0_1.extract 0 (t185 : Int).toNat)] (by rfl) rfl rfl (by (try simp only [List.map_toArray, List.map_cons, List.map_nil]); first | done | rfl | (simp only [List.length_drop, List.length_take]; rfl)) ?_
           with_reducible refine (zeb.calls k1 (x0_1.extract 0 (t185 : Int).toNat) t186 t187 _ A8.out).mono ?_
           rintro e w23 ⟨rfl, hb⟩
           refine ⟨_, rfl, ?_⟩
           replace HO_2 := RB HO_2 hb
           replace HB := BS HB hb
           (try clear hb)
           (try clear hb2)
           (try clear hk)
           (try clear hi)
           refine hK.out _ _ trivial (fun hHeld => ?_)
           clear hK K
           refine norm_ (a' := ?_) ?_ ?_
           rotate_left
           ·show Act.put _ (some 18) _ = _
            simp only [Act.put, List.setIfInBounds_toArray, List.set_cons_zero, List.set_cons_succ, i64_w, i32_w]
            rfl
           refine pureA 10 (some 21) #[true, true, true, true, true, true, true, true, true, true, true, false, false, false] ?_ (hc := zdc HT_.out (by kernel_rfl))
           refine one_ (i := 11) (N := some 22) #[true, true, true, true, true, true, true, true, true, true, true, true, false, false] rfl rfl (zxe HT_.out (by kernel_rfl)) (by decide) (fun K hK => ?_)
           refine zoh (w1 := ?_) (v := ?_) (by rfl) rfl ?_ ?_
           rotate_left 2
           ·go_simp
            constructor
            ·rfl
            ·rfl
           refine hK.out _ _ trivial (fun hHeld => ?_)
           clear hK K
           refine norm_ (a' := ?_) ?_ ?_
           rotate_left
           ·show Act.put _ (some 22) _ = _
            simp only [Act.put, List.setIfInBounds_toArray, List.set_cons_zero, List.set_cons_succ, i64_w, i32_w]
            rfl
           refine one_ (i := 12) (N := some 23) #[true, true, true, true, true, true, true, true, true, true, true, true, true, false] rfl rfl (zxe HT_.out (by kernel_rfl)) (by decide) (fun K hK => ?_)
           refine Kd.R_append_step k52 (w0 := w) w.heap.size (by rfl) (.tmp 11) (.tmp 22) 28 52 (.agg #[(.string ⟨#[]⟩), (.bool false), (.string ⟨#[]⟩), (.int .i64 0)]) 48 rfl Tryz.underlying28 info52 rfl (by decide) (by omega) (.slice Ao22 x2_1.length co22) x2_1 (⟨x0_1.extract 0 (t185 : Int).toNat, (⟨t186, t187⟩ : S31), (x2_1.length : Int)⟩ : S52) [.string (x0_1.extract 0 (t185 : Int).toNat), .bool t186, .string t187, .int .i64 (x2_1.length : Int)] (fun _ => True) (fun _ => False) rfl rfl ?aP (fun _ hk => hk.elim) ?aF ?aO ?aB ?aS ?aL ?_
           (case aP => exact k52_mkM _ _ _ (⟨x0_1.extract 0 (t185 : Int).toNat, (⟨t186, t187⟩ : S31), (x2_1.length : Int)⟩ : S52))
           (case aB => exact (by (with_reducible exact HB.out)))
           (case aF => exact (fun _ _ => trivial))
           (case aO => exact (RW HO_2.out))
           (case aS => exact (zm (by (with_reducible exact HB.out))))
           (case aL => have := LMc9.out; omega)
           intro v189 w24 ho hb hg hat
           rw [← Ny188.out] at ho
           have HO190 := za.mk ho
           replace HB := za.mk hb
           clear HO_2
           clear ho hb hg hat
           refine hK.out _ _ trivial (fun hHeld => ?_)
           clear hK K
           refine norm_ (a' := ?_) ?_ ?_
           rotate_left
           ·show Act.put _ (some 23) _ = _
            simp only [Act.put, List.setIfInBounds_toArray, List.set_cons_zero, List.set_cons_succ, i64_w, i32_w]
            rfl
           refine pureA 13 (some 2) #[true, true, true, true, true, true, true, true, true, true, true, true, true, true] ?_ (hc := zdc HT_.out (by kernel_rfl))
           refine done_ (zdi HT_.out (by kernel_rfl)) ?_
           try go_wp2_with (first | ((with_reducible refine znb (N := 26) rfl ?_); refine zce ?hg (N := 26) ?hd (v := .string (x0_1.extract (t185 : Int).toNat x0_1.size)) (v' := .string y191) ?hr (congrArg Value.string Ny191.out.symm) ?_; (case hd => rfl); (case hg => rfl); (case hr => first | (go_simp; done) | (go_simp; rfl)); have p18 : 0 ≤ (0 : Int) := (by omega); have q18 : 0 < y191.size := (by have : (0 : Int) < (y191.size : Int) := of_decide_eq_true (by (with_reducible assumption)); omega); have hx18 : ∀ h : 0 < y191.size, ((y191[0]'h).toNat : Int) = bt y191 0 := bt_at y191 0; clear p18; have qi18 : (0 < (y191.size : Int)) = True := eq_true (of_decide_eq_true (by (with_reducible assumption))); replace q18 := eq_true q18) | ((with_reducible refine znb (N := 37) rfl ?_); refine zce ?hg (N := 37) ?hd (v := .string (y191.extract 1 y191.size)) (v' := .string y192) ?hr (congrArg Value.string Ny192.out.symm) ?_; (case hd => rfl); (case hg => rfl); (case hr => first | (go_simp; done) | (go_simp; rfl))))
           go_roundg k1
           case measure => have := HK1.out; omega
           case rel => exact ⟨(y192), (y188), (by rfl), H', ⟨by have := HK1.out; omega⟩, ⟨by (with_reducible repeat (first | apply Kd.R_alloc | apply Kd.R_drewN | apply Kd.R_drew)); exact HO190.out⟩, ⟨by (with_reducible exact HB.out)⟩⟩
          ·rw [if_neg c20] at H
           exact absurd H (by simp)
         ·rw [if_neg c19] at H
          have c19b0 : ((bt y191 0) == 46) = false := beq_eq_false_iff_ne.mpr c19
          have c19b1 : ((bt y191 0) != 46) = true := bne_iff_ne.mpr c19
          simp only [Option.some.injEq, Prod.mk.injEq] at H
          obtain ⟨rfl, rfl⟩ := H
          try go_wp2_with (((with_reducible refine zw (f := 39) rfl ?_); refine goesA (some 6) Tryz.func39 #[.string x0_1, .func (.func 40) #[] #[]] ?_; (with_reducible refine (E1.zbb.calls k1 x0_1 t185 _ A2.out).mono ?_); rintro e w' ⟨rfl, ⟨nd, rfl⟩⟩; refine ⟨_, rfl, ?_⟩))
          (try (rw [zmf wr]; generalize hq_ : World.drewN wr _ = wr; have n0_ : za (Kd.R k52 52 wr w.heap.size (fun _ => True) u2 x2_1) := ⟨by rw [← hq_]; exact (RW HO_2.out)⟩; have n1_ : za (Below w.heap.size w wr) := ⟨by rw [← hq_]; exact (by (with_reducible apply zd; with_reducible exact HB.out))⟩; clear HO_2 HB hq_; have HO_2 := n0_; have HB := n1_; clear n0_ n1_))
          replace HO_2 := za.mk (Kd.R_drew HO_2.out)
          replace HB := za.mk (zab HB.out)
          obtain ⟨Ao26, co26, eo26⟩ := Kd.R_slice HO_2.out
          (first | subst eo26 | (injection eo26 with f1_ f2_ f3_; have f4_ := f1_.symm; have f5_ := f3_.symm; clear f1_ f2_ f3_; subst f4_; subst f5_))
          refine zuf (n := 14) (S := fun w' => True) (ds := []) #[false, false, false, false, false, false, false, false, false, false, false, false, false, false] (by kernel_rfl) rfl rfl trivial (fun hHeld => ?_); refine zxf zp.tab4 zp.bits4 (fun HT_ HW_ => ?_)
          generalize wr.drew = w25 at HO_2 HB hHeld ⊢
          refine pureA 0 (some 11) #[true, false, false, false, false, false, false, false, false, false, false, false, false, false] ?_ (hc := zdc HT_.out (by kernel_rfl))
          refine pureA 1 (some 12) #[true, true, false, false, false, false, false, false, false, false, false, false, false, false] ?_ (hc := zdc HT_.out (by kernel_rfl))
          refine pureA 2 (some 13) #[true, true, true, false, false, false, false, false, false, false, false, false, false, false] ?_ (hc := zdc HT_.out (by kernel_rfl))
          refine pureA 3 (some 14) #[true, true, true, true, false, false, false, false, false, false, false, false, false, false] ?_ (hc := zdc HT_.out (by kernel_rfl))
          refine pureA 4 (some 15) #[true, true, true, true, true, false, false, false, false, false, false, false, false, false] ?_ (hc := zdc HT_.out (by kernel_rfl))
          refine pureA 5 (some 16) #[true, true, true, true, true, true, false, false, false, false, false, false, false, false] ?_ (hc := zdc HT_.out (by kernel_rfl))
          refine pureA 6 (some 17) #[true, true, true, true, true, true, true, false, false, false, false, false, false, false] ?_ (hc := zdc HT_.out (by kernel_rfl))
          refine pureA 8 (some 19) #[true, true, true, true, true, true, true, false, true, false, false, false, false, false] ?_ (hc := zdc HT_.out (by kernel_rfl))
          refine pureA 9 (some 20) #[true, true, true, true, true, true, true, false, true, true, false, false, false, false] ?_ (hc := zdc HT_.out (by kernel_rfl))
          refine one_ (i := 7) (N := some 18) #[true, true, true, true, true, true, true, true, true, true, false, false, false, false] rfl rfl (zxe HT_.out (by kernel_rfl)) (by decide) (fun K hK => ?_)
          refine goes_ Tryz.func41 (by kernel_rfl) rfl #[.string (x0_1.extract 0 (t185 : Int).toNat)] (by rfl) rfl rfl (by (try simp only [List.map_toArray, List.map_cons, List.map_nil]); first | done | rfl | (simp only [List.length_drop, List.length_take]; rfl)) ?_
          with_reducible refine (zeb.calls k1 (x0_1.extract 0 (t185 : Int).toNat) t186 t187 _ A8.out).mono ?_
          rintro e w27 ⟨rfl, hb⟩
          refine ⟨_, rfl, ?_⟩
          replace HO_2 := RB HO_2 hb
          replace HB := BS HB hb
          (try clear hb)
          (try clear hb2)
          (try clear hk)
          (try clear hi)
          refine hK.out _ _ trivial (fun hHeld => ?_)
          clear hK K
          refine norm_ (a' := ?_) ?_ ?_
          rotate_left
          ·show Act.put _ (some 18) _ = _
           simp only [Act.put, List.setIfInBounds_toArray, List.set_cons_zero, List.set_cons_succ, i64_w, i32_w]
           rfl
          refine pureA 10 (some 21) #[true, true, true, true, true, true, true, true, true, true, true, false, false, false] ?_ (hc := zdc HT_.out (by kernel_rfl))
          refine one_ (i := 11) (N := some 22) #[true, true, true, true, true, true, true, true, true, true, true, true, false, false] rfl rfl (zxe HT_.out (by kernel_rfl)) (by decide) (fun K hK => ?_)
          refine zoh (w1 := ?_) (v := ?_) (by rfl) rfl ?_ ?_
          rotate_left 2
          ·go_simp
           constructor
           ·rfl
           ·rfl
          refine hK.out _ _ trivial (fun hHeld => ?_)
          clear hK K
          refine norm_ (a' := ?_) ?_ ?_
          rotate_left
          ·show Act.put _ (some 22) _ = _
           simp only [Act.put, List.setIfInBounds_toArray, List.set_cons_zero, List.set_cons_succ, i64_w, i32_w]
           rfl
          refine one_ (i := 12) (N := some 23) #[true, true, true, true, true, true, true, true, true, true, true, true, true, false] rfl rfl (zxe HT_.out (by kernel_rfl)) (by decide) (fun K hK => ?_)
          refine Kd.R_append_step k52 (w0 := w) w.heap.size (by rfl) (.tmp 11) (.tmp 22) 28 52 (.agg #[(.string ⟨#[]⟩), (.bool false), (.string ⟨#[]⟩), (.int .i64 0)]) 48 rfl Tryz.underlying28 info52 rfl (by decide) (by omega) (.slice Ao26 x2_1.length co26) x2_1 (⟨x0_1.extract 0 (t185 : Int).toNat, (⟨t186, t187⟩ : S31), (x2_1.length : Int)⟩ : S52) [.string (x0_1.extract 0 (t185 : Int).toNat), .bool t186, .string t187, .int .i64 (x2_1.length : Int)] (fun _ => True) (fun _ => False) rfl rfl ?aP (fun _ hk => hk.elim) ?aF ?aO ?aB ?aS ?aL ?_
          (case aP => exact k52_mkM _ _ _ (⟨x0_1.extract 0 (t185 : Int).toNat, (⟨t186, t187⟩ : S31), (x2_1.length : Int)⟩ : S52))
          (case aB => exact (by (with_reducible exact HB.out)))
          (case aF => exact (fun _ _ => trivial))
          (case aO => exact (RW HO_2.out))
          (case aS => exact (zm (by (with_reducible exact HB.out))))
          (case aL => have := LMc9.out; omega)
          intro v189 w28 ho hb hg hat
          rw [← Ny188.out] at ho
          have HO190 := za.mk ho
          replace HB := za.mk hb
          clear HO_2
          clear ho hb hg hat
          refine hK.out _ _ trivial (fun hHeld => ?_)
          clear hK K
          refine norm_ (a' := ?_) ?_ ?_
          rotate_left
          ·show Act.put _ (some 23) _ = _
           simp only [Act.put, List.setIfInBounds_toArray, List.set_cons_zero, List.set_cons_succ, i64_w, i32_w]
           rfl
          refine pureA 13 (some 2) #[true, true, true, true, true, true, true, true, true, true, true, true, true, true] ?_ (hc := zdc HT_.out (by kernel_rfl))
          refine done_ (zdi HT_.out (by kernel_rfl)) ?_
          try go_wp2_with (((with_reducible refine znb (N := 26) rfl ?_); refine zce ?hg (N := 26) ?hd (v := .string (x0_1.extract (t185 : Int).toNat x0_1.size)) (v' := .string y191) ?hr (congrArg Value.string Ny191.out.symm) ?_; (case hd => rfl); (case hg => rfl); (case hr => first | (go_simp; done) | (go_simp; rfl)); have p18 : 0 ≤ (0 : Int) := (by omega); have q18 : 0 < y191.size := (by have : (0 : Int) < (y191.size : Int) := of_decide_eq_true (by (with_reducible assumption)); omega); have hx18 : ∀ h : 0 < y191.size, ((y191[0]'h).toNat : Int) = bt y191 0 := bt_at y191 0; clear p18; have qi18 : (0 < (y191.size : Int)) = True := eq_true (of_decide_eq_true (by (with_reducible assumption))); replace q18 := eq_true q18))
          go_ret2
          exact ⟨_, by rfl, by (with_reducible repeat (first | apply Kd.R_alloc | apply Kd.R_drewN | apply Kd.R_drew)); exact HO190.out, by (with_reducible exact HB.out)⟩
        ·rw [if_neg c17] at H
         exact absurd H (by simp)
      ·rw [if_neg c9] at H
       exact absurd H (by simp)
     ·rw [if_neg c5] at H
      exact absurd H (by simp)
    ·rw [if_neg c4] at H
     exact absurd H (by simp)
def zze.f  : Option (List ByteArray) := some (([(⟨#[97, 108, 112, 104, 97]⟩ : ByteArray), (⟨#[98, 101, 116, 97]⟩ : ByteArray), (⟨#[112, 114, 101]⟩ : ByteArray), (⟨#[114, 99]⟩ : ByteArray), (⟨#[99, 118, 115]⟩ : ByteArray), (⟨#[115, 118, 110]⟩ : ByteArray), (⟨#[103, 105, 116]⟩ : ByteArray), (⟨#[104, 103]⟩ : ByteArray), (⟨#[112]⟩ : ByteArray)] : List ByteArray))
theorem zze.calls  (r : List ByteArray) (w : World) (h : zze.f  = some r) :
  Calls Tryz.prog 47 #[] w fun e w' => ∃ v0_ : Value, e = .returned (v0_) ∧ Kd.R Kd.string 9 w' w.heap.size (fun _ => True) v0_ r ∧ Below w.heap.size w w' := by
 have HB := za.mk (Below.refl w.heap.size w)
 have H : (some (([(⟨#[97, 108, 112, 104, 97]⟩ : ByteArray), (⟨#[98, 101, 116, 97]⟩ : ByteArray), (⟨#[112, 114, 101]⟩ : ByteArray), (⟨#[114, 99]⟩ : ByteArray), (⟨#[99, 118, 115]⟩ : ByteArray), (⟨#[115, 118, 110]⟩ : ByteArray), (⟨#[103, 105, 116]⟩ : ByteArray), (⟨#[104, 103]⟩ : ByteArray), (⟨#[112]⟩ : ByteArray)] : List ByteArray))) = some r := h
 clear h
 obtain ⟨y193, hy193⟩ : ∃ y_ : List ByteArray, y_ = (([(⟨#[97, 108, 112, 104, 97]⟩ : ByteArray), (⟨#[98, 101, 116, 97]⟩ : ByteArray), (⟨#[112, 114, 101]⟩ : ByteArray), (⟨#[114, 99]⟩ : ByteArray), (⟨#[99, 118, 115]⟩ : ByteArray), (⟨#[115, 118, 110]⟩ : ByteArray), (⟨#[103, 105, 116]⟩ : ByteArray), (⟨#[104, 103]⟩ : ByteArray), (⟨#[112]⟩ : ByteArray)] : List ByteArray)) := ⟨_, rfl⟩
 replace H : (some y193) = some r := by (rw [hy193]; with_reducible exact H)
 have Ny193 := za.mk hy193
 clear hy193
 obtain rfl := Option.some.inj H
 go_enter Tryz.func47, Tryz.ntmps47
 go_wp2_with (((with_reducible refine znb (N := 1) rfl ?_); refine Kd.R_lit Kd.string _ 9 ?hg (N := 1) ?hd (xs := ([(⟨#[97, 108, 112, 104, 97]⟩ : ByteArray), (⟨#[98, 101, 116, 97]⟩ : ByteArray), (⟨#[112, 114, 101]⟩ : ByteArray), (⟨#[114, 99]⟩ : ByteArray), (⟨#[99, 118, 115]⟩ : ByteArray), (⟨#[115, 118, 110]⟩ : ByteArray), (⟨#[103, 105, 116]⟩ : ByteArray), (⟨#[104, 103]⟩ : ByteArray), (⟨#[112]⟩ : ByteArray)] : List ByteArray)) (inner := [.string (⟨#[97, 108, 112, 104, 97]⟩ : ByteArray), .string (⟨#[98, 101, 116, 97]⟩ : ByteArray), .string (⟨#[112, 114, 101]⟩ : ByteArray), .string (⟨#[114, 99]⟩ : ByteArray), .string (⟨#[99, 118, 115]⟩ : ByteArray), .string (⟨#[115, 118, 110]⟩ : ByteArray), .string (⟨#[103, 105, 116]⟩ : ByteArray), .string (⟨#[104, 103]⟩ : ByteArray), .string (⟨#[112]⟩ : ByteArray)]) (ok := fun _ => True) (okp := fun _ => True) ?hr ?hp (fun _ hk => hk) trivial (Below.refl _ _) (Nat.le_refl _) (by simp) ?_; (case hd => rfl); (case hg => rfl); (case hr => first | (go_simp; done) | (go_simp; rfl)); (case hp => exact (Reps.one (show Kd.M Kd.string _ _ _ (⟨#[97, 108, 112, 104, 97]⟩ : ByteArray) [.string (⟨#[97, 108, 112, 104, 97]⟩ : ByteArray)] from rfl) (Reps.one (show Kd.M Kd.string _ _ _ (⟨#[98, 101, 116, 97]⟩ : ByteArray) [.string (⟨#[98, 101, 116, 97]⟩ : ByteArray)] from rfl) (Reps.one (show Kd.M Kd.string _ _ _ (⟨#[112, 114, 101]⟩ : ByteArray) [.string (⟨#[112, 114, 101]⟩ : ByteArray)] from rfl) (Reps.one (show Kd.M Kd.string _ _ _ (⟨#[114, 99]⟩ : ByteArray) [.string (⟨#[114, 99]⟩ : ByteArray)] from rfl) (Reps.one (show Kd.M Kd.string _ _ _ (⟨#[99, 118, 115]⟩ : ByteArray) [.string (⟨#[99, 118, 115]⟩ : ByteArray)] from rfl) (Reps.one (show Kd.M Kd.string _ _ _ (⟨#[115, 118, 110]⟩ : ByteArray) [.string (⟨#[115, 118, 110]⟩ : ByteArray)] from rfl) (Reps.one (show Kd.M Kd.string _ _ _ (⟨#[103, 105, 116]⟩ : ByteArray) [.string (⟨#[103, 105, 116]⟩ : ByteArray)] from rfl) (Reps.one (show Kd.M Kd.string _ _ _ (⟨#[104, 103]⟩ : ByteArray) [.string (⟨#[104, 103]⟩ : ByteArray)] from rfl) (Reps.one (show Kd.M Kd.string _ _ _ (⟨#[112]⟩ : ByteArray) [.string (⟨#[112]⟩ : ByteArray)] from rfl) (Reps.none _ _))))))))))); intro v194 w1 ho2 hb hg_ hnew_; clear hg_ hnew_; (first | rw [← Ny193.out] at ho2 | (simp only [Int.reduceToNat] at ho2; rw [← Ny193.out] at ho2)); have HO195 := za.mk (Kd.R_lower ho2 (zm (by (with_reducible exact HB.out)))); replace HB := BS HB hb; clear hb ho2))
 go_ret
 exact ⟨_, by rfl, by (with_reducible repeat (first | apply Kd.R_alloc | apply Kd.R_drewN | apply Kd.R_drew)); exact HO195.out, by (with_reducible exact HB.out)⟩
end Go.Proofs.YtapaijpglfmfgaaGreatDoor.Q
end
section
namespace Go.Proofs.YtapaijpglfmfgaaGreatDoor.Q
open Go.RowKit YtapaijpglfmfgaaGreatDoorH YtapaijpglfmfgaaGreatDoorG YtapaijpglfmfgaaGreatDoorW.PrintWords YtapaijpglfmfgaaGreatDoorW.PrintLast YtapaijpglfmfgaaGreatDoorW.PrintMore YtapaijpglfmfgaaGreatDoorC
attribute [local go_sem] zfd zjd ztd zud zsc ztc zgd zkd
def zac.l0 : Nat → ByteArray → List ByteArray → Int → Option (ByteArray)
 | 0, _, _, _ => none
 | k + 1, x0, x3, x4 => if x4 < (x3.length : Int) then (if 0 ≤ x4 then (if (x0.size : Int) > ((rdOf ByteArray.empty x3 x4).size : Int) then (if 0 < (x0.size : Int) then (if (bt x0 0) = 95 then (if 1 ≤ (wrap64 (((rdOf ByteArray.empty x3 x4).size : Int) + 1)) then (if (wrap64 (((rdOf ByteArray.empty x3 x4).size : Int) + 1)) ≤ (x0.size : Int) then (if (x0.extract 1 ((wrap64 (((rdOf ByteArray.empty x3 x4).size : Int) + 1)) : Int).toNat).toList = (rdOf ByteArray.empty x3 x4).toList then (some (rdOf ByteArray.empty x3 x4)) else (zac.l0 k x0 x3 (wrap64 (x4 + 1)))) else (none)) else (none)) else (zac.l0 k x0 x3 (wrap64 (x4 + 1)))) else (none)) else (zac.l0 k x0 x3 (wrap64 (x4 + 1)))) else (none)) else (some (⟨#[]⟩ : ByteArray))
def zac.f (k : Nat) (a0 : ByteArray) : Option (ByteArray) := (zze.f).bind fun t196 => (zac.l0 k a0 t196 0)
theorem zac.calls (k : Nat) (a0 : ByteArray) (r : ByteArray) (w : World) (h : zac.f k a0 = some r) :
  Calls Tryz.prog 27 #[.string a0] w fun e w' => e = .returned (.string r) ∧ Below w.heap.size w w' := by
 have HB := za.mk (Below.refl w.heap.size w)
 have H : ((zze.f).bind fun t196 => (zac.l0 k a0 t196 0)) = some r := h
 clear h
 replace H := Option.bind_eq_some_iff.mp H
 obtain ⟨t196, A20, H⟩ := H
 replace H : (zac.l0 k a0 t196 0) = some r := H
 have A2 := za.mk A20
 clear A20
 have H' := za.mk H
 clear H
 go_enter Tryz.func27, Tryz.ntmps27
 go_wp2_with ((go_at_call 47; (with_reducible refine (zze.calls  t196 _ A2.out).mono ?_); rintro e w3 ⟨v197, rfl, ho0, hb⟩; have HO198 := za.mk (Kd.R_lower ho0 (zm (by (with_reducible exact HB.out)))); replace HB := BS HB hb; (try clear hb); (try clear hb2); (try clear hk); (try clear hi); (try clear ho0)))
 repeat (go_quiet (fail); try go_wp2_with (fail))
 (try simp only [Act.put, List.setIfInBounds_toArray, List.set_cons_zero, List.set_cons_succ])
 go_loopg [4] k (fun kq v4 w' => ∃ (x4_1 : Int), v4 = .int .i64 x4_1 ∧ za (zac.l0 kq a0 t196 x4_1 = some r) ∧ za (kq ≤ k) ∧ za (Kd.R Kd.string 9 w' w.heap.size (fun _ => True) v197 t196) ∧ za (Below w.heap.size w w'))
 case atStart => exact ⟨(0), (by rfl), H', ⟨Nat.le_refl _⟩, ⟨by (with_reducible repeat (first | apply Kd.R_alloc | apply Kd.R_drewN | apply Kd.R_drew)); exact HO198.out⟩, ⟨by (with_reducible exact HB.out)⟩⟩
 case round =>
  clear H'
  obtain ⟨x4_1, rfl, HA, HK1, HO_3, HB⟩ := hrel
  cases gk with
  | zero => exact absurd HA.out (by simp [zac.l0])
  | succ k1 =>
   have H := HA.out
   clear HA
   simp only [zac.l0] at H
   by_cases c4 : x4_1 < (t196.length : Int)
   ·rw [if_pos c4] at H
    have c4b0 : decide (x4_1 < (t196.length : Int)) = true := decide_eq_true c4
    clear c4
    by_cases c5 : 0 ≤ x4_1
    ·rw [if_pos c5] at H
     have c5b0 : decide (0 ≤ x4_1) = true := decide_eq_true c5
     clear c5
     by_cases c6 : (a0.size : Int) > ((rdOf ByteArray.empty t196 x4_1).size : Int)
     ·rw [if_pos c6] at H
      have c6b0 : decide (((rdOf ByteArray.empty t196 x4_1).size : Int) < (a0.size : Int)) = true := decide_eq_true c6
      have c6b1 : decide ((rdOf ByteArray.empty t196 x4_1).size < a0.size) = true := decide_eq_true (Int.ofNat_lt.mp c6)
      clear c6
      by_cases c7 : 0 < (a0.size : Int)
      ·rw [if_pos c7] at H
       have c7b0 : decide (0 < (a0.size : Int)) = true := decide_eq_true c7
       have c7b1 : decide (0 < a0.size) = true := decide_eq_true (by omega)
       clear c7
       by_cases c9 : (bt a0 0) = 95
       ·rw [if_pos c9] at H
        have c9b0 : ((bt a0 0) == 95) = true := beq_iff_eq.mpr c9
        have c9b1 : ((bt a0 0) != 95) = false := bne_eq_false_iff_eq.mpr c9
        clear c9
        by_cases c10 : 1 ≤ (wrap64 (((rdOf ByteArray.empty t196 x4_1).size : Int) + 1))
        ·rw [if_pos c10] at H
         have c10b0 := eq_true c10
         have c10b1 : decide (1 ≤ (wrap64 (((rdOf ByteArray.empty t196 x4_1).size : Int) + 1))) = true := decide_eq_true c10
         by_cases c11 : (wrap64 (((rdOf ByteArray.empty t196 x4_1).size : Int) + 1)) ≤ (a0.size : Int)
         ·rw [if_pos c11] at H
          have c11b0 := eq_true c11
          have c11b1 : decide ((wrap64 (((rdOf ByteArray.empty t196 x4_1).size : Int) + 1)) ≤ (a0.size : Int)) = true := decide_eq_true c11
          by_cases c12 : (a0.extract 1 ((wrap64 (((rdOf ByteArray.empty t196 x4_1).size : Int) + 1)) : Int).toNat).toList = (rdOf ByteArray.empty t196 x4_1).toList
          ·rw [if_pos c12] at H
           have c12b0 : ((a0.extract 1 ((wrap64 (((rdOf ByteArray.empty t196 x4_1).size : Int) + 1)) : Int).toNat).toList == (rdOf ByteArray.empty t196 x4_1).toList) = true := beq_iff_eq.mpr c12
           have c12b1 : ((a0.extract 1 ((wrap64 (((rdOf ByteArray.empty t196 x4_1).size : Int) + 1)) : Int).toNat).toList != (rdOf ByteArray.empty t196 x4_1).toList) = false := bne_eq_false_iff_eq.mpr c12
           clear c12
           obtain rfl := Option.some.inj H
           obtain ⟨Ao13, co13, eo13⟩ := Kd.R_slice HO_3.out
           subst eo13
           have p199 : 0 ≤ (x4_1 : Int) := of_decide_eq_true (by (with_reducible assumption))
           have q199 : x4_1 < (t196.length : Int) := of_decide_eq_true (by (with_reducible assumption))
           obtain ⟨ad199, e199, hx199_0⟩ := Kd.at_string (Kd.R_reads' HO_3.out).2.2 x4_1 p199 q199
           cases e199
           replace p199 := eq_true p199
           replace q199 := eq_true q199
           have p8 : 0 ≤ (0 : Int) := (by omega)
           have q8 : 0 < a0.size := (by have : (0 : Int) < (a0.size : Int) := of_decide_eq_true (by (with_reducible assumption)); omega)
           have hx8 : ∀ h : 0 < a0.size, ((a0[0]'h).toNat : Int) = bt a0 0 := bt_at a0 0
           clear p8
           have qi8 : (0 < (a0.size : Int)) = True := eq_true (of_decide_eq_true (by (with_reducible assumption)))
           replace q8 := eq_true q8
           have p200 : 0 ≤ (x4_1 : Int) := of_decide_eq_true (by (with_reducible assumption))
           have q200 : x4_1 < (t196.length : Int) := of_decide_eq_true (by (with_reducible assumption))
           obtain ⟨ad200, e200, hx200_0⟩ := Kd.at_string (Kd.R_reads' HO_3.out).2.2 x4_1 p200 q200
           obtain rfl : ad199 = ad200 := (by injection e200)
           replace p200 := eq_true p200
           replace q200 := eq_true q200
           have p201 : 0 ≤ (x4_1 : Int) := of_decide_eq_true (by (with_reducible assumption))
           have q201 : x4_1 < (t196.length : Int) := of_decide_eq_true (by (with_reducible assumption))
           obtain ⟨ad201, e201, hx201_0⟩ := Kd.at_string (Kd.R_reads' HO_3.out).2.2 x4_1 p201 q201
           obtain rfl : ad199 = ad201 := (by injection e201)
           replace p201 := eq_true p201
           replace q201 := eq_true q201
           have p202 : 0 ≤ (x4_1 : Int) := of_decide_eq_true (by (with_reducible assumption))
           have q202 : x4_1 < (t196.length : Int) := of_decide_eq_true (by (with_reducible assumption))
           obtain ⟨ad202, e202, hx202_0⟩ := Kd.at_string (Kd.R_reads' HO_3.out).2.2 x4_1 p202 q202
           obtain rfl : ad199 = ad202 := (by injection e202)
           replace p202 := eq_true p202
           replace q202 := eq_true q202
           go_wp2
           repeat (go_quiet (fail); try go_wp2)
           go_ret
           exact ⟨by rfl, by (with_reducible apply zd; with_reducible exact HB.out)⟩
          ·rw [if_neg c12] at H
           have c12b0 : ((a0.extract 1 ((wrap64 (((rdOf ByteArray.empty t196 x4_1).size : Int) + 1)) : Int).toNat).toList == (rdOf ByteArray.empty t196 x4_1).toList) = false := beq_eq_false_iff_ne.mpr c12
           have c12b1 : ((a0.extract 1 ((wrap64 (((rdOf ByteArray.empty t196 x4_1).size : Int) + 1)) : Int).toNat).toList != (rdOf ByteArray.empty t196 x4_1).toList) = true := bne_iff_ne.mpr c12
           have H' := za.mk H
           clear H
           obtain ⟨Ao14, co14, eo14⟩ := Kd.R_slice HO_3.out
           subst eo14
           have p199 : 0 ≤ (x4_1 : Int) := of_decide_eq_true (by (with_reducible assumption))
           have q199 : x4_1 < (t196.length : Int) := of_decide_eq_true (by (with_reducible assumption))
           obtain ⟨ad199, e199, hx199_0⟩ := Kd.at_string (Kd.R_reads' HO_3.out).2.2 x4_1 p199 q199
           cases e199
           replace p199 := eq_true p199
           replace q199 := eq_true q199
           have p8 : 0 ≤ (0 : Int) := (by omega)
           have q8 : 0 < a0.size := (by have : (0 : Int) < (a0.size : Int) := of_decide_eq_true (by (with_reducible assumption)); omega)
           have hx8 : ∀ h : 0 < a0.size, ((a0[0]'h).toNat : Int) = bt a0 0 := bt_at a0 0
           clear p8
           have qi8 : (0 < (a0.size : Int)) = True := eq_true (of_decide_eq_true (by (with_reducible assumption)))
           replace q8 := eq_true q8
           have p200 : 0 ≤ (x4_1 : Int) := of_decide_eq_true (by (with_reducible assumption))
           have q200 : x4_1 < (t196.length : Int) := of_decide_eq_true (by (with_reducible assumption))
           obtain ⟨ad200, e200, hx200_0⟩ := Kd.at_string (Kd.R_reads' HO_3.out).2.2 x4_1 p200 q200
           obtain rfl : ad199 = ad200 := (by injection e200)
           replace p200 := eq_true p200
           replace q200 := eq_true q200
           have p201 : 0 ≤ (x4_1 : Int) := of_decide_eq_true (by (with_reducible assumption))
           have q201 : x4_1 < (t196.length : Int) := of_decide_eq_true (by (with_reducible assumption))
           obtain ⟨ad201, e201, hx201_0⟩ := Kd.at_string (Kd.R_reads' HO_3.out).2.2 x4_1 p201 q201
           obtain rfl : ad199 = ad201 := (by injection e201)
           replace p201 := eq_true p201
           replace q201 := eq_true q201
           go_wp2
           repeat (go_quiet (fail); try go_wp2)
           go_roundg k1
           case measure => have := HK1.out; omega
           case rel => exact ⟨(wrap64 (x4_1 + 1)), (by rfl), H', ⟨by have := HK1.out; omega⟩, ⟨by (with_reducible repeat (first | apply Kd.R_alloc | apply Kd.R_drewN | apply Kd.R_drew)); exact HO_3.out⟩, ⟨by (with_reducible apply zd; with_reducible exact HB.out)⟩⟩
         ·rw [if_neg c11] at H
          exact absurd H (by simp)
        ·rw [if_neg c10] at H
         exact absurd H (by simp)
       ·rw [if_neg c9] at H
        have c9b0 : ((bt a0 0) == 95) = false := beq_eq_false_iff_ne.mpr c9
        have c9b1 : ((bt a0 0) != 95) = true := bne_iff_ne.mpr c9
        have H' := za.mk H
        clear H
        obtain ⟨Ao15, co15, eo15⟩ := Kd.R_slice HO_3.out
        subst eo15
        have p199 : 0 ≤ (x4_1 : Int) := of_decide_eq_true (by (with_reducible assumption))
        have q199 : x4_1 < (t196.length : Int) := of_decide_eq_true (by (with_reducible assumption))
        obtain ⟨ad199, e199, hx199_0⟩ := Kd.at_string (Kd.R_reads' HO_3.out).2.2 x4_1 p199 q199
        cases e199
        replace p199 := eq_true p199
        replace q199 := eq_true q199
        have p8 : 0 ≤ (0 : Int) := (by omega)
        have q8 : 0 < a0.size := (by have : (0 : Int) < (a0.size : Int) := of_decide_eq_true (by (with_reducible assumption)); omega)
        have hx8 : ∀ h : 0 < a0.size, ((a0[0]'h).toNat : Int) = bt a0 0 := bt_at a0 0
        clear p8
        have qi8 : (0 < (a0.size : Int)) = True := eq_true (of_decide_eq_true (by (with_reducible assumption)))
        replace q8 := eq_true q8
        go_wp2
        repeat (go_quiet (fail); try go_wp2)
        go_roundg k1
        case measure => have := HK1.out; omega
        case rel => exact ⟨(wrap64 (x4_1 + 1)), (by rfl), H', ⟨by have := HK1.out; omega⟩, ⟨by (with_reducible repeat (first | apply Kd.R_alloc | apply Kd.R_drewN | apply Kd.R_drew)); exact HO_3.out⟩, ⟨by (with_reducible apply zd; with_reducible exact HB.out)⟩⟩
      ·rw [if_neg c7] at H
       exact absurd H (by simp)
     ·rw [if_neg c6] at H
      have c6b0 : decide (((rdOf ByteArray.empty t196 x4_1).size : Int) < (a0.size : Int)) = false := decide_eq_false c6
      have c6b1 : decide ((rdOf ByteArray.empty t196 x4_1).size < a0.size) = false := decide_eq_false (fun h => c6 (Int.ofNat_lt.mpr h))
      clear c6
      have H' := za.mk H
      clear H
      obtain ⟨Ao16, co16, eo16⟩ := Kd.R_slice HO_3.out
      subst eo16
      have p199 : 0 ≤ (x4_1 : Int) := of_decide_eq_true (by (with_reducible assumption))
      have q199 : x4_1 < (t196.length : Int) := of_decide_eq_true (by (with_reducible assumption))
      obtain ⟨ad199, e199, hx199_0⟩ := Kd.at_string (Kd.R_reads' HO_3.out).2.2 x4_1 p199 q199
      cases e199
      replace p199 := eq_true p199
      replace q199 := eq_true q199
      go_wp2
      repeat (go_quiet (fail); try go_wp2)
      go_roundg k1
      case measure => have := HK1.out; omega
      case rel => exact ⟨(wrap64 (x4_1 + 1)), (by rfl), H', ⟨by have := HK1.out; omega⟩, ⟨by (with_reducible repeat (first | apply Kd.R_alloc | apply Kd.R_drewN | apply Kd.R_drew)); exact HO_3.out⟩, ⟨by (with_reducible apply zd; with_reducible exact HB.out)⟩⟩
    ·rw [if_neg c5] at H
     exact absurd H (by simp)
   ·rw [if_neg c4] at H
    have c4b0 : decide (x4_1 < (t196.length : Int)) = false := decide_eq_false c4
    clear c4
    obtain rfl := Option.some.inj H
    obtain ⟨Ao17, co17, eo17⟩ := Kd.R_slice HO_3.out
    subst eo17
    go_wp2
    repeat (go_quiet (fail); try go_wp2)
    go_ret
    exact ⟨by rfl, by (with_reducible exact HB.out)⟩
def zlb.l0 : Nat → ByteArray → List ByteArray → Int → Option (Int)
 | 0, _, _, _ => none
 | k + 1, x0, x3, x4 => if x4 < (x3.length : Int) then (if 0 ≤ x4 then (if (rdOf ByteArray.empty x3 x4).toList = x0.toList then (some x4) else (zlb.l0 k x0 x3 (wrap64 (x4 + 1)))) else (none)) else (some (x3.length : Int))
def zlb.f (k : Nat) (a0 : ByteArray) : Option (Int) := zlb.l0 k a0 (([(⟨#[97, 108, 112, 104, 97]⟩ : ByteArray), (⟨#[98, 101, 116, 97]⟩ : ByteArray), (⟨#[112, 114, 101]⟩ : ByteArray), (⟨#[114, 99]⟩ : ByteArray), (⟨#[]⟩ : ByteArray), (⟨#[99, 118, 115]⟩ : ByteArray), (⟨#[115, 118, 110]⟩ : ByteArray), (⟨#[103, 105, 116]⟩ : ByteArray), (⟨#[104, 103]⟩ : ByteArray)] : List ByteArray)) 0
theorem zlb.calls (k : Nat) (a0 : ByteArray) (r : Int) (w : World) (h : zlb.f k a0 = some r) :
  Calls Tryz.prog 46 #[.string a0] w fun e w' => e = .returned (.int .i64 r) ∧ Below w.heap.size w w' := by
 have HB := za.mk (Below.refl w.heap.size w)
 have H : (zlb.l0 k a0 (([(⟨#[97, 108, 112, 104, 97]⟩ : ByteArray), (⟨#[98, 101, 116, 97]⟩ : ByteArray), (⟨#[112, 114, 101]⟩ : ByteArray), (⟨#[114, 99]⟩ : ByteArray), (⟨#[]⟩ : ByteArray), (⟨#[99, 118, 115]⟩ : ByteArray), (⟨#[115, 118, 110]⟩ : ByteArray), (⟨#[103, 105, 116]⟩ : ByteArray), (⟨#[104, 103]⟩ : ByteArray)] : List ByteArray)) 0) = some r := h
 clear h
 obtain ⟨y203, hy203⟩ : ∃ y_ : List ByteArray, y_ = (([(⟨#[97, 108, 112, 104, 97]⟩ : ByteArray), (⟨#[98, 101, 116, 97]⟩ : ByteArray), (⟨#[112, 114, 101]⟩ : ByteArray), (⟨#[114, 99]⟩ : ByteArray), (⟨#[]⟩ : ByteArray), (⟨#[99, 118, 115]⟩ : ByteArray), (⟨#[115, 118, 110]⟩ : ByteArray), (⟨#[103, 105, 116]⟩ : ByteArray), (⟨#[104, 103]⟩ : ByteArray)] : List ByteArray)) := ⟨_, rfl⟩
 replace H : (zlb.l0 k a0 y203 0) = some r := by (rw [hy203]; with_reducible exact H)
 have Ny203 := za.mk hy203
 clear hy203
 have H' := za.mk H
 clear H
 go_enter Tryz.func46, Tryz.ntmps46
 go_wp2_with (((with_reducible refine znb (N := 5) rfl ?_); refine Kd.R_lit Kd.string _ 9 ?hg (N := 5) ?hd (xs := ([(⟨#[97, 108, 112, 104, 97]⟩ : ByteArray), (⟨#[98, 101, 116, 97]⟩ : ByteArray), (⟨#[112, 114, 101]⟩ : ByteArray), (⟨#[114, 99]⟩ : ByteArray), (⟨#[]⟩ : ByteArray), (⟨#[99, 118, 115]⟩ : ByteArray), (⟨#[115, 118, 110]⟩ : ByteArray), (⟨#[103, 105, 116]⟩ : ByteArray), (⟨#[104, 103]⟩ : ByteArray)] : List ByteArray)) (inner := [.string (⟨#[97, 108, 112, 104, 97]⟩ : ByteArray), .string (⟨#[98, 101, 116, 97]⟩ : ByteArray), .string (⟨#[112, 114, 101]⟩ : ByteArray), .string (⟨#[114, 99]⟩ : ByteArray), .string ⟨#[]⟩, .string (⟨#[99, 118, 115]⟩ : ByteArray), .string (⟨#[115, 118, 110]⟩ : ByteArray), .string (⟨#[103, 105, 116]⟩ : ByteArray), .string (⟨#[104, 103]⟩ : ByteArray)]) (ok := fun _ => True) (okp := fun _ => True) ?hr ?hp (fun _ hk => hk) trivial (Below.refl _ _) (Nat.le_refl _) (by simp) ?_; (case hd => rfl); (case hg => rfl); (case hr => first | (go_simp; done) | (go_simp; rfl)); (case hp => exact (Reps.one (show Kd.M Kd.string _ _ _ (⟨#[97, 108, 112, 104, 97]⟩ : ByteArray) [.string (⟨#[97, 108, 112, 104, 97]⟩ : ByteArray)] from rfl) (Reps.one (show Kd.M Kd.string _ _ _ (⟨#[98, 101, 116, 97]⟩ : ByteArray) [.string (⟨#[98, 101, 116, 97]⟩ : ByteArray)] from rfl) (Reps.one (show Kd.M Kd.string _ _ _ (⟨#[112, 114, 101]⟩ : ByteArray) [.string (⟨#[112, 114, 101]⟩ : ByteArray)] from rfl) (Reps.one (show Kd.M Kd.string _ _ _ (⟨#[114, 99]⟩ : ByteArray) [.string (⟨#[114, 99]⟩ : ByteArray)] from rfl) (Reps.one (show Kd.M Kd.string _ _ _ (⟨#[]⟩ : ByteArray) [.string ⟨#[]⟩] from rfl) (Reps.one (show Kd.M Kd.string _ _ _ (⟨#[99, 118, 115]⟩ : ByteArray) [.string (⟨#[99, 118, 115]⟩ : ByteArray)] from rfl) (Reps.one (show Kd.M Kd.string _ _ _ (⟨#[115, 118, 110]⟩ : ByteArray) [.string (⟨#[115, 118, 110]⟩ : ByteArray)] from rfl) (Reps.one (show Kd.M Kd.string _ _ _ (⟨#[103, 105, 116]⟩ : ByteArray) [.string (⟨#[103, 105, 116]⟩ : ByteArray)] from rfl) (Reps.one (show Kd.M Kd.string _ _ _ (⟨#[104, 103]⟩ : ByteArray) [.string (⟨#[104, 103]⟩ : ByteArray)] from rfl) (Reps.none _ _))))))))))); intro v204 w2 ho3 hb hg_ hnew_; clear hg_ hnew_; (first | rw [← Ny203.out] at ho3 | (simp only [Int.reduceToNat] at ho3; rw [← Ny203.out] at ho3)); have HO205 := za.mk (Kd.R_lower ho3 (zm (by (with_reducible exact HB.out)))); replace HB := BS HB hb; clear hb ho3))
 (try simp only [Act.put, List.setIfInBounds_toArray, List.set_cons_zero, List.set_cons_succ])
 go_loopg [4] k (fun kq v4 w' => ∃ (x4_1 : Int), v4 = .int .i64 x4_1 ∧ za (zlb.l0 kq a0 y203 x4_1 = some r) ∧ za (kq ≤ k) ∧ za (Kd.R Kd.string 9 w' w.heap.size (fun _ => True) v204 y203) ∧ za (Below w.heap.size w w'))
 case atStart => exact ⟨(0), (by rfl), H', ⟨Nat.le_refl _⟩, ⟨by (with_reducible repeat (first | apply Kd.R_alloc | apply Kd.R_drewN | apply Kd.R_drew)); exact HO205.out⟩, ⟨by (with_reducible exact HB.out)⟩⟩
 case round =>
  clear H'
  obtain ⟨x4_1, rfl, HA, HK1, HO_3, HB⟩ := hrel
  cases gk with
  | zero => exact absurd HA.out (by simp [zlb.l0])
  | succ k1 =>
   have H := HA.out
   clear HA
   simp only [zlb.l0] at H
   by_cases c4 : x4_1 < (y203.length : Int)
   ·rw [if_pos c4] at H
    have c4b0 : decide (x4_1 < (y203.length : Int)) = true := decide_eq_true c4
    clear c4
    by_cases c5 : 0 ≤ x4_1
    ·rw [if_pos c5] at H
     have c5b0 : decide (0 ≤ x4_1) = true := decide_eq_true c5
     clear c5
     by_cases c6 : (rdOf ByteArray.empty y203 x4_1).toList = a0.toList
     ·rw [if_pos c6] at H
      have c6b0 : ((rdOf ByteArray.empty y203 x4_1).toList == a0.toList) = true := beq_iff_eq.mpr c6
      have c6b1 : ((rdOf ByteArray.empty y203 x4_1).toList != a0.toList) = false := bne_eq_false_iff_eq.mpr c6
      clear c6
      obtain rfl := Option.some.inj H
      obtain ⟨Ao7, co7, eo7⟩ := Kd.R_slice HO_3.out
      subst eo7
      have p206 : 0 ≤ (x4_1 : Int) := of_decide_eq_true (by (with_reducible assumption))
      have q206 : x4_1 < (y203.length : Int) := of_decide_eq_true (by (with_reducible assumption))
      obtain ⟨ad206, e206, hx206_0⟩ := Kd.at_string (Kd.R_reads' HO_3.out).2.2 x4_1 p206 q206
      cases e206
      replace p206 := eq_true p206
      replace q206 := eq_true q206
      go_wp2
      go_ret
      exact ⟨by rfl, by (with_reducible exact HB.out)⟩
     ·rw [if_neg c6] at H
      have c6b0 : ((rdOf ByteArray.empty y203 x4_1).toList == a0.toList) = false := beq_eq_false_iff_ne.mpr c6
      have c6b1 : ((rdOf ByteArray.empty y203 x4_1).toList != a0.toList) = true := bne_iff_ne.mpr c6
      have H' := za.mk H
      clear H
      obtain ⟨Ao8, co8, eo8⟩ := Kd.R_slice HO_3.out
      subst eo8
      have p206 : 0 ≤ (x4_1 : Int) := of_decide_eq_true (by (with_reducible assumption))
      have q206 : x4_1 < (y203.length : Int) := of_decide_eq_true (by (with_reducible assumption))
      obtain ⟨ad206, e206, hx206_0⟩ := Kd.at_string (Kd.R_reads' HO_3.out).2.2 x4_1 p206 q206
      cases e206
      replace p206 := eq_true p206
      replace q206 := eq_true q206
      go_wp2
      go_roundg k1
      case measure => have := HK1.out; omega
      case rel => exact ⟨(wrap64 (x4_1 + 1)), (by rfl), H', ⟨by have := HK1.out; omega⟩, ⟨by (with_reducible repeat (first | apply Kd.R_alloc | apply Kd.R_drewN | apply Kd.R_drew)); exact HO_3.out⟩, ⟨by (with_reducible exact HB.out)⟩⟩
    ·rw [if_neg c5] at H
     exact absurd H (by simp)
   ·rw [if_neg c4] at H
    have c4b0 : decide (x4_1 < (y203.length : Int)) = false := decide_eq_false c4
    clear c4
    obtain rfl := Option.some.inj H
    obtain ⟨Ao9, co9, eo9⟩ := Kd.R_slice HO_3.out
    subst eo9
    go_wp2
    go_ret
    exact ⟨by rfl, by (with_reducible exact HB.out)⟩
def zu.l0 : Nat → ByteArray → List (S56) → Option ((List (S56)) × ByteArray)
 | 0, _, _ => none
 | k + 1, x0, x2 => (zac.f k x0).bind fun t207 => (if t207.toList = ([] : List UInt8) then (some (x2, x0)) else (if 0 ≤ (wrap64 ((t207.size : Int) + 1)) then (if (wrap64 ((t207.size : Int) + 1)) ≤ (x0.size : Int) then ((some (x0.extract ((wrap64 ((t207.size : Int) + 1)) : Int).toNat x0.size : ByteArray)).bind fun y208 => ((E1.zbb.f k y208).bind fun t209 => ((zlb.f k t207).bind fun t210 => (if 0 ≤ t209 then (if t209 ≤ (y208.size : Int) then ((zeb.f k (y208.extract 0 (t209 : Int).toNat)).bind fun bt211 => (if x2.length < 4398046511104 then (zu.l0 k (y208.extract (t209 : Int).toNat y208.size) (x2 ++ [(⟨t210, (⟨bt211.1, bt211.2⟩ : S31)⟩ : S56)])) else (none))) else (none)) else (none))))) else (none)) else (none)))
def zu.f (k : Nat) (a0 : ByteArray) : Option ((List (S56)) × ByteArray) := zu.l0 k a0 ([] : List (S56))
def zu.T6 : Bool × List (List Nat × List Nat) := (true, [([], []), ([], []), ([1], [1]), ([], []), ([], []), ([3, 4], [3, 4]), ([5, 2], [5]), ([2, 6], [2, 6]), ([7], [7]), ([0, 8, 6], [0, 8]), ([9, 9, 0, 1, 2, 3, 4, 5, 6, 7, 8, 9], [0, 9])])
def zu.B6 : List Nat := [0, 0, 2, 0, 0, 24, 62, 126, 254, 511, 1023]
theorem zu.tab6 : rtab .any (opsOf Tryz.f26 6) = zu.T6 := by kernel_rfl
theorem zu.bits6 : zfi zu.T6.2 zu.B6 = true := by kernel_rfl
theorem zu.calls (k : Nat) (a0 : ByteArray) (r1 : List (S56)) (r2 : ByteArray) (w : World) (h : zu.f k a0 = some (r1, r2)) :
  Calls Tryz.prog 26 #[.string a0] w fun e w' => ∃ v0_ : Value, e = .returned (.tuple #[v0_, .string r2]) ∧ Kd.R k56 56 w' w.heap.size (fun _ => True) v0_ r1 ∧ Below w.heap.size w w' := by
 have hu56 := Tryz.underlying56
 have HB := za.mk (Below.refl w.heap.size w)
 have H : (zu.l0 k a0 ([] : List (S56))) = some (r1, r2) := h
 clear h
 have H' := za.mk H
 clear H
 go_enter Tryz.func26, Tryz.ntmps26
 go_wp2
 (try simp only [Act.put, List.setIfInBounds_toArray, List.set_cons_zero, List.set_cons_succ])
 go_loopg [0, 2] k (fun kq v0 v2 w' => ∃ (x0_1 : ByteArray) (x2_1 : List (S56)), v0 = .string x0_1 ∧ za (zu.l0 kq x0_1 x2_1 = some (r1, r2)) ∧ za (kq ≤ k) ∧ za (Kd.R k56 56 w' w.heap.size (fun _ => True) v2 x2_1) ∧ za (Below w.heap.size w w'))
 case atStart => exact ⟨(a0), (([] : List (S56))), (by rfl), H', ⟨Nat.le_refl _⟩, ⟨by exact Kd.R_nil _ _ _ _ _⟩, ⟨by (with_reducible exact HB.out)⟩⟩
 case round =>
  clear H'
  obtain ⟨x0_1, x2_1, rfl, HA, HK1, HO_2, HB⟩ := hrel
  cases gk with
  | zero => exact absurd HA.out (by simp [zu.l0])
  | succ k1 =>
   have H := HA.out
   clear HA
   simp only [zu.l0] at H
   replace H := Option.bind_eq_some_iff.mp H
   obtain ⟨t207, A20, H⟩ := H
   replace H : (if t207.toList = ([] : List UInt8) then (some (x2_1, x0_1)) else (if 0 ≤ (wrap64 ((t207.size : Int) + 1)) then (if (wrap64 ((t207.size : Int) + 1)) ≤ (x0_1.size : Int) then ((some (x0_1.extract ((wrap64 ((t207.size : Int) + 1)) : Int).toNat x0_1.size : ByteArray)).bind fun y208 => ((E1.zbb.f k1 y208).bind fun t209 => ((zlb.f k1 t207).bind fun t210 => (if 0 ≤ t209 then (if t209 ≤ (y208.size : Int) then ((zeb.f k1 (y208.extract 0 (t209 : Int).toNat)).bind fun bt211 => (if x2_1.length < 4398046511104 then (zu.l0 k1 (y208.extract (t209 : Int).toNat y208.size) (x2_1 ++ [(⟨t210, (⟨bt211.1, bt211.2⟩ : S31)⟩ : S56)])) else (none))) else (none)) else (none))))) else (none)) else (none))) = some (r1, r2) := H
   have A2 := za.mk A20
   clear A20
   by_cases c3 : t207.toList = ([] : List UInt8)
   ·rw [if_pos c3] at H
    have c3b0 : (t207.toList == ([] : List UInt8)) = true := beq_iff_eq.mpr c3
    have c3b1 : (t207.toList != ([] : List UInt8)) = false := bne_eq_false_iff_eq.mpr c3
    try have c3b9 : t207.toList.isEmpty = true := by simpa using c3b0
    clear c3
    simp only [Option.some.injEq, Prod.mk.injEq] at H
    obtain ⟨rfl, rfl⟩ := H
    go_wp2_with (((with_reducible refine zw (f := 27) rfl ?_); refine goesA (some 7) Tryz.func27 #[.string x0_1] ?_; (with_reducible refine (zac.calls k1 x0_1 t207 _ A2.out).mono ?_); rintro e w4 ⟨rfl, hb⟩; refine ⟨_, rfl, ?_⟩; replace HO_2 := RB HO_2 hb; replace HB := BS HB hb; (try clear hb); (try clear hb2); (try clear hk); (try clear hi)))
    go_ret2
    exact ⟨_, by rfl, by (with_reducible repeat (first | apply Kd.R_alloc | apply Kd.R_drewN | apply Kd.R_drew)); exact HO_2.out, by (with_reducible exact HB.out)⟩
   ·rw [if_neg c3] at H
    have c3b0 : (t207.toList == ([] : List UInt8)) = false := beq_eq_false_iff_ne.mpr c3
    have c3b1 : (t207.toList != ([] : List UInt8)) = true := bne_iff_ne.mpr c3
    try have c3b9 : t207.toList.isEmpty = false := by simpa using c3b0
    obtain ⟨ji5, hji5⟩ : ∃ j_ : Int, (wrap64 ((t207.size : Int) + 1)) = j_ := ⟨_, rfl⟩
    replace H : (if 0 ≤ (ji5) then (if (ji5) ≤ (x0_1.size : Int) then ((some (x0_1.extract ((ji5) : Int).toNat x0_1.size : ByteArray)).bind fun y208 => ((E1.zbb.f k1 y208).bind fun t209 => ((zlb.f k1 t207).bind fun t210 => (if 0 ≤ t209 then (if t209 ≤ (y208.size : Int) then ((zeb.f k1 (y208.extract 0 (t209 : Int).toNat)).bind fun bt211 => (if x2_1.length < 4398046511104 then (zu.l0 k1 (y208.extract (t209 : Int).toNat y208.size) (x2_1 ++ [(⟨t210, (⟨bt211.1, bt211.2⟩ : S31)⟩ : S56)])) else (none))) else (none)) else (none))))) else (none)) else (none)) = some (r1, r2) := by (rw [hji5] at H; exact H)
    (try rw [hji5] at A2)
    have hji5w : (IntKind.i64.wrap ((t207.size : Int) + 1)) = ji5 := (i64_w _).trans hji5
    by_cases c6 : 0 ≤ (ji5)
    ·rw [if_pos c6] at H
     have c6b0 := eq_true c6
     have c6b1 : decide (0 ≤ (ji5)) = true := decide_eq_true c6
     clear c6
     by_cases c7 : (ji5) ≤ (x0_1.size : Int)
     ·rw [if_pos c7] at H
      have c7b0 := eq_true c7
      have c7b1 : decide ((ji5) ≤ (x0_1.size : Int)) = true := decide_eq_true c7
      clear c7
      obtain ⟨y208, hy208⟩ : ∃ y_ : ByteArray, y_ = (x0_1.extract ((ji5) : Int).toNat x0_1.size) := ⟨_, rfl⟩
      replace H : ((E1.zbb.f k1 y208).bind fun t209 => ((zlb.f k1 t207).bind fun t210 => (if 0 ≤ t209 then (if t209 ≤ (y208.size : Int) then ((zeb.f k1 (y208.extract 0 (t209 : Int).toNat)).bind fun bt211 => (if x2_1.length < 4398046511104 then (zu.l0 k1 (y208.extract (t209 : Int).toNat y208.size) (x2_1 ++ [(⟨t210, (⟨bt211.1, bt211.2⟩ : S31)⟩ : S56)])) else (none))) else (none)) else (none)))) = some (r1, r2) := by (have H2_ := (Option.bind_some _ _).symm.trans H; rw [hy208]; with_reducible exact H2_)
      have Ny208 := za.mk hy208
      clear hy208
      replace H := Option.bind_eq_some_iff.mp H
      obtain ⟨t209, A80, H⟩ := H
      replace H : ((zlb.f k1 t207).bind fun t210 => (if 0 ≤ t209 then (if t209 ≤ (y208.size : Int) then ((zeb.f k1 (y208.extract 0 (t209 : Int).toNat)).bind fun bt211 => (if x2_1.length < 4398046511104 then (zu.l0 k1 (y208.extract (t209 : Int).toNat y208.size) (x2_1 ++ [(⟨t210, (⟨bt211.1, bt211.2⟩ : S31)⟩ : S56)])) else (none))) else (none)) else (none))) = some (r1, r2) := H
      have A8 := za.mk A80
      clear A80
      replace H := Option.bind_eq_some_iff.mp H
      obtain ⟨t210, A90, H⟩ := H
      replace H : (if 0 ≤ t209 then (if t209 ≤ (y208.size : Int) then ((zeb.f k1 (y208.extract 0 (t209 : Int).toNat)).bind fun bt211 => (if x2_1.length < 4398046511104 then (zu.l0 k1 (y208.extract (t209 : Int).toNat y208.size) (x2_1 ++ [(⟨t210, (⟨bt211.1, bt211.2⟩ : S31)⟩ : S56)])) else (none))) else (none)) else (none)) = some (r1, r2) := H
      have A9 := za.mk A90
      clear A90
      by_cases c10 : 0 ≤ t209
      ·rw [if_pos c10] at H
       have c10b0 := eq_true c10
       have c10b1 : decide (0 ≤ t209) = true := decide_eq_true c10
       clear c10
       by_cases c11 : t209 ≤ (y208.size : Int)
       ·rw [if_pos c11] at H
        have c11b0 := eq_true c11
        have c11b1 : decide (t209 ≤ (y208.size : Int)) = true := decide_eq_true c11
        clear c11
        replace H := Option.bind_eq_some_iff.mp H
        obtain ⟨⟨t211, t212⟩, A120, H⟩ := H
        replace H : (if x2_1.length < 4398046511104 then (zu.l0 k1 (y208.extract (t209 : Int).toNat y208.size) (x2_1 ++ [(⟨t210, (⟨t211, t212⟩ : S31)⟩ : S56)])) else (none)) = some (r1, r2) := H
        have A12 := za.mk A120
        clear A120
        by_cases c13 : x2_1.length < 4398046511104
        ·rw [if_pos c13] at H
         have LMc13 := za.mk c13
         clear c13
         obtain ⟨y213, hy213⟩ : ∃ y_ : List (S56), y_ = (x2_1 ++ [(⟨t210, (⟨t211, t212⟩ : S31)⟩ : S56)]) := ⟨_, rfl⟩
         replace H : (zu.l0 k1 (y208.extract (t209 : Int).toNat y208.size) y213) = some (r1, r2) := by (rw [hy213]; with_reducible exact H)
         have Ny213 := za.mk hy213
         clear hy213
         have c14b0 := eq_true (of_decide_eq_true (by (with_reducible assumption)) : 0 ≤ t209)
         have c15b0 := eq_true (of_decide_eq_true (by (with_reducible assumption)) : t209 ≤ (y208.size : Int))
         obtain ⟨y216, hy216⟩ : ∃ y_ : ByteArray, y_ = (y208.extract (t209 : Int).toNat y208.size) := ⟨_, rfl⟩
         replace H : (zu.l0 k1 y216 y213) = some (r1, r2) := by (rw [hy216]; with_reducible exact H)
         have Ny216 := za.mk hy216
         clear hy216
         have H' := za.mk H
         clear H
         try go_wp2_with (first | ((with_reducible refine zw (f := 27) rfl ?_); refine goesA (some 7) Tryz.func27 #[.string x0_1] ?_; (with_reducible refine (zac.calls k1 x0_1 t207 _ A2.out).mono ?_); rintro e w16 ⟨rfl, hb⟩; refine ⟨_, rfl, ?_⟩; replace HO_2 := RB HO_2 hb; replace HB := BS HB hb; (try clear hb); (try clear hb2); (try clear hk); (try clear hi)) | ((with_reducible refine znb (N := 16) rfl ?_); refine zce ?hg (N := 16) ?hd (v := .string (x0_1.extract ((ji5) : Int).toNat x0_1.size)) (v' := .string y208) ?hr (congrArg Value.string Ny208.out.symm) ?_; (case hd => rfl); (case hg => rfl); (case hr => first | (go_simp; done) | (go_simp; rfl))) | ((with_reducible refine zw (f := 39) rfl ?_); refine goesA (some 18) Tryz.func39 #[.string y208, .func (.func 40) #[] #[]] ?_; (with_reducible refine (E1.zbb.calls k1 y208 t209 _ A8.out).mono ?_); rintro e w' ⟨rfl, ⟨nd, rfl⟩⟩; refine ⟨_, rfl, ?_⟩))
         (try (rw [zmf w16]; generalize hq_ : World.drewN w16 _ = w16; have n0_ : za (Kd.R k56 56 w16 w.heap.size (fun _ => True) u2 x2_1) := ⟨by rw [← hq_]; exact (RW HO_2.out)⟩; have n1_ : za (Below w.heap.size w w16) := ⟨by rw [← hq_]; exact (by (with_reducible apply zd; with_reducible exact HB.out))⟩; clear HO_2 HB hq_; have HO_2 := n0_; have HB := n1_; clear n0_ n1_))
         replace HO_2 := za.mk (Kd.R_drew HO_2.out)
         replace HB := za.mk (zab HB.out)
         refine zuf (n := 11) (S := fun w' => True) (ds := []) #[false, false, false, false, false, false, false, false, false, false, false] (by kernel_rfl) rfl rfl trivial (fun hHeld => ?_); refine zxf zu.tab6 zu.bits6 (fun HT_ HW_ => ?_)
         generalize w16.drew = w17 at HO_2 HB hHeld ⊢
         refine pureA 0 (some 19) #[true, false, false, false, false, false, false, false, false, false, false] ?_ (hc := zdc HT_.out (by kernel_rfl))
         refine pureA 1 (some 20) #[true, true, false, false, false, false, false, false, false, false, false] ?_ (hc := zdc HT_.out (by kernel_rfl))
         refine pureA 3 (some 22) #[true, true, false, true, false, false, false, false, false, false, false] ?_ (hc := zdc HT_.out (by kernel_rfl))
         refine pureA 4 (some 23) #[true, true, false, true, true, false, false, false, false, false, false] ?_ (hc := zdc HT_.out (by kernel_rfl))
         refine pureA 5 (some 24) #[true, true, false, true, true, true, false, false, false, false, false] ?_ (hc := zdc HT_.out (by kernel_rfl))
         refine one_ (i := 2) (N := some 21) #[true, true, true, true, true, true, false, false, false, false, false] rfl rfl (zxe HT_.out (by kernel_rfl)) (by decide) (fun K hK => ?_)
         refine goes_ Tryz.func46 (by kernel_rfl) rfl #[.string t207] (by rfl) rfl rfl (by (try simp only [List.map_toArray, List.map_cons, List.map_nil]); first | done | rfl | (simp only [List.length_drop, List.length_take]; rfl)) ?_
         with_reducible refine (zlb.calls k1 t207 t210 _ A9.out).mono ?_
         rintro e w18 ⟨rfl, hb⟩
         refine ⟨_, rfl, ?_⟩
         replace HO_2 := RB HO_2 hb
         replace HB := BS HB hb
         (try clear hb)
         (try clear hb2)
         (try clear hk)
         (try clear hi)
         refine hK.out _ _ trivial (fun hHeld => ?_)
         clear hK K
         refine norm_ (a' := ?_) ?_ ?_
         rotate_left
         ·show Act.put _ (some 21) _ = _
          simp only [Act.put, List.setIfInBounds_toArray, List.set_cons_zero, List.set_cons_succ, i64_w, i32_w]
          rfl
         refine one_ (i := 6) (N := some 25) #[true, true, true, true, true, true, true, false, false, false, false] rfl rfl (zxe HT_.out (by kernel_rfl)) (by decide) (fun K hK => ?_)
         refine goes_ Tryz.func41 (by kernel_rfl) rfl #[.string (y208.extract 0 (t209 : Int).toNat)] (by rfl) rfl rfl (by (try simp only [List.map_toArray, List.map_cons, List.map_nil]); first | done | rfl | (simp only [List.length_drop, List.length_take]; rfl)) ?_
         with_reducible refine (zeb.calls k1 (y208.extract 0 (t209 : Int).toNat) t211 t212 _ A12.out).mono ?_
         rintro e w19 ⟨rfl, hb⟩
         refine ⟨_, rfl, ?_⟩
         replace HO_2 := RB HO_2 hb
         replace HB := BS HB hb
         (try clear hb)
         (try clear hb2)
         (try clear hk)
         (try clear hi)
         refine hK.out _ _ trivial (fun hHeld => ?_)
         clear hK K
         refine norm_ (a' := ?_) ?_ ?_
         rotate_left
         ·show Act.put _ (some 25) _ = _
          simp only [Act.put, List.setIfInBounds_toArray, List.set_cons_zero, List.set_cons_succ, i64_w, i32_w]
          rfl
         refine pureA 7 (some 26) #[true, true, true, true, true, true, true, true, false, false, false] ?_ (hc := zdc HT_.out (by kernel_rfl))
         refine one_ (i := 8) (N := some 27) #[true, true, true, true, true, true, true, true, true, false, false] rfl rfl (zxe HT_.out (by kernel_rfl)) (by decide) (fun K hK => ?_)
         refine zoh (w1 := ?_) (v := ?_) (by rfl) rfl ?_ ?_
         rotate_left 2
         ·go_simp
          constructor
          ·rfl
          ·rfl
         refine hK.out _ _ trivial (fun hHeld => ?_)
         clear hK K
         refine norm_ (a' := ?_) ?_ ?_
         rotate_left
         ·show Act.put _ (some 27) _ = _
          simp only [Act.put, List.setIfInBounds_toArray, List.set_cons_zero, List.set_cons_succ, i64_w, i32_w]
          rfl
         refine one_ (i := 9) (N := some 28) #[true, true, true, true, true, true, true, true, true, true, false] rfl rfl (zxe HT_.out (by kernel_rfl)) (by decide) (fun K hK => ?_)
         refine Kd.R_append_step k56 (w0 := w) w.heap.size (by rfl) (.tmp 19) (.tmp 27) 29 56 (.agg #[(.int .i64 0), (.bool false), (.string ⟨#[]⟩)]) 32 rfl Tryz.underlying29 info56 rfl (by decide) (by omega) u2 x2_1 (⟨t210, (⟨t211, t212⟩ : S31)⟩ : S56) [.int .i64 t210, .bool t211, .string t212] (fun _ => True) (fun _ => False) rfl rfl ?aP (fun _ hk => hk.elim) ?aF ?aO ?aB ?aS ?aL ?_
         (case aP => exact k56_mkM _ _ _ (⟨t210, (⟨t211, t212⟩ : S31)⟩ : S56))
         (case aB => exact (by (with_reducible exact HB.out)))
         (case aF => exact (fun _ _ => trivial))
         (case aO => exact (RW HO_2.out))
         (case aS => exact (zm (by (with_reducible exact HB.out))))
         (case aL => have := LMc13.out; omega)
         intro v214 w20 ho hb hg hat
         rw [← Ny213.out] at ho
         have HO215 := za.mk ho
         replace HB := za.mk hb
         clear HO_2
         clear ho hb hg hat
         refine hK.out _ _ trivial (fun hHeld => ?_)
         clear hK K
         refine norm_ (a' := ?_) ?_ ?_
         rotate_left
         ·show Act.put _ (some 28) _ = _
          simp only [Act.put, List.setIfInBounds_toArray, List.set_cons_zero, List.set_cons_succ, i64_w, i32_w]
          rfl
         refine pureA 10 (some 2) #[true, true, true, true, true, true, true, true, true, true, true] ?_ (hc := zdc HT_.out (by kernel_rfl))
         refine done_ (zdi HT_.out (by kernel_rfl)) ?_
         try go_wp2_with (((with_reducible refine znb (N := 31) rfl ?_); refine zce ?hg (N := 31) ?hd (v := .string (y208.extract (t209 : Int).toNat y208.size)) (v' := .string y216) ?hr (congrArg Value.string Ny216.out.symm) ?_; (case hd => rfl); (case hg => rfl); (case hr => first | (go_simp; done) | (go_simp; rfl))))
         go_roundg k1
         case measure => have := HK1.out; omega
         case rel => exact ⟨(y216), (y213), (by rfl), H', ⟨by have := HK1.out; omega⟩, ⟨by (with_reducible repeat (first | apply Kd.R_alloc | apply Kd.R_drewN | apply Kd.R_drew)); exact HO215.out⟩, ⟨by (with_reducible exact HB.out)⟩⟩
        ·rw [if_neg c13] at H
         exact absurd H (by simp)
       ·rw [if_neg c11] at H
        exact absurd H (by simp)
      ·rw [if_neg c10] at H
       exact absurd H (by simp)
     ·rw [if_neg c7] at H
      exact absurd H (by simp)
    ·rw [if_neg c6] at H
     exact absurd H (by simp)
end Go.Proofs.YtapaijpglfmfgaaGreatDoor.Q
end
