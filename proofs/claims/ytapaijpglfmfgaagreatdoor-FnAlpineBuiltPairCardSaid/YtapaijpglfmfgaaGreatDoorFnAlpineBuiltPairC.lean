/- Proved here, for the row of the law FnAlpineBuiltPair: contracts of the Go functions that it reaches, each as its theorem 'calls' says, and the words and plain laws that they need (A8, A9, A10, A11, E1x0, E1x1, E2x0, E2x1, P, AQ, AR, AT, WEqStruct, Qx0, HC, Qx4, AU, Qx5, Qx15). -/
import Derived.Test.YtapaijpglfmfgaaGreatDoorFnAlpineBuiltPairB
import Derived.Below
import Derived.Deep.Draws
import Derived.Deep.AppendLies
import Derived.Maps.AppendAt
import Derived.OwnWalk
import Derived.Laws.BytesArg
import Derived.Laws.MakeOwn
import Derived.Laws.OwnMore
import Derived.Deep.OwnRows
import Derived.Tactics
import Derived.Lib.ConvBytes
import Derived.Laws.Slices
import Derived.WalkKit
import Derived.KernelRfl
import Derived.RowKit3
import Derived.Deep.LoopGhost
import Derived.Deep.QuietTactic
import Derived.BigQuiet
import Derived.WideLaws
import Derived.Deep.DeepCutAuto
import Derived.Deep.CutBlock
import Derived.Deep.RegionHeld3
import Derived.Laws.Rows
import Derived.Lib.AppendStr
import Derived.ArgAppend
import Derived.Laws.IdiomCopy
import Derived.RowKit
import Derived.Test.YtapaijpglfmfgaaGreatDoorProg
import Derived.OrdersHeld
import Derived.Laws.BitsLemmas
import Derived.Laws.ResultCell
import Derived.Laws.StructEq
set_option linter.unusedVariables false
set_option linter.unusedSimpArgs false
set_option maxHeartbeats 8000000
set_option maxRecDepth 100000
section
namespace Go.Proofs.YtapaijpglfmfgaaGreatDoorG
open Go.RowKit YtapaijpglfmfgaaGreatDoorH YtapaijpglfmfgaaGreatDoor.S YtapaijpglfmfgaaGreatDoorW.PrintWords YtapaijpglfmfgaaGreatDoorW.PrintLast
theorem infoNum : (Tryz.prog.info? 114).map (fun i => (i.zero, i.size, i.bytes)) = some (some (.agg #[.string ⟨#[]⟩, .pointer none, .int .i64 0]), 3, 32) := by kernel_rfl
theorem infoSuf : (Tryz.prog.info? 117).map (fun i => (i.zero, i.size, i.bytes)) = some (some (.agg #[.int .i64 0, .pointer none]), 2, 16) := by kernel_rfl
def nmCell (x : Nm × Nat) : List Value := [.string x.1.o, .pointer (some ⟨x.1.a, 0, none⟩), .int .i64 (x.2 : Int)]
def zef (l : List Nm) : List (List Value) := l.zipIdx.map nmCell
theorem nmCells_snoc (l : List Nm) (x : Nm) : zef (l ++ [x]) = zef l ++ [[.string x.o, .pointer (some ⟨x.a, 0, none⟩), .int .i64 (l.length : Int)]] := by
 unfold zef
 rw [Kd.zip_snoc]
 simp [nmCell]
theorem zyf (l : List Nm) : (zef l).length = l.length := by simp [zef]
def NGood (w : World) (x : Nm) : Prop := BigAt w x.a x.n ∧ x.n = dv x.o x.o.size ∧ 0 < x.o.size
def NOwn (w : World) (base : Nat) (v : Value) (l : List Nm) : Prop := Kd.R (Kd.raw 3) 114 w base (fun _ => True) v (zef l) ∧ ∀ x ∈ l, NGood w x
theorem NOwn.crow {w : World} {base : Nat} {v : Value} {l : List Nm} (h : NOwn w base v l) (hl : l.length ≤ 1000000) : CRow w v l := by
 obtain ⟨hr, hx⟩ := h
 rcases Nat.eq_zero_or_pos l.length with h0 | h0
 ·obtain ⟨A, c, e, _⟩ := Kd.R_reads hr
  rw [zyf] at e
  exact ⟨A, c, e, hl, fun i x hi => by rw [List.eq_nil_of_length_eq_zero h0] at hi; simp at hi⟩
 ·obtain ⟨g, cap, e, _⟩ := Kd.R_form hr (by rw [zyf]; exact h0)
  subst e
  refine ⟨some ⟨g, 0, none⟩, cap, by rw [zyf], hl, fun i x hi => ⟨g, rfl, ?_⟩⟩
  have hil : i < l.length := (List.getElem?_eq_some_iff.1 hi).1
  obtain ⟨c, hc1, hM, hcc, _⟩ := Kd.R_elem hr [] (i : Int) (by omega) (by rw [zyf]; omega)
  have hgd : (zef l).getD (i : Int).toNat [] = [.string x.o, .pointer (some ⟨x.a, 0, none⟩), .int .i64 (i : Int)] := by
   rw [List.getD_eq_getElem?_getD]
   unfold zef
   rw [List.getElem?_map, show ((i : Int).toNat) = i by omega, Kd.zip_at hi]
   rfl
  rw [hgd] at hM
  obtain ⟨rfl, _⟩ := hM
  have h0' := hcc 0 _ rfl
  have h1' := hcc 1 _ rfl
  have h2' := hcc 2 _ rfl
  obtain ⟨k1, _, k3⟩ := hx x (List.mem_of_getElem? hi)
  exact ⟨h0', h1', h2', k1, k3⟩
theorem NGood.below {w w' : World} {x : Nm} (h : NGood w x) (hb : Below w.heap.size w w') : NGood w' x := ⟨h.1.below hb, h.2⟩
theorem NGood.kept {w w' : World} {x : Nm} (h : NGood w x) (hb : KeptT numT w w') : NGood w' x := ⟨h.1.kept hb, h.2⟩
theorem KeptT.sub {p q : TypeId → Bool} {w w' : World} (h : KeptT q w w') (hpq : ∀ t, p t = true → q t = true) : KeptT p w w' := fun k cs t fr hk hp => h k cs t fr hk (hpq t hp)
theorem KeptT.blk {p : TypeId → Bool} {w w' : World} {g : Nat} {cs : Array Value} {t : TypeId} {fr : Nat × Nat} (h : KeptT p w w') (hg : w.heap[g]? = some (.cells cs t fr)) (hp : p t = true) : w'.heap[g]? = some (.cells cs t fr) := (h g cs t fr hg hp).trans hg
def zve (l : List ByteArray) : List ByteArray := l.takeWhile (fun d => decide (d.toList ≠ []))
theorem takeNe_at {l : List ByteArray} {k : Nat} (h1 : ∀ d ∈ l.take k, d.toList ≠ []) : (l.length ≤ k ∨ ∃ d, l[k]? = some d ∧ d.toList = []) → zve l = l.take k := by
 induction l generalizing k with
 | nil => simp [zve]
 | cons a l ih =>
  intro h
  cases k with
  | zero =>
   rcases h with h | ⟨d, h2, h3⟩
   ·simp at h
   ·simp at h2
    subst h2
    simp [zve, h3]
  | succ k =>
   have ha : a.toList ≠ [] := h1 a (by simp)
   have := ih (k := k) (fun d hd => h1 d (by simp [hd])) (by simpa using h)
   simp only [zve, List.takeWhile_cons, List.take_succ_cons] at this ⊢
   rw [if_pos (by simpa using ha), this]
theorem takeNe_mem {l : List ByteArray} {k : Nat} {d : ByteArray} (h1 : ∀ d ∈ l.take k, d.toList ≠ []) (h2 : l[k]? = some d) (h3 : d.toList ≠ []) : d ∈ zve l := by
 induction l generalizing k with
 | nil => simp at h2
 | cons a l ih =>
  cases k with
  | zero =>
   simp at h2
   subst h2
   simp [zve, h3]
  | succ k =>
   have ha : a.toList ≠ [] := h1 a (by simp)
   have := ih (k := k) (fun d hd => h1 d (by simp [hd])) (by simpa using h2)
   simp only [zve, List.takeWhile_cons] at this ⊢
   rw [if_pos (by simpa using ha)]
   exact List.mem_cons_of_mem _ this
theorem parseNums_e (w : World) (g : Nat) (s sub : ByteArray) (k : Nat) (h1 : zw.f k s = some sub) (h0 : sub.toList = []) :
  Calls Tryz.prog 48 #[.pointer (some ⟨g, 0, none⟩), .string s] w fun e w' => e = .returned (.tuple #[.string s, .nilIface]) ∧ ∃ n, w' = w.drewN n := by
 have e1 : (sub.toList == []) = true := by simpa using h0
 have e2 : (sub.toList != []) = false := by simpa using h0
 have e3 : sub.toList.isEmpty = true := by simpa using h0
 have H1 := za.mk h1
 clear h0 h1
 go_enter Tryz.func48, Tryz.ntmps48
 go_wp2_with (first | (go_at_call 60; (with_reducible refine (zw.calls k s sub _ H1.out).mono ?_); rintro e' w' ⟨rfl, ⟨nd, rfl⟩⟩))
 go_ret2
 exact ⟨rfl, _, rfl⟩
structure NInv (w wr : World) (g : Nat) (o : ByteArray) (i : Bool) (r : ByteArray) (cv : Value) (l : ByteArray) (sv : Value) (h : ByteArray) (bv : Value) (sp : Value) (parts : List ByteArray) (k : Nat) (ns : List Nm) : Prop where
  told : ns.map (·.o) = parts.take k
  ne : ∀ d ∈ parts.take k, d.toList ≠ []
  blk : VBlk wr g o i r cv l sv h bv
  own : NOwn wr w.heap.size cv ns
  row : Kd.R Kd.string 9 wr w.heap.size (fun _ => True) sp parts
  gr : w.grownBy wr (some g)
theorem NInv.below {w wr w' : World} {g : Nat} {o : ByteArray} {i : Bool} {r : ByteArray} {cv : Value} {l : ByteArray} {sv : Value} {h : ByteArray} {bv sp : Value} {parts : List ByteArray} {k : Nat} {ns : List Nm} (H : NInv w wr g o i r cv l sv h bv sp parts k ns) (hb : Below wr.heap.size wr w') : NInv w w' g o i r cv l sv h bv sp parts k ns :=
 ⟨H.told, H.ne, ze H.blk hb, ⟨Kd.R_below H.own.1 hb, fun x hx => (H.own.2 x hx).below hb⟩, Kd.R_below H.row hb, zaf H.gr hb⟩
def notNum (t : TypeId) : Bool := t != 114
theorem numT_notNum (t : TypeId) (h : numT t = true) : notNum t = true := by
 unfold numT at h
 unfold notNum
 rcases Bool.or_eq_true_iff.mp h with h | h
 ·rw [of_decide_eq_true h]; decide
 ·rw [of_decide_eq_true h]; decide
theorem NInv.step {w wr w7 : World} {g : Nat} {o : ByteArray} {i : Bool} {r : ByteArray} {cv v1 : Value} {l : ByteArray} {sv : Value} {h : ByteArray} {bv sp : Value} {parts : List ByteArray} {k : Nat} {ns : List Nm} (H : NInv w wr g o i r cv l sv h bv sp parts k ns) {d : ByteArray} {a : Nat} (hd : parts[k]? = some d) (hne : d.toList ≠ []) (hA : BigAt wr a (dv d d.size)) (hs : 0 < d.size)
    (ho : Kd.R (Kd.raw 3) 114 w7 w.heap.size (fun _ => True) v1 (zef ns ++ [[.string d, .pointer (some ⟨a, 0, none⟩), .int .i64 (k : Int)]])) (hg : wr.grownBy w7 cv.ownBlock) : NInv w (w7.setCell ⟨g, 3, none⟩ v1) g o i r v1 l sv h bv sp parts (k + 1) (ns ++ [⟨d, a, dv d d.size⟩]) := by
  have hk : ns.length = k := by
    have := congrArg List.length H.told
    have hkl := (List.getElem?_eq_some_iff.1 hd).1
    simpa [Nat.min_eq_left (Nat.le_of_lt hkl)] using this
  have K : KeptT notNum wr w7 := KeptT.row (by decide) H.own.1 hg
  have KN : KeptT numT wr w7 := K.sub numT_notNum
  have B7 : VBlk w7 g o i r cv l sv h bv := K.blk H.blk (by decide)
  have KN2 : KeptT numT wr (w7.setCell ⟨g, 3, none⟩ v1) := KN.trans (KeptT.set B7 (by decide) 3 _)
  have ht : parts.take (k + 1) = parts.take k ++ [d] := by
    rw [List.take_add_one, hd]; rfl
  refine ⟨by rw [ht, List.map_append, H.told]; rfl, fun x hx => ?_, zdb B7 3 _ rfl, ⟨?_, fun x hx => ?_⟩, ?_, ?_⟩
  · rw [ht] at hx
    rcases List.mem_append.mp hx with hx | hx
    · exact H.ne x hx
    · simp at hx; subst hx; exact hne
  · rw [nmCells_snoc, hk]
    exact Kd.R_set ho B7 (by intro q hq; have : q = 114 := by simpa [Kd.raw] using hq
                             subst this; decide) 3 _
  · rcases List.mem_append.mp hx with hx | hx
    · exact (H.own.2 x hx).kept KN2
    · simp at hx; subst hx; exact ⟨hA.kept KN2, rfl, hs⟩
  · refine R_keptT (p := fun t => t == 9) rfl (by decide) H.row ((K.sub fun t ht => ?_).trans (KeptT.set B7 (by decide) 3 _))
    rw [of_decide_eq_true ht]; decide
  · refine gr_set (gr_then H.gr hg (fun b hb => ?_)) (.inl rfl) _ _
    exact .inr (Kd.R_base H.own.1 b hb)
theorem parseNums_ (w : World) (g : Nat) (o : ByteArray) (i : Bool) (r : ByteArray) (sv : Value) (l h : ByteArray) (bv : Value) (s sub rest : ByteArray) (k1 k2 : Nat) (parts : List ByteArray) (hv : VBlk w g o i r (.slice none 0 0) l sv h bv) (hGL : ∀ W, w.grownBy W (some g) → GLe W)
    (h1 : zw.f k1 s = some sub) (h0 : sub.toList ≠ []) (h2 : znb.f k2 sub ⟨#[46]⟩ = some parts) (hp : 0 < parts.length) (hl : parts.length ≤ 1000000) (h4 : ∀ d ∈ zve parts, Plain d ∧ zvd d) (h5 : zeb.f s sub = some rest) :
    Calls Tryz.prog 48 #[.pointer (some ⟨g, 0, none⟩), .string s] w fun e w' => ∃ cv ns, e = .returned (.tuple #[.string rest, .nilIface]) ∧ VBlk w' g o i r cv l sv h bv ∧ NOwn w' w.heap.size cv ns ∧ ns.map (·.o) = zve parts ∧ w.grownBy w' (some g) := by
  have e1 : (sub.toList == []) = false := by simpa using h0
  have e2 : (sub.toList != []) = true := by simpa using h0
  have e3 : sub.toList.isEmpty = false := by simpa using h0
  have HG := za.mk hv
  have H1 := za.mk h1
  have H2 := za.mk h2
  have H4 := za.mk h4
  have H5 := za.mk h5
  have HGL := za.mk hGL
  have HP := za.mk hp
  have HL := za.mk hl
  clear h0 h1 h2 h4 h5 hv hGL hp hl
  go_enter Tryz.func48, Tryz.ntmps48
  go_wp2_with (first | (go_at_call 60; (with_reducible refine (zw.calls k1 s sub _ H1.out).mono ?_); rintro e' w' ⟨rfl, ⟨nd, rfl⟩⟩) | (go_at_call 61; (with_reducible refine (znb.calls k2 sub ⟨#[46]⟩ parts _ H2.out).mono ?_); rintro e' w1 ⟨sp, rfl, hr, hb⟩; obtain ⟨b, cap, rfl, hb1, hb2, hb3⟩ := Kd.R_form hr HP.out; have B1 := za.mk (zhb (zc (Below.refl w.heap.size w) nd) (Nat.le_refl w.heap.size) hb); have R1 := za.mk hr; clear hr hb hb1 hb2 hb3))
  have I0 : za (NInv w w1 g o i r (.slice none 0 0) l sv h bv (.slice (some ⟨b, 0, none⟩) parts.length cap) parts 0 []) := ⟨⟨rfl, fun d hd => by simp at hd, ze HG.out B1.out, ⟨Kd.R_nil _ _ _ _ _, fun x hx => by simp at hx⟩, R1.out, zaf (zkg w _) B1.out⟩⟩
  go_loopw [19] (fun iv wr => ∃ (k : Nat) (ns : List Nm) (cv : Value), k ≤ parts.length ∧ iv = .int .i64 k ∧ za (NInv w wr g o i r cv l sv h bv (.slice (some ⟨b, 0, none⟩) parts.length cap) parts k ns)) (fun iv _ => parts.length - (intOf iv).toNat)
  case atStart => exact ⟨0, [], _, Nat.zero_le _, rfl, I0⟩
  case round =>
    obtain ⟨k, ns, cv, hk, rfl, HI⟩ := hrel
    by_cases hlt : k < parts.length
    · have i3 : decide ((k : Int) < (parts.length : Int)) = true := decide_eq_true (by omega)
      have i4 : ((k : Int) < (parts.length : Int)) = True := eq_true (by omega)
      have i5 : (0 ≤ (k : Int)) = True := eq_true (by omega)
      have WR : wrap64 ((k : Int) + 1) = ((k + 1 : Nat) : Int) := by have := HL.out; unfold wrap64; omega
      have LT := za.mk hlt
      obtain ⟨d, hd⟩ : ∃ d, parts[k]? = some d := ⟨_, List.getElem?_eq_getElem (by omega)⟩
      have HD := za.mk hd
      have y0 : wr.cell? ⟨b, k, none⟩ = some (.string d) := by
        obtain ⟨c, hc1, hM, hcc, _⟩ := Kd.R_elem HI.out.row ByteArray.empty (k : Int) (by omega) (by omega)
        have hgd : parts.getD (k : Int).toNat ByteArray.empty = d := by
          rw [List.getD_eq_getElem?_getD, show ((k : Int).toNat) = k by omega, hd]; rfl
        rw [hgd] at hM
        have hM2 : c = [.string d] := hM
        have := hcc 0 (.string d) (by rw [hM2]; rfl)
        rw [show (k : Int).toNat * Kd.string.sz + 0 = k by show (k : Int).toNat * 1 + 0 = k; omega] at this
        exact this
      clear hlt hk hd
      by_cases hde : d.toList = []
      · have c1 : (d.toList == []) = true := by simpa using hde
        have c2 : (d.toList != []) = false := by simpa using hde
        have c3 : d.toList.isEmpty = true := by simpa using hde
        have HE := za.mk (takeNe_at HI.out.ne (.inr ⟨d, HD.out, hde⟩))
        clear hde
        go_wp2_with (first | (go_at_call 63; (with_reducible refine (zeb.calls s sub rest _ H5.out).mono ?_); rintro e' w' ⟨rfl, ⟨nd2, rfl⟩⟩))
        go_ret2
        exact ⟨cv, ns, rfl, zib HI.out.blk _, ⟨Kd.R_drewN HI.out.own.1 _, fun x hx => (HI.out.own.2 x hx).below (zc (Below.refl _ _) _)⟩, by rw [HI.out.told, HE.out], zof HI.out.gr _⟩
      · have c1 : (d.toList == []) = false := by simpa using hde
        have c2 : (d.toList != []) = true := by simpa using hde
        have c3 : d.toList.isEmpty = false := by simpa using hde
        have HDE := za.mk hde
        have hgood := H4.out d (takeNe_mem HI.out.ne HD.out hde)
        have HDS := za.mk hgood.2.1
        have HNL : za (ns.length ≤ 1000000) := ⟨by have q1 := congrArg List.length HI.out.told; have q2 := HL.out; rw [List.length_map, List.length_take] at q1; omega⟩
        have HV := za.mk (conv_at wr d hgood.1 (HGL.out wr HI.out.gr) hgood.2)
        clear hde hgood
        go_wp2_with (first | (go_at_call 62; (with_reducible refine HV.out.mono ?_); rintro e' w3 ⟨a, rfl, hA, hb⟩; have I3 := za.mk (HI.out.below hb); have HA := za.mk hA; have x3 := (zf I3.out.blk 3).trans rfl; clear hb hA) | ((with_reducible refine zoe (b := .append) (xs := #[.tmp 38, .tmp 43]) rfl ?_); at_builtin; refine Kd.R_append (Kd.raw 3) (w0 := w3) w.heap.size rfl (.tmp 38) (.tmp 43) 67 114 (.agg #[.string ⟨#[]⟩, .pointer none, .int .i64 0]) 32 rfl Tryz.underlying67 infoNum rfl (by decide) (by omega) cv (zef ns) [.string d, .pointer (some ⟨a, 0, none⟩), .int .i64 (k : Int)] [.string d, .pointer (some ⟨a, 0, none⟩), .int .i64 (k : Int)] (fun _ => True) (fun _ => False) rfl rfl ?aP (fun _ hk => hk.elim) (fun _ _ => trivial) I3.out.own.1 (Below.refl _ _) I3.out.gr.size ?aL ?_; (case aP => exact ⟨rfl, rfl, by intro u hu; simp at hu; rcases hu with rfl | rfl | rfl <;> rfl⟩); (case aL => rw [zyf]; have := HNL.out; omega); intro v1 w7 ho hb hg hat; obtain ⟨A1, n1, cp1, rfl⟩ : ∃ A n c, v1 = .slice A n c := (by obtain ⟨A, c, e⟩ := Kd.R_slice ho; exact ⟨A, _, c, e⟩); have K7 := KeptT.row (p := notNum) (by decide) I3.out.own.1 hg; have B7 := za.mk (K7.blk I3.out.blk (by decide)); have x7 := (zf B7.out 3).trans rfl; have f7 := zy B7.out 3; have I7 := za.mk (I3.out.step HD.out HDE.out HA.out HDS.out ho hg); clear ho hb hg hat K7))
        go_roundw
        all_goals first | exact ⟨k + 1, _, .slice A1 n1 cp1, LT.out, by first | rfl | go_num, I7⟩ | exact zsh _ k LT.out | exact meas_up1 _ k LT.out | exact zki _ k LT.out WR
    · obtain rfl : k = parts.length := by omega
      have i3 : decide ((parts.length : Int) < (parts.length : Int)) = false := decide_eq_false (by omega)
      have i4 : ((parts.length : Int) < (parts.length : Int)) = False := eq_false (by omega)
      have HE := za.mk (takeNe_at HI.out.ne (.inl (Nat.le_refl _)))
      clear hlt hk
      go_wp2_with (first | (go_at_call 63; (with_reducible refine (zeb.calls s sub rest _ H5.out).mono ?_); rintro e' w' ⟨rfl, ⟨nd2, rfl⟩⟩))
      go_ret2
      exact ⟨cv, ns, rfl, zib HI.out.blk _, ⟨Kd.R_drewN HI.out.own.1 _, fun x hx => (HI.out.own.2 x hx).below (zc (Below.refl _ _) _)⟩, by rw [HI.out.told, HE.out], zof HI.out.gr _⟩
end Go.Proofs.YtapaijpglfmfgaaGreatDoorG
end
section
namespace Go.Proofs.YtapaijpglfmfgaaGreatDoorG
open Go.RowKit YtapaijpglfmfgaaGreatDoorH YtapaijpglfmfgaaGreatDoor.S YtapaijpglfmfgaaGreatDoorW.PrintWords YtapaijpglfmfgaaGreatDoorW.PrintLast
def zme (l : List Sx) : List (List Value) := l.map fun x => [.int .i64 x.wt, .pointer (some ⟨x.a, 0, none⟩)]
theorem zjf (l : List Sx) : (zme l).length = l.length := by simp [zme]
theorem sfCells_snoc (l : List Sx) (x : Sx) : zme (l ++ [x]) = zme l ++ [[.int .i64 x.wt, .pointer (some ⟨x.a, 0, none⟩)]] := by simp [zme]
def SOwn (w : World) (base : Nat) (v : Value) (l : List Sx) : Prop := Kd.R (Kd.raw 2) 117 w base (fun _ => True) v (zme l) ∧ ∀ x ∈ l, BigAt w x.a x.n
theorem SOwn.srow {w : World} {base : Nat} {v : Value} {l : List Sx} (h : SOwn w base v l) (hl : l.length ≤ 1000000) : SRow w v l := by
 obtain ⟨hr, hx⟩ := h
 rcases Nat.eq_zero_or_pos l.length with h0 | h0
 ·obtain ⟨A, c, e, _⟩ := Kd.R_reads hr
  rw [zjf] at e
  exact ⟨A, c, e, hl, fun i x hi => by rw [List.eq_nil_of_length_eq_zero h0] at hi; simp at hi⟩
 ·obtain ⟨g, cap, e, _⟩ := Kd.R_form hr (by rw [zjf]; exact h0)
  subst e
  refine ⟨some ⟨g, 0, none⟩, cap, by rw [zjf], hl, fun i x hi => ⟨g, rfl, ?_⟩⟩
  have hil : i < l.length := (List.getElem?_eq_some_iff.1 hi).1
  obtain ⟨c, hc1, hM, hcc, _⟩ := Kd.R_elem hr [] (i : Int) (by omega) (by rw [zjf]; omega)
  have hgd : (zme l).getD (i : Int).toNat [] = [.int .i64 x.wt, .pointer (some ⟨x.a, 0, none⟩)] := by
   rw [List.getD_eq_getElem?_getD]
   unfold zme
   rw [List.getElem?_map, show ((i : Int).toNat) = i by omega, hi]
   rfl
  rw [hgd] at hM
  obtain ⟨rfl, _⟩ := hM
  exact ⟨hcc 0 _ rfl, hcc 1 _ rfl, hx x (List.mem_of_getElem? hi)⟩
def MRest (f : Nat → Nat) (A : Option Addr) (base : Nat) (xs : List (List ByteArray)) (i : Nat) (w : World) : Prop := ∀ j x, i ≤ j → xs[j]? = some x → ∃ g2 v, A = some ⟨g2, 0, none⟩ ∧ (∃ cells, w.heap[g2]? = some (.cells cells 57 (0, 0))) ∧ w.cell? ⟨g2, j, none⟩ = some v ∧ Kd.R Kd.string 9 w base (fun b => f b = j) v x
theorem MRest.move {f : Nat → Nat} {A : Option Addr} {base : Nat} {xs : List (List ByteArray)} {i i' : Nat} {w w' : World} (h : MRest f A base xs i w) (hi : i ≤ i') (k9 : ∀ (b : Nat) (cells : Array Value), w.heap[b]? = some (.cells cells 9 (0, 0)) → i' ≤ f b → w'.heap[b]? = w.heap[b]?) (k42 : ∀ (b : Nat) (cells : Array Value), w.heap[b]? = some (.cells cells 57 (0, 0)) → w'.heap[b]? = w.heap[b]?) : MRest f A base xs i' w' := by
 intro j x hj hx
 obtain ⟨g2, v, e, ⟨cells, h1⟩, h2, h3⟩ := h j x (Nat.le_trans hi hj) hx
 have hk := k42 g2 cells h1
 refine ⟨g2, v, e, ⟨cells, hk.trans h1⟩, (World.cell?_of_block hk).trans h2, ?_⟩
 refine Kd.R_mono (Kd.R_move (Kd.R_bound h3) (fun b hb => ?_)) (fun _ hk => hk.1)
 obtain ⟨e1, _, _, q, hq, cells2, hc⟩ := hb
 have : q = 9 := by simpa [Kd.string, Kd.scalar] using hq
 subst this
 exact k9 b cells2 hc (by omega)
theorem MRest.same {f : Nat → Nat} {A : Option Addr} {base : Nat} {xs : List (List ByteArray)} {i : Nat} {w w' : World} {p : TypeId → Bool} (h : MRest f A base xs i w) (k : KeptT p w w') (h9 : p 9 = true) (h42 : p 57 = true) : MRest f A base xs i w' :=
 h.move (Nat.le_refl _) (fun b cells hb _ => k b _ _ _ hb h9) (fun b cells hb => k b _ _ _ hb h42)
theorem MRest.first {A : Option Addr} {n c base : Nat} {xs : List (List ByteArray)} {w : World} {ok : Nat → Prop} (h : Kd.S (Kd.slice 9 Kd.string) 57 w base ok (.slice A n c) xs) : ∃ f, MRest f A base xs 0 w := by
 obtain ⟨f, hR⟩ := h
 refine ⟨f, fun j x _ hx => ?_⟩
 have hjl : j < xs.length := (List.getElem?_eq_some_iff.1 hx).1
 have hzl : xs.zipIdx.length = xs.length := List.length_zipIdx
 obtain ⟨g2, cap, e, _, _, ht⟩ := Kd.R_form hR (by omega)
 injection e with e1 e2 e3
 subst e1
 obtain ⟨c', hc1, hM, hcc, _⟩ := Kd.R_elem hR (([] : List ByteArray), 0) (j : Int) (by omega) (by rw [e2]; omega)
 have hgd : xs.zipIdx.getD (j : Int).toNat (([] : List ByteArray), 0) = (x, j) := by
  rw [List.getD_eq_getElem?_getD, show ((j : Int).toNat) = j by omega, Kd.zip_at hx]; rfl
 rw [hgd] at hM
 obtain ⟨v, rfl, hv⟩ := hM
 refine ⟨g2, v, rfl, ht, ?_, Kd.R_mono hv (fun _ hk => hk.2)⟩
 have := hcc 0 v rfl
 rw [show (j : Int).toNat * (Kd.tag f (Kd.slice 9 Kd.string)).sz + 0 = j by show (j : Int).toNat * 1 + 0 = j; omega] at this
 exact this
def notSuf (t : TypeId) : Bool := t != 117
theorem numT_notSuf (t : TypeId) (h : numT t = true) : notSuf t = true := by
 unfold numT at h
 unfold notSuf
 rcases Bool.or_eq_true_iff.mp h with h | h
 ·rw [of_decide_eq_true h]; decide
 ·rw [of_decide_eq_true h]; decide
def zhf (k : Nat) : List (List ByteArray) → ByteArray → Option (List (Int × ByteArray) × ByteArray)
 | [], s => some ([], s)
 | [m0, wd, dg] :: ms, s => (zp.f k wd).bind fun wt => (zeb.f s m0).bind fun s' => if Plain (or0 dg) ∧ zvd (or0 dg) then (zhf k ms s').map (fun r => ((wt, or0 dg) :: r.1, r.2)) else none
 | _ :: _, _ => none
theorem sufRun_step {k : Nat} {m : List ByteArray} {ms : List (List ByteArray)} {s : ByteArray} {r : List (Int × ByteArray) × ByteArray} (h : zhf k (m :: ms) s = some r) : ∃ m0 wd dg wt s' r', m = [m0, wd, dg] ∧ zp.f k wd = some wt ∧ zeb.f s m0 = some s' ∧ Plain (or0 dg) ∧ zvd (or0 dg) ∧ zhf k ms s' = some r' ∧ r = ((wt, or0 dg) :: r'.1, r'.2) := by
 match m, h with
 | [m0, wd, dg], h =>
  simp only [zhf] at h
  obtain ⟨wt, h1, h⟩ := Option.bind_eq_some_iff.mp h
  obtain ⟨s', h2, h⟩ := Option.bind_eq_some_iff.mp h
  by_cases hc : Plain (or0 dg) ∧ zvd (or0 dg)
  ·rw [if_pos hc] at h
   obtain ⟨r', h3, rfl⟩ := Option.map_eq_some_iff.mp h
   exact ⟨m0, wd, dg, wt, s', r', rfl, h1, h2, hc.1, hc.2, h3, rfl⟩
  ·rw [if_neg hc] at h
   cases h
 | [], h => simp [zhf] at h
 | [_], h => simp [zhf] at h
 | [_, _], h => simp [zhf] at h
 | _ :: _ :: _ :: _ :: _, h => simp [zhf] at h
def zzf (l : List Sx) : List (Int × Nat) := l.map fun x => (x.wt, x.n)
def zye (l : List (Int × ByteArray)) : List (Int × Nat) := l.map fun x => (x.1, dv x.2 x.2.size)
structure SInv (w wr : World) (g : Nat) (o : ByteArray) (i : Bool) (r : ByteArray) (cv : Value) (l : ByteArray) (sv : Value) (h : ByteArray) (bv : Value) (f : Nat → Nat) (A : Option Addr) (xs : List (List ByteArray)) (k : Nat) (ns : List Sx) : Prop where
 len : ns.length = k
 blk : VBlk wr g o i r cv l sv h bv
 own : SOwn wr w.heap.size sv ns
 rest : MRest f A w.heap.size xs k wr
 gr : w.grownBy wr (some g)
structure SMid (w wr : World) (g : Nat) (o : ByteArray) (i : Bool) (r : ByteArray) (cv : Value) (l : ByteArray) (sv : Value) (h : ByteArray) (bv : Value) (f : Nat → Nat) (A : Option Addr) (xs : List (List ByteArray)) (k : Nat) (ns : List Sx) (b : Nat) (m0 wd : ByteArray) (a n : Nat) : Prop where
 len : ns.length = k
 blk : VBlk wr g o i r cv l sv h bv
 own : SOwn wr w.heap.size sv ns
 rest : MRest f A w.heap.size xs (k + 1) wr
 gr : w.grownBy wr (some g)
 ty : ∃ cells, wr.heap[b]? = some (.cells cells 9 (0, 0))
 c0 : wr.cell? ⟨b, 0, none⟩ = some (.string m0)
 c1 : wr.cell? ⟨b, 1, none⟩ = some (.string wd)
 num : BigAt wr a n
section
variable {w wr w' : World} {g : Nat} {o : ByteArray} {i : Bool} {r : ByteArray} {cv : Value} {l : ByteArray} {sv : Value} {h : ByteArray} {bv : Value} {f : Nat → Nat} {A : Option Addr} {xs : List (List ByteArray)} {k : Nat} {ns : List Sx} {b : Nat} {m0 wd : ByteArray} {a n : Nat}
theorem SOwn.below {base : Nat} (H : SOwn wr base sv ns) (hb : Below wr.heap.size wr w') : SOwn w' base sv ns := ⟨Kd.R_below H.1 hb, fun x hx => (H.2 x hx).below hb⟩
theorem SMid.below (H : SMid w wr g o i r cv l sv h bv f A xs k ns b m0 wd a n) (hb : Below wr.heap.size wr w') : SMid w w' g o i r cv l sv h bv f A xs k ns b m0 wd a n :=
 ⟨H.len, ze H.blk hb, H.own.below hb, H.rest.same (p := fun _ => true) (KeptT.below hb) rfl rfl, zaf H.gr hb, by obtain ⟨cells, hc⟩ := H.ty; exact ⟨cells, ze hc hb⟩, zmd hb H.c0, zmd hb H.c1, H.num.below hb⟩
theorem SMid.drew (H : SMid w wr g o i r cv l sv h bv f A xs k ns b m0 wd a n) : SMid w wr.drew g o i r cv l sv h bv f A xs k ns b m0 wd a n := H.below (zjj (Below.refl _ _))
theorem SInv.below (H : SInv w wr g o i r cv l sv h bv f A xs k ns) (hb : Below wr.heap.size wr w') : SInv w w' g o i r cv l sv h bv f A xs k ns :=
 ⟨H.len, ze H.blk hb, H.own.below hb, H.rest.same (p := fun _ => true) (KeptT.below hb) rfl rfl, zaf H.gr hb⟩
theorem SInv.mid (H : SInv w wr g o i r cv l sv h bv f A xs k ns) (hb9 : ∃ cells, wr.heap[b]? = some (.cells cells 9 (0, 0))) (hfb : f b = k) (hbw : w.heap.size ≤ b) (h0 : wr.cell? ⟨b, 0, none⟩ = some (.string m0)) (h1 : wr.cell? ⟨b, 1, none⟩ = some (.string wd)) {W : World} (hW : W = wr ∨ W = wr.setCell ⟨b, 2, none⟩ (.string ⟨#[48]⟩)) (hb : Below W.heap.size W w') (hn : BigAt w' a n) : SMid w w' g o i r cv l sv h bv f A xs k ns b m0 wd a n := by
 have key : SMid w W g o i r cv l sv h bv f A xs k ns b m0 wd a n ∨ True := .inr trivial
 clear key
 obtain ⟨cells, hc⟩ := hb9
 rcases hW with rfl | rfl
 ·exact ⟨H.len, ze H.blk hb, H.own.below hb, (H.rest.move (Nat.le_succ k) (fun _ _ _ _ => rfl) (fun _ _ _ => rfl)).same (p := fun _ => true) (KeptT.below hb) rfl rfl, zaf H.gr hb, ⟨cells, ze hc hb⟩, zmd hb h0, zmd hb h1, hn⟩
 ·have K : KeptT (fun t => t != 9) wr (wr.setCell ⟨b, 2, none⟩ (.string ⟨#[48]⟩)) := KeptT.set hc (by decide) 2 _
  have KN : KeptT numT wr (wr.setCell ⟨b, 2, none⟩ (.string ⟨#[48]⟩)) := KeptT.set hc (by decide) 2 _
  have hc' := blk_set hc 2 (.string ⟨#[48]⟩)
  have cell_ne : ∀ j, j ≠ 2 → (wr.setCell ⟨b, 2, none⟩ (.string ⟨#[48]⟩)).cell? ⟨b, j, none⟩ = wr.cell? ⟨b, j, none⟩ := fun j hj => by
   rw [zf hc', zf hc, Array.getElem?_setIfInBounds]
   rw [if_neg (by omega)]
  refine ⟨H.len, ze (K.blk H.blk (by decide)) hb, SOwn.below ⟨R_keptT (p := fun t => t != 9) rfl (by decide) H.own.1 K, fun x hx => (H.own.2 x hx).kept KN⟩ hb, (H.rest.move (Nat.le_succ k) (fun b' cells' hb' hf => ?_) (fun b' cells' hb' => ?_)).same (p := fun _ => true) (KeptT.below hb) rfl rfl, zaf (gr_set H.gr (.inr hbw) 2 _) hb, ⟨_, ze hc' hb⟩, zmd hb ((cell_ne 0 (by decide)).trans h0), zmd hb ((cell_ne 1 (by decide)).trans h1), hn⟩
  ·exact Below.heap_setCell _ _ _ _ (fun e => by have e2 : b' = b := e; subst e2; omega)
  ·exact K b' _ _ _ hb' (by decide)
theorem SMid.step (H : SMid w wr g o i r cv l sv h bv f A xs k ns b m0 wd a n) {w7 : World} {v1 : Value} {wt : Int} (ho : Kd.R (Kd.raw 2) 117 w7 w.heap.size (fun _ => True) v1 (zme ns ++ [[.int .i64 wt, .pointer (some ⟨a, 0, none⟩)]])) (hg : wr.grownBy w7 sv.ownBlock) :
    SInv w (w7.setCell ⟨g, 5, none⟩ v1) g o i r cv l v1 h bv f A xs (k + 1) (ns ++ [⟨wt, a, n⟩]) ∧ (w7.setCell ⟨g, 5, none⟩ v1).cell? ⟨b, 0, none⟩ = some (.string m0) := by
  have K : KeptT notSuf wr w7 := KeptT.row (by decide) H.own.1 hg
  have B7 : VBlk w7 g o i r cv l sv h bv := K.blk H.blk (by decide)
  have KN2 : KeptT numT wr (w7.setCell ⟨g, 5, none⟩ v1) := (K.sub numT_notSuf).trans (KeptT.set B7 (by decide) 5 _)
  have KM : KeptT (fun t => t == 9 || t == 57) wr (w7.setCell ⟨g, 5, none⟩ v1) := (K.sub (fun t ht => by
    rcases Bool.or_eq_true_iff.mp ht with ht | ht
    · rw [of_decide_eq_true ht]; decide
    · rw [of_decide_eq_true ht]; decide)).trans (KeptT.set B7 (by decide) 5 _)
  refine ⟨⟨by rw [List.length_append, H.len]; rfl, zdb B7 5 _ rfl, ⟨?_, fun x hx => ?_⟩, H.rest.same KM (by decide) (by decide), gr_set (gr_then H.gr hg (fun b hb => .inr (Kd.R_base H.own.1 b hb))) (.inl rfl) _ _⟩, ?_⟩
  · rw [sfCells_snoc]
    exact Kd.R_set ho B7 (by intro q hq; have : q = 117 := by simpa [Kd.raw] using hq
                             subst this; decide) 5 _
  · rcases List.mem_append.mp hx with hx | hx
    · exact (H.own.2 x hx).kept KN2
    · simp at hx; subst hx; exact H.num.kept KN2
  · obtain ⟨cells, hc⟩ := H.ty
    exact (World.cell?_of_block (KM b _ _ _ hc (by decide))).trans H.c0
end
theorem parseSufs_ (w : World) (g : Nat) (o : ByteArray) (i : Bool) (r : ByteArray) (cv : Value) (l h : ByteArray) (bv : Value) (s rest : ByteArray) (kq k2 : Nat) (xs : List (List ByteArray)) (L : List (Int × ByteArray)) (hv : VBlk w g o i r cv l (.slice none 0 0) h bv) (hGL : ∀ W, w.grownBy W (some g) → GLe W)
  (h1 : zh.f k2 s = some xs) (hl : xs.length ≤ 1000000) (h2 : zhf kq xs s = some (L, rest)) :
  Calls Tryz.prog 50 #[.pointer (some ⟨g, 0, none⟩), .string s] w fun e w' => ∃ sv ns, e = .returned (.tuple #[.string rest, .nilIface]) ∧ VBlk w' g o i r cv l sv h bv ∧ SOwn w' w.heap.size sv ns ∧ zzf ns = zye L ∧ w.grownBy w' (some g) := by
 have HG := za.mk hv
 have H1 := za.mk h1
 have H2 : za (∃ L', zhf kq (xs.drop 0) s = some (L', rest) ∧ zzf [] ++ zye L' = zye L) := ⟨⟨L, by simpa using h2, rfl⟩⟩
 have HGL := za.mk hGL
 have HL := za.mk hl
 clear h1 h2 hv hGL hl
 go_enter Tryz.func50, Tryz.ntmps50
 go_wp2_with (first | (go_at_call 65; (with_reducible refine (zh.calls k2 s xs _ H1.out).mono ?_); rintro e' w1 ⟨v0, rfl, hr, hb⟩; obtain ⟨A, cap, rfl⟩ := Kd.S_slice hr; have B1 := za.mk hb; have R1 := za.mk (MRest.first hr); clear hr hb))
 obtain ⟨f, hf⟩ := R1.out
 have I0 : za (SInv w w1 g o i r cv l (.slice none 0 0) h bv f A xs 0 []) := ⟨⟨rfl, ze HG.out B1.out, ⟨Kd.R_nil _ _ _ _ _, fun x hx => by simp at hx⟩, hf, zaf (zkg w _) B1.out⟩⟩
 clear hf R1
 go_loopw [1, 13] (fun tv iv wr => ∃ (k : Nat) (ns : List Sx) (sv : Value) (t : ByteArray), k ≤ xs.length ∧ tv = .string t ∧ iv = .int .i64 k ∧ za (SInv w wr g o i r cv l sv h bv f A xs k ns) ∧ za (∃ L', zhf kq (xs.drop k) t = some (L', rest) ∧ zzf ns ++ zye L' = zye L)) (fun _ iv _ => xs.length - (intOf iv).toNat)
 case atStart => exact ⟨0, [], _, s, Nat.zero_le _, rfl, rfl, I0, H2⟩
 case round =>
  clear H2
  obtain ⟨k, ns, sv, t, hk, rfl, rfl, HI, HR⟩ := hrel
  by_cases hlt : k < xs.length
  ·have i3 : decide ((k : Int) < (xs.length : Int)) = true := decide_eq_true (by omega)
   have i4 : ((k : Int) < (xs.length : Int)) = True := eq_true (by omega)
   have i5 : (0 ≤ (k : Int)) = True := eq_true (by omega)
   have WR : wrap64 ((k : Int) + 1) = ((k + 1 : Nat) : Int) := by have := HL.out; unfold wrap64; omega
   have LT := za.mk hlt
   have HNL : za (ns.length ≤ 1000000) := ⟨by have q1 := HI.out.len; have q2 := HL.out; omega⟩
   obtain ⟨L', hL1, hL2⟩ := HR.out
   rw [List.drop_eq_getElem_cons hlt] at hL1
   obtain ⟨m0, wd, dg, wt, t', r', hm, hw, ht, hp, hd, hrun, hr⟩ := sufRun_step hL1
   have HNX : ∀ a n, n = dv (or0 dg) (or0 dg).size → za (∃ L', zhf kq (xs.drop (k + 1)) t' = some (L', rest) ∧ zzf (ns ++ [⟨wt, a, n⟩]) ++ zye L' = zye L) := fun a n hn => ⟨⟨r'.1, by
    rw [hrun]
    have e := congrArg Prod.snd hr
    have e2 : rest = r'.2 := e
    rw [e2], by
    have e := congrArg Prod.fst hr
    have e2 : L' = (wt, or0 dg) :: r'.1 := e
    rw [← hL2, e2, hn]
    simp [zzf, zye]⟩⟩
   have HW := za.mk hw
   have HT := za.mk ht
   have hx : xs[k]? = some [m0, wd, dg] := by rw [List.getElem?_eq_getElem hlt, hm]
   obtain ⟨g2, v, e, ⟨cells2, hg2⟩, hcell, hrow⟩ := HI.out.rest k _ (Nat.le_refl _) hx
   subst e
   obtain ⟨b, cap2, e, hb1, hb2, hb3⟩ := Kd.R_form hrow (by simp)
   subst e
   have hfb : f b = k := hrow.1 b rfl
   have el : ∀ j : Nat, j < 3 → wr.cell? ⟨b, j, none⟩ = some (.string ([m0, wd, dg].getD j ByteArray.empty)) ∧ wr.frozen? ⟨b, j, none⟩ = false := fun j hj => by
    obtain ⟨c, hc1, hM, hcc, hfr⟩ := Kd.R_elem hrow ByteArray.empty (j : Int) (by omega) (by simp; omega)
    have hM2 : c = [.string ([m0, wd, dg].getD (j : Int).toNat ByteArray.empty)] := hM
    have h3 := hcc 0 _ (by rw [hM2]; rfl)
    have h4 := hfr 0
    rw [show (j : Int).toNat * Kd.string.sz + 0 = j by show (j : Int).toNat * 1 + 0 = j; omega] at h3 h4
    rw [show (j : Int).toNat = j by omega] at h3
    exact ⟨h3, h4⟩
   have y0 : wr.cell? ⟨g2, k, none⟩ = some (.slice (some ⟨b, 0, none⟩) 3 cap2) := hcell
   have e0 : wr.cell? ⟨b, 0, none⟩ = some (.string m0) := (el 0 (by decide)).1
   have e1 : wr.cell? ⟨b, 1, none⟩ = some (.string wd) := (el 1 (by decide)).1
   have e2 : wr.cell? ⟨b, 2, none⟩ = some (.string dg) := (el 2 (by decide)).1
   have f2 : wr.frozen? ⟨b, 2, none⟩ = false := (el 2 (by decide)).2
   have HGE := za.mk (HGL.out wr HI.out.gr)
   have HB3 := za.mk hb3
   have HGE2 : za (GLe (wr.setCell ⟨b, 2, none⟩ (.string ⟨#[48]⟩))) := ⟨HGL.out _ (gr_set HI.out.gr (.inr hb1) _ _)⟩
   have HM : za (∀ (W w' : World) (a : Nat), (W = wr ∨ W = wr.setCell ⟨b, 2, none⟩ (.string ⟨#[48]⟩)) → Below W.heap.size W w' → BigAt w' a (dv (or0 dg) (or0 dg).size) → SMid w w' g o i r cv l sv h bv f (some ⟨g2, 0, none⟩) xs k ns b m0 wd a (dv (or0 dg) (or0 dg).size)) :=
    ⟨fun W w' a hW hb hn => HI.out.mid hb3 hfb hb1 e0 e1 hW hb hn⟩
   have HP := za.mk (And.intro hp hd)
   clear hlt hk hL1 hL2 hm hw ht hp hd hrun hr hx hg2 hcell hrow hb1 hb2 hfb el e0 e1 hb3 HR I0 HI
   by_cases hde : dg.toList = []
   ·have c1 : (dg.toList == []) = true := by simpa using hde
    have c2 : (dg.toList != []) = false := by simpa using hde
    have c3 : dg.toList.isEmpty = true := by simpa using hde
    have eo : or0 dg = ⟨#[48]⟩ := if_pos hde
    rw [eo] at HM HP HNX
    have HV : za (∀ W, GLe W → Calls Tryz.prog 62 #[.string ⟨#[48]⟩] W fun e w' => ∃ a, e = .returned (.tuple #[.pointer (some ⟨a, 0, none⟩), .nilIface]) ∧ BigAt w' a (dv ⟨#[48]⟩ (⟨#[48]⟩ : ByteArray).size) ∧ Below W.heap.size W w') := ⟨fun W hW => conv_at W _ HP.out.1 hW HP.out.2⟩
    clear hde eo HP
    have y2 : (wr.setCell ⟨b, 2, none⟩ (.string ⟨#[48]⟩)).cell? ⟨b, 2, none⟩ = some (.string ⟨#[48]⟩) := by
     obtain ⟨cells, hc⟩ := HB3.out
     rw [zf (blk_set hc 2 _), Array.getElem?_setIfInBounds]
     rw [zf hc] at e2
     have := (Array.getElem?_eq_some_iff.1 e2).1
     simp [this]
    go_upto_region 9 with (first | (go_at_call 62; (with_reducible refine (HV.out _ HGE2.out).mono ?_); rintro e' w3 ⟨a, rfl, hA, hb⟩; have M3 := za.mk (HM.out _ w3 a (.inr rfl) hb hA); have NX := HNX a _ rfl; clear hb hA HNX HB3))
    refine zeh (n := 16) (S := fun w' => w'.cell? ⟨g, 5, none⟩ = some sv ∧ w'.cell? ⟨b, 1, none⟩ = some (.string wd)) (ds := [12, 15]) #[false, false, false, false, false, false, false, false, false, false, false, false, false, false, false, false] (by kernel_rfl) rfl rfl ⟨(zf M3.out.drew.blk 5).trans rfl, M3.out.drew.c1⟩ (fun hHeld => ?_)
    have M4 := za.mk M3.out.drew
    clear M3 HM
    generalize w3.drew = w4 at M4 hHeld ⊢
    refine pure_ (i := 0) (N := some 33) (v := ?_) (a' := ?_) #[true, false, false, false, false, false, false, false, false, false, false, false, false, false, false, false] rfl rfl (by kernel_rfl) (fun _ _ _ h => h) (Or.inl ⟨by rfl, ?_⟩) ?_ ?_
    rotate_left
    ·intro w'
     go_simp
     with_reducible rfl
    rotate_left
    ·simp only [Act.put, List.setIfInBounds_toArray, List.set_cons_zero, List.set_cons_succ, i64_w, i32_w]
     rfl
    refine pure_ (i := 1) (N := some 34) (v := ?_) (a' := ?_) #[true, true, false, false, false, false, false, false, false, false, false, false, false, false, false, false] rfl rfl (by kernel_rfl) (fun _ _ _ h => h) (Or.inl ⟨by rfl, ?_⟩) ?_ ?_
    rotate_left
    ·intro w'
     go_simp
     with_reducible rfl
    rotate_left
    ·simp only [Act.put, List.setIfInBounds_toArray, List.set_cons_zero, List.set_cons_succ, i64_w, i32_w]
     rfl
    refine pure_ (i := 2) (N := some 35) (v := ?_) (a' := ?_) #[true, true, true, false, false, false, false, false, false, false, false, false, false, false, false, false] rfl rfl (by kernel_rfl) (fun _ _ _ h => h) (Or.inl ⟨by rfl, ?_⟩) ?_ ?_
    rotate_left
    ·intro w'
     go_simp
     with_reducible rfl
    rotate_left
    ·simp only [Act.put, List.setIfInBounds_toArray, List.set_cons_zero, List.set_cons_succ, i64_w, i32_w]
     rfl
    refine pure_ (i := 3) (N := some 36) (v := ?_) (a' := ?_) #[true, true, true, true, false, false, false, false, false, false, false, false, false, false, false, false] rfl rfl (by kernel_rfl) (fun _ _ _ h => h) (Or.inl ⟨by rfl, ?_⟩) ?_ ?_
    rotate_left
    ·intro w'
     go_simp
     with_reducible rfl
    rotate_left
    ·simp only [Act.put, List.setIfInBounds_toArray, List.set_cons_zero, List.set_cons_succ, i64_w, i32_w]
     rfl
    refine pure_ (i := 5) (N := some 38) (v := ?_) (a' := ?_) #[true, true, true, true, false, true, false, false, false, false, false, false, false, false, false, false] rfl rfl (by kernel_rfl) (fun _ _ _ h => h) (Or.inl ⟨by rfl, ?_⟩) ?_ ?_
    rotate_left
    ·intro w'
     go_simp
     with_reducible rfl
    rotate_left
    ·simp only [Act.put, List.setIfInBounds_toArray, List.set_cons_zero, List.set_cons_succ, i64_w, i32_w]
     rfl
    refine pure_ (i := 6) (N := some 39) (v := ?_) (a' := ?_) #[true, true, true, true, false, true, true, false, false, false, false, false, false, false, false, false] rfl rfl (by kernel_rfl) (fun _ _ _ h => h) (Or.inl ⟨by rfl, ?_⟩) ?_ ?_
    rotate_left
    ·intro w'
     go_simp
     with_reducible rfl
    rotate_left
    ·simp only [Act.put, List.setIfInBounds_toArray, List.set_cons_zero, List.set_cons_succ, i64_w, i32_w]
     rfl
    refine pure_ (i := 9) (N := some 42) (v := ?_) (a' := ?_) #[true, true, true, true, false, true, true, false, false, true, false, false, false, false, false, false] rfl rfl (by kernel_rfl) (fun _ _ _ h => h) (Or.inl ⟨by rfl, ?_⟩) ?_ ?_
    rotate_left
    ·intro w'
     go_simp
     with_reducible rfl
    rotate_left
    ·simp only [Act.put, List.setIfInBounds_toArray, List.set_cons_zero, List.set_cons_succ, i64_w, i32_w]
     rfl
    refine take_ (i := 4) (N := some 37) (v := ?_) (a' := ?_) #[true, true, true, true, true, true, true, false, false, true, false, false, false, false, false, false] rfl rfl (by kernel_rfl) (fun _ _ _ h => h) (Or.inl ⟨by rfl, ?_⟩) hHeld ?_ ?_
    rotate_left
    ·rintro w' ⟨s0, s1⟩
     go_simp
     with_reducible rfl
    rotate_left
    ·simp only [Act.put, List.setIfInBounds_toArray, List.set_cons_zero, List.set_cons_succ, i64_w, i32_w]
     rfl
    refine take_ (i := 7) (N := some 40) (v := ?_) (a' := ?_) #[true, true, true, true, true, true, true, true, false, true, false, false, false, false, false, false] rfl rfl (by kernel_rfl) (fun _ _ _ h => h) (Or.inl ⟨by rfl, ?_⟩) hHeld ?_ ?_
    rotate_left
    ·rintro w' ⟨s0, s1⟩
     go_simp
     with_reducible rfl
    rotate_left
    ·simp only [Act.put, List.setIfInBounds_toArray, List.set_cons_zero, List.set_cons_succ, i64_w, i32_w]
     rfl
    refine one_ (i := 8) (N := some 41) #[true, true, true, true, true, true, true, true, true, true, false, false, false, false, false, false] rfl rfl (by kernel_rfl) (by decide) (fun K hK => ?_)
    refine goes_ Tryz.func66 (by kernel_rfl) rfl #[.string wd] (by rfl) rfl rfl (by simp only [List.map_toArray, List.map_cons, List.map_nil]; rfl) ?_
    with_reducible refine (zp.calls kq wd wt _ HW.out).mono ?_
    rintro e w5 ⟨rfl, hb⟩
    refine ⟨_, rfl, ?_⟩
    have M5 := za.mk (M4.out.below hb)
    clear hb M4
    refine hK.out _ _ ⟨(zf M5.out.blk 5).trans rfl, M5.out.c1⟩ (fun hHeld => ?_)
    clear hK K
    refine Go.Proofs.YtapaijpglfmfgaaGreatDoorW.PrintLast.norm_ (a' := ?_) ?_ ?_
    rotate_left
    ·show Act.put _ (some 41) _ = _
     simp only [Act.put, List.setIfInBounds_toArray, List.set_cons_zero, List.set_cons_succ, i64_w, i32_w]
     rfl
    refine pure_ (i := 10) (N := some 43) (v := ?_) (a' := ?_) #[true, true, true, true, true, true, true, true, true, true, true, false, false, false, false, false] rfl rfl (by kernel_rfl) (fun _ _ _ h => h) (Or.inl ⟨by rfl, ?_⟩) ?_ ?_
    rotate_left
    ·intro w'
     go_simp
     with_reducible rfl
    rotate_left
    ·simp only [Act.put, List.setIfInBounds_toArray, List.set_cons_zero, List.set_cons_succ, i64_w, i32_w]
     rfl
    refine one_ (i := 11) (N := some 44) #[true, true, true, true, true, true, true, true, true, true, true, true, false, false, false, false] rfl rfl (by kernel_rfl) (by decide) (fun K hK => ?_)
    refine value_ (w1 := ?_) (v := ?_) (by rfl) rfl ?_ ?_
    rotate_left 2
    ·go_simp
     constructor
     ·rfl
     ·rfl
    refine hK.out _ _ ⟨(zf (zjc M5.out.blk _) 5).trans rfl, (zmd (zj (Below.refl _ _) _) M5.out.c1)⟩ (fun hHeld => ?_)
    clear hK K
    refine Go.Proofs.YtapaijpglfmfgaaGreatDoorW.PrintLast.norm_ (a' := ?_) ?_ ?_
    rotate_left
    ·show Act.put _ (some 44) _ = _
     simp only [Act.put, List.setIfInBounds_toArray, List.set_cons_zero, List.set_cons_succ, i64_w, i32_w]
     rfl
    refine last_ (i := 12) (N := some 45) #[true, true, true, true, true, true, true, true, true, true, true, true, true, false, false, false] rfl rfl (by kernel_rfl) (by decide) (fun K hK => ?_)
    refine Kd.R_append_step (Kd.raw 2) (w0 := w5) w.heap.size (by rfl) (.tmp 37) (.tmp 44) 68 117 (.agg #[.int .i64 0, .pointer none]) 16 rfl Tryz.underlying68 infoSuf rfl (by decide) (by omega) sv (zme ns) [.int .i64 wt, .pointer (some ⟨a, 0, none⟩)] [.int .i64 wt, .pointer (some ⟨a, 0, none⟩)] (fun _ => True) (fun _ => False) rfl rfl ?aP (fun _ hk => hk.elim) (fun _ _ => trivial) M5.out.own.1 (Below.refl _ _) M5.out.gr.size ?aL ?_
    (case aP => exact ⟨rfl, rfl, by intro u hu; simp at hu; rcases hu with rfl | rfl <;> rfl⟩)
    (case aL => rw [zjf]; have := HNL.out; omega)
    intro v1 w7 ho hb hg hat
    obtain ⟨A1, n1, cp1, rfl⟩ : ∃ A n c, v1 = .slice A n c := by
     obtain ⟨A, c, e⟩ := Kd.R_slice ho
     exact ⟨A, _, c, e⟩
    have B7 := za.mk ((KeptT.row (p := notSuf) (by decide) M5.out.own.1 hg).blk M5.out.blk (by decide))
    have x7 := (zf B7.out 5).trans rfl
    have f7 := zy B7.out 5
    have I7 := za.mk (M5.out.step ho hg)
    clear ho hb hg hat
    refine hK.out _ _ ?_
    clear hK K
    refine Go.Proofs.YtapaijpglfmfgaaGreatDoorW.PrintLast.norm_ (a' := ?_) ?_ ?_
    rotate_left
    ·show Act.put _ (some 45) _ = _
     simp only [Act.put, List.setIfInBounds_toArray, List.set_cons_zero, List.set_cons_succ, i64_w, i32_w]
     rfl
    refine pure_ (i := 13) (N := some 46) (v := ?_) (a' := ?_) #[true, true, true, true, true, true, true, true, true, true, true, true, true, true, false, false] rfl rfl (by kernel_rfl) (fun _ _ _ h => h) (Or.inl ⟨by rfl, ?_⟩) ?_ ?_
    rotate_left
    ·intro w'
     go_simp
     with_reducible rfl
    rotate_left
    ·simp only [Act.put, List.setIfInBounds_toArray, List.set_cons_zero, List.set_cons_succ, i64_w, i32_w]
     rfl
    refine pure_ (i := 14) (N := some 47) (v := ?_) (a' := ?_) #[true, true, true, true, true, true, true, true, true, true, true, true, true, true, true, false] rfl rfl (by kernel_rfl) (fun _ _ _ h => h) (Or.inl ⟨by rfl, ?_⟩) ?_ ?_
    rotate_left
    ·intro w'
     go_simp
     with_reducible rfl
    rotate_left
    ·simp only [Act.put, List.setIfInBounds_toArray, List.set_cons_zero, List.set_cons_succ, i64_w, i32_w]
     rfl
    refine last_ (i := 15) (N := none) #[true, true, true, true, true, true, true, true, true, true, true, true, true, true, true, true] rfl rfl (by kernel_rfl) (by decide) (fun K hK => ?_)
    refine skip_ (w1 := ?_) (by rfl) rfl ?_ ?_
    rotate_left
    ·go_simp
     rfl
    refine hK.out _ _ ?_
    clear hK K
    refine done_ (by kernel_rfl) ?_
    have x8 := I7.out.2
    go_wp2_with (first | (go_at_call 63; (with_reducible refine (zeb.calls t m0 t' _ HT.out).mono ?_); rintro e' w' ⟨rfl, ⟨nd2, rfl⟩⟩))
    go_roundw
    all_goals first | exact ⟨k + 1, _, .slice A1 n1 cp1, t', LT.out, rfl, by first | rfl | go_num, ⟨I7.out.1.below (zc (Below.refl _ _) _)⟩, NX⟩ | exact zsh _ k LT.out | exact meas_up1 _ k LT.out | exact zki _ k LT.out WR
   ·have c1 : (dg.toList == []) = false := by simpa using hde
    have c2 : (dg.toList != []) = true := by simpa using hde
    have c3 : dg.toList.isEmpty = false := by simpa using hde
    have eo : or0 dg = dg := if_neg hde
    rw [eo] at HM HP HNX
    have HV : za (∀ W, GLe W → Calls Tryz.prog 62 #[.string dg] W fun e w' => ∃ a, e = .returned (.tuple #[.pointer (some ⟨a, 0, none⟩), .nilIface]) ∧ BigAt w' a (dv dg dg.size) ∧ Below W.heap.size W w') := ⟨fun W hW => conv_at W _ HP.out.1 hW HP.out.2⟩
    clear hde eo HP
    go_upto_region 9 with (first | (go_at_call 62; (with_reducible refine (HV.out _ HGE.out).mono ?_); rintro e' w3 ⟨a, rfl, hA, hb⟩; have M3 := za.mk (HM.out _ w3 a (.inl rfl) hb hA); have NX := HNX a _ rfl; clear hb hA HNX HB3))
    refine zeh (n := 16) (S := fun w' => w'.cell? ⟨g, 5, none⟩ = some sv ∧ w'.cell? ⟨b, 1, none⟩ = some (.string wd)) (ds := [12, 15]) #[false, false, false, false, false, false, false, false, false, false, false, false, false, false, false, false] (by kernel_rfl) rfl rfl ⟨(zf M3.out.drew.blk 5).trans rfl, M3.out.drew.c1⟩ (fun hHeld => ?_)
    have M4 := za.mk M3.out.drew
    clear M3 HM
    generalize w3.drew = w4 at M4 hHeld ⊢
    refine pure_ (i := 0) (N := some 33) (v := ?_) (a' := ?_) #[true, false, false, false, false, false, false, false, false, false, false, false, false, false, false, false] rfl rfl (by kernel_rfl) (fun _ _ _ h => h) (Or.inl ⟨by rfl, ?_⟩) ?_ ?_
    rotate_left
    ·intro w'
     go_simp
     with_reducible rfl
    rotate_left
    ·simp only [Act.put, List.setIfInBounds_toArray, List.set_cons_zero, List.set_cons_succ, i64_w, i32_w]
     rfl
    refine pure_ (i := 1) (N := some 34) (v := ?_) (a' := ?_) #[true, true, false, false, false, false, false, false, false, false, false, false, false, false, false, false] rfl rfl (by kernel_rfl) (fun _ _ _ h => h) (Or.inl ⟨by rfl, ?_⟩) ?_ ?_
    rotate_left
    ·intro w'
     go_simp
     with_reducible rfl
    rotate_left
    ·simp only [Act.put, List.setIfInBounds_toArray, List.set_cons_zero, List.set_cons_succ, i64_w, i32_w]
     rfl
    refine pure_ (i := 2) (N := some 35) (v := ?_) (a' := ?_) #[true, true, true, false, false, false, false, false, false, false, false, false, false, false, false, false] rfl rfl (by kernel_rfl) (fun _ _ _ h => h) (Or.inl ⟨by rfl, ?_⟩) ?_ ?_
    rotate_left
    ·intro w'
     go_simp
     with_reducible rfl
    rotate_left
    ·simp only [Act.put, List.setIfInBounds_toArray, List.set_cons_zero, List.set_cons_succ, i64_w, i32_w]
     rfl
    refine pure_ (i := 3) (N := some 36) (v := ?_) (a' := ?_) #[true, true, true, true, false, false, false, false, false, false, false, false, false, false, false, false] rfl rfl (by kernel_rfl) (fun _ _ _ h => h) (Or.inl ⟨by rfl, ?_⟩) ?_ ?_
    rotate_left
    ·intro w'
     go_simp
     with_reducible rfl
    rotate_left
    ·simp only [Act.put, List.setIfInBounds_toArray, List.set_cons_zero, List.set_cons_succ, i64_w, i32_w]
     rfl
    refine pure_ (i := 5) (N := some 38) (v := ?_) (a' := ?_) #[true, true, true, true, false, true, false, false, false, false, false, false, false, false, false, false] rfl rfl (by kernel_rfl) (fun _ _ _ h => h) (Or.inl ⟨by rfl, ?_⟩) ?_ ?_
    rotate_left
    ·intro w'
     go_simp
     with_reducible rfl
    rotate_left
    ·simp only [Act.put, List.setIfInBounds_toArray, List.set_cons_zero, List.set_cons_succ, i64_w, i32_w]
     rfl
    refine pure_ (i := 6) (N := some 39) (v := ?_) (a' := ?_) #[true, true, true, true, false, true, true, false, false, false, false, false, false, false, false, false] rfl rfl (by kernel_rfl) (fun _ _ _ h => h) (Or.inl ⟨by rfl, ?_⟩) ?_ ?_
    rotate_left
    ·intro w'
     go_simp
     with_reducible rfl
    rotate_left
    ·simp only [Act.put, List.setIfInBounds_toArray, List.set_cons_zero, List.set_cons_succ, i64_w, i32_w]
     rfl
    refine pure_ (i := 9) (N := some 42) (v := ?_) (a' := ?_) #[true, true, true, true, false, true, true, false, false, true, false, false, false, false, false, false] rfl rfl (by kernel_rfl) (fun _ _ _ h => h) (Or.inl ⟨by rfl, ?_⟩) ?_ ?_
    rotate_left
    ·intro w'
     go_simp
     with_reducible rfl
    rotate_left
    ·simp only [Act.put, List.setIfInBounds_toArray, List.set_cons_zero, List.set_cons_succ, i64_w, i32_w]
     rfl
    refine take_ (i := 4) (N := some 37) (v := ?_) (a' := ?_) #[true, true, true, true, true, true, true, false, false, true, false, false, false, false, false, false] rfl rfl (by kernel_rfl) (fun _ _ _ h => h) (Or.inl ⟨by rfl, ?_⟩) hHeld ?_ ?_
    rotate_left
    ·rintro w' ⟨s0, s1⟩
     go_simp
     with_reducible rfl
    rotate_left
    ·simp only [Act.put, List.setIfInBounds_toArray, List.set_cons_zero, List.set_cons_succ, i64_w, i32_w]
     rfl
    refine take_ (i := 7) (N := some 40) (v := ?_) (a' := ?_) #[true, true, true, true, true, true, true, true, false, true, false, false, false, false, false, false] rfl rfl (by kernel_rfl) (fun _ _ _ h => h) (Or.inl ⟨by rfl, ?_⟩) hHeld ?_ ?_
    rotate_left
    ·rintro w' ⟨s0, s1⟩
     go_simp
     with_reducible rfl
    rotate_left
    ·simp only [Act.put, List.setIfInBounds_toArray, List.set_cons_zero, List.set_cons_succ, i64_w, i32_w]
     rfl
    refine one_ (i := 8) (N := some 41) #[true, true, true, true, true, true, true, true, true, true, false, false, false, false, false, false] rfl rfl (by kernel_rfl) (by decide) (fun K hK => ?_)
    refine goes_ Tryz.func66 (by kernel_rfl) rfl #[.string wd] (by rfl) rfl rfl (by simp only [List.map_toArray, List.map_cons, List.map_nil]; rfl) ?_
    with_reducible refine (zp.calls kq wd wt _ HW.out).mono ?_
    rintro e w5 ⟨rfl, hb⟩
    refine ⟨_, rfl, ?_⟩
    have M5 := za.mk (M4.out.below hb)
    clear hb M4
    refine hK.out _ _ ⟨(zf M5.out.blk 5).trans rfl, M5.out.c1⟩ (fun hHeld => ?_)
    clear hK K
    refine Go.Proofs.YtapaijpglfmfgaaGreatDoorW.PrintLast.norm_ (a' := ?_) ?_ ?_
    rotate_left
    ·show Act.put _ (some 41) _ = _
     simp only [Act.put, List.setIfInBounds_toArray, List.set_cons_zero, List.set_cons_succ, i64_w, i32_w]
     rfl
    refine pure_ (i := 10) (N := some 43) (v := ?_) (a' := ?_) #[true, true, true, true, true, true, true, true, true, true, true, false, false, false, false, false] rfl rfl (by kernel_rfl) (fun _ _ _ h => h) (Or.inl ⟨by rfl, ?_⟩) ?_ ?_
    rotate_left
    ·intro w'
     go_simp
     with_reducible rfl
    rotate_left
    ·simp only [Act.put, List.setIfInBounds_toArray, List.set_cons_zero, List.set_cons_succ, i64_w, i32_w]
     rfl
    refine one_ (i := 11) (N := some 44) #[true, true, true, true, true, true, true, true, true, true, true, true, false, false, false, false] rfl rfl (by kernel_rfl) (by decide) (fun K hK => ?_)
    refine value_ (w1 := ?_) (v := ?_) (by rfl) rfl ?_ ?_
    rotate_left 2
    ·go_simp
     constructor
     ·rfl
     ·rfl
    refine hK.out _ _ ⟨(zf (zjc M5.out.blk _) 5).trans rfl, (zmd (zj (Below.refl _ _) _) M5.out.c1)⟩ (fun hHeld => ?_)
    clear hK K
    refine Go.Proofs.YtapaijpglfmfgaaGreatDoorW.PrintLast.norm_ (a' := ?_) ?_ ?_
    rotate_left
    ·show Act.put _ (some 44) _ = _
     simp only [Act.put, List.setIfInBounds_toArray, List.set_cons_zero, List.set_cons_succ, i64_w, i32_w]
     rfl
    refine last_ (i := 12) (N := some 45) #[true, true, true, true, true, true, true, true, true, true, true, true, true, false, false, false] rfl rfl (by kernel_rfl) (by decide) (fun K hK => ?_)
    refine Kd.R_append_step (Kd.raw 2) (w0 := w5) w.heap.size (by rfl) (.tmp 37) (.tmp 44) 68 117 (.agg #[.int .i64 0, .pointer none]) 16 rfl Tryz.underlying68 infoSuf rfl (by decide) (by omega) sv (zme ns) [.int .i64 wt, .pointer (some ⟨a, 0, none⟩)] [.int .i64 wt, .pointer (some ⟨a, 0, none⟩)] (fun _ => True) (fun _ => False) rfl rfl ?aP (fun _ hk => hk.elim) (fun _ _ => trivial) M5.out.own.1 (Below.refl _ _) M5.out.gr.size ?aL ?_
    (case aP => exact ⟨rfl, rfl, by intro u hu; simp at hu; rcases hu with rfl | rfl <;> rfl⟩)
    (case aL => rw [zjf]; have := HNL.out; omega)
    intro v1 w7 ho hb hg hat
    obtain ⟨A1, n1, cp1, rfl⟩ : ∃ A n c, v1 = .slice A n c := by
     obtain ⟨A, c, e⟩ := Kd.R_slice ho
     exact ⟨A, _, c, e⟩
    have B7 := za.mk ((KeptT.row (p := notSuf) (by decide) M5.out.own.1 hg).blk M5.out.blk (by decide))
    have x7 := (zf B7.out 5).trans rfl
    have f7 := zy B7.out 5
    have I7 := za.mk (M5.out.step ho hg)
    clear ho hb hg hat
    refine hK.out _ _ ?_
    clear hK K
    refine Go.Proofs.YtapaijpglfmfgaaGreatDoorW.PrintLast.norm_ (a' := ?_) ?_ ?_
    rotate_left
    ·show Act.put _ (some 45) _ = _
     simp only [Act.put, List.setIfInBounds_toArray, List.set_cons_zero, List.set_cons_succ, i64_w, i32_w]
     rfl
    refine pure_ (i := 13) (N := some 46) (v := ?_) (a' := ?_) #[true, true, true, true, true, true, true, true, true, true, true, true, true, true, false, false] rfl rfl (by kernel_rfl) (fun _ _ _ h => h) (Or.inl ⟨by rfl, ?_⟩) ?_ ?_
    rotate_left
    ·intro w'
     go_simp
     with_reducible rfl
    rotate_left
    ·simp only [Act.put, List.setIfInBounds_toArray, List.set_cons_zero, List.set_cons_succ, i64_w, i32_w]
     rfl
    refine pure_ (i := 14) (N := some 47) (v := ?_) (a' := ?_) #[true, true, true, true, true, true, true, true, true, true, true, true, true, true, true, false] rfl rfl (by kernel_rfl) (fun _ _ _ h => h) (Or.inl ⟨by rfl, ?_⟩) ?_ ?_
    rotate_left
    ·intro w'
     go_simp
     with_reducible rfl
    rotate_left
    ·simp only [Act.put, List.setIfInBounds_toArray, List.set_cons_zero, List.set_cons_succ, i64_w, i32_w]
     rfl
    refine last_ (i := 15) (N := none) #[true, true, true, true, true, true, true, true, true, true, true, true, true, true, true, true] rfl rfl (by kernel_rfl) (by decide) (fun K hK => ?_)
    refine skip_ (w1 := ?_) (by rfl) rfl ?_ ?_
    rotate_left
    ·go_simp
     rfl
    refine hK.out _ _ ?_
    clear hK K
    refine done_ (by kernel_rfl) ?_
    have x8 := I7.out.2
    go_wp2_with (first | (go_at_call 63; (with_reducible refine (zeb.calls t m0 t' _ HT.out).mono ?_); rintro e' w' ⟨rfl, ⟨nd2, rfl⟩⟩))
    go_roundw
    all_goals first | exact ⟨k + 1, _, .slice A1 n1 cp1, t', LT.out, rfl, by first | rfl | go_num, ⟨I7.out.1.below (zc (Below.refl _ _) _)⟩, NX⟩ | exact zsh _ k LT.out | exact meas_up1 _ k LT.out | exact zki _ k LT.out WR
  ·obtain rfl : k = xs.length := by omega
   have i3 : decide ((xs.length : Int) < (xs.length : Int)) = false := decide_eq_false (by omega)
   have i4 : ((xs.length : Int) < (xs.length : Int)) = False := eq_false (by omega)
   obtain ⟨L', hL1, hL2⟩ := HR.out
   rw [List.drop_length] at hL1
   obtain ⟨rfl, rfl⟩ : [] = L' ∧ t = rest := by simpa [zhf] using hL1
   have HE := za.mk hL2
   clear hlt hk hL1 hL2 HR
   go_wp2
   go_ret2
   exact ⟨sv, ns, rfl, HI.out.blk, HI.out.own, by rw [← HE.out]; simp [zye], HI.out.gr⟩
end Go.Proofs.YtapaijpglfmfgaaGreatDoorG
end
section
namespace Go.Proofs.YtapaijpglfmfgaaGreatDoorG
open Go.RowKit YtapaijpglfmfgaaGreatDoorH YtapaijpglfmfgaaGreatDoor.S YtapaijpglfmfgaaGreatDoorW.PrintWords YtapaijpglfmfgaaGreatDoorW.PrintLast
def numsRun (k : Nat) (s : ByteArray) : Option (List ByteArray × ByteArray) := (zw.f k s).bind fun sub => if sub.toList = [] then some ([], s) else (znb.f k sub ⟨#[46]⟩).bind fun parts =>
 if 0 < parts.length ∧ parts.length ≤ 1000000 ∧ ∀ d ∈ zve parts, Plain d ∧ zvd d then (zeb.f s sub).map fun rest => (zve parts, rest) else none
def zrg (s : ByteArray) : Option (ByteArray × ByteArray) := (zxb.f s).bind fun b => if b = true ∧ s.size = 0 then none else (zeb.f s (if b then s.extract 0 1 else ⟨#[]⟩)).map fun rest => (if b then s.extract 0 1 else ⟨#[]⟩, rest)
def sufsRun (k : Nat) (s : ByteArray) : Option (List (Int × ByteArray) × ByteArray) := (zh.f k s).bind fun xs => if xs.length ≤ 1000000 then zhf k xs s else none
def hashRun (k : Nat) (s : ByteArray) : Option (ByteArray × ByteArray) := (zr.f k s).bind fun hs => (zeb.f s hs).map fun rest => (hs, rest)
def zoh (k : Nat) (s : ByteArray) : Option (Bool × Nat × ByteArray) := if s.toList = [] then some (false, 0, s) else (zzb.f s 0 ⟨#[45, 114]⟩).bind fun t => if t = true then
  (zcb.f k s 2).bind fun n => if 2 ≤ n ∧ n ≤ (s.size : Int) ∧ Plain (or0 (s.extract 2 n.toNat)) ∧ zvd (or0 (s.extract 2 n.toNat)) then (zeb.f s (s.extract 0 n.toNat)).map fun rest => (false, dv (or0 (s.extract 2 n.toNat)) (or0 (s.extract 2 n.toNat)).size, rest) else none
 else some (true, 0, s)
theorem zej {P : Program} {fn : Func} {p u : Tmp} {ty : TypeId} (h : fn.results = #[.cell p ty, .tmp u]) (tmps : Array Value) (w : World) (g : Nat) (t : TypeId) (cs : Array Value) (fr : Nat × Nat) (d : TypeDesc)
    (hp : tmps.getD p undef = .pointer (some ⟨g, 0, none⟩)) (hg : w.heap[g]? = some (.cells cs t fr))
    (hu : P.underlying ty = some d) (hd : (match d with | .struct _ | .array _ _ => true | _ => false) = true) (hi : (P.info? ty).map (·.size) = some cs.size) :
    (results fn tmps).run P w = .ok (.tuple #[.agg cs, tmps.getD u undef]) w := by
  rw [results_cell_tmp h, hp]
  simp [asAddr, run_loadVar_row w g t ty cs fr d hg hu hd hi, Result.andThen]
theorem KeptT.gr {w w' : World} {g : Nat} {o : ByteArray} {i : Bool} {r : ByteArray} {cv : Value} {l : ByteArray} {sv : Value} {h : ByteArray} {bv : Value} (hv : VBlk w g o i r cv l sv h bv) (k : w.grownBy w' (some g)) : KeptT (fun t => t != 71) w w' := KeptT.grown hv (by decide) k
theorem zlg (t : TypeId) (h : numT t = true) : (t != 71) = true := by
 unfold numT at h
 rcases Bool.or_eq_true_iff.mp h with h | h
 ·rw [of_decide_eq_true h]; decide
 ·rw [of_decide_eq_true h]; decide
section
variable {w w' : World} {g : Nat} {o : ByteArray} {i : Bool} {r : ByteArray} {cv : Value} {l : ByteArray} {sv : Value} {h : ByteArray} {bv : Value}
theorem NOwn.gr {base : Nat} {v : Value} {ns : List Nm} (H : NOwn w base v ns) (hv : VBlk w g o i r cv l sv h bv) (k : w.grownBy w' (some g)) : NOwn w' base v ns :=
 ⟨R_keptT (p := fun t => t != 71) rfl (by decide) H.1 (KeptT.gr hv k), fun x hx => (H.2 x hx).kept ((KeptT.gr hv k).sub zlg)⟩
theorem SOwn.gr {base : Nat} {v : Value} {ns : List Sx} (H : SOwn w base v ns) (hv : VBlk w g o i r cv l sv h bv) (k : w.grownBy w' (some g)) : SOwn w' base v ns :=
 ⟨R_keptT (p := fun t => t != 71) rfl (by decide) H.1 (KeptT.gr hv k), fun x hx => (H.2 x hx).kept ((KeptT.gr hv k).sub zlg)⟩
theorem BigAt.gr {a n : Nat} (H : BigAt w a n) (hv : VBlk w g o i r cv l sv h bv) (k : w.grownBy w' (some g)) : BigAt w' a n := H.kept ((KeptT.gr hv k).sub zlg)
end
theorem nums_at (w : World) (g : Nat) (o : ByteArray) (i : Bool) (r : ByteArray) (sv : Value) (l h : ByteArray) (bv : Value) (s rest : ByteArray) (k : Nat) (ds : List ByteArray) (hv : VBlk w g o i r (.slice none 0 0) l sv h bv) (hGL : ∀ W, w.grownBy W (some g) → GLe W) (h1 : numsRun k s = some (ds, rest)) :
    Calls Tryz.prog 48 #[.pointer (some ⟨g, 0, none⟩), .string s] w fun e w' => ∃ cv ns base, e = .returned (.tuple #[.string rest, .nilIface]) ∧ VBlk w' g o i r cv l sv h bv ∧ NOwn w' base cv ns ∧ ns.map (·.o) = ds ∧ ns.length ≤ 1000000 ∧ w.grownBy w' (some g) := by
  unfold numsRun at h1
  obtain ⟨sub, h2, h1⟩ := Option.bind_eq_some_iff.mp h1
  by_cases h0 : sub.toList = []
  · rw [if_pos h0] at h1
    cases h1
    refine (parseNums_e w g s sub k h2 h0).mono ?_
    rintro e w' ⟨rfl, n, rfl⟩
    exact ⟨_, [], 0, rfl, zib hv _, ⟨Kd.R_nil _ _ _ _ _, fun x hx => by simp at hx⟩, rfl, by simp, zof (zkg w _) _⟩
  · rw [if_neg h0] at h1
    obtain ⟨parts, h3, h1⟩ := Option.bind_eq_some_iff.mp h1
    by_cases hc : 0 < parts.length ∧ parts.length ≤ 1000000 ∧ ∀ d ∈ zve parts, Plain d ∧ zvd d
    · rw [if_pos hc] at h1
      obtain ⟨rest', h4, h5⟩ := Option.map_eq_some_iff.mp h1
      cases h5
      refine (parseNums_ w g o i r sv l h bv s sub rest k k parts hv hGL h2 h0 h3 hc.1 hc.2.1 hc.2.2 h4).mono ?_
      rintro e w' ⟨cv, ns, rfl, k1, k2, k3, k4⟩
      refine ⟨cv, ns, _, rfl, k1, k2, k3, ?_, k4⟩
      have q1 := congrArg List.length k3
      rw [List.length_map] at q1
      have q2 : (zve parts).length ≤ parts.length := by
        unfold zve
        exact (List.takeWhile_sublist _).length_le
      have q3 := hc.2.1
      omega
    · rw [if_neg hc] at h1
      cases h1
theorem letter_at (w : World) (g : Nat) (o : ByteArray) (i : Bool) (r : ByteArray) (cv sv : Value) (h : ByteArray) (bv : Value) (s L rest : ByteArray) (hv : VBlk w g o i r cv ⟨#[]⟩ sv h bv) (h1 : zrg s = some (L, rest)) :
  Calls Tryz.prog 49 #[.pointer (some ⟨g, 0, none⟩), .string s] w fun e w' => e = .returned (.string rest) ∧ VBlk w' g o i r cv L sv h bv ∧ w.grownBy w' (some g) := by
 unfold zrg at h1
 obtain ⟨b, h2, h1⟩ := Option.bind_eq_some_iff.mp h1
 by_cases hc : b = true ∧ s.size = 0
 ·rw [if_pos hc] at h1
  cases h1
 ·rw [if_neg hc] at h1
  obtain ⟨rest', h4, h5⟩ := Option.map_eq_some_iff.mp h1
  cases h5
  exact parseLetter_ w g o i r cv sv h bv s rest b hv h2 h4 (fun hb => by
   rcases Nat.eq_zero_or_pos s.size with h0 | h0
   ·exact absurd ⟨hb, h0⟩ hc
   ·exact h0)
theorem sufs_at (w : World) (g : Nat) (o : ByteArray) (i : Bool) (r : ByteArray) (cv : Value) (l h : ByteArray) (bv : Value) (s rest : ByteArray) (k : Nat) (L : List (Int × ByteArray)) (hv : VBlk w g o i r cv l (.slice none 0 0) h bv) (hGL : ∀ W, w.grownBy W (some g) → GLe W) (h1 : sufsRun k s = some (L, rest)) :
  Calls Tryz.prog 50 #[.pointer (some ⟨g, 0, none⟩), .string s] w fun e w' => ∃ sv ns base, e = .returned (.tuple #[.string rest, .nilIface]) ∧ VBlk w' g o i r cv l sv h bv ∧ SOwn w' base sv ns ∧ zzf ns = zye L ∧ ns.length ≤ 1000000 ∧ w.grownBy w' (some g) := by
 unfold sufsRun at h1
 obtain ⟨xs, h2, h1⟩ := Option.bind_eq_some_iff.mp h1
 by_cases hc : xs.length ≤ 1000000
 ·rw [if_pos hc] at h1
  refine (parseSufs_ w g o i r cv l h bv s rest k k xs L hv hGL h2 hc h1).mono ?_
  rintro e w' ⟨sv, ns, rfl, k1, k2, k3, k4⟩
  refine ⟨sv, ns, _, rfl, k1, k2, k3, ?_, k4⟩
  have key : ∀ (xs : List (List ByteArray)) (s : ByteArray) (L : List (Int × ByteArray)) (rest : ByteArray), zhf k xs s = some (L, rest) → L.length = xs.length := by
   intro xs
   induction xs with
   | nil => intro s L rest h; simp [zhf] at h; rw [h.1]; rfl
   | cons m ms ih =>
    intro s L rest h
    obtain ⟨m0, wd, dg, wt, s', r', _, _, _, _, _, h6, h7⟩ := sufRun_step h
    have e1 := congrArg Prod.fst h7
    have e2 : L = (wt, or0 dg) :: r'.1 := e1
    rw [e2, List.length_cons, List.length_cons, ih s' r'.1 r'.2 h6]
  have q1 := congrArg List.length k3
  simp only [zzf, zye, List.length_map] at q1
  rw [q1, key _ _ _ _ h1]
  exact hc
 ·rw [if_neg hc] at h1
  cases h1
theorem hash_at (w : World) (g : Nat) (o : ByteArray) (i : Bool) (r : ByteArray) (cv sv : Value) (l h : ByteArray) (bv : Value) (s hs rest : ByteArray) (k : Nat) (hv : VBlk w g o i r cv l sv h bv) (h1 : hashRun k s = some (hs, rest)) :
  Calls Tryz.prog 51 #[.pointer (some ⟨g, 0, none⟩), .string s] w fun e w' => e = .returned (.string rest) ∧ VBlk w' g o i r cv l sv hs bv ∧ w.grownBy w' (some g) := by
 unfold hashRun at h1
 obtain ⟨hs', h2, h1⟩ := Option.bind_eq_some_iff.mp h1
 obtain ⟨rest', h4, h5⟩ := Option.map_eq_some_iff.mp h1
 cases h5
 exact parseHash_ w g o i r cv sv l h bv s hs rest k hv h2 h4
theorem build_at (w : World) (g : Nat) (o : ByteArray) (r : ByteArray) (cv sv : Value) (l h : ByteArray) (a0 : Nat) (s rest : ByteArray) (inv : Bool) (n k : Nat) (hv : VBlk w g o false r cv l sv h (.pointer (some ⟨a0, 0, none⟩))) (hz : BigAt w a0 0) (hGL : GLe w) (h1 : zoh k s = some (inv, n, rest)) :
  Calls Tryz.prog 52 #[.pointer (some ⟨g, 0, none⟩), .string s] w fun e w' => ∃ a, e = .returned (.tuple #[.string rest, .nilIface]) ∧ VBlk w' g o inv r cv l sv h (.pointer (some ⟨a, 0, none⟩)) ∧ BigAt w' a n ∧ w.grownBy w' (some g) := by
 unfold zoh at h1
 by_cases h0 : s.toList = []
 ·rw [if_pos h0] at h1
  cases h1
  refine (parseBuild_e w g s h0).mono ?_
  rintro e w' ⟨rfl, rfl⟩
  exact ⟨a0, rfl, hv, hz, zkg _ _⟩
 ·rw [if_neg h0] at h1
  obtain ⟨t, h2, h1⟩ := Option.bind_eq_some_iff.mp h1
  cases t with
  | false =>
   rw [if_neg (by simp)] at h1
   cases h1
   refine (parseBuild_n w g o false r cv sv l h _ s hv h0 h2).mono ?_
   rintro e w' ⟨rfl, k1, k2⟩
   exact ⟨a0, rfl, k1, hz.gr hv k2, k2⟩
  | true =>
   rw [if_pos rfl] at h1
   obtain ⟨m, h3, h1⟩ := Option.bind_eq_some_iff.mp h1
   by_cases hc : 2 ≤ m ∧ m ≤ (s.size : Int) ∧ Plain (or0 (s.extract 2 m.toNat)) ∧ zvd (or0 (s.extract 2 m.toNat))
   ·rw [if_pos hc] at h1
    obtain ⟨rest', h4, h5⟩ := Option.map_eq_some_iff.mp h1
    cases h5
    obtain ⟨m', rfl⟩ : ∃ m' : Nat, m = (m' : Int) := ⟨m.toNat, by omega⟩
    exact parseBuild_y w g o false r cv sv l h _ s rest k m' hv hGL h0 h2 h3 (by omega) (by omega) hc.2.2.1 hc.2.2.2 h4
   ·rw [if_neg hc] at h1
    cases h1
structure AP where
 o : ByteArray
 i : Bool
 r : ByteArray
 c : List ByteArray
 l : ByteArray
 s : List (Int × ByteArray)
 h : ByteArray
 b : Nat
def parseA (k : Nat) (s : ByteArray) : Option AP := (numsRun k s).bind fun a1 => (zrg a1.2).bind fun a2 => (sufsRun k a2.2).bind fun a3 => (hashRun k a3.2).bind fun a4 => (zoh k a4.2).bind fun a5 => some ⟨s, a5.1, a5.2.2, a1.1, a2.1, a3.1, a4.1, a5.2.1⟩
def Told (x : AV) (p : AP) : Prop := x.o = p.o ∧ x.i = p.i ∧ x.r = p.r ∧ x.c.map (·.o) = p.c ∧ (∀ y ∈ x.c, y.n = dv y.o y.o.size) ∧ x.l = p.l ∧ zzf x.s = zye p.s ∧ x.h = p.h ∧ x.b = p.b
theorem parseA_inv {k : Nat} {s : ByteArray} {p : AP} (h : parseA k s = some p) : ∃ s1 s2 s3 s4, numsRun k s = some (p.c, s1) ∧ zrg s1 = some (p.l, s2) ∧ sufsRun k s2 = some (p.s, s3) ∧ hashRun k s3 = some (p.h, s4) ∧ zoh k s4 = some (p.i, p.b, p.r) ∧ p.o = s := by
 unfold parseA at h
 obtain ⟨⟨ds, s1⟩, h1, h⟩ := Option.bind_eq_some_iff.mp h
 obtain ⟨⟨L, s2⟩, h2, h⟩ := Option.bind_eq_some_iff.mp h
 obtain ⟨⟨sf, s3⟩, h3, h⟩ := Option.bind_eq_some_iff.mp h
 obtain ⟨⟨hs, s4⟩, h4, h⟩ := Option.bind_eq_some_iff.mp h
 obtain ⟨⟨inv, n, rest⟩, h5, h⟩ := Option.bind_eq_some_iff.mp h
 obtain rfl := Option.some.inj h
 exact ⟨s1, s2, s3, s4, h1, h2, h3, h4, h5, rfl⟩
theorem parse_ (w : World) (s : ByteArray) (p : AP) (k : Nat) (hGL : GLe w) (h0 : parseA k s = some p) :
  Calls Tryz.prog 30 #[.string s] w fun e w' => ∃ v x, e = .returned (.tuple #[v, .nilIface]) ∧ AVAt w' v x ∧ Told x p ∧ Below w.heap.size w w' := by
 obtain ⟨s1, s2, s3, s4, h1, h2, h3, h4, h5, h6⟩ := parseA_inv h0
 subst h6
 have HGL := za.mk hGL
 have HB := za.mk (Below.refl w.heap.size w)
 have H1 := za.mk h1
 have H2 := za.mk h2
 have H3 := za.mk h3
 have H4 := za.mk h4
 have H5 := za.mk h5
 clear h0 h1 h2 h3 h4 h5 hGL
 obtain ⟨W0, hW0⟩ : ∃ W0, W0 = (((w.alloc (.cells #[.string ⟨#[]⟩, .bool false, .string ⟨#[]⟩, .slice none 0 0, .string ⟨#[]⟩, .slice none 0 0, .string ⟨#[]⟩, .pointer none] 71)).alloc (.cells #[.bool false, .slice none 0 0] 100)).alloc (.cells #[.string p.o, .bool false, .string ⟨#[]⟩, .slice none 0 0, .string ⟨#[]⟩, .slice none 0 0, .string ⟨#[]⟩, .pointer (some ⟨w.heap.size + 1, 0, none⟩)] 71)) := ⟨_, rfl⟩
 have b0 : Below w.heap.size w W0 := by rw [hW0]; exact zj (zj (zj HB.out _) _) _
 have v0 : VBlk W0 (w.heap.size + 1 + 1) p.o false ⟨#[]⟩ (.slice none 0 0) ⟨#[]⟩ (.slice none 0 0) ⟨#[]⟩ (.pointer (some ⟨w.heap.size + 1, 0, none⟩)) := by
  unfold VBlk
  have h := zxg ((w.alloc (.cells #[.string ⟨#[]⟩, .bool false, .string ⟨#[]⟩, .slice none 0 0, .string ⟨#[]⟩, .slice none 0 0, .string ⟨#[]⟩, .pointer none] 71)).alloc (.cells #[.bool false, .slice none 0 0] 100)) (.cells #[.string p.o, .bool false, .string ⟨#[]⟩, .slice none 0 0, .string ⟨#[]⟩, .slice none 0 0, .string ⟨#[]⟩, .pointer (some ⟨w.heap.size + 1, 0, none⟩)] 71)
  rw [zzc, zzc] at h
  rw [hW0]
  exact h
 have z0 : BigAt W0 (w.heap.size + 1) 0 := by
  have h := (big_zero (w.alloc (.cells #[.string ⟨#[]⟩, .bool false, .string ⟨#[]⟩, .slice none 0 0, .string ⟨#[]⟩, .slice none 0 0, .string ⟨#[]⟩, .pointer none] 71))).below (zj (Below.refl _ _) (.cells #[.string p.o, .bool false, .string ⟨#[]⟩, .slice none 0 0, .string ⟨#[]⟩, .slice none 0 0, .string ⟨#[]⟩, .pointer (some ⟨w.heap.size + 1, 0, none⟩)] 71))
  rw [zzc] at h
  rw [hW0]
  exact h
 have r0 : W0.heap[w.heap.size]? = some (.cells #[.string ⟨#[]⟩, .bool false, .string ⟨#[]⟩, .slice none 0 0, .string ⟨#[]⟩, .slice none 0 0, .string ⟨#[]⟩, .pointer none] 71 (0, 0)) := by
  rw [hW0]
  exact zjc (zjc (zxg w _) _) _
 have s0 : w.heap.size ≤ W0.heap.size := b0.size
 have HGA : za (∀ W, W0.grownBy W (some (w.heap.size + 1 + 1)) → GLe W) := ⟨fun W hW => HGL.out.lt (gr_from b0 s0 hW (by omega))⟩
 have HB0 := za.mk b0
 have V0 := za.mk v0
 have Z0 := za.mk z0
 have R0 := za.mk r0
 have HW0 := za.mk hW0
 have C1 := za.mk (nums_at W0 (w.heap.size + 1 + 1) p.o false ⟨#[]⟩ _ _ _ _ p.o s1 k p.c v0 HGA.out H1.out)
 rw [hW0] at C1
 clear b0 v0 z0 r0 s0 hW0 H1
 go_enter Tryz.func30, Tryz.ntmps30
 go_wp2_with (first | (go_at_call 48; (with_reducible refine C1.out.mono ?_); rintro e' w1 ⟨cv, ns, b1, rfl, v1, n1, t1, l1, g1⟩; obtain ⟨A1, cc1, rfl⟩ := Kd.R_slice n1.1; rw [← HW0.out] at g1; have V1 := za.mk v1; have N1 := za.mk n1; have T1 := za.mk t1; have L1 := za.mk l1; have GR1 := za.mk g1; have Z1 := za.mk (Z0.out.gr V0.out g1); clear v1 n1 t1 l1 g1 C1) | (go_at_call 49; (with_reducible refine (letter_at w1 _ p.o false ⟨#[]⟩ _ _ _ _ s1 p.l s2 V1.out H2.out).mono ?_); rintro e' w2 ⟨rfl, v2, g2⟩; have V2 := za.mk v2; have N2 := za.mk (N1.out.gr V1.out g2); have Z2 := za.mk (Z1.out.gr V1.out g2); have GR2 := za.mk (gr_gr GR1.out g2); clear v2 g2 N1 Z1) | (go_at_call 50; (with_reducible refine (sufs_at w2 _ p.o false ⟨#[]⟩ _ p.l _ _ s2 s3 k p.s V2.out (fun W hW => HGA.out W (gr_gr GR2.out hW)) H3.out).mono ?_); rintro e' w3 ⟨sv, ms, b2, rfl, v3, m3, t3, l3, g3⟩; obtain ⟨A3, cc3, rfl⟩ := Kd.R_slice m3.1; have V3 := za.mk v3; have M3 := za.mk m3; have T3 := za.mk t3; have L3 := za.mk l3; have N3 := za.mk (N2.out.gr V2.out g3); have Z3 := za.mk (Z2.out.gr V2.out g3); have GR3 := za.mk (gr_gr GR2.out g3); clear v3 m3 t3 l3 g3 N2 Z2) | (go_at_call 51; (with_reducible refine (hash_at w3 _ p.o false ⟨#[]⟩ _ _ p.l _ _ s3 p.h s4 k V3.out H4.out).mono ?_); rintro e' w4 ⟨rfl, v4, g4⟩; have V4 := za.mk v4; have M4 := za.mk (M3.out.gr V3.out g4); have N4 := za.mk (N3.out.gr V3.out g4); have Z4 := za.mk (Z3.out.gr V3.out g4); have GR4 := za.mk (gr_gr GR3.out g4); clear v4 g4 N3 M3 Z3) | (go_at_call 52; (with_reducible refine (build_at w4 _ p.o ⟨#[]⟩ _ _ p.l p.h _ s4 p.r p.i p.b k V4.out Z4.out (HGA.out w4 GR4.out) H5.out).mono ?_); rintro e' w5 ⟨a, rfl, v5, z5, g5⟩; have V5 := za.mk v5; have M5 := za.mk (M4.out.gr V4.out g5); have N5 := za.mk (N4.out.gr V4.out g5); have Z5 := za.mk z5; have GR5 := za.mk (gr_gr GR4.out g5); have v6 := zdb (cs' := #[.string p.o, .bool p.i, .string p.r, .slice A1 (zef ns).length cc1, .string p.l, .slice A3 (zme ms).length cc3, .string p.h, .pointer (some ⟨a, 0, none⟩)]) V5.out 2 (.string p.r) rfl; have x2 := (zf V5.out 2).trans rfl; have f2 := zy V5.out 2; have x6 := fun j : Nat => zf v6 j; have r5 := (GR5.out.block w.heap.size (znc R0.out) (by intro e; have := Option.some.inj e; omega)).trans R0.out; have r6 := zkb r5 (p := ⟨w.heap.size + 1 + 1, 2, none⟩) (by show w.heap.size ≠ w.heap.size + 1 + 1; omega) (.string p.r); have y6 := fun j : Nat => zf r6 j; have q6 := fun j : Nat => zy r6 j; have V6 := za.mk v6; have R6 := za.mk r6; have R5 := za.mk r5; clear v5 z5 g5 v6 r5 r6 N4 M4 Z4))
 (try simp only [Exit.inBlock, Exit.then])
 have hk : ∀ (W : World) (k : Nat), (∀ b, b ≠ w.heap.size + 1 + 1 → b ≠ w.heap.size → W.heap[b]? = w5.heap[b]?) → KeptT (fun t => t != 71) w5 W := fun W _ h b cs t fr hb ht => by
  refine h b (fun e => ?_) (fun e => ?_)
  ·subst e; have := V5.out; unfold VBlk at this; rw [this] at hb; cases hb; exact absurd ht (by decide)
  ·subst e; have := R5.out; rw [this] at hb; cases hb; exact absurd ht (by decide)
 refine bodyPost_ret (zej rfl _ _ w.heap.size 71 #[.string p.o, .bool p.i, .string p.r, .slice A1 (zef ns).length cc1, .string p.l, .slice A3 (zme ms).length cc3, .string p.h, .pointer (some ⟨a, 0, none⟩)] (0, 0) _ rfl (zdb (cs' := #[.string p.o, .bool p.i, .string p.r, .slice A1 (zef ns).length cc1, .string p.l, .slice A3 (zme ms).length cc3, .string p.h, .pointer (some ⟨a, 0, none⟩)]) (zdb (zdb (zdb (zdb (zdb (zdb (zdb R6.out 0 _ rfl) 1 _ rfl) 2 _ rfl) 3 _ rfl) 4 _ rfl) 5 _ rfl) 6 _ rfl) 7 _ rfl) Tryz.underlying71 rfl (by kernel_rfl)) rfl ?_
 have K := hk (((((((((w5.setCell ⟨w.heap.size + 1 + 1, 2, none⟩ (.string p.r)).setCell ⟨w.heap.size, 0, none⟩ (.string p.o)).setCell ⟨w.heap.size, 1, none⟩ (.bool p.i)).setCell ⟨w.heap.size, 2, none⟩ (.string p.r)).setCell ⟨w.heap.size, 3, none⟩ (.slice A1 (zef ns).length cc1)).setCell ⟨w.heap.size, 4, none⟩ (.string p.l)).setCell ⟨w.heap.size, 5, none⟩ (.slice A3 (zme ms).length cc3)).setCell ⟨w.heap.size, 6, none⟩ (.string p.h)).setCell ⟨w.heap.size, 7, none⟩ (.pointer (some ⟨a, 0, none⟩))) 0 (fun b h1 h2 => by repeat (first | rw [Below.heap_setCell _ _ _ _ h2] | rw [Below.heap_setCell _ _ _ _ h1]))
 refine ⟨_, ⟨p.o, p.i, p.r, ns, p.l, ms, p.h, p.b⟩, rfl, ⟨_, _, a, rfl, ?_, ?_, Z5.out.kept (K.sub zlg)⟩, ⟨rfl, rfl, rfl, T1.out, fun y hy => (N5.out.2 y hy).2.1, rfl, T3.out, rfl, rfl⟩, ?_⟩
 ·exact NOwn.crow (base := b1) ⟨R_keptT (p := fun t => t != 71) rfl (by decide) N5.out.1 K, fun x hx => (N5.out.2 x hx).kept (K.sub zlg)⟩ L1.out
 ·exact SOwn.srow (base := b2) ⟨R_keptT (p := fun t => t != 71) rfl (by decide) M5.out.1 K, fun x hx => (M5.out.2 x hx).kept (K.sub zlg)⟩ L3.out
 ·have b5 := gr_from HB0.out HB0.out.size GR5.out (show w.heap.size ≤ w.heap.size + 1 + 1 by omega)
  have b6 := b5.setCell (p := ⟨w.heap.size + 1 + 1, 2, none⟩) (by show w.heap.size ≤ w.heap.size + 1 + 1; omega) (.string p.r)
  repeat (first | (with_reducible exact b6) | refine zk ?_ (Nat.le_refl _))
end Go.Proofs.YtapaijpglfmfgaaGreatDoorG
end
section
namespace Go.Proofs.YtapaijpglfmfgaaGreatDoorG
open Go.RowKit YtapaijpglfmfgaaGreatDoorH YtapaijpglfmfgaaGreatDoor.S YtapaijpglfmfgaaGreatDoorW.PrintWords YtapaijpglfmfgaaGreatDoorW.PrintLast
def toNm (d : ByteArray) : Nm := ⟨d, 0, dv d d.size⟩
def toSx (x : Int × ByteArray) : Sx := ⟨x.1, 0, dv x.2 x.2.size⟩
def apC (p q : AP) : Int := if p.i = true ∧ q.i = true then zqf p.o q.o else
 zgb (zge (p.c.map toNm) (q.c.map toNm)) (zgb (zqc p.l q.l) (zgb (sufsC (p.s.map toSx) (q.s.map toSx)) (zgb (cmpN p.b q.b) (zgb (zod p.r q.r) 0))))
theorem nm_told {l : List Nm} {c : List ByteArray} (h : l.map (·.o) = c) (hn : ∀ y ∈ l, y.n = dv y.o y.o.size) (k : Nat) : nmO l k = nmO (c.map toNm) k ∧ nmN l k = nmN (c.map toNm) k ∧ nmI l k = nmI (c.map toNm) k := by
  subst h
  unfold nmO nmN nmI
  rw [List.map_map, List.getElem?_map]
  cases e : l[k]? with
  | none => exact ⟨rfl, rfl, rfl⟩
  | some x => exact ⟨rfl, hn x (List.mem_of_getElem? e), rfl⟩
theorem fromC_eq {d d' : Nat → Int} (h : ∀ k, d k = d' k) : ∀ n k, fromC d n k = fromC d' n k
 | 0, _ => rfl
 | n + 1, k => by simp only [fromC, h, fromC_eq h n]
theorem comps_told {l m : List Nm} {c d : List ByteArray} (h : l.map (·.o) = c) (hn : ∀ y ∈ l, y.n = dv y.o y.o.size) (h' : m.map (·.o) = d) (hn' : ∀ y ∈ m, y.n = dv y.o y.o.size) : zge l m = zge (c.map toNm) (d.map toNm) := by
  unfold zge
  have e1 : l.length = (c.map toNm).length := by rw [← h]; simp
  have e2 : m.length = (d.map toNm).length := by rw [← h']; simp
  rw [e1, e2]
  refine fromC_eq (fun k => ?_) _ _
  obtain ⟨a1, a2, a3⟩ := nm_told h hn k
  obtain ⟨b1, b2, b3⟩ := nm_told h' hn' k
  unfold numD
  rw [a1, a2, a3, b1, b2, b3]
theorem sx_told {l : List Sx} {c : List (Int × ByteArray)} (h : zzf l = zye c) (k : Nat) : sxW l k = sxW (c.map toSx) k ∧ sxN l k = sxN (c.map toSx) k := by
 have e : (zzf l)[k]? = (zye c)[k]? := by rw [h]
 unfold zzf zye at e
 rw [List.getElem?_map, List.getElem?_map] at e
 unfold sxW sxN
 rw [List.getElem?_map]
 cases e1 : l[k]? with
 | none =>
  cases e2 : c[k]? with
  | none => exact ⟨rfl, rfl⟩
  | some y => rw [e1, e2] at e; simp at e
 | some x =>
  cases e2 : c[k]? with
  | none => rw [e1, e2] at e; simp at e
  | some y =>
   rw [e1, e2] at e
   have e3 : (x.wt, x.n) = (y.1, dv y.2 y.2.size) := by simpa using e
   exact ⟨congrArg Prod.fst e3, congrArg Prod.snd e3⟩
theorem sufs_told {l m : List Sx} {c d : List (Int × ByteArray)} (h : zzf l = zye c) (h' : zzf m = zye d) : sufsC l m = sufsC (c.map toSx) (d.map toSx) := by
 unfold sufsC
 have e1 : l.length = (c.map toSx).length := by have := congrArg List.length h; simpa [zzf, zye] using this
 have e2 : m.length = (d.map toSx).length := by have := congrArg List.length h'; simpa [zzf, zye] using this
 rw [e1, e2]
 refine fromC_eq (fun k => ?_) _ _
 obtain ⟨a1, a2⟩ := sx_told h k
 obtain ⟨b1, b2⟩ := sx_told h' k
 unfold sufD
 rw [a1, a2, b1, b2]
theorem av_told {x y : AV} {p q : AP} (h : Told x p) (h' : Told y q) : avC x y = apC p q := by
 obtain ⟨a1, a2, a3, a4, a5, a6, a7, a8, a9⟩ := h
 obtain ⟨b1, b2, b3, b4, b5, b6, b7, b8, b9⟩ := h'
 unfold avC apC
 rw [a1, a2, a3, a6, a9, b1, b2, b3, b6, b9, comps_told a4 a5 b4 b5, sufs_told a7 b7]
theorem AVAt.form {w : World} {v : Value} {x : AV} (h : AVAt w v x) : ∃ p1 c1 p2 c2 a, v = AVv x.o x.i x.r (.slice p1 x.c.length c1) x.l (.slice p2 x.s.length c2) x.h (.pointer (some ⟨a, 0, none⟩)) := by
 obtain ⟨cv, sv, a, rfl, h1, h2, _⟩ := h
 obtain ⟨p1, c1, rfl⟩ := h1.len
 obtain ⟨p2, c2, rfl⟩ := h2.len
 exact ⟨p1, c1, p2, c2, a, rfl⟩
theorem compareStr_ (w : World) (v : Value) (x : AV) (b : ByteArray) (p q : AP) (k : Nat) (hv : AVAt w v x) (ht : Told x p) (hGL : GLe w) (h0 : parseA k b = some q) :
  Calls Tryz.prog 31 #[v, .string b] w fun e w' => e = .returned (.tuple #[.int .i64 (apC p q), .nilIface]) ∧ Below w.heap.size w w' := by
 have HV := za.mk hv
 obtain ⟨p1, c1, p2, c2, a, e⟩ := hv.form
 unfold AVv at e
 subst e
 have HT := za.mk ht
 have HP := za.mk (fun (W : World) (h : Below w.heap.size w W) => parse_ W b q k (hGL.lt h) h0)
 have HB := za.mk (Below.refl w.heap.size w)
 clear hv ht hGL h0
 go_enter Tryz.func31, Tryz.ntmps31
 go_wp2_with (first | (go_at_call 30; (with_reducible refine (HP.out _ (zj HB.out _)).mono ?_); rintro e' w1 ⟨u, y, rfl, hy, hty, hb⟩; have HY := za.mk hy; obtain ⟨p3, c3, p4, c4, a', e⟩ := hy.form; unfold AVv at e; subst e; have HTY := za.mk hty; have B1 := za.mk (zm (zj HB.out _) hb); have xx := fun j : Nat => zf (zjc (ze (zxg w (.cells #[.string x.o, .bool x.i, .string x.r, .slice p1 x.c.length c1, .string x.l, .slice p2 x.s.length c2, .string x.h, .pointer (some ⟨a, 0, none⟩)] 71)) hb) (.cells #[.string y.o, .bool y.i, .string y.r, .slice p3 y.c.length c3, .string y.l, .slice p4 y.s.length c4, .string y.h, .pointer (some ⟨a', 0, none⟩)] 71)) j; clear hy hty hb) | (go_at_call 53; refine (compare_ _ _ _ x y (HV.out.below (zj B1.out _)) (HY.out.below (zj (Below.refl _ _) _))).mono ?_; rintro e' w2 ⟨rfl, hb⟩; have B2 := za.mk (zm (zj B1.out _) hb); clear hb))
 go_ret2
 exact ⟨by rw [av_told HT.out HTY.out]; rfl, B2.out⟩
theorem compareText_ (w : World) (a b : ByteArray) (p q : AP) (k : Nat) (hGL : GLe w) (h1 : parseA k a = some p) (h2 : parseA k b = some q) :
  Calls Tryz.prog 10 #[.string a, .string b] w fun e w' => e = .returned (.tuple #[.int .i64 (apC p q), .bool true]) ∧ Below w.heap.size w w' := by
 have HP := za.mk (parse_ w a p k hGL h1)
 have HS := za.mk (fun (W : World) (v : Value) (x : AV) (h : Below w.heap.size w W) (hv : AVAt W v x) (ht : Told x p) => compareStr_ W v x b p q k hv ht (hGL.lt h) h2)
 have HB := za.mk (Below.refl w.heap.size w)
 clear hGL h1 h2
 go_enter Tryz.func10, Tryz.ntmps10
 go_upto_region 5 with (first | (go_at_call 30; (with_reducible refine HP.out.mono ?_); rintro e' w1 ⟨u, y, rfl, hy, hty, hb⟩; have HY := za.mk hy; obtain ⟨p3, c3, p4, c4, a', e⟩ := hy.form; unfold AVv at e; subst e; have HTY := za.mk hty; have B1 := za.mk hb; clear hy hty hb) | (go_at_call 31; refine (HS.out _ _ y (zj B1.out _) (HY.out.below (zj (Below.refl _ _) _)) HTY.out).mono ?_; rintro e' w2 ⟨rfl, hb⟩; have B2 := za.mk (zm (zj B1.out _) hb); clear hb))
 go_region_with (fail)
 all_goals (try go_wp2)
 all_goals go_ret2
 all_goals exact ⟨rfl, zz B2.out⟩
end Go.Proofs.YtapaijpglfmfgaaGreatDoorG
end
section
namespace Go.Proofs.YtapaijpglfmfgaaGreatDoor.E1
open Go.RowKit YtapaijpglfmfgaaGreatDoorH YtapaijpglfmfgaaGreatDoorW.PrintWords YtapaijpglfmfgaaGreatDoorW.PrintLast YtapaijpglfmfgaaGreatDoorW.PrintMore
attribute [local go_sem] zsc zuc zhd zgd zhc zic zvc ztc
def errW : Option Int → Value
 | none => .nilIface
 | some c => .iface 0 (.int .i64 c)
theorem zcf : errW none = .nilIface := rfl
theorem zbf (c : Int) : errW (some c) = .iface 0 (.int .i64 c) := rfl
end Go.Proofs.YtapaijpglfmfgaaGreatDoor.E1
end
section
namespace Go.Proofs.YtapaijpglfmfgaaGreatDoor.E1
open Go.RowKit YtapaijpglfmfgaaGreatDoorH YtapaijpglfmfgaaGreatDoorW.PrintWords YtapaijpglfmfgaaGreatDoorW.PrintLast YtapaijpglfmfgaaGreatDoorW.PrintMore
attribute [local go_sem] zsc zuc zhd zgd zhc zic zvc ztc
def zlc.f (a0 : Int) : Option (Bool) := if a0 ≥ 48 then (some (decide (a0 ≤ 57))) else (some false)
theorem zlc.calls (a0 : Int) (r : Bool) (w : World) (h : zlc.f a0 = some r) :
  Calls Tryz.prog 40 #[.int .u8 a0] w fun e w' => e = .returned (.bool r) ∧ zo w w' := by
 have H : (if a0 ≥ 48 then (some (decide (a0 ≤ 57))) else (some false)) = some r := h
 clear h
 by_cases c2 : a0 ≥ 48
 ·rw [if_pos c2] at H
  have c2b0 : decide (48 ≤ a0) = true := decide_eq_true c2
  clear c2
  obtain rfl := Option.some.inj H
  go_enter Tryz.func40, Tryz.ntmps40
  go_wp2
  go_ret
  exact ⟨by first | rfl | (simp; done) | (simp [*]; done) | (simp [zoc]; done) | (simp [zoc, *]; done), by repeat (first | exact zo.refl _ | apply zo.step)⟩
 ·rw [if_neg c2] at H
  have c2b0 : decide (48 ≤ a0) = false := decide_eq_false c2
  clear c2
  obtain rfl := Option.some.inj H
  go_enter Tryz.func40, Tryz.ntmps40
  go_wp2
  go_ret
  exact ⟨by first | rfl | (simp; done) | (simp [*]; done) | (simp [zoc]; done) | (simp [zoc, *]; done), by repeat (first | exact zo.refl _ | apply zo.step)⟩
def zpb.l0 : Nat → ByteArray → Int → Option (Int)
 | 0, _, _ => none
 | k + 1, x0, x5 => if x5 < (x0.size : Int) then (if 0 ≤ x5 then ((zlc.f (bt x0 x5)).bind fun t101 => (if t101 = true then (zpb.l0 k x0 (wrap64 (x5 + 1))) else (some x5))) else (none)) else (some x5)
def zpb.f (k : Nat) (a0 : ByteArray)  : Option (Int) := zpb.l0 k a0 0
theorem zpb.calls (k : Nat) (a0 : ByteArray)  (r : Int) (w : World) (h : zpb.f k a0 = some r) :
  Calls Tryz.prog 39 #[.string a0, .func (.func 40) #[] #[]] w fun e w' => e = .returned (.int .i64 r) ∧ zo w w' := by
 have H : (zpb.l0 k a0 0) = some r := h
 clear h
 have H' := za.mk H
 clear H
 go_enter Tryz.func39, Tryz.ntmps39
 go_wp2
 (try simp only [Act.put, List.setIfInBounds_toArray, List.set_cons_zero, List.set_cons_succ])
 go_loopg [5] k (fun kq v5 w' => ∃ (x5_1 : Int), v5 = .int .i64 x5_1 ∧ za (zpb.l0 kq a0 x5_1 = some r) ∧ za (kq ≤ k) ∧ zo w w')
 case atStart => exact ⟨(0), (by first | rfl | (simp; done) | (simp [*]; done) | (simp [zoc]; done) | (simp [zoc, *]; done)), H', ⟨Nat.le_refl _⟩, by repeat (first | exact zo.refl _ | apply zo.step)⟩
 case round =>
  clear H'
  try clear p2
  obtain ⟨x5_1, rfl, HA, HK1, ⟨m1, rfl⟩⟩ := hrel
  cases gk with
  | zero => exact absurd HA.out (by simp [zpb.l0])
  | succ k1 =>
   have H := HA.out
   clear HA
   simp only [zpb.l0] at H
   by_cases c3 : x5_1 < (a0.size : Int)
   ·rw [if_pos c3] at H
    have c3b0 : decide (x5_1 < (a0.size : Int)) = true := decide_eq_true c3
    clear c3
    by_cases c4 : 0 ≤ x5_1
    ·rw [if_pos c4] at H
     have c4b0 : decide (0 ≤ x5_1) = true := decide_eq_true c4
     clear c4
     replace H := Option.bind_eq_some_iff.mp H
     obtain ⟨t101, A60, H⟩ := H
     replace H : (if t101 = true then (zpb.l0 k1 a0 (wrap64 (x5_1 + 1))) else (some x5_1)) = some r := H
     have A6 := za.mk A60
     clear A60
     by_cases c7 : t101 = true
     ·subst c7
      have H1 : (zpb.l0 k1 a0 (wrap64 (x5_1 + 1))) = some r := by rw [if_pos rfl] at H; exact H
      clear H
      have H := H1
      clear H1
      have H' := za.mk H
      clear H
      have p5 : 0 ≤ (x5_1 : Int) := of_decide_eq_true (by first | (with_reducible assumption) | assumption)
      have q5 : x5_1 < (a0.size : Int) := of_decide_eq_true (by first | (with_reducible assumption) | assumption)
      have hx5 := bt_at a0 x5_1
      replace p5 := eq_true p5
      replace q5 := eq_true q5
      go_wp2_with (first | (go_at_call 40; (with_reducible refine (zlc.calls (bt a0 x5_1) true _ A6.out).mono ?_); rintro e w' ⟨rfl, ⟨nd, rfl⟩⟩))
      go_roundg k1
      case measure => have := HK1.out; omega
      case rel => exact ⟨(wrap64 (x5_1 + 1)), (by first | rfl | (simp; done) | (simp [*]; done) | (simp [zoc]; done) | (simp [zoc, *]; done)), H', ⟨by have := HK1.out; omega⟩, by repeat (first | exact zo.refl _ | apply zo.step)⟩
     ·replace c7 := Bool.eq_false_iff.mpr c7
      subst c7
      have H1 : (some x5_1) = some r := by rw [if_neg (show ¬ (false = true) by decide)] at H; exact H
      clear H
      have H := H1
      clear H1
      obtain rfl := Option.some.inj H
      have p5 : 0 ≤ (x5_1 : Int) := of_decide_eq_true (by first | (with_reducible assumption) | assumption)
      have q5 : x5_1 < (a0.size : Int) := of_decide_eq_true (by first | (with_reducible assumption) | assumption)
      have hx5 := bt_at a0 x5_1
      replace p5 := eq_true p5
      replace q5 := eq_true q5
      go_wp2_with (first | (go_at_call 40; (with_reducible refine (zlc.calls (bt a0 x5_1) false _ A6.out).mono ?_); rintro e w' ⟨rfl, ⟨nd, rfl⟩⟩))
      go_ret
      exact ⟨by first | rfl | (simp; done) | (simp [*]; done) | (simp [zoc]; done) | (simp [zoc, *]; done), by repeat (first | exact zo.refl _ | apply zo.step)⟩
    ·rw [if_neg c4] at H
     exact absurd H (by simp)
   ·rw [if_neg c3] at H
    have c3b0 : decide (x5_1 < (a0.size : Int)) = false := decide_eq_false c3
    clear c3
    obtain rfl := Option.some.inj H
    go_wp2
    go_ret
    exact ⟨by first | rfl | (simp; done) | (simp [*]; done) | (simp [zoc]; done) | (simp [zoc, *]; done), by repeat (first | exact zo.refl _ | apply zo.step)⟩
end Go.Proofs.YtapaijpglfmfgaaGreatDoor.E1
end
section
namespace Go.Proofs.YtapaijpglfmfgaaGreatDoor.E2
open Go.RowKit YtapaijpglfmfgaaGreatDoorH YtapaijpglfmfgaaGreatDoorW.PrintWords YtapaijpglfmfgaaGreatDoorW.PrintLast YtapaijpglfmfgaaGreatDoorW.PrintMore
attribute [local go_sem] zsc zuc zhd zgd zhc zic zvc ztc
def errW : Option Int → Value
 | none => .nilIface
 | some c => .iface 0 (.int .i64 c)
theorem zcf : errW none = .nilIface := rfl
theorem zbf (c : Int) : errW (some c) = .iface 0 (.int .i64 c) := rfl
end Go.Proofs.YtapaijpglfmfgaaGreatDoor.E2
end
section
namespace Go.Proofs.YtapaijpglfmfgaaGreatDoor.E2
open Go.RowKit YtapaijpglfmfgaaGreatDoorH YtapaijpglfmfgaaGreatDoorW.PrintWords YtapaijpglfmfgaaGreatDoorW.PrintLast YtapaijpglfmfgaaGreatDoorW.PrintMore
attribute [local go_sem] zsc zuc zhd zgd zhc zic zvc ztc
def zlc.f (a0 : Int) : Option (Bool) := if a0 ≥ 48 then (some (decide (a0 ≤ 57))) else (some false)
def zyh.f (a0 : Int) : Option (Bool) := (zlc.f a0).bind fun t101 => (if t101 = true then (some true) else (if a0 ≥ 97 then (some (decide (a0 ≤ 102))) else (some false)))
def zpb.l0 : Nat → ByteArray → Int → Option (Int)
 | 0, _, _ => none
 | k + 1, x0, x5 => if x5 < (x0.size : Int) then (if 0 ≤ x5 then ((zyh.f (bt x0 x5)).bind fun t102 => (if t102 = true then (zpb.l0 k x0 (wrap64 (x5 + 1))) else (some x5))) else (none)) else (some x5)
def zpb.f (k : Nat) (a0 : ByteArray)  : Option (Int) := zpb.l0 k a0 0
end Go.Proofs.YtapaijpglfmfgaaGreatDoor.E2
end
section
namespace Go.Proofs.YtapaijpglfmfgaaGreatDoorP
open Go.RowKit YtapaijpglfmfgaaGreatDoorB YtapaijpglfmfgaaGreatDoorM YtapaijpglfmfgaaGreatDoorW.PrintWords
theorem zdi {p : Int → Bool} : ∀ {l : List Int} {c : Int}, c ∈ l.take (run p l) → p c = true
 | [], c, h => by simp at h
 | x :: l, c, h => by
  cases hx : p x with
  | false => rw [zvg hx] at h; simp at h
  | true =>
   rw [zmh hx, List.take_succ_cons] at h
   rcases List.mem_cons.1 h with rfl | h
   ·exact hx
   ·exact zdi h
theorem zzi {p : Int → Bool} : ∀ {a b : List Int}, (∀ c ∈ a, p c = true) → run p (a ++ b) = a.length + run p b
 | [], b, _ => by simp
 | x :: a, b, h => by
  rw [List.cons_append, zmh (h x List.mem_cons_self), zzi (fun c hc => h c (List.mem_cons_of_mem _ hc))]
  simp; omega
theorem run_all {p : Int → Bool} {a : List Int} (h : ∀ c ∈ a, p c = true) : run p a = a.length := by
 have := zzi (b := []) h
 simpa [run_nil] using this
theorem run_stop_append {p : Int → Bool} {a b : List Int} (h : ∀ c ∈ a, p c = true) (hb : b = [] ∨ p (b.getD 0 0) = false) : run p (a ++ b) = a.length := by
 rw [zzi h]
 rcases hb with rfl | hb
 ·rfl
 ·cases b with
  | nil => rfl
  | cons x b => rw [zvg (show p x = false from hb)]; rfl
def isPt (c : Int) : Bool := decide (c = 46)
theorem splitP_pt (a b : List Int) : zbe isPt (a ++ 46 :: b) = zbe isPt a ++ zbe isPt b := by
 induction a with
 | nil => rfl
 | cons c a ih =>
  simp only [List.cons_append, zbe]
  split
  ·rw [ih]; rfl
  ·rw [ih]
   cases hs : zbe isPt a with
   | nil => exact absurd hs (splitP_ne _ a)
   | cons x L => rfl
theorem splitP_one {l : List Int} (h : ∀ c ∈ l, c ≠ 46) : zbe isPt l = [l] := by
 induction l with
 | nil => rfl
 | cons c l ih =>
  simp only [zbe]
  rw [if_neg (by have := h c List.mem_cons_self; simp [isPt, this]), ih (fun x hx => h x (List.mem_cons_of_mem _ hx))]
  rfl
theorem getD_head {l : List Int} {c : Int} (h : l.getD 0 0 = c) (hc : c ≠ 0) : l = c :: l.drop 1 := by
 cases l with
 | nil => exact absurd h.symm hc
 | cons x l => have : x = c := h; subst this; rfl
def numsP : Nat → List Int → List (List Int) × List Int
 | 0, l => ([], l)
 | n + 1, l => if run isD l = 0 then ([], l) else
  if (l.drop (run isD l)).getD 0 0 = 46 then (l.take (run isD l) :: (numsP n (l.drop (run isD l + 1))).1, (numsP n (l.drop (run isD l + 1))).2)
  else ([l.take (run isD l)], l.drop (run isD l))
theorem numsP_none {l : List Int} (h : run isD l = 0) : ∀ n, numsP n l = ([], l)
 | 0 => rfl
 | n + 1 => by simp only [numsP, h, if_true]
theorem take_run_ne {p : Int → Bool} {l : List Int} (h : run p l ≠ 0) : l.take (run p l) ≠ [] := by
 intro e
 have := congrArg List.length e
 have h1 := run_le p l
 rw [List.length_take, List.length_nil] at this
 omega
theorem isD_pt {c : Int} (h : isD c = true) : c ≠ 46 := by
 unfold isD at h
 have := of_decide_eq_true h
 omega
theorem zvf : ∀ (n : Nat) (l : List Int), ∃ sub, l = sub ++ (numsP n l).2 ∧ (zbe isPt sub).takeWhile (fun d => decide (d ≠ [])) = (numsP n l).1 ∧ ((numsP n l).1 = [] → sub = []) ∧ (∀ d ∈ (numsP n l).1, d ≠ [] ∧ ∀ c ∈ d, isD c = true)
 | 0, l => ⟨[], rfl, rfl, fun _ => rfl, fun d hd => by simp [numsP] at hd⟩
 | n + 1, l => by
  simp only [numsP]
  by_cases h0 : run isD l = 0
  ·rw [if_pos h0]
   exact ⟨[], rfl, rfl, fun _ => rfl, fun d hd => by simp at hd⟩
  ·rw [if_neg h0]
   have hne := take_run_ne h0
   have hdig : ∀ c ∈ l.take (run isD l), isD c = true := fun c hc => zdi hc
   by_cases h1 : (l.drop (run isD l)).getD 0 0 = 46
   ·rw [if_pos h1]
    obtain ⟨sub, e1, e2, e3, e4⟩ := zvf n (l.drop (run isD l + 1))
    have e := getD_head h1 (by omega)
    rw [List.drop_drop] at e
    refine ⟨l.take (run isD l) ++ 46 :: sub, ?_, ?_, fun h => by simp at h, fun d hd => ?_⟩
    ·show l = l.take (run isD l) ++ 46 :: sub ++ (numsP n (l.drop (run isD l + 1))).2
     rw [List.append_assoc, List.cons_append, ← e1, ← e, List.take_append_drop]
    ·rw [splitP_pt, splitP_one (fun c hc => isD_pt (hdig c hc))]
     show (l.take (run isD l) :: zbe isPt sub).takeWhile _ = _
     rw [List.takeWhile_cons_of_pos (by simpa using hne), e2]
    ·rcases List.mem_cons.1 hd with rfl | hd
     ·exact ⟨hne, hdig⟩
     ·exact e4 d hd
   ·rw [if_neg h1]
    refine ⟨l.take (run isD l), (List.take_append_drop _ _).symm, ?_, fun h => by simp at h, fun d hd => ?_⟩
    ·rw [splitP_one (fun c hc => isD_pt (hdig c hc)), List.takeWhile_cons_of_pos (by simpa using hne)]
     rfl
    ·have : d = l.take (run isD l) := by simpa using hd
     subst this
     exact ⟨hne, hdig⟩
theorem numsP_len (n : Nat) (l : List Int) : (numsP n l).2.length ≤ l.length := by
 obtain ⟨sub, e, _⟩ := zvf n l
 have := congrArg List.length e
 rw [List.length_append] at this
 omega
theorem numsP_count : ∀ (n : Nat) (l : List Int), (numsP n l).1.length ≤ l.length
 | 0, l => by simp [numsP]
 | n + 1, l => by
  simp only [numsP]
  by_cases h0 : run isD l = 0
  ·rw [if_pos h0]; simp
  ·rw [if_neg h0]
   have hl := run_le isD l
   by_cases h1 : (l.drop (run isD l)).getD 0 0 = 46
   ·rw [if_pos h1]
    have := numsP_count n (l.drop (run isD l + 1))
    rw [List.length_drop] at this
    simp only [List.length_cons]
    omega
   ·rw [if_neg h1]; simp; omega
theorem zgj : ∀ (n : Nat) (l : List Int), ∀ d ∈ (numsP n l).1, d.length ≤ l.length
 | 0, l, d, h => by simp [numsP] at h
 | n + 1, l, d, h => by
  simp only [numsP] at h
  by_cases h0 : run isD l = 0
  ·rw [if_pos h0] at h; simp at h
  ·rw [if_neg h0] at h
   by_cases h1 : (l.drop (run isD l)).getD 0 0 = 46
   ·rw [if_pos h1] at h
    rcases List.mem_cons.1 h with rfl | h
    ·rw [List.length_take]; omega
    ·have := zgj n _ d h
     rw [List.length_drop] at this
     omega
   ·rw [if_neg h1] at h
    have : d = l.take (run isD l) := by simpa using h
    subst this
    rw [List.length_take]; omega
def ztf (l : List Int) : List Int × List Int := if isL (l.getD 0 0) = true then (l.take 1, l.drop 1) else ([], l)
def zbc : List (List Int) := [[97, 108, 112, 104, 97], [98, 101, 116, 97], [112, 114, 101], [114, 99], [99, 118, 115], [115, 118, 110], [103, 105, 116], [104, 103], [112]]
def wgtWords : List (List Int) := [[97, 108, 112, 104, 97], [98, 101, 116, 97], [112, 114, 101], [114, 99], [], [99, 118, 115], [115, 118, 110], [103, 105, 116], [104, 103]]
def wgt (w : List Int) : Nat := wgtWords.idxOf w
def pre (w l : List Int) : Bool := decide (l.take w.length = w)
def ztd (l : List Int) : Option (List Int) := if l.getD 0 0 = 95 then zbc.find? (fun w => pre w (l.drop 1)) else none
def sufsP : Nat → List Int → List (List Int × List Int) × List Int
 | 0, l => ([], l)
 | n + 1, l => match ztd l with
  | none => ([], l)
  | some w => ((w, (l.drop (1 + w.length)).take (run isD (l.drop (1 + w.length)))) :: (sufsP n ((l.drop (1 + w.length)).drop (run isD (l.drop (1 + w.length))))).1, (sufsP n ((l.drop (1 + w.length)).drop (run isD (l.drop (1 + w.length))))).2)
theorem zse {l : List Int} (h : ztd l = none) : ∀ n, sufsP n l = ([], l)
 | 0 => rfl
 | n + 1 => by simp only [sufsP, h]
theorem zqe {l w : List Int} (h : ztd l = some w) (n : Nat) : sufsP (n + 1) l = ((w, (l.drop (1 + w.length)).take (run isD (l.drop (1 + w.length)))) :: (sufsP n ((l.drop (1 + w.length)).drop (run isD (l.drop (1 + w.length))))).1, (sufsP n ((l.drop (1 + w.length)).drop (run isD (l.drop (1 + w.length))))).2) := by simp only [sufsP, h]
theorem zne {l w : List Int} (h : ztd l = some w) : w ∈ zbc ∧ l = 95 :: (w ++ l.drop (1 + w.length)) := by
 unfold ztd at h
 by_cases h0 : l.getD 0 0 = 95
 ·rw [if_pos h0] at h
  have h1 := List.mem_of_find?_eq_some h
  have h2 := List.find?_some h
  unfold pre at h2
  have h3 : (l.drop 1).take w.length = w := of_decide_eq_true h2
  refine ⟨h1, ?_⟩
  have e := getD_head h0 (by omega)
  have e2 : l.drop 1 = w ++ (l.drop 1).drop w.length := by
   have := List.take_append_drop w.length (l.drop 1)
   rw [h3] at this
   exact this.symm
  rw [List.drop_drop] at e2
  rw [← e2]
  exact e
 ·rw [if_neg h0] at h; cases h
theorem zsd {w : List Int} (h : w ∈ zbc) : 1 ≤ w.length ∧ w.length ≤ 5 := by
 have : ∀ w ∈ zbc, 1 ≤ w.length ∧ w.length ≤ 5 := by decide
 exact this w h
theorem zeg {w : List Int} (h : w ∈ zbc) : ∀ c ∈ w, 97 ≤ c ∧ c ≤ 122 := by
 have : ∀ w ∈ zbc, ∀ c ∈ w, 97 ≤ c ∧ c ≤ 122 := by decide
 exact this w h
theorem sufsP_len : ∀ (n : Nat) (l : List Int), (sufsP n l).2.length ≤ l.length
 | 0, l => Nat.le_refl _
 | n + 1, l => by
  cases h : ztd l with
  | none => rw [zse h]; exact Nat.le_refl _
  | some w =>
   rw [zqe h]
   have := sufsP_len n ((l.drop (1 + w.length)).drop (run isD (l.drop (1 + w.length))))
   rw [List.length_drop, List.length_drop] at this
   simp only
   omega
theorem zzh : ∀ (n : Nat) (l : List Int), (sufsP n l).1.length ≤ l.length
 | 0, l => Nat.zero_le _
 | n + 1, l => by
  cases h : ztd l with
  | none => rw [zse h]; exact Nat.zero_le _
  | some w =>
   rw [zqe h]
   have := zzh n ((l.drop (1 + w.length)).drop (run isD (l.drop (1 + w.length))))
   rw [List.length_drop, List.length_drop] at this
   have h1 := (zne h).2
   have h2 := congrArg List.length h1
   simp only [List.length_cons, List.length_append, List.length_drop] at h2 ⊢
   omega
theorem sufsP_mem : ∀ (n : Nat) (l : List Int), ∀ x ∈ (sufsP n l).1, x.1 ∈ zbc ∧ x.2.length ≤ l.length ∧ ∀ c ∈ x.2, isD c = true
 | 0, l, x, hx => by simp [sufsP] at hx
 | n + 1, l, x, hx => by
  cases h : ztd l with
  | none => rw [zse h] at hx; simp at hx
  | some w =>
   rw [zqe h] at hx
   rcases List.mem_cons.1 hx with rfl | hx
   ·refine ⟨(zne h).1, ?_, fun c hc => zdi hc⟩
    simp only [List.length_take, List.length_drop]
    omega
   ·have := sufsP_mem n _ x hx
    refine ⟨this.1, Nat.le_trans this.2.1 ?_, this.2.2⟩
    rw [List.length_drop, List.length_drop]
    omega
def isX (c : Int) : Bool := isD c || decide (97 ≤ c ∧ c ≤ 102)
def hashP (l : List Int) : List Int × List Int := if l.getD 0 0 = 126 ∧ run isX (l.drop 1) ≠ 0 then (l.take (1 + run isX (l.drop 1)), l.drop (1 + run isX (l.drop 1))) else ([], l)
def zig (l : List Int) : Bool × List Int × List Int := if l = [] then (false, [], []) else
 if l.take 2 = [45, 114] then (false, (l.drop 2).take (run isD (l.drop 2)), (l.drop 2).drop (run isD (l.drop 2))) else (true, [], l)
structure PV where
 o : List Int
 c : List (List Int)
 l : List Int
 s : List (List Int × List Int)
 h : List Int
 i : Bool
 b : List Int
 r : List Int
def rest1 (l : List Int) : List Int := (numsP l.length l).2
def rest2 (l : List Int) : List Int := (ztf (rest1 l)).2
def rest3 (l : List Int) : List Int := (sufsP (rest2 l).length (rest2 l)).2
def rest4 (l : List Int) : List Int := (hashP (rest3 l)).2
def zxe (l : List Int) : PV := ⟨l, (numsP l.length l).1, (ztf (rest1 l)).1, (sufsP (rest2 l).length (rest2 l)).1, (hashP (rest3 l)).1, (zig (rest4 l)).1, (zig (rest4 l)).2.1, (zig (rest4 l)).2.2⟩
def Clear (l : List Int) : Prop := ∀ j, ztd (l.drop j) = none
theorem zli (l : List Int) : (rest1 l).length ≤ l.length := numsP_len _ l
theorem zti (l : List Int) : (rest2 l).length ≤ l.length := by
 unfold rest2 ztf
 have := zli l
 split
 ·simp only [List.length_drop]; omega
 ·exact this
theorem rest3_len (l : List Int) : (rest3 l).length ≤ l.length := Nat.le_trans (sufsP_len _ _) (zti l)
theorem rest4_len (l : List Int) : (rest4 l).length ≤ l.length := by
 unfold rest4 hashP
 have := rest3_len l
 split
 ·simp only [List.length_drop]; omega
 ·exact this
theorem Clear.drop {l : List Int} (h : Clear l) (i : Nat) : Clear (l.drop i) := fun j => by rw [List.drop_drop]; exact h (i + j)
end Go.Proofs.YtapaijpglfmfgaaGreatDoorP
end
section
namespace Go.Proofs.YtapaijpglfmfgaaGreatDoorP
open Go.RowKit YtapaijpglfmfgaaGreatDoorG YtapaijpglfmfgaaGreatDoorH YtapaijpglfmfgaaGreatDoorB YtapaijpglfmfgaaGreatDoorM YtapaijpglfmfgaaGreatDoor.S YtapaijpglfmfgaaGreatDoorW.PrintWords YtapaijpglfmfgaaGreatDoorW.PrintLast
theorem run_drop {p : Int → Bool} : ∀ (l : List Int), run p (l.drop (run p l)) = 0
 | [] => rfl
 | x :: l => by
  cases hx : p x with
  | false => rw [zvg hx, List.drop_zero, zvg hx]
  | true => rw [zmh hx, List.drop_succ_cons]; exact run_drop l
theorem zzDigit_eq (c : Int) : zac.f c = some (isD c) := by
 unfold zac.f isD
 by_cases h : c ≥ 48
 ·rw [if_pos h]; simp; omega
 ·rw [if_neg h]; simp; omega
theorem digits_from (s : ByteArray) (hs : s.size ≤ 2000000) : ∀ (n i : Nat), s.size - i = n → i ≤ s.size →
  Ev (fun k => zcb.l0 k s (i : Int)) ((i + run isD ((bytesOf s).drop i) : Nat) : Int) := by
 intro n
 induction n with
 | zero =>
  intro i hn hi
  refine Ev.succ ?_
  simp only [zcb.l0]
  refine Ev.neg (fun _ => by first | omega | assumption | nofun) ?_
  refine Ev.eq (Ev.now _) ?_
  rw [List.drop_of_length_le (by rw [bytesOf_length]; omega), run_nil]
  rfl
 | succ n ih =>
  intro i hn hi
  have hl : i < (bytesOf s).length := by rw [bytesOf_length]; omega
  refine Ev.succ ?_
  simp only [zcb.l0, zsg, zzDigit_eq, Option.bind_some]
  refine Ev.pos (fun _ => by first | omega | trivial | assumption) ?_
  refine Ev.pos (fun _ => by first | omega | trivial | assumption) ?_
  rw [zug _ _ hl]
  cases hd : isD ((bytesOf s).getD i 0)
  ·refine Ev.neg (fun _ => Bool.false_ne_true) ?_
   refine Ev.eq (Ev.now _) ?_
   rw [zvg hd]
   rfl
  ·refine Ev.pos (fun _ => rfl) ?_
   rw [w64 (by omega) (by omega), zmh hd]
   refine Ev.eq (ih (i + 1) (by omega) (by omega)) ?_
   have : i + 1 + run isD ((bytesOf s).drop (i + 1)) = i + (run isD ((bytesOf s).drop (i + 1)) + 1) := by omega
   rw [this]
theorem zri (s : ByteArray) (hs : s.size ≤ 2000000) (i : Nat) (hi : i ≤ s.size) : Ev (fun k => zcb.f k s (i : Int)) ((i + run isD ((bytesOf s).drop i) : Nat) : Int) := digits_from s hs _ i rfl hi
theorem zjg (s : ByteArray) (hs : s.size ≤ 2000000) (i : Nat) (hi : i ≤ s.size) (h : run isD ((bytesOf s).drop i) = 0) : Ev (fun k => zw.l0 k s (i : Int)) (s.extract 0 i) := by
 refine Ev.succ ?_
 simp only [zw.l0]
 refine Ev.bind (zri s hs i hi) ?_
 rw [h, Nat.add_zero]
 refine Ev.pos (fun _ => rfl) ?_
 refine Ev.pos (fun _ => by first | omega | trivial | assumption) ?_
 refine Ev.pos (fun _ => by first | omega | trivial | assumption) ?_
 exact Ev.eq (Ev.now _) (by simp)
theorem numbers_from (s : ByteArray) (hs : s.size ≤ 2000000) : ∀ (n i : Nat), s.size - i ≤ n → i ≤ s.size →
  Ev (fun k => zw.l0 k s (i : Int)) (s.extract 0 (s.size - (numsP n ((bytesOf s).drop i)).2.length)) := by
 intro n
 induction n with
 | zero =>
  intro i hn hi
  have e : (bytesOf s).drop i = [] := List.drop_of_length_le (by rw [bytesOf_length]; omega)
  have := zjg s hs i hi (by rw [e]; rfl)
  rw [e]
  have e2 : s.size - (numsP 0 []).2.length = i := by simp [numsP]; omega
  rw [e2]
  exact this
 | succ n ih =>
  intro i hn hi
  by_cases h0 : run isD ((bytesOf s).drop i) = 0
  ·rw [numsP_none h0]
   have e2 : s.size - ((([] : List (List Int)), (bytesOf s).drop i)).2.length = i := by simp only [List.length_drop, bytesOf_length]; omega
   rw [e2]
   exact zjg s hs i hi h0
  ·have hr := run_le isD ((bytesOf s).drop i)
   rw [List.length_drop, bytesOf_length] at hr
   have hdd : ((bytesOf s).drop i).drop (run isD ((bytesOf s).drop i)) = (bytesOf s).drop (i + run isD ((bytesOf s).drop i)) := by rw [List.drop_drop]
   have hdd1 : ((bytesOf s).drop i).drop (run isD ((bytesOf s).drop i) + 1) = (bytesOf s).drop (i + run isD ((bytesOf s).drop i) + 1) := by rw [List.drop_drop, Nat.add_assoc]
   have hz : run isD ((bytesOf s).drop (i + run isD ((bytesOf s).drop i))) = 0 := by rw [← hdd]; exact run_drop _
   have hgt : (((bytesOf s).drop i).drop (run isD ((bytesOf s).drop i))).getD 0 0 = (bytesOf s).getD (i + run isD ((bytesOf s).drop i)) 0 := by
    rw [hdd]; simp [List.getD_eq_getElem?_getD]
   simp only [numsP]
   rw [if_neg h0, hgt, hdd, hdd1]
   have D := zri s hs i hi
   generalize run isD ((bytesOf s).drop i) = r at D hr hz h0 ⊢
   refine Ev.succ ?_
   simp only [zw.l0]
   refine Ev.bind D ?_
   refine Ev.neg (fun _ => by omega) ?_
   by_cases hlt : i + r < s.size
   ·refine Ev.pos (fun _ => by omega) ?_
    refine Ev.pos (fun _ => by omega) ?_
    rw [zsg]
    by_cases h46 : (bytesOf s).getD (i + r) 0 = 46
    ·rw [if_pos h46]
     refine Ev.pos (fun _ => h46) ?_
     rw [w64 (by omega) (by omega)]
     exact ih (i + r + 1) (by omega) (by omega)
    ·rw [if_neg h46]
     refine Ev.neg (fun _ => h46) ?_
     have e2 : s.size - ([((bytesOf s).drop i).take r], (bytesOf s).drop (i + r)).2.length = i + r := by simp only [List.length_drop, bytesOf_length]; omega
     rw [e2]
     exact zjg s hs (i + r) (by omega) hz
   ·refine Ev.neg (fun _ => by omega) ?_
    have e3 : (bytesOf s).drop (i + r) = [] := List.drop_of_length_le (by rw [bytesOf_length]; omega)
    have h46 : (bytesOf s).getD (i + r) 0 ≠ 46 := by
     rw [List.getD_eq_getElem?_getD, List.getElem?_eq_none (by rw [bytesOf_length]; omega)]
     simp
    rw [if_neg h46]
    have e2 : s.size - ([((bytesOf s).drop i).take r], (bytesOf s).drop (i + r)).2.length = i + r := by simp only [List.length_drop, bytesOf_length]; omega
    rw [e2]
    exact zjg s hs (i + r) (by omega) hz
def nPt (c : Int) : Bool := !isPt c
theorem index_from (s : ByteArray) (hs : s.size ≤ 1000000) : ∀ (n i : Nat), s.size - i = n → i ≤ s.size →
  Ev (fun k => zsb.l0 k s (⟨#[46]⟩ : ByteArray) i) (if i + run nPt ((bytesOf s).drop i) < s.size then ((i + run nPt ((bytesOf s).drop i) : Nat) : Int) else -1) := by
 have e1 : ((⟨#[46]⟩ : ByteArray).size : Int) = 1 := rfl
 intro n
 induction n with
 | zero =>
  intro i hn hi
  refine Ev.succ ?_
  simp only [zsb.l0]
  rw [e1, w64 (by omega) (by omega)]
  refine Ev.neg (fun _ => by first | omega | assumption | nofun) ?_
  refine Ev.eq (Ev.now _) ?_
  rw [if_neg (by omega)]
 | succ n ih =>
  intro i hn hi
  have hl : i < (bytesOf s).length := by rw [bytesOf_length]; omega
  have hg := zug _ _ hl
  have hone : bytesOf (s.extract i (i + 1)) = [(bytesOf s).getD i 0] := by rw [zpf, hg]; simp
  refine Ev.succ ?_
  simp only [zsb.l0]
  rw [e1, w64 (by omega) (by omega)]
  have e2 : ((i : Int) + 1).toNat = i + 1 := by omega
  rw [e2, Int.toNat_natCast]
  refine Ev.pos (fun _ => by first | omega | trivial | assumption) ?_
  refine Ev.pos (fun _ => by first | omega | trivial | assumption) ?_
  refine Ev.pos (fun _ => by first | omega | trivial | assumption) ?_
  cases hp : isPt ((bytesOf s).getD i 0)
  ·refine Ev.neg (fun _ h => ?_) ?_
   ·rw [zid, hone] at h
    have h2 : [(bytesOf s).getD i 0] = [46] := h
    injection h2 with h2 _
    rw [h2] at hp
    cases hp
   ·refine Ev.eq (ih (i + 1) (by omega) (by omega)) ?_
    rw [hg, zmh (show nPt ((bytesOf s).getD i 0) = true by unfold nPt; rw [hp]; rfl)]
    have e3 : i + 1 + run nPt ((bytesOf s).drop (i + 1)) = i + (run nPt ((bytesOf s).drop (i + 1)) + 1) := by omega
    rw [e3]
  ·refine Ev.pos (fun _ => ?_) ?_
   ·rw [zid, hone]
    have : (bytesOf s).getD i 0 = 46 := by simpa [isPt] using hp
    rw [this]
    rfl
   ·refine Ev.eq (Ev.now _) ?_
    rw [hg, zvg (show nPt ((bytesOf s).getD i 0) = false by unfold nPt; rw [hp]; rfl), if_pos (by omega)]
    rfl
theorem split_from : ∀ (n : Nat) (s : ByteArray) (out : List ByteArray), s.size ≤ n → n ≤ 1000000 → out.length + n ≤ 2000000 →
  ∃ r, Ev (fun k => znb.l1 k s (⟨#[46]⟩ : ByteArray) out) r ∧ r.map bytesOf = out.map bytesOf ++ zbe isPt (bytesOf s) := by
 have e1 : ((⟨#[46]⟩ : ByteArray).size : Int) = 1 := rfl
 intro n
 induction n using Nat.strongRecOn with
 | _ n ih =>
  intro s out hs hn ho
  have hix := index_from s (by omega) _ 0 rfl (by omega)
  have hix2 : Ev (fun k => zsb.f k s (⟨#[46]⟩ : ByteArray)) (if run nPt (bytesOf s) < s.size then ((run nPt (bytesOf s) : Nat) : Int) else -1) := by simpa [zsb.f] using hix
  have hsp := splitP_run isPt (bytesOf s)
  rw [bytesOf_length] at hsp
  have hrun : run (fun c => !isPt c) (bytesOf s) = run nPt (bytesOf s) := rfl
  rw [hrun] at hsp
  by_cases hlt : run nPt (bytesOf s) < s.size
  ·rw [if_pos hlt] at hix2 hsp
   obtain ⟨m, hm⟩ : ∃ m, m = run nPt (bytesOf s) := ⟨_, rfl⟩
   rw [← hm] at hix2 hsp hlt
   have hb : bytesOf (s.extract (m + 1) s.size) = (bytesOf s).drop (m + 1) := B_drop _ _
   have hsz : (s.extract (m + 1) s.size).size = s.size - (m + 1) := by rw [zcc, hb, List.length_drop, bytesOf_length]
   obtain ⟨r, hr, h1⟩ := ih (s.size - (m + 1)) (by omega) (s.extract (m + 1) s.size) (out ++ [s.extract 0 m]) (by omega) (by omega) (by simp; omega)
   refine ⟨r, Ev.succ ?_, ?_⟩
   ·simp only [znb.l1]
    refine Ev.bind hix2 ?_
    rw [e1, w64 (i := (m : Int) + 1) (by omega) (by omega)]
    have e2 : ((m : Int) + 1).toNat = m + 1 := by omega
    rw [e2, Int.toNat_natCast]
    refine Ev.neg (fun _ => by first | omega | assumption | nofun) ?_
    refine Ev.pos (fun _ => by first | omega | trivial | assumption) ?_
    refine Ev.pos (fun _ => by first | omega | trivial | assumption) ?_
    refine Ev.pos (fun _ => by first | omega | trivial | assumption) ?_
    refine Ev.pos (fun _ => by first | omega | trivial | assumption) ?_
    refine Ev.pos (fun _ => by first | omega | trivial | assumption) ?_
    exact hr
   ·rw [h1, hb, hsp, List.map_append, List.map_cons, List.map_nil, zfg]
    simp
  ·rw [if_neg hlt] at hix2 hsp
   refine ⟨out ++ [s], Ev.succ ?_, ?_⟩
   ·simp only [znb.l1]
    refine Ev.bind hix2 ?_
    refine Ev.pos (fun _ => by first | omega | trivial | assumption) ?_
    refine Ev.pos (fun _ => by first | omega | trivial | assumption) ?_
    exact Ev.now _
   ·rw [hsp]; simp
theorem split_ev (s : ByteArray) (hs : s.size ≤ 1000000) : ∃ r, Ev (fun k => znb.f k s (⟨#[46]⟩ : ByteArray)) r ∧ r.map bytesOf = zbe isPt (bytesOf s) := by
 obtain ⟨r, h, h1⟩ := split_from s.size s [] (Nat.le_refl _) hs (by simp; omega)
 refine ⟨r, ?_, by simpa using h1⟩
 simp only [znb.f]
 refine Ev.neg (fun _ h => by cases h) ?_
 exact h
theorem zcj {m : List Int} (h0 : m ≠ []) (h : ∀ c ∈ m, isD c = true) : zvd (strOfNums m) ∧ bytesOf (strOfNums m) = m := by
 have hb : bytesOf (strOfNums m) = m := B_str (fun c hc => by have := h c hc; unfold isD at this; have := of_decide_eq_true this; omega)
 refine ⟨⟨by rw [zcc, hb]; exact List.length_pos_iff.2 h0, fun j hj => ?_⟩, hb⟩
 rw [zsg, hb]
 rw [zcc, hb] at hj
 have hm : m.getD j 0 ∈ m := by rw [List.getD_eq_getElem?_getD, List.getElem?_eq_getElem hj]; exact List.getElem_mem hj
 have := h _ hm
 unfold isD at this
 exact of_decide_eq_true this
theorem plain_dig {d : ByteArray} (h : zvd d) (hs : d.size ≤ 1000000) : Plain d := by
 have := h.2 0 h.1
 unfold Dig at this
 have e : bt d ((0 : Nat) : Int) = bt d 0 := rfl
 rw [e] at this
 exact ⟨hs, by omega, by omega⟩
theorem dv_decL (s : ByteArray) : ∀ k, k ≤ s.size → dv s k = decL ((bytesOf s).take k)
 | 0, _ => rfl
 | k + 1, h => by
  have hl : k < (bytesOf s).length := by rw [bytesOf_length]; omega
  have e : (bytesOf s).take (k + 1) = (bytesOf s).take k ++ [(bytesOf s).getD k 0] := by
   rw [List.take_add_one, List.getElem?_eq_getElem hl, List.getD_eq_getElem?_getD, List.getElem?_eq_getElem hl]
   rfl
  rw [e, decL_snoc, ← dv_decL s k (by omega)]
  show dv s k * 10 + (bt s (k : Int) - 48).toNat = _
  rw [zsg]
  omega
theorem dv_all (s : ByteArray) : dv s s.size = decL (bytesOf s) := by
 rw [dv_decL s s.size (Nat.le_refl _), List.take_of_length_le (by rw [bytesOf_length]; exact Nat.le_refl _)]
theorem zrh (s p : ByteArray) (r : List Int) (h : bytesOf s = bytesOf p ++ r) (hs : s.size ≤ 2000000) : ∃ t, zeb.f s p = some t ∧ bytesOf t = r := by
 have hl : p.size ≤ s.size := by rw [zcc, zcc, h, List.length_append]; omega
 unfold zeb.f zxc.f zwc.f
 rw [if_pos (by omega), if_pos (by omega), if_pos (by omega)]
 have e : ((s.extract 0 ((p.size : Int)).toNat).toList == p.toList) = true := by
  rw [beq_iff_eq, zid, zfg, Int.toNat_natCast, h, zcc, List.take_left]
 rw [e]
 simp only [Option.bind_some]
 rw [if_pos True.intro, if_pos (by omega), if_pos (by omega)]
 simp only [Option.bind_some]
 refine ⟨_, rfl, ?_⟩
 rw [B_drop, Int.toNat_natCast, h, zcc, List.drop_left]
theorem takeNe_map {l : List ByteArray} : (zve l).map bytesOf = (l.map bytesOf).takeWhile (fun d => decide (d ≠ [])) := by
 induction l with
 | nil => rfl
 | cons a l ih =>
  unfold zve at ih ⊢
  rw [List.map_cons]
  by_cases h : a.toList = []
  ·have h2 : bytesOf a = [] := (zvb a).1 h
   rw [List.takeWhile_cons_of_neg (by simpa using h), List.takeWhile_cons_of_neg (by simpa using h2)]
   rfl
  ·have h2 : bytesOf a ≠ [] := fun e => h ((zvb a).2 e)
   rw [List.takeWhile_cons_of_pos (by simpa using h), List.takeWhile_cons_of_pos (by simpa using h2), List.map_cons, ih]
theorem nums_ev (s : ByteArray) (hs : s.size ≤ 100000) : ∃ rest, Ev (fun k => numsRun k s) ((numsP (bytesOf s).length (bytesOf s)).1.map strOfNums, rest) ∧ bytesOf rest = rest1 (bytesOf s) := by
 obtain ⟨sub, e1, e2, e3, e4⟩ := zvf (bytesOf s).length (bytesOf s)
 have hN := numbers_from s (by omega) (bytesOf s).length 0 (by rw [bytesOf_length]; omega) (Nat.zero_le _)
 rw [List.drop_zero] at hN
 have hsub : bytesOf (s.extract 0 (s.size - (numsP (bytesOf s).length (bytesOf s)).2.length)) = sub := by
  rw [zfg, zcc]
  have : (bytesOf s).length - (numsP (bytesOf s).length (bytesOf s)).2.length = sub.length := by
   have := congrArg List.length e1
   rw [List.length_append] at this
   omega
  rw [this]
  conv => lhs; rw [e1]
  exact List.take_left
 obtain ⟨S, hS⟩ : ∃ S, S = s.extract 0 (s.size - (numsP (bytesOf s).length (bytesOf s)).2.length) := ⟨_, rfl⟩
 rw [← hS] at hN hsub
 have hSs : S.size ≤ 1000000 := by
  have hz := hs
  have := congrArg List.length e1
  rw [List.length_append] at this
  rw [zcc, hsub]
  rw [zcc] at hs
  omega
 unfold numsRun
 by_cases h0 : sub = []
 ·have hn : (numsP (bytesOf s).length (bytesOf s)).1 = [] := by
   rw [← e2, h0]; rfl
  refine ⟨s, ?_, ?_⟩
  ·refine Ev.bind hN ?_
   refine Ev.pos (fun _ => (zvb S).2 (hsub.trans h0)) ?_
   rw [hn]
   exact Ev.now _
  ·unfold rest1
   conv => lhs; rw [e1, h0]
   rfl
 ·obtain ⟨parts, hp, hpb⟩ := split_ev S hSs
  obtain ⟨t, ht, htb⟩ := zrh s S _ (by rw [hsub]; exact e1) (by omega)
  have hpt : (zve parts).map bytesOf = (numsP (bytesOf s).length (bytesOf s)).1 := by rw [takeNe_map, hpb, hsub, e2]
  have hpt2 : zve parts = (numsP (bytesOf s).length (bytesOf s)).1.map strOfNums := by
   rw [← hpt, List.map_map]
   have : (strOfNums ∘ bytesOf) = id := by funext s; exact str_B s
   rw [this, List.map_id]
  refine ⟨t, ?_, htb⟩
  refine Ev.bind hN ?_
  refine Ev.neg (fun _ h => h0 (hsub.symm.trans ((zvb S).1 h))) ?_
  refine Ev.bind hp ?_
  have hlen : parts.length = (zbe isPt sub).length := by rw [← hsub, ← hpb, List.length_map]
  have hl2 := splitP_length isPt sub
  have hl3 : sub.length ≤ 1000000 - 0 := by rw [← hsub, ← zcc]; exact hSs
  have hl4 : sub.length ≤ (bytesOf s).length := by
   have := congrArg List.length e1
   rw [List.length_append] at this
   omega
  have hne : 0 < (zbe isPt sub).length := List.length_pos_iff.2 (splitP_ne _ _)
  have hle : parts.length ≤ 1000000 := by
   have hz := hs
   rw [zcc] at hz
   omega
  have hgood : ∀ d ∈ zve parts, Plain d ∧ zvd d := by
   intro d hd
   rw [hpt2] at hd
   obtain ⟨m, hm, rfl⟩ := List.mem_map.1 hd
   obtain ⟨k1, k2⟩ := e4 m hm
   obtain ⟨k3, k4⟩ := zcj k1 k2
   refine ⟨plain_dig k3 ?_, k3⟩
   rw [zcc, k4]
   have := zgj (bytesOf s).length (bytesOf s) m hm
   rw [zcc] at hs
   omega
  refine Ev.pos (fun _ => ⟨by omega, hle, hgood⟩) ?_
  rw [ht, hpt2]
  exact Ev.now _
theorem letter_ev (s : ByteArray) (hs : s.size ≤ 100000) : ∃ rest, zrg s = some (strOfNums (ztf (bytesOf s)).1, rest) ∧ bytesOf rest = (ztf (bytesOf s)).2 := by
 have hE : zxb.f s = some (isL ((bytesOf s).getD 0 0)) := by
  unfold zxb.f
  by_cases h0 : bytesOf s = []
  ·rw [if_pos ((zvb s).2 h0), h0]; rfl
  ·have hpos : 0 < s.size := by rw [zcc]; exact List.length_pos_iff.2 h0
   rw [if_neg (fun h => h0 ((zvb s).1 h)), if_pos (by omega), zci]
   unfold isL
   by_cases h1 : (bytesOf s).getD 0 0 ≥ 97
   ·rw [if_pos h1]
    congr 1
    rw [decide_eq_decide]
    omega
   ·rw [if_neg h1]
    congr 1
    symm
    rw [decide_eq_false_iff_not]
    omega
 unfold zrg ztf
 rw [hE]
 simp only [Option.bind_some]
 cases hc : isL ((bytesOf s).getD 0 0)
 ·obtain ⟨t, ht, htb⟩ := zrh s ⟨#[]⟩ (bytesOf s) (by rfl) (by omega)
  refine ⟨t, ?_, ?_⟩
  ·rw [if_neg (by rintro ⟨h, _⟩; cases h)]
   simp only [Bool.false_eq_true, if_false]
   rw [ht]
   rfl
  ·simpa using htb
 ·have hne : bytesOf s ≠ [] := by intro e; rw [e] at hc; exact absurd hc (by decide)
  have hpos : s.size ≠ 0 := fun h => hne ((size_nil s).1 h)
  obtain ⟨t, ht, htb⟩ := zrh s (s.extract 0 1) ((bytesOf s).drop 1) (by rw [zfg]; exact (List.take_append_drop 1 _).symm) (by omega)
  refine ⟨t, ?_, ?_⟩
  ·rw [if_neg (by rintro ⟨_, h⟩; exact hpos h)]
   simp only [if_true]
   rw [ht]
   have : s.extract 0 1 = strOfNums ((bytesOf s).take 1) := by rw [← zfg, str_B]
   rw [this]
   rfl
  ·simpa using htb
theorem has_ev (s w : ByteArray) (i : Nat) (hi : i ≤ s.size) (hs : s.size ≤ 2000000) (hw : w.size ≤ 100) : zzb.f s (i : Int) w = some (pre (bytesOf w) ((bytesOf s).drop i)) := by
 unfold zzb.f pre
 rw [w64 (by omega) (by omega), w64 (by omega) (by omega)]
 have e1 : ((i : Int) + (w.size : Int)).toNat = i + w.size := by omega
 by_cases h : ((s.size : Int) - i) ≥ w.size
 ·rw [if_pos h, if_pos (by omega), if_pos (by omega), if_pos (by omega), e1, Int.toNat_natCast]
  congr 1
  rw [Bool.eq_iff_iff, beq_iff_eq, zid, decide_eq_true_iff, zpf, Nat.add_sub_cancel_left, zcc]
 ·rw [if_neg h]
  congr 1
  symm
  rw [decide_eq_false_iff_not]
  intro e
  have := congrArg List.length e
  rw [List.length_take, List.length_drop, bytesOf_length, ← zcc] at this
  omega
def pick (L : List Int) : List ByteArray → ByteArray → ByteArray
 | [], w => w
 | x :: xs, w => if w.toList = [] then (if pre (bytesOf x) L = true then pick L xs x else pick L xs w) else pick L xs w
theorem pick_done {L : List Int} : ∀ (xs : List ByteArray) {w : ByteArray}, w.toList ≠ [] → pick L xs w = w
 | [], _, _ => rfl
 | x :: xs, w, h => by simp only [pick]; rw [if_neg h]; exact pick_done xs h
theorem pick_find {L : List Int} : ∀ (xs : List ByteArray), (∀ x ∈ xs, x.toList ≠ []) → bytesOf (pick L xs ⟨#[]⟩) = (((xs.map bytesOf).find? (fun w => pre w L)).getD [])
 | [], _ => rfl
 | x :: xs, h => by
  simp only [pick]
  rw [if_pos (show (⟨#[]⟩ : ByteArray).toList = [] by rw [znh])]
  simp only [List.map_cons, List.find?_cons]
  by_cases hp : pre (bytesOf x) L = true
  ·rw [if_pos hp, hp, pick_done xs (h x List.mem_cons_self)]
   rfl
  ·rw [if_neg hp, Bool.eq_false_iff.2 hp]
   exact pick_find xs (fun y hy => h y (List.mem_cons_of_mem _ hy))
theorem words_walk (s : ByteArray) (out : List (List ByteArray)) (i : Nat) (hi : i + 1 ≤ s.size) (hs : s.size ≤ 2000000) (ws : List ByteArray) (hw : ∀ w ∈ ws, w.size ≤ 100) (hl : ws.length ≤ 100) {r : List (List ByteArray)} : ∀ (m j : Nat) (word : ByteArray), ws.length - j = m → j ≤ ws.length →
  Ev (fun k => zh.l1 k s out (i : Int) (pick ((bytesOf s).drop (i + 1)) (ws.drop j) word) ws (ws.length : Int) (ws.length : Int)) r → Ev (fun k => zh.l1 k s out (i : Int) word ws (ws.length : Int) (j : Int)) r := by
 intro m
 induction m with
 | zero =>
  intro j word hm hj h
  obtain rfl : j = ws.length := by omega
  rw [List.drop_length] at h
  exact h
 | succ m ih =>
  intro j word hm hj h
  have hlt : j < ws.length := by omega
  have hd : ws.drop j = ws[j] :: ws.drop (j + 1) := List.drop_eq_getElem_cons hlt
  have hrd : rdOf ByteArray.empty ws (j : Int) = ws[j] := by
   simp only [rdOf, Int.toNat_natCast, List.getD_eq_getElem?_getD, List.getElem?_eq_getElem hlt, Option.getD_some]
  rw [hd] at h
  simp only [pick] at h
  refine Ev.succ ?_
  simp only [zh.l1]
  refine Ev.pos (fun _ => by first | omega | trivial | assumption) ?_
  refine Ev.pos (fun _ => by first | omega | trivial | assumption) ?_
  refine Ev.pos (fun _ => by first | omega | trivial | assumption) ?_
  rw [hrd, w64 (i := (j : Int) + 1) (by omega) (by omega)]
  by_cases hne : word.toList = []
  ·rw [if_pos hne] at h
   refine Ev.pos (fun _ => hne) ?_
   rw [w64 (i := (i : Int) + 1) (by omega) (by omega)]
   refine Ev.bind0 (has_ev s ws[j] (i + 1) hi hs (hw _ (List.getElem_mem hlt))) ?_
   by_cases hp : pre (bytesOf ws[j]) ((bytesOf s).drop (i + 1)) = true
   ·rw [if_pos hp] at h
    refine Ev.pos (fun _ => hp) ?_
    exact ih (j + 1) _ (by omega) (by omega) h
   ·rw [if_neg hp] at h
    refine Ev.neg (fun _ => hp) ?_
    exact ih (j + 1) _ (by omega) (by omega) h
  ·rw [if_neg hne] at h
   refine Ev.neg (fun _ => hne) ?_
   exact ih (j + 1) _ (by omega) (by omega) h
def sufBs : List ByteArray := [(⟨#[97, 108, 112, 104, 97]⟩ : ByteArray), (⟨#[98, 101, 116, 97]⟩ : ByteArray), (⟨#[112, 114, 101]⟩ : ByteArray), (⟨#[114, 99]⟩ : ByteArray), (⟨#[99, 118, 115]⟩ : ByteArray), (⟨#[115, 118, 110]⟩ : ByteArray), (⟨#[103, 105, 116]⟩ : ByteArray), (⟨#[104, 103]⟩ : ByteArray), (⟨#[112]⟩ : ByteArray)]
theorem sufBs_B : sufBs.map bytesOf = zbc := by decide
theorem sufBs_ne : ∀ x ∈ sufBs, x.toList ≠ [] := by
 intro x hx e
 have h1 : bytesOf x ∈ zbc := by rw [← sufBs_B]; exact List.mem_map_of_mem hx
 have h2 := zsd h1
 rw [(zvb x).1 e] at h2
 simp at h2
theorem sufBs_size : ∀ x ∈ sufBs, x.size ≤ 100 := by
 intro x hx
 have h1 : bytesOf x ∈ zbc := by rw [← sufBs_B]; exact List.mem_map_of_mem hx
 have h2 := zsd h1
 rw [← zcc] at h2
 omega
def toM (x : List Int × List Int) : List ByteArray := [strOfNums (95 :: (x.1 ++ x.2)), strOfNums x.1, strOfNums x.2]
theorem suf_round (s : ByteArray) (out : List (List ByteArray)) (i : Nat) (hi : i < s.size) (hs : s.size ≤ 2000000) (ho : out.length ≤ 2000000) {r : List (List ByteArray)}
  (h : match ztd ((bytesOf s).drop i) with
   | none => Ev (fun k => zh.l0 k s out ((i + 1 : Nat) : Int)) r
   | some w => Ev (fun k => zh.l0 k s (out ++ [toM (w, (((bytesOf s).drop i).drop (1 + w.length)).take (run isD (((bytesOf s).drop i).drop (1 + w.length))))]) ((i + 1 + w.length + run isD (((bytesOf s).drop i).drop (1 + w.length)) : Nat) : Int)) r) :
  Ev (fun k => zh.l0 k s out (i : Int)) r := by
 have hl : i < (bytesOf s).length := by rw [bytesOf_length]; exact hi
 have hg : ((bytesOf s).drop i).getD 0 0 = (bytesOf s).getD i 0 := by simp [List.getD_eq_getElem?_getD]
 refine Ev.succ ?_
 simp only [zh.l0, zsg]
 refine Ev.pos (fun _ => by first | omega | trivial | assumption) ?_
 refine Ev.pos (fun _ => by first | omega | trivial | assumption) ?_
 by_cases h95 : (bytesOf s).getD i 0 = 95
 ·refine Ev.pos (fun _ => h95) ?_
  refine Ev.bind0 rfl ?_
  show Ev (fun k => zh.l1 k s out (i : Int) ⟨#[]⟩ sufBs (sufBs.length : Int) ((0 : Nat) : Int)) r
  refine words_walk s out i (by omega) hs sufBs sufBs_size (by decide) 9 0 _ rfl (by decide) ?_
  rw [List.drop_zero]
  have hp := pick_find (L := (bytesOf s).drop (i + 1)) sufBs sufBs_ne
  rw [sufBs_B] at hp
  have hw : ztd ((bytesOf s).drop i) = zbc.find? (fun w => pre w ((bytesOf s).drop (i + 1))) := by
   unfold ztd
   rw [if_pos (hg.trans h95), List.drop_drop]
  rw [hw] at h
  have hws := fun w (hq : zbc.find? (fun w => pre w ((bytesOf s).drop (i + 1))) = some w) => zne (hw.trans hq)
  obtain ⟨W, hW⟩ : ∃ W, W = pick ((bytesOf s).drop (i + 1)) sufBs ⟨#[]⟩ := ⟨_, rfl⟩
  rw [← hW] at hp ⊢
  refine Ev.succ ?_
  simp only [zh.l1]
  refine Ev.neg (fun _ => by first | omega | assumption | nofun) ?_
  cases hq : zbc.find? (fun w => pre w ((bytesOf s).drop (i + 1))) with
  | none =>
   rw [hq] at h hp
   refine Ev.pos (fun _ => (zvb W).2 hp) ?_
   rw [w64 (i := (i : Int) + 1) (by omega) (by omega)]
   exact h
  | some w =>
   rw [hq] at h hp
   obtain ⟨k1, k2⟩ := hws w hq
   have hpw : bytesOf W = w := hp
   have hlen := zsd k1
   have hWs : W.size = w.length := by rw [zcc, hpw]
   have htot := congrArg List.length k2
   simp only [List.length_cons, List.length_append, List.length_drop, bytesOf_length] at htot
   refine Ev.neg (fun _ e => by have := (zvb W).1 e; rw [hpw] at this; rw [this] at hlen; simp at hlen) ?_
   rw [w64 (i := (i : Int) + 1) (by omega) (by omega), w64 (i := (i : Int) + 1 + (W.size : Int)) (by omega) (by omega), hWs]
   have hdd : ((bytesOf s).drop i).drop (1 + w.length) = (bytesOf s).drop (i + 1 + w.length) := by rw [List.drop_drop, Nat.add_assoc]
   simp only [hdd] at h
   have hr := run_le isD ((bytesOf s).drop (i + 1 + w.length))
   rw [List.length_drop, bytesOf_length] at hr
   have D := zri s hs (i + 1 + w.length) (by omega)
   obtain ⟨n, hn⟩ : ∃ n, n = run isD ((bytesOf s).drop (i + 1 + w.length)) := ⟨_, rfl⟩
   rw [← hn] at D h hr
   have e1 : ((i : Int) + 1 + (w.length : Int)) = ((i + 1 + w.length : Nat) : Int) := by omega
   rw [e1]
   refine Ev.bind D ?_
   refine Ev.pos (fun _ => by omega) ?_
   refine Ev.pos (fun _ => by omega) ?_
   refine Ev.pos (fun _ => by omega) ?_
   refine Ev.pos (fun _ => by omega) ?_
   refine Ev.pos (fun _ => by omega) ?_
   refine Ev.pos (fun _ => by omega) ?_
   refine Ev.eq (g := _) ?_ rfl
   have m0 : s.extract i (i + 1 + w.length + n) = strOfNums (95 :: (w ++ ((bytesOf s).drop (i + 1 + w.length)).take n)) := by
    rw [← str_B (s.extract i (i + 1 + w.length + n)), zpf]
    congr 1
    rw [show i + 1 + w.length + n - i = (w.length + n) + 1 by omega]
    rw [k2]
    rw [List.take_succ_cons, hdd]
    congr 1
    rw [List.take_append, List.take_of_length_le (by omega), Nat.add_sub_cancel_left]
   have m2 : s.extract (i + 1 + w.length) (i + 1 + w.length + n) = strOfNums (((bytesOf s).drop (i + 1 + w.length)).take n) := by
    rw [← str_B (s.extract (i + 1 + w.length) (i + 1 + w.length + n)), zpf]
    rw [Nat.add_sub_cancel_left]
   have m1 : W = strOfNums w := by rw [← hpw, str_B]
   simp only [Int.toNat_natCast]
   rw [m0, m2, m1]
   exact h
 ·refine Ev.neg (fun _ => h95) ?_
  rw [w64 (i := (i : Int) + 1) (by omega) (by omega)]
  have hw : ztd ((bytesOf s).drop i) = none := by
   unfold ztd
   rw [if_neg (fun e => h95 (hg.symm.trans e))]
  rw [hw] at h
  exact h
theorem sufs_none (s : ByteArray) (hs : s.size ≤ 2000000) (out : List (List ByteArray)) (ho : out.length ≤ 2000000) : ∀ (n i : Nat), s.size - i = n → i ≤ s.size → Clear ((bytesOf s).drop i) →
  Ev (fun k => zh.l0 k s out (i : Int)) out := by
 intro n
 induction n with
 | zero =>
  intro i hn hi hc
  refine Ev.succ ?_
  simp only [zh.l0]
  refine Ev.neg (fun _ => by first | omega | assumption | nofun) ?_
  exact Ev.now _
 | succ n ih =>
  intro i hn hi hc
  refine suf_round s out i (by omega) hs ho ?_
  have h0 : ztd ((bytesOf s).drop i) = none := hc 0
  rw [h0]
  refine ih (i + 1) (by omega) (by omega) ?_
  have := hc.drop 1
  rw [List.drop_drop] at this
  exact this
theorem sufs_from (s : ByteArray) (hs : s.size ≤ 1000000) : ∀ (n i : Nat) (out : List (List ByteArray)), s.size - i ≤ n → i ≤ s.size → out.length ≤ i → Clear (sufsP n ((bytesOf s).drop i)).2 →
  Ev (fun k => zh.l0 k s out (i : Int)) (out ++ (sufsP n ((bytesOf s).drop i)).1.map toM) := by
 intro n
 induction n with
 | zero =>
  intro i out hn hi ho hc
  refine Ev.eq (sufs_none s (by omega) out (by omega) _ i rfl hi hc) ?_
  simp [sufsP]
 | succ n ih =>
  intro i out hn hi ho hc
  cases hq : ztd ((bytesOf s).drop i) with
  | none =>
   rw [zse hq] at hc ⊢
   refine Ev.eq (sufs_none s (by omega) out (by omega) _ i rfl hi hc) ?_
   simp
  | some w =>
   obtain ⟨k1, k2⟩ := zne hq
   have hlen := zsd k1
   have htot := congrArg List.length k2
   simp only [List.length_cons, List.length_append, List.length_drop, bytesOf_length] at htot
   have hdd : ((bytesOf s).drop i).drop (1 + w.length) = (bytesOf s).drop (i + 1 + w.length) := by rw [List.drop_drop, Nat.add_assoc]
   have hr := run_le isD ((bytesOf s).drop (i + 1 + w.length))
   rw [List.length_drop, bytesOf_length] at hr
   rw [zqe hq] at hc ⊢
   rw [hdd, List.drop_drop] at hc ⊢
   refine suf_round s out i (by omega) (by omega) (by omega) ?_
   rw [hq]
   simp only
   rw [hdd]
   have := ih (i + 1 + w.length + run isD ((bytesOf s).drop (i + 1 + w.length))) (out ++ [toM (w, ((bytesOf s).drop (i + 1 + w.length)).take (run isD ((bytesOf s).drop (i + 1 + w.length))))]) (by omega) (by omega) (by rw [List.length_append]; simp; omega) hc
   refine Ev.eq this ?_
   rw [List.append_assoc]
   rfl
end Go.Proofs.YtapaijpglfmfgaaGreatDoorP
end
section
namespace Go.Proofs.YtapaijpglfmfgaaGreatDoorP
open Go.RowKit YtapaijpglfmfgaaGreatDoorG YtapaijpglfmfgaaGreatDoorH YtapaijpglfmfgaaGreatDoorB YtapaijpglfmfgaaGreatDoorM YtapaijpglfmfgaaGreatDoor.S YtapaijpglfmfgaaGreatDoorW.PrintWords YtapaijpglfmfgaaGreatDoorW.PrintLast
theorem Ev.map {α β : Type} {g : Nat → Option α} {a : α} {F : α → β} (h : Ev g a) : Ev (fun k => (g k).map F) (F a) := by
 obtain ⟨k0, hk⟩ := h
 exact ⟨k0, fun k h => by show Option.map F (g k) = _; rw [hk k h]; rfl⟩
def wgtBs : List ByteArray := [(⟨#[97, 108, 112, 104, 97]⟩ : ByteArray), (⟨#[98, 101, 116, 97]⟩ : ByteArray), (⟨#[112, 114, 101]⟩ : ByteArray), (⟨#[114, 99]⟩ : ByteArray), (⟨#[]⟩ : ByteArray), (⟨#[99, 118, 115]⟩ : ByteArray), (⟨#[115, 118, 110]⟩ : ByteArray), (⟨#[103, 105, 116]⟩ : ByteArray), (⟨#[104, 103]⟩ : ByteArray)]
theorem wgtBs_B : wgtBs.map bytesOf = wgtWords := by decide
theorem weight_from (x : ByteArray) (ws : List ByteArray) (hl : ws.length ≤ 100) : ∀ (m j : Nat), ws.length - j = m → j ≤ ws.length →
  Ev (fun k => zp.l0 k x ws ws (ws.length : Int) (j : Int)) ((j + ((ws.drop j).map bytesOf).idxOf (bytesOf x) : Nat) : Int) := by
 intro m
 induction m with
 | zero =>
  intro j hm hj
  obtain rfl : j = ws.length := by omega
  refine Ev.succ ?_
  simp only [zp.l0]
  refine Ev.neg (fun _ => by first | omega | assumption | nofun) ?_
  refine Ev.eq (Ev.now _) ?_
  rw [List.drop_length]
  rfl
 | succ m ih =>
  intro j hm hj
  have hlt : j < ws.length := by omega
  have hd : ws.drop j = ws[j] :: ws.drop (j + 1) := List.drop_eq_getElem_cons hlt
  have hrd : rdOf ByteArray.empty ws (j : Int) = ws[j] := by
   simp only [rdOf, Int.toNat_natCast, List.getD_eq_getElem?_getD, List.getElem?_eq_getElem hlt, Option.getD_some]
  refine Ev.succ ?_
  simp only [zp.l0]
  refine Ev.pos (fun _ => by first | omega | trivial | assumption) ?_
  refine Ev.pos (fun _ => by first | omega | trivial | assumption) ?_
  refine Ev.pos (fun _ => by first | omega | trivial | assumption) ?_
  rw [hrd, hd, List.map_cons, List.idxOf_cons]
  by_cases h : bytesOf x = bytesOf ws[j]
  ·refine Ev.pos (fun _ => (zid _ _).2 h) ?_
   refine Ev.eq (Ev.now _) ?_
   have : (bytesOf ws[j] == bytesOf x) = true := by rw [beq_iff_eq]; exact h.symm
   rw [this]
   rfl
  ·refine Ev.neg (fun _ e => h ((zid _ _).1 e)) ?_
   rw [w64 (i := (j : Int) + 1) (by omega) (by omega)]
   refine Ev.eq (ih (j + 1) (by omega) (by omega)) ?_
   have : (bytesOf ws[j] == bytesOf x) = false := by rw [beq_eq_false_iff_ne]; exact fun e => h e.symm
   rw [this]
   simp only [cond_false]
   omega
theorem weight_ev (x : ByteArray) : Ev (fun k => zp.f k x) (wgt (bytesOf x) : Int) := by
 simp only [zp.f]
 refine Ev.bind0 rfl ?_
 have h := weight_from x wgtBs (by decide) 9 0 rfl (by decide)
 rw [List.drop_zero, wgtBs_B] at h
 refine Ev.eq h ?_
 unfold wgt
 rw [Nat.zero_add]
def convS (x : List Int × List Int) : Int × ByteArray := ((wgt x.1 : Int), or0 (strOfNums x.2))
theorem digs_asc {d : List Int} (h : ∀ c ∈ d, isD c = true) : ∀ c ∈ d, 0 ≤ c ∧ c ≤ 255 := fun c hc => by
 have := h c hc
 unfold isD at this
 have := of_decide_eq_true this
 omega
theorem or0_good {d : List Int} (h : ∀ c ∈ d, isD c = true) (hl : d.length ≤ 1000000) : Plain (or0 (strOfNums d)) ∧ zvd (or0 (strOfNums d)) ∧ dv (or0 (strOfNums d)) (or0 (strOfNums d)).size = decL d := by
 have hb := B_str (digs_asc h)
 unfold or0
 by_cases h0 : d = []
 ·subst h0
  rw [if_pos ((zvb _).2 hb)]
  refine ⟨by decide, ?_, by decide⟩
  have := (zcj (m := [48]) (by simp) (by decide)).1
  exact this
 ·rw [if_neg (fun e => h0 (hb.symm.trans ((zvb _).1 e)))]
  obtain ⟨k1, k2⟩ := zcj h0 h
  refine ⟨plain_dig k1 (by rw [zcc, hb]; exact hl), k1, ?_⟩
  rw [dv_all, hb]
theorem sufRun_ev : ∀ (n : Nat) (s : ByteArray), s.size ≤ 100000 → ∃ rest, Ev (fun k => zhf k ((sufsP n (bytesOf s)).1.map toM) s) ((sufsP n (bytesOf s)).1.map convS, rest) ∧ bytesOf rest = (sufsP n (bytesOf s)).2 := by
 intro n
 induction n with
 | zero => intro s hs; exact ⟨s, Ev.now _, rfl⟩
 | succ n ih =>
  intro s hs
  cases hq : ztd (bytesOf s) with
  | none =>
   rw [zse hq]
   exact ⟨s, Ev.now _, rfl⟩
  | some w =>
   obtain ⟨k1, k2⟩ := zne hq
   rw [zqe hq]
   obtain ⟨D, hD⟩ : ∃ D, D = (bytesOf s).drop (1 + w.length) := ⟨_, rfl⟩
   rw [← hD] at k2 ⊢
   have hdig : ∀ c ∈ D.take (run isD D), isD c = true := fun c hc => zdi hc
   have hDl : D.length ≤ 100000 := by rw [hD, List.length_drop, bytesOf_length]; omega
   have hm0 : bytesOf (strOfNums (95 :: (w ++ D.take (run isD D)))) = 95 :: (w ++ D.take (run isD D)) := B_str (fun c hc => by
    rcases List.mem_cons.1 hc with rfl | hc
    ·omega
    ·rcases List.mem_append.1 hc with hc | hc
     ·have := zeg k1 c hc; omega
     ·exact digs_asc hdig c hc)
   have hw : bytesOf (strOfNums w) = w := B_str (fun c hc => by have := zeg k1 c hc; omega)
   obtain ⟨t, ht, htb⟩ := zrh s (strOfNums (95 :: (w ++ D.take (run isD D)))) (D.drop (run isD D)) (by
    rw [hm0, k2]
    simp only [List.cons_append, List.append_assoc, List.take_append_drop]) (by omega)
   have hts : t.size ≤ 100000 := by rw [zcc, htb, List.length_drop]; omega
   obtain ⟨rest, hr, hrb⟩ := ih t hts
   rw [htb] at hr hrb
   refine ⟨rest, ?_, hrb⟩
   simp only [List.map_cons, toM, zhf]
   have hwe := weight_ev (strOfNums w)
   rw [hw] at hwe
   refine Ev.bind hwe ?_
   refine Ev.bind0 ht ?_
   obtain ⟨g1, g2, _⟩ := or0_good hdig (by rw [List.length_take]; omega)
   refine Ev.pos (fun _ => ⟨g1, g2⟩) ?_
   exact Ev.map hr
theorem sufs_ev (s : ByteArray) (hs : s.size ≤ 100000) (hc : Clear (sufsP (bytesOf s).length (bytesOf s)).2) : ∃ rest, Ev (fun k => sufsRun k s) ((sufsP (bytesOf s).length (bytesOf s)).1.map convS, rest) ∧ bytesOf rest = (sufsP (bytesOf s).length (bytesOf s)).2 := by
 obtain ⟨rest, hr, hrb⟩ := sufRun_ev (bytesOf s).length s hs
 refine ⟨rest, ?_, hrb⟩
 have h := sufs_from s (by omega) (bytesOf s).length 0 [] (by rw [bytesOf_length]; omega) (Nat.zero_le _) (Nat.zero_le _) (by rw [List.drop_zero]; exact hc)
 rw [List.drop_zero, List.nil_append] at h
 unfold sufsRun
 refine Ev.bind h ?_
 refine Ev.pos (fun _ => ?_) hr
 rw [List.length_map]
 have := zzh (bytesOf s).length (bytesOf s)
 rw [zcc] at hs
 omega
theorem hash_from (s : ByteArray) (hs : s.size ≤ 2000000) : ∀ (m i : Nat), s.size - i = m → 1 ≤ i → i ≤ s.size →
  Ev (fun k => zr.l0 k s (i : Int)) (if i + run isX ((bytesOf s).drop i) = 1 then ⟨#[]⟩ else s.extract 0 (i + run isX ((bytesOf s).drop i))) := by
 intro m
 induction m with
 | zero =>
  intro i hm h1 hi
  refine Ev.succ ?_
  simp only [zr.l0]
  refine Ev.neg (fun _ => by first | omega | assumption | nofun) ?_
  rw [List.drop_of_length_le (by rw [bytesOf_length]; omega), run_nil, Nat.add_zero]
  by_cases h : i = 1
  ·rw [if_pos h]
   refine Ev.pos (fun _ => by omega) ?_
   exact Ev.now _
  ·rw [if_neg h]
   refine Ev.neg (fun _ => by omega) ?_
   refine Ev.pos (fun _ => by first | omega | trivial | assumption) ?_
   refine Ev.pos (fun _ => by first | omega | trivial | assumption) ?_
   exact Ev.eq (Ev.now _) (by simp)
 | succ m ih =>
  intro i hm h1 hi
  have hl : i < (bytesOf s).length := by rw [bytesOf_length]; omega
  have next := ih (i + 1) (by omega) (by omega) (by omega)
  refine Ev.succ ?_
  simp only [zr.l0, zsg, zzDigit_eq, Option.bind_some]
  refine Ev.pos (fun _ => by first | omega | trivial | assumption) ?_
  refine Ev.pos (fun _ => by first | omega | trivial | assumption) ?_
  rw [w64 (i := (i : Int) + 1) (by omega) (by omega), zug _ _ hl]
  obtain ⟨c, hcc⟩ : ∃ c, c = (bytesOf s).getD i 0 := ⟨_, rfl⟩
  rw [← hcc]
  cases hx : isX c with
  | true =>
   rw [zmh hx]
   have e : i + (run isX ((bytesOf s).drop (i + 1)) + 1) = i + 1 + run isX ((bytesOf s).drop (i + 1)) := by omega
   rw [e]
   cases hd : isD c with
   | true => exact Ev.pos (fun _ => rfl) next
   | false =>
    unfold isX at hx
    rw [hd, Bool.false_or] at hx
    have hx2 := of_decide_eq_true hx
    refine Ev.neg (fun _ => Bool.false_ne_true) ?_
    refine Ev.pos (fun _ => by omega) ?_
    exact Ev.pos (fun _ => by omega) next
  | false =>
   rw [zvg hx, Nat.add_zero]
   unfold isX at hx
   have hx1 := (Bool.or_eq_false_iff.1 hx).1
   have hx2 := of_decide_eq_false (Bool.or_eq_false_iff.1 hx).2
   rw [hx1]
   refine Ev.neg (fun _ => Bool.false_ne_true) ?_
   have fin : ∀ {g : Nat → Option ByteArray}, Ev g (if i = 1 then ⟨#[]⟩ else s.extract 0 i) → Ev g (if i = 1 then ⟨#[]⟩ else s.extract 0 i) := fun h => h
   have stop : Ev (fun k : Nat => if (i : Int) = 1 then some (⟨#[]⟩ : ByteArray) else if (i : Int) ≤ (s.size : Int) then some (s.extract 0 ((i : Int)).toNat) else none) (if i = 1 then ⟨#[]⟩ else s.extract 0 i) := by
    by_cases h : i = 1
    ·rw [if_pos h]
     refine Ev.pos (fun _ => by omega) ?_
     exact Ev.now _
    ·rw [if_neg h]
     refine Ev.neg (fun _ => by omega) ?_
     refine Ev.pos (fun _ => by first | omega | trivial | assumption) ?_
     exact Ev.eq (Ev.now _) (by simp)
   by_cases h97 : c ≥ 97
   ·refine Ev.pos (fun _ => h97) ?_
    refine Ev.neg (fun _ => by omega) ?_
    exact stop
   ·refine Ev.neg (fun _ => h97) ?_
    exact stop
theorem hash_ev (s : ByteArray) (hs : s.size ≤ 100000) : ∃ rest, Ev (fun k => hashRun k s) (strOfNums (hashP (bytesOf s)).1, rest) ∧ bytesOf rest = (hashP (bytesOf s)).2 := by
 have hE : Ev (fun k => zr.f k s) (strOfNums (hashP (bytesOf s)).1) := by
  simp only [zr.f]
  by_cases h0 : bytesOf s = []
  ·refine Ev.pos (fun _ => (zvb s).2 h0) ?_
   refine Ev.succ ?_
   simp only [zr.j0]
   rw [h0]
   exact Ev.now _
  ·have hpos : 0 < s.size := by rw [zcc]; exact List.length_pos_iff.2 h0
   refine Ev.neg (fun _ e => h0 ((zvb s).1 e)) ?_
   refine Ev.pos (fun _ => by omega) ?_
   refine Ev.succ ?_
   simp only [zr.j0, zci]
   by_cases h1 : (bytesOf s).getD 0 0 = 126
   ·refine Ev.neg (fun _ => by rw [h1]; decide) ?_
    have h := hash_from s (by omega) _ 1 rfl (Nat.le_refl 1) (by omega)
    refine Ev.eq h ?_
    unfold hashP
    by_cases h2 : run isX ((bytesOf s).drop 1) = 0
    ·rw [if_pos (by omega), if_neg (fun h => h.2 h2)]
     rfl
    ·rw [if_neg (by omega), if_pos ⟨h1, h2⟩, ← zfg, str_B]
   ·refine Ev.pos (fun _ => by rw [bne_iff_ne]; exact h1) ?_
    refine Ev.eq (Ev.now _) ?_
    unfold hashP
    rw [if_neg (fun h => h1 h.1)]
    rfl
 have hsplit : bytesOf s = (hashP (bytesOf s)).1 ++ (hashP (bytesOf s)).2 := by
  unfold hashP
  split
  ·exact (List.take_append_drop _ _).symm
  ·rfl
 have hb : bytesOf (strOfNums (hashP (bytesOf s)).1) = (hashP (bytesOf s)).1 := B_str (fun c hc => zjh s c (by rw [hsplit]; exact List.mem_append_left _ hc))
 obtain ⟨t, ht, htb⟩ := zrh s (strOfNums (hashP (bytesOf s)).1) (hashP (bytesOf s)).2 (by rw [hb]; exact hsplit) (by omega)
 refine ⟨t, ?_, htb⟩
 unfold hashRun
 refine Ev.bind hE ?_
 rw [ht]
 exact Ev.now _
theorem build_ev (s : ByteArray) (hs : s.size ≤ 100000) : ∃ rest, Ev (fun k => zoh k s) ((zig (bytesOf s)).1, decL (zig (bytesOf s)).2.1, rest) ∧ bytesOf rest = (zig (bytesOf s)).2.2 := by
 unfold zoh zig
 by_cases h0 : bytesOf s = []
 ·refine ⟨s, ?_, ?_⟩
  ·refine Ev.pos (fun _ => (zvb s).2 h0) ?_
   rw [if_pos h0]
   exact Ev.now _
  ·rw [if_pos h0]; exact h0
 ·rw [if_neg h0]
  have hh := has_ev s ⟨#[45, 114]⟩ 0 (Nat.zero_le _) (by omega) (by decide)
  rw [List.drop_zero] at hh
  have hh2 : zzb.f s 0 ⟨#[45, 114]⟩ = some (pre [45, 114] (bytesOf s)) := hh
  by_cases h1 : (bytesOf s).take 2 = [45, 114]
  ·rw [if_pos h1]
   have hp : pre [45, 114] (bytesOf s) = true := decide_eq_true h1
   rw [hp] at hh2
   have hl2 : 2 ≤ s.size := by
    have := congrArg List.length h1
    rw [List.length_take, bytesOf_length] at this
    simp at this
    omega
   have D := zri s (by omega) 2 hl2
   have hr := run_le isD ((bytesOf s).drop 2)
   rw [List.length_drop, bytesOf_length] at hr
   have hdig : ∀ c ∈ ((bytesOf s).drop 2).take (run isD ((bytesOf s).drop 2)), isD c = true := fun c hc => zdi hc
   obtain ⟨n, hn⟩ : ∃ n, n = run isD ((bytesOf s).drop 2) := ⟨_, rfl⟩
   rw [← hn] at D hr hdig ⊢
   have e2 : s.extract 2 (2 + n) = strOfNums (((bytesOf s).drop 2).take n) := by
    rw [← str_B (s.extract 2 (2 + n)), zpf, Nat.add_sub_cancel_left]
   have e0 : bytesOf (s.extract 0 (2 + n)) = (bytesOf s).take (2 + n) := zfg _ _
   obtain ⟨g1, g2, g3⟩ := or0_good hdig (by rw [List.length_take]; omega)
   obtain ⟨t, ht, htb⟩ := zrh s (s.extract 0 (2 + n)) (((bytesOf s).drop 2).drop n) (by rw [e0, List.drop_drop]; exact (List.take_append_drop _ _).symm) (by omega)
   refine ⟨t, ?_, htb⟩
   refine Ev.neg (fun _ e => h0 ((zvb s).1 e)) ?_
   refine Ev.bind0 hh2 ?_
   refine Ev.pos (fun _ => rfl) ?_
   refine Ev.bind D ?_
   rw [Int.toNat_natCast, e2]
   refine Ev.pos (fun _ => ⟨by omega, by omega, g1, g2⟩) ?_
   rw [ht, g3]
   exact Ev.now _
  ·rw [if_neg h1]
   have hp : pre [45, 114] (bytesOf s) = false := decide_eq_false h1
   rw [hp] at hh2
   refine ⟨s, ?_, rfl⟩
   refine Ev.neg (fun _ e => h0 ((zvb s).1 e)) ?_
   refine Ev.bind0 hh2 ?_
   refine Ev.neg (fun _ => Bool.false_ne_true) ?_
   exact Ev.now _
def apOf (p : PV) : AP := ⟨strOfNums p.o, p.i, strOfNums p.r, p.c.map strOfNums, strOfNums p.l, p.s.map convS, strOfNums p.h, decL p.b⟩
theorem parseA_ev (s : ByteArray) (hs : s.size ≤ 100000) (hc : Clear (rest3 (bytesOf s))) : Ev (fun k => parseA k s) (apOf (zxe (bytesOf s))) := by
 obtain ⟨s1, h1, b1⟩ := nums_ev s hs
 have z1 : s1.size ≤ 100000 := by rw [zcc, b1]; have := zli (bytesOf s); rw [zcc] at hs; omega
 obtain ⟨s2, h2, b2⟩ := letter_ev s1 z1
 rw [b1] at h2 b2
 have b2' : bytesOf s2 = rest2 (bytesOf s) := b2
 have z2 : s2.size ≤ 100000 := by rw [zcc, b2']; have := zti (bytesOf s); rw [zcc] at hs; omega
 obtain ⟨s3, h3, b3⟩ := sufs_ev s2 z2 (by rw [b2']; exact hc)
 rw [b2'] at h3 b3
 have b3' : bytesOf s3 = rest3 (bytesOf s) := b3
 have z3 : s3.size ≤ 100000 := by rw [zcc, b3']; have := rest3_len (bytesOf s); rw [zcc] at hs; omega
 obtain ⟨s4, h4, b4⟩ := hash_ev s3 z3
 rw [b3'] at h4 b4
 have b4' : bytesOf s4 = rest4 (bytesOf s) := b4
 have z4 : s4.size ≤ 100000 := by rw [zcc, b4']; have := rest4_len (bytesOf s); rw [zcc] at hs; omega
 obtain ⟨s5, h5, b5⟩ := build_ev s4 z4
 rw [b4'] at h5 b5
 unfold parseA
 refine Ev.bind h1 ?_
 refine Ev.bind0 h2 ?_
 refine Ev.bind h3 ?_
 refine Ev.bind h4 ?_
 refine Ev.bind h5 ?_
 refine Ev.eq (Ev.now _) ?_
 have e0 : s = strOfNums (bytesOf s) := (str_B s).symm
 have e5 : s5 = strOfNums (zig (rest4 (bytesOf s))).2.2 := by rw [← b5, str_B]
 unfold apOf zxe
 simp only
 rw [← e5, ← e0]
end Go.Proofs.YtapaijpglfmfgaaGreatDoorP
end
section
namespace Go.Proofs.YtapaijpglfmfgaaGreatDoorG
open Go.RowKit YtapaijpglfmfgaaGreatDoorP YtapaijpglfmfgaaGreatDoorB YtapaijpglfmfgaaGreatDoorW.PrintWords YtapaijpglfmfgaaGreatDoorW.PrintLast
def GL (w : World) : Prop := GLe w
theorem GL.at {w w' : World} (h : GL w) (hb : Below w.heap.size w w') : GL w' := GLe.below h hb (Nat.le_refl _)
def zbh : List Int → Bool
 | [] => true
 | x :: l => (ztd (x :: l)).isNone && zbh l
theorem zdj : ∀ (l : List Int), zbh l = true ↔ Clear l
 | [] => ⟨fun _ j => by rw [List.drop_nil]; rfl, fun _ => rfl⟩
 | x :: l => by
  simp only [zbh, Bool.and_eq_true, zdj l]
  constructor
  ·rintro ⟨h1, h2⟩ j
   cases j with
   | zero => exact Option.isNone_iff_eq_none.1 h1
   | succ j => exact h2 j
  ·intro h
   exact ⟨Option.isNone_iff_eq_none.2 (h 0), fun j => h (j + 1)⟩
def AOk (s : ByteArray) : Prop := s.size ≤ 100000 ∧ zbh (rest3 (bytesOf s)) = true
instance (s : ByteArray) : Decidable (AOk s) := inferInstanceAs (Decidable (_ ∧ _))
theorem AOk.ev {s : ByteArray} (h : AOk s) : Ev (fun k => parseA k s) (apOf (zxe (bytesOf s))) := parseA_ev s h.1 ((zdj _).1 h.2)
def zlb.f (a0 a1 : ByteArray) : Option (Int × Bool) := if AOk a0 ∧ AOk a1 then some (apC (apOf (zxe (bytesOf a0))) (apOf (zxe (bytesOf a1))), true) else none
theorem zlb.calls (a0 a1 : ByteArray) (r1 : Int) (r2 : Bool) (w : World) (h : zlb.f a0 a1 = some (r1, r2)) (hG : GL w) :
  Calls Tryz.prog 10 #[.string a0, .string a1] w fun e w' => e = .returned (.tuple #[.int .i64 r1, .bool r2]) ∧ Below w.heap.size w w' := by
 unfold zlb.f at h
 by_cases hc : AOk a0 ∧ AOk a1
 ·rw [if_pos hc] at h
  have h2 := Option.some.inj h
  injection h2 with e1 e2
  subst e1
  subst e2
  obtain ⟨k1, h1⟩ := hc.1.ev
  obtain ⟨k2, h2⟩ := hc.2.ev
  exact compareText_ w a0 a1 _ _ (max k1 k2) hG (h1 _ (Nat.le_max_left _ _)) (h2 _ (Nat.le_max_right _ _))
 ·rw [if_neg hc] at h
  cases h
end Go.Proofs.YtapaijpglfmfgaaGreatDoorG
end
section
namespace Go.Proofs.YtapaijpglfmfgaaGreatDoorW.PrintWords
open Go.RowKit
section
variable {P : Program} {d : Nat} {xs ys : Array Value} {f : Field} {fs : List Field} {a b : Value} {r s : Bool} {w : World}
theorem eqf_last (hn : (f.name == "_") = false) (ha : (part f.type xs f.offset).run P w = .ok a w) (hb : (part f.type ys f.offset).run P w = .ok b w) (he : (Op.equalIn d f.type a b).run P w = .ok r w) : (Op.eqFields d xs ys [f]).run P w = .ok r w := by
 have hn' : f.name ≠ "_" := by simpa using hn
 simp only [Op.eqFields, if_pos hn', Sem.run_bind, ha, hb, he, Result.andThen_ok]
 cases r <;> simp
theorem eqf_cons (hn : (f.name == "_") = false) (ha : (part f.type xs f.offset).run P w = .ok a w) (hb : (part f.type ys f.offset).run P w = .ok b w) (he : (Op.equalIn d f.type a b).run P w = .ok r w) (hr : (Op.eqFields d xs ys fs).run P w = .ok s w) : (Op.eqFields d xs ys (f :: fs)).run P w = .ok (r && s) w := by
 have hn' : f.name ≠ "_" := by simpa using hn
 rw [Op.eqFields]
 simp only [if_pos hn', Sem.run_bind, ha, hb, he, Result.andThen_ok]
 cases r
 ·simp
 ·simpa using hr
theorem eqA_of {t : TypeId} {fs : Array Field} (hu : P.underlying t = some (.struct fs)) (hp : P.stoodInHeld t = false) (h : (Op.eqFields d xs ys fs.toList).run P w = .ok r w) : (Op.equalIn (d + 1) t (.agg xs) (.agg ys)).run P w = .ok r w := by
 have hf : P.fieldsOf t = fs := by simp [Program.fieldsOf, hu]
 rw [run_equalIn_struct (P := P) w d t xs ys (by rw [hf]; exact hu) hp, hf]
 exact h
end
end Go.Proofs.YtapaijpglfmfgaaGreatDoorW.PrintWords
end
section
namespace Go.Proofs.YtapaijpglfmfgaaGreatDoor.Q
open Go.RowKit YtapaijpglfmfgaaGreatDoorH YtapaijpglfmfgaaGreatDoorG YtapaijpglfmfgaaGreatDoorW.PrintWords YtapaijpglfmfgaaGreatDoorW.PrintLast YtapaijpglfmfgaaGreatDoorW.PrintMore
attribute [local go_sem] zsc zuc zhd zgd zhc zic zvc ztc
def errW : Option Int → Value
 | none => .nilIface
 | some c => .iface 0 (.int .i64 c)
theorem zcf : errW none = .nilIface := rfl
theorem zbf (c : Int) : errW (some c) = .iface 0 (.int .i64 c) := rfl
theorem info5 : (Tryz.prog.info? 5).map (fun i => (i.zero, i.size, i.bytes)) = some (some (.int .u8 0), 1, 1) := by kernel_rfl
theorem info52 : (Tryz.prog.info? 52).map (fun i => (i.zero, i.size, i.bytes)) = some (some (.agg #[(.string ⟨#[]⟩), (.bool false), (.string ⟨#[]⟩), (.int .i64 0)]), 4, 48) := by kernel_rfl
theorem info56 : (Tryz.prog.info? 56).map (fun i => (i.zero, i.size, i.bytes)) = some (some (.agg #[(.int .i64 0), (.bool false), (.string ⟨#[]⟩)]), 3, 32) := by kernel_rfl
structure S85 where
 f0 : Bool
 f1 : ByteArray
def z85 : S85 := ⟨false, (⟨#[]⟩ : ByteArray)⟩
structure S110 where
 f0 : ByteArray
 f1 : S85
 f2 : Int
def z110 : S110 := ⟨(⟨#[]⟩ : ByteArray), z85, (0 : Int)⟩
def rd_T110 (xs : List S110) (i : Int) : S110 := xs.getD i.toNat z110
structure S112 where
 f0 : Int
 f1 : S85
def z112 : S112 := ⟨(0 : Int), z85⟩
def rd_T112 (xs : List S112) (i : Int) : S112 := xs.getD i.toNat z112
structure S31 where
 f0 : Bool
 f1 : ByteArray
def z31 : S31 := ⟨false, (⟨#[]⟩ : ByteArray)⟩
def k31 : Kd S31 := Kd.iso (Kd.pair Kd.bool Kd.string) (fun x : S31 => (x.f0, x.f1))
theorem k31_open {w : World} {x : S31} {cs : List Value} (h : k31.K w x cs) : cs = [.bool x.f0, .string x.f1] := by
 obtain ⟨_, _, rfl, rfl, rfl⟩ := h
 exact rfl
theorem k31_mkM (w : World) (base : Nat) (ok : Nat → Prop) (x : S31)  : k31.M w base ok x [.bool x.f0, .string x.f1] := ⟨[.bool x.f0], [.string x.f1], rfl, rfl, rfl⟩
structure S52 where
 f0 : ByteArray
 f1 : S31
 f2 : Int
def z52 : S52 := ⟨(⟨#[]⟩ : ByteArray), z31, (0 : Int)⟩
def k52 : Kd S52 := Kd.iso (Kd.pair Kd.string (Kd.pair k31 (Kd.int .i64))) (fun x : S52 => (x.f0, x.f1, x.f2))
theorem k52_open {w : World} {x : S52} {cs : List Value} (h : k52.K w x cs) : cs = [.string x.f0, .bool x.f1.f0, .string x.f1.f1, .int .i64 x.f2] := by
 obtain ⟨_, _, rfl, rfl, ⟨_, _, rfl, s1, rfl⟩⟩ := h
 obtain rfl := k31_open s1
 exact rfl
theorem k52_mkM (w : World) (base : Nat) (ok : Nat → Prop) (x : S52)  : k52.M w base ok x [.string x.f0, .bool x.f1.f0, .string x.f1.f1, .int .i64 x.f2] := ⟨[.string x.f0], [.bool x.f1.f0, .string x.f1.f1, .int .i64 x.f2], rfl, rfl, ⟨[.bool x.f1.f0, .string x.f1.f1], [.int .i64 x.f2], rfl, (k31_mkM w base ok x.f1 ), rfl⟩⟩
def zld (xs : List S52) (i : Int) : S52 := xs.getD i.toNat z52
theorem at_T52 {w : World} {A : Option Addr} {n : Nat} {xs : List S52} (h : Kd.C k52 w A n xs) (i : Int) (h0 : 0 ≤ i) (h1 : i < n) : ∃ ad , A = some ad ∧ w.cell? (ad.add (i.toNat * 4)) = some (.string (zld xs i).f0) ∧ w.cell? ⟨(ad.add (i.toNat * 4)).block, (ad.add (i.toNat * 4)).off + 1, none⟩ = some (.bool (zld xs i).f1.f0) ∧ w.cell? ⟨(ad.add (i.toNat * 4)).block, (ad.add (i.toNat * 4)).off + 2, none⟩ = some (.string (zld xs i).f1.f1) ∧ w.cell? ⟨(ad.add (i.toNat * 4)).block, (ad.add (i.toNat * 4)).off + 3, none⟩ = some (.int .i64 (zld xs i).f2) := by
 obtain ⟨ad, c, e, _, hK, hc0⟩ := Kd.C_get h z52 i h0 h1
 have hc : ∀ j u, c[j]? = some u → w.cell? (ad.add (i.toNat * 4 + j)) = some u := hc0
 obtain rfl := k52_open hK
 exact ⟨ad, e, hc 0 _ rfl, by rw [← zlh _ _ 1 (by omega)]; exact hc 1 _ rfl, by rw [← zlh _ _ 2 (by omega)]; exact hc 2 _ rfl, by rw [← zlh _ _ 3 (by omega)]; exact hc 3 _ rfl⟩
structure S56 where
 f0 : Int
 f1 : S31
def z56 : S56 := ⟨(0 : Int), z31⟩
def k56 : Kd S56 := Kd.iso (Kd.pair (Kd.int .i64) k31) (fun x : S56 => (x.f0, x.f1))
theorem k56_open {w : World} {x : S56} {cs : List Value} (h : k56.K w x cs) : cs = [.int .i64 x.f0, .bool x.f1.f0, .string x.f1.f1] := by
 obtain ⟨_, _, rfl, rfl, s1⟩ := h
 obtain rfl := k31_open s1
 exact rfl
theorem k56_mkM (w : World) (base : Nat) (ok : Nat → Prop) (x : S56)  : k56.M w base ok x [.int .i64 x.f0, .bool x.f1.f0, .string x.f1.f1] := ⟨[.int .i64 x.f0], [.bool x.f1.f0, .string x.f1.f1], rfl, rfl, (k31_mkM w base ok x.f1 )⟩
def zcd (xs : List S56) (i : Int) : S56 := xs.getD i.toNat z56
theorem at_T56 {w : World} {A : Option Addr} {n : Nat} {xs : List S56} (h : Kd.C k56 w A n xs) (i : Int) (h0 : 0 ≤ i) (h1 : i < n) : ∃ ad , A = some ad ∧ w.cell? (ad.add (i.toNat * 3)) = some (.int .i64 (zcd xs i).f0) ∧ w.cell? ⟨(ad.add (i.toNat * 3)).block, (ad.add (i.toNat * 3)).off + 1, none⟩ = some (.bool (zcd xs i).f1.f0) ∧ w.cell? ⟨(ad.add (i.toNat * 3)).block, (ad.add (i.toNat * 3)).off + 2, none⟩ = some (.string (zcd xs i).f1.f1) := by
 obtain ⟨ad, c, e, _, hK, hc0⟩ := Kd.C_get h z56 i h0 h1
 have hc : ∀ j u, c[j]? = some u → w.cell? (ad.add (i.toNat * 3 + j)) = some u := hc0
 obtain rfl := k56_open hK
 exact ⟨ad, e, hc 0 _ rfl, by rw [← zlh _ _ 1 (by omega)]; exact hc 1 _ rfl, by rw [← zlh _ _ 2 (by omega)]; exact hc 2 _ rfl⟩
end Go.Proofs.YtapaijpglfmfgaaGreatDoor.Q
end
section
namespace Go.Proofs.YtapaijpglfmfgaaGreatDoorC
open Go.RowKit YtapaijpglfmfgaaGreatDoorW.PrintWords
theorem cl2 {w : World} {g : Nat} {t : TypeId} {a0 a1 : Value} (h : w.heap[g]? = some (.cells #[a0, a1] t (0, 0))) : w.cell? ⟨g, 0, none⟩ = some a0 ∧ w.cell? ⟨g, 1, none⟩ = some a1 ∧ w.frozen? ⟨g, 0, none⟩ = false ∧ w.frozen? ⟨g, 1, none⟩ = false :=
 ⟨(zf h 0).trans rfl, (zf h 1).trans rfl, zy h 0, zy h 1⟩
theorem cl3 {w : World} {g : Nat} {t : TypeId} {a0 a1 a2 : Value} (h : w.heap[g]? = some (.cells #[a0, a1, a2] t (0, 0))) : w.cell? ⟨g, 0, none⟩ = some a0 ∧ w.cell? ⟨g, 1, none⟩ = some a1 ∧ w.cell? ⟨g, 2, none⟩ = some a2 ∧ w.frozen? ⟨g, 0, none⟩ = false ∧ w.frozen? ⟨g, 1, none⟩ = false ∧ w.frozen? ⟨g, 2, none⟩ = false :=
 ⟨(zf h 0).trans rfl, (zf h 1).trans rfl, (zf h 2).trans rfl, zy h 0, zy h 1, zy h 2⟩
theorem cl4 {w : World} {g : Nat} {t : TypeId} {a0 a1 a2 a3 : Value} (h : w.heap[g]? = some (.cells #[a0, a1, a2, a3] t (0, 0))) : w.cell? ⟨g, 0, none⟩ = some a0 ∧ w.cell? ⟨g, 1, none⟩ = some a1 ∧ w.cell? ⟨g, 2, none⟩ = some a2 ∧ w.cell? ⟨g, 3, none⟩ = some a3 ∧ w.frozen? ⟨g, 0, none⟩ = false ∧ w.frozen? ⟨g, 1, none⟩ = false ∧ w.frozen? ⟨g, 2, none⟩ = false ∧ w.frozen? ⟨g, 3, none⟩ = false :=
 ⟨(zf h 0).trans rfl, (zf h 1).trans rfl, (zf h 2).trans rfl, (zf h 3).trans rfl, zy h 0, zy h 1, zy h 2, zy h 3⟩
theorem cl7 {w : World} {g : Nat} {t : TypeId} {a0 a1 a2 a3 a4 a5 a6 : Value} (h : w.heap[g]? = some (.cells #[a0, a1, a2, a3, a4, a5, a6] t (0, 0))) : w.cell? ⟨g, 0, none⟩ = some a0 ∧ w.cell? ⟨g, 1, none⟩ = some a1 ∧ w.cell? ⟨g, 2, none⟩ = some a2 ∧ w.cell? ⟨g, 3, none⟩ = some a3 ∧ w.cell? ⟨g, 4, none⟩ = some a4 ∧ w.cell? ⟨g, 5, none⟩ = some a5 ∧ w.cell? ⟨g, 6, none⟩ = some a6 ∧ w.frozen? ⟨g, 0, none⟩ = false ∧ w.frozen? ⟨g, 1, none⟩ = false ∧ w.frozen? ⟨g, 2, none⟩ = false ∧ w.frozen? ⟨g, 3, none⟩ = false ∧ w.frozen? ⟨g, 4, none⟩ = false ∧ w.frozen? ⟨g, 5, none⟩ = false ∧ w.frozen? ⟨g, 6, none⟩ = false :=
 ⟨(zf h 0).trans rfl, (zf h 1).trans rfl, (zf h 2).trans rfl, (zf h 3).trans rfl, (zf h 4).trans rfl, (zf h 5).trans rfl, (zf h 6).trans rfl, zy h 0, zy h 1, zy h 2, zy h 3, zy h 4, zy h 5, zy h 6⟩
theorem cl10 {w : World} {g : Nat} {t : TypeId} {a0 a1 a2 a3 a4 a5 a6 a7 a8 a9 : Value} (h : w.heap[g]? = some (.cells #[a0, a1, a2, a3, a4, a5, a6, a7, a8, a9] t (0, 0))) : w.cell? ⟨g, 0, none⟩ = some a0 ∧ w.cell? ⟨g, 1, none⟩ = some a1 ∧ w.cell? ⟨g, 2, none⟩ = some a2 ∧ w.cell? ⟨g, 3, none⟩ = some a3 ∧ w.cell? ⟨g, 4, none⟩ = some a4 ∧ w.cell? ⟨g, 5, none⟩ = some a5 ∧ w.cell? ⟨g, 6, none⟩ = some a6 ∧ w.cell? ⟨g, 7, none⟩ = some a7 ∧ w.cell? ⟨g, 8, none⟩ = some a8 ∧ w.cell? ⟨g, 9, none⟩ = some a9 ∧ w.frozen? ⟨g, 0, none⟩ = false ∧ w.frozen? ⟨g, 1, none⟩ = false ∧ w.frozen? ⟨g, 2, none⟩ = false ∧ w.frozen? ⟨g, 3, none⟩ = false ∧ w.frozen? ⟨g, 4, none⟩ = false ∧ w.frozen? ⟨g, 5, none⟩ = false ∧ w.frozen? ⟨g, 6, none⟩ = false ∧ w.frozen? ⟨g, 7, none⟩ = false ∧ w.frozen? ⟨g, 8, none⟩ = false ∧ w.frozen? ⟨g, 9, none⟩ = false :=
 ⟨(zf h 0).trans rfl, (zf h 1).trans rfl, (zf h 2).trans rfl, (zf h 3).trans rfl, (zf h 4).trans rfl, (zf h 5).trans rfl, (zf h 6).trans rfl, (zf h 7).trans rfl, (zf h 8).trans rfl, (zf h 9).trans rfl, zy h 0, zy h 1, zy h 2, zy h 3, zy h 4, zy h 5, zy h 6, zy h 7, zy h 8, zy h 9⟩
theorem farC {α : Type} {d : Kd α} {e : TypeId} {w : World} {base : Nat} {ok : Nat → Prop} {v : Value} {xs : List α} {g i : Nat} {u : Value} (h : d.R e w base (fun k => ok k ∧ k ≠ g) v xs) : d.R e (w.setCell ⟨g, i, none⟩ u) base (fun k => ok k ∧ k ≠ g) v xs :=
 Kd.R_far (p := ⟨g, i, none⟩) h (fun _ hk => hk.2) u
theorem put2 {w : World} {g : Nat} {t : TypeId} {a0 a1 b0 b1 : Value} (h : w.heap[g]? = some (.cells #[a0, a1] t (0, 0))) : ((w.setCell ⟨g, 0, none⟩ b0).setCell ⟨g, 1, none⟩ b1).heap[g]? = some (.cells #[b0, b1] t (0, 0)) := by
 replace h := zdb (cs' := #[b0, a1]) h 0 b0 rfl
 replace h := zdb (cs' := #[b0, b1]) h 1 b1 rfl
 exact h
theorem put3 {w : World} {g : Nat} {t : TypeId} {a0 a1 a2 b0 b1 b2 : Value} (h : w.heap[g]? = some (.cells #[a0, a1, a2] t (0, 0))) : (((w.setCell ⟨g, 0, none⟩ b0).setCell ⟨g, 1, none⟩ b1).setCell ⟨g, 2, none⟩ b2).heap[g]? = some (.cells #[b0, b1, b2] t (0, 0)) := by
 replace h := zdb (cs' := #[b0, a1, a2]) h 0 b0 rfl
 replace h := zdb (cs' := #[b0, b1, a2]) h 1 b1 rfl
 replace h := zdb (cs' := #[b0, b1, b2]) h 2 b2 rfl
 exact h
theorem put4 {w : World} {g : Nat} {t : TypeId} {a0 a1 a2 a3 b0 b1 b2 b3 : Value} (h : w.heap[g]? = some (.cells #[a0, a1, a2, a3] t (0, 0))) : ((((w.setCell ⟨g, 0, none⟩ b0).setCell ⟨g, 1, none⟩ b1).setCell ⟨g, 2, none⟩ b2).setCell ⟨g, 3, none⟩ b3).heap[g]? = some (.cells #[b0, b1, b2, b3] t (0, 0)) := by
 replace h := zdb (cs' := #[b0, a1, a2, a3]) h 0 b0 rfl
 replace h := zdb (cs' := #[b0, b1, a2, a3]) h 1 b1 rfl
 replace h := zdb (cs' := #[b0, b1, b2, a3]) h 2 b2 rfl
 replace h := zdb (cs' := #[b0, b1, b2, b3]) h 3 b3 rfl
 exact h
theorem put10 {w : World} {g : Nat} {t : TypeId} {a0 a1 a2 a3 a4 a5 a6 a7 a8 a9 b0 b1 b2 b3 b4 b5 b6 b7 b8 b9 : Value} (h : w.heap[g]? = some (.cells #[a0, a1, a2, a3, a4, a5, a6, a7, a8, a9] t (0, 0))) : ((((((((((w.setCell ⟨g, 0, none⟩ b0).setCell ⟨g, 1, none⟩ b1).setCell ⟨g, 2, none⟩ b2).setCell ⟨g, 3, none⟩ b3).setCell ⟨g, 4, none⟩ b4).setCell ⟨g, 5, none⟩ b5).setCell ⟨g, 6, none⟩ b6).setCell ⟨g, 7, none⟩ b7).setCell ⟨g, 8, none⟩ b8).setCell ⟨g, 9, none⟩ b9).heap[g]? = some (.cells #[b0, b1, b2, b3, b4, b5, b6, b7, b8, b9] t (0, 0)) := by
 replace h := zdb (cs' := #[b0, a1, a2, a3, a4, a5, a6, a7, a8, a9]) h 0 b0 rfl
 replace h := zdb (cs' := #[b0, b1, a2, a3, a4, a5, a6, a7, a8, a9]) h 1 b1 rfl
 replace h := zdb (cs' := #[b0, b1, b2, a3, a4, a5, a6, a7, a8, a9]) h 2 b2 rfl
 replace h := zdb (cs' := #[b0, b1, b2, b3, a4, a5, a6, a7, a8, a9]) h 3 b3 rfl
 replace h := zdb (cs' := #[b0, b1, b2, b3, b4, a5, a6, a7, a8, a9]) h 4 b4 rfl
 replace h := zdb (cs' := #[b0, b1, b2, b3, b4, b5, a6, a7, a8, a9]) h 5 b5 rfl
 replace h := zdb (cs' := #[b0, b1, b2, b3, b4, b5, b6, a7, a8, a9]) h 6 b6 rfl
 replace h := zdb (cs' := #[b0, b1, b2, b3, b4, b5, b6, b7, a8, a9]) h 7 b7 rfl
 replace h := zdb (cs' := #[b0, b1, b2, b3, b4, b5, b6, b7, b8, a9]) h 8 b8 rfl
 replace h := zdb (cs' := #[b0, b1, b2, b3, b4, b5, b6, b7, b8, b9]) h 9 b9 rfl
 exact h
theorem zte {W : World} {a : Addr} {g i0 i1 i2 i3 i4 i5 i6 i7 i8 i9 : Nat} {u0 u1 u2 u3 u4 u5 u6 u7 u8 u9 : Value} (h : a.block ≠ g) : ((((((((((W.setCell ⟨g, i0, none⟩ u0).setCell ⟨g, i1, none⟩ u1).setCell ⟨g, i2, none⟩ u2).setCell ⟨g, i3, none⟩ u3).setCell ⟨g, i4, none⟩ u4).setCell ⟨g, i5, none⟩ u5).setCell ⟨g, i6, none⟩ u6).setCell ⟨g, i7, none⟩ u7).setCell ⟨g, i8, none⟩ u8).setCell ⟨g, i9, none⟩ u9).cell? a = W.cell? a := by
 repeat rw [cell_far h]
theorem zae {α : Type} {d : Kd α} {e : TypeId} {w : World} {base : Nat} {ok : Nat → Prop} {v : Value} {xs : List α} {g i0 i1 i2 i3 i4 i5 i6 i7 i8 i9 : Nat} {u0 u1 u2 u3 u4 u5 u6 u7 u8 u9 : Value} (h : d.R e w base (fun k => ok k ∧ k ≠ g) v xs) : d.R e ((((((((((w.setCell ⟨g, i0, none⟩ u0).setCell ⟨g, i1, none⟩ u1).setCell ⟨g, i2, none⟩ u2).setCell ⟨g, i3, none⟩ u3).setCell ⟨g, i4, none⟩ u4).setCell ⟨g, i5, none⟩ u5).setCell ⟨g, i6, none⟩ u6).setCell ⟨g, i7, none⟩ u7).setCell ⟨g, i8, none⟩ u8).setCell ⟨g, i9, none⟩ u9) base (fun k => ok k ∧ k ≠ g) v xs :=
 farC (farC (farC (farC (farC (farC (farC (farC (farC (farC h)))))))))
end Go.Proofs.YtapaijpglfmfgaaGreatDoorC
end
section
namespace Go.Proofs.YtapaijpglfmfgaaGreatDoor.Q
open Go.RowKit YtapaijpglfmfgaaGreatDoorH YtapaijpglfmfgaaGreatDoorG YtapaijpglfmfgaaGreatDoorW.PrintWords YtapaijpglfmfgaaGreatDoorW.PrintLast YtapaijpglfmfgaaGreatDoorW.PrintMore YtapaijpglfmfgaaGreatDoorC
attribute [local go_sem] zsc zuc zhd zgd zhc zic zvc ztc
mutual
def zqd.l0 : Nat → List (S110) → Int → Int → ByteArray → ByteArray → ByteArray → ByteArray → Bool → List (S110) → List (S112) → Bool → Bool → ByteArray → ByteArray → ByteArray → ByteArray → ByteArray → Bool → List (S52) → Bool → Bool → ByteArray → Option (ByteArray × ByteArray × ByteArray × ByteArray × Bool × (List (S52)) × (List (S56)) × Bool × Bool × ByteArray)
 | 0, _, _, _, _, _, _, _, _, _, _, _, _, _, _, _, _, _, _, _, _, _, _ => none
 | k + 1, x24, x25, x26, x102000, x102001, x102002, x102003, x102004, x102005, x102006, x102007, x102008, x102009, x104000, x104001, x104002, x104003, x104004, x104005, x104007, x104008, x104009 => if x26 < x25 then (if 0 ≤ x26 then (if x26 < (x24.length : Int) then (if x104005.length < 2932031007402 then (zqd.l0 k x24 x25 (wrap64 (x26 + 1)) x102000 x102001 x102002 x102003 x102004 x102005 x102006 x102007 x102008 x102009 x104000 x104001 x104002 x104003 x104004 (x104005 ++ [(⟨(rd_T110 x24 x26).f0, (⟨(rd_T110 x24 x26).f1.f0, (rd_T110 x24 x26).f1.f1⟩ : S31), (rd_T110 x24 x26).f2⟩ : S52)]) x104007 x104008 x104009) else (none)) else (none)) else (none)) else (zqd.l1 k x102006 (x102006.length : Int) 0 x104000 x104001 x104002 x104003 x104004 x104005 ([] : List (S56)) x104007 x104008 x104009)
def zqd.l1 : Nat → List (S112) → Int → Int → ByteArray → ByteArray → ByteArray → ByteArray → Bool → List (S52) → List (S56) → Bool → Bool → ByteArray → Option (ByteArray × ByteArray × ByteArray × ByteArray × Bool × (List (S52)) × (List (S56)) × Bool × Bool × ByteArray)
 | 0, _, _, _, _, _, _, _, _, _, _, _, _, _ => none
 | k + 1, x44, x45, x46, x104000, x104001, x104002, x104003, x104004, x104005, x104006, x104007, x104008, x104009 => if x46 < x45 then (if 0 ≤ x46 then (if x46 < (x44.length : Int) then (if x104006.length < 4398046511104 then (zqd.l1 k x44 x45 (wrap64 (x46 + 1)) x104000 x104001 x104002 x104003 x104004 x104005 (x104006 ++ [(⟨(rd_T112 x44 x46).f0, (⟨(rd_T112 x44 x46).f1.f0, (rd_T112 x44 x46).f1.f1⟩ : S31)⟩ : S56)]) x104007 x104008 x104009) else (none)) else (none)) else (none)) else (some (x104000, x104001, x104002, x104003, x104004, x104005, x104006, x104007, x104008, x104009))
end
def zqd.f (k : Nat) (a0_0 : ByteArray) (a0_1 : ByteArray) (a0_2 : ByteArray) (a0_3 : ByteArray) (a0_4 : Bool) (l0_5 : List (S110)) (l0_6 : List (S112)) (a0_7 : Bool) (a0_8 : Bool) (a0_9 : ByteArray) : Option (ByteArray × ByteArray × ByteArray × ByteArray × Bool × (List (S52)) × (List (S56)) × Bool × Bool × ByteArray) := zqd.l0 k l0_5 (l0_5.length : Int) 0 a0_0 a0_1 a0_2 a0_3 a0_4 l0_5 l0_6 a0_7 a0_8 a0_9 a0_0 a0_1 a0_2 a0_3 a0_4 ([] : List (S52)) a0_7 a0_8 a0_9
def zed.f (l0_0 : List Int) (a0_1 : Int) (l0_2 : List Int) (l0_3 : List Int) (a0_4 : ByteArray) (a0_5 : Bool) (a0_6 : Int) : Option (Bool) := if (l0_0.length : Int) > 2147483647 then (some false) else (if (l0_2.length : Int) > 2147483647 then (some false) else (if (l0_3.length : Int) > 2147483647 then (some false) else (if (a0_4.size : Int) > 2147483647 then (some false) else (some true))))
theorem zed.calls (A0_0 : Option Addr) (c0_0 : Nat) (l0_0 : List Int) (a0_1 : Int) (A0_2 : Option Addr) (c0_2 : Nat) (l0_2 : List Int) (A0_3 : Option Addr) (c0_3 : Nat) (l0_3 : List Int) (a0_4 : ByteArray) (a0_5 : Bool) (a0_6 : Int) (r : Bool) (w : World) (hr0_0 : Kd.C (Kd.int .u16) w A0_0 l0_0.length l0_0) (hc0_0 : l0_0.length ≤ c0_0) (hr0_2 : Kd.C (Kd.int .u8) w A0_2 l0_2.length l0_2) (hc0_2 : l0_2.length ≤ c0_2) (hr0_3 : Kd.C (Kd.int .u16) w A0_3 l0_3.length l0_3) (hc0_3 : l0_3.length ≤ c0_3) (h : zed.f l0_0 a0_1 l0_2 l0_3 a0_4 a0_5 a0_6 = some r) :
  Calls Tryz.prog 6 #[.agg #[.slice A0_0 l0_0.length c0_0, .int .u8 a0_1, .slice A0_2 l0_2.length c0_2, .slice A0_3 l0_3.length c0_3, .string a0_4, .bool a0_5, .int .u16 a0_6]] w fun e w' => e = .returned (.bool r) ∧ Below w.heap.size w w' := by
 have hu26 := Tryz.underlying26
 have HR0_0 := za.mk hr0_0
 have HC0_0 := za.mk hc0_0
 clear hr0_0 hc0_0
 have HR0_2 := za.mk hr0_2
 have HC0_2 := za.mk hc0_2
 clear hr0_2 hc0_2
 have HR0_3 := za.mk hr0_3
 have HC0_3 := za.mk hc0_3
 clear hr0_3 hc0_3
 have HB := za.mk (Below.refl w.heap.size w)
 have H : (if (l0_0.length : Int) > 2147483647 then (some false) else (if (l0_2.length : Int) > 2147483647 then (some false) else (if (l0_3.length : Int) > 2147483647 then (some false) else (if (a0_4.size : Int) > 2147483647 then (some false) else (some true))))) = some r := h
 clear h
 by_cases c2 : (l0_0.length : Int) > 2147483647
 ·rw [if_pos c2] at H
  have c2b0 : decide (2147483647 < (l0_0.length : Int)) = true := decide_eq_true c2
  have c2b1 : decide (2147483647 < l0_0.length) = true := decide_eq_true (by omega)
  clear c2
  obtain rfl := Option.some.inj H
  go_enter Tryz.func6, Tryz.ntmps6
  go_wp2_with (((with_reducible refine zmb (N := 1) rfl ?_); refine zrb ?hg (N := 1) ?hd (cs := #[.slice A0_0 l0_0.length c0_0, .int .u8 a0_1, .slice A0_2 l0_2.length c0_2, .slice A0_3 l0_3.length c0_3, .string a0_4, .bool a0_5, .int .u16 a0_6]) (t := 26) ?hr ?_; (case hd => rfl); (case hg => rfl); (case hr => first | (go_simp; done) | (go_simp; rfl)); intro gb114 hg w3 hbox hb; have BK114 := za.mk hbox; have GW114 := za.mk ((by rw [hg]; exact (zl (by (with_reducible exact HB.out))) : w.heap.size ≤ gb114)); have GE114 := za.mk ((by rw [hg]; exact (zl (by (with_reducible exact HB.out))) : w.heap.size ≤ gb114)); replace HB := za.mk (zm (by (with_reducible exact HB.out)) hb); clear hb hbox hg; obtain ⟨hcz4_0, hcz4_1, hcz4_2, hcz4_3, hcz4_4, hcz4_5, hcz4_6, _⟩ := cl7 BK114.out))
  go_ret
  exact ⟨by rfl, by (with_reducible exact HB.out)⟩
 ·rw [if_neg c2] at H
  have c2b0 : decide (2147483647 < (l0_0.length : Int)) = false := decide_eq_false c2
  have c2b1 : decide (2147483647 < l0_0.length) = false := decide_eq_false (by omega)
  clear c2
  by_cases c5 : (l0_2.length : Int) > 2147483647
  ·rw [if_pos c5] at H
   have c5b0 : decide (2147483647 < (l0_2.length : Int)) = true := decide_eq_true c5
   have c5b1 : decide (2147483647 < l0_2.length) = true := decide_eq_true (by omega)
   clear c5
   obtain rfl := Option.some.inj H
   go_enter Tryz.func6, Tryz.ntmps6
   go_wp2_with (((with_reducible refine zmb (N := 1) rfl ?_); refine zrb ?hg (N := 1) ?hd (cs := #[.slice A0_0 l0_0.length c0_0, .int .u8 a0_1, .slice A0_2 l0_2.length c0_2, .slice A0_3 l0_3.length c0_3, .string a0_4, .bool a0_5, .int .u16 a0_6]) (t := 26) ?hr ?_; (case hd => rfl); (case hg => rfl); (case hr => first | (go_simp; done) | (go_simp; rfl)); intro gb114 hg w6 hbox hb; have BK114 := za.mk hbox; have GW114 := za.mk ((by rw [hg]; exact (zl (by (with_reducible exact HB.out))) : w.heap.size ≤ gb114)); have GE114 := za.mk ((by rw [hg]; exact (zl (by (with_reducible exact HB.out))) : w.heap.size ≤ gb114)); replace HB := za.mk (zm (by (with_reducible exact HB.out)) hb); clear hb hbox hg; obtain ⟨hcz7_0, hcz7_1, hcz7_2, hcz7_3, hcz7_4, hcz7_5, hcz7_6, _⟩ := cl7 BK114.out))
   go_ret
   exact ⟨by rfl, by (with_reducible exact HB.out)⟩
  ·rw [if_neg c5] at H
   have c5b0 : decide (2147483647 < (l0_2.length : Int)) = false := decide_eq_false c5
   have c5b1 : decide (2147483647 < l0_2.length) = false := decide_eq_false (by omega)
   clear c5
   by_cases c8 : (l0_3.length : Int) > 2147483647
   ·rw [if_pos c8] at H
    have c8b0 : decide (2147483647 < (l0_3.length : Int)) = true := decide_eq_true c8
    have c8b1 : decide (2147483647 < l0_3.length) = true := decide_eq_true (by omega)
    clear c8
    obtain rfl := Option.some.inj H
    go_enter Tryz.func6, Tryz.ntmps6
    go_wp2_with (((with_reducible refine zmb (N := 1) rfl ?_); refine zrb ?hg (N := 1) ?hd (cs := #[.slice A0_0 l0_0.length c0_0, .int .u8 a0_1, .slice A0_2 l0_2.length c0_2, .slice A0_3 l0_3.length c0_3, .string a0_4, .bool a0_5, .int .u16 a0_6]) (t := 26) ?hr ?_; (case hd => rfl); (case hg => rfl); (case hr => first | (go_simp; done) | (go_simp; rfl)); intro gb114 hg w9 hbox hb; have BK114 := za.mk hbox; have GW114 := za.mk ((by rw [hg]; exact (zl (by (with_reducible exact HB.out))) : w.heap.size ≤ gb114)); have GE114 := za.mk ((by rw [hg]; exact (zl (by (with_reducible exact HB.out))) : w.heap.size ≤ gb114)); replace HB := za.mk (zm (by (with_reducible exact HB.out)) hb); clear hb hbox hg; obtain ⟨hcz10_0, hcz10_1, hcz10_2, hcz10_3, hcz10_4, hcz10_5, hcz10_6, _⟩ := cl7 BK114.out))
    go_ret
    exact ⟨by rfl, by (with_reducible exact HB.out)⟩
   ·rw [if_neg c8] at H
    have c8b0 : decide (2147483647 < (l0_3.length : Int)) = false := decide_eq_false c8
    have c8b1 : decide (2147483647 < l0_3.length) = false := decide_eq_false (by omega)
    clear c8
    by_cases c11 : (a0_4.size : Int) > 2147483647
    ·rw [if_pos c11] at H
     have c11b0 : decide (2147483647 < (a0_4.size : Int)) = true := decide_eq_true c11
     have c11b1 : decide (2147483647 < a0_4.size) = true := decide_eq_true (by omega)
     clear c11
     obtain rfl := Option.some.inj H
     go_enter Tryz.func6, Tryz.ntmps6
     go_wp2_with (((with_reducible refine zmb (N := 1) rfl ?_); refine zrb ?hg (N := 1) ?hd (cs := #[.slice A0_0 l0_0.length c0_0, .int .u8 a0_1, .slice A0_2 l0_2.length c0_2, .slice A0_3 l0_3.length c0_3, .string a0_4, .bool a0_5, .int .u16 a0_6]) (t := 26) ?hr ?_; (case hd => rfl); (case hg => rfl); (case hr => first | (go_simp; done) | (go_simp; rfl)); intro gb114 hg w12 hbox hb; have BK114 := za.mk hbox; have GW114 := za.mk ((by rw [hg]; exact (zl (by (with_reducible exact HB.out))) : w.heap.size ≤ gb114)); have GE114 := za.mk ((by rw [hg]; exact (zl (by (with_reducible exact HB.out))) : w.heap.size ≤ gb114)); replace HB := za.mk (zm (by (with_reducible exact HB.out)) hb); clear hb hbox hg; obtain ⟨hcz13_0, hcz13_1, hcz13_2, hcz13_3, hcz13_4, hcz13_5, hcz13_6, _⟩ := cl7 BK114.out))
     go_ret
     exact ⟨by rfl, by (with_reducible exact HB.out)⟩
    ·rw [if_neg c11] at H
     have c11b0 : decide (2147483647 < (a0_4.size : Int)) = false := decide_eq_false c11
     have c11b1 : decide (2147483647 < a0_4.size) = false := decide_eq_false (by omega)
     clear c11
     obtain rfl := Option.some.inj H
     go_enter Tryz.func6, Tryz.ntmps6
     go_wp2_with (((with_reducible refine zmb (N := 1) rfl ?_); refine zrb ?hg (N := 1) ?hd (cs := #[.slice A0_0 l0_0.length c0_0, .int .u8 a0_1, .slice A0_2 l0_2.length c0_2, .slice A0_3 l0_3.length c0_3, .string a0_4, .bool a0_5, .int .u16 a0_6]) (t := 26) ?hr ?_; (case hd => rfl); (case hg => rfl); (case hr => first | (go_simp; done) | (go_simp; rfl)); intro gb114 hg w14 hbox hb; have BK114 := za.mk hbox; have GW114 := za.mk ((by rw [hg]; exact (zl (by (with_reducible exact HB.out))) : w.heap.size ≤ gb114)); have GE114 := za.mk ((by rw [hg]; exact (zl (by (with_reducible exact HB.out))) : w.heap.size ≤ gb114)); replace HB := za.mk (zm (by (with_reducible exact HB.out)) hb); clear hb hbox hg; obtain ⟨hcz15_0, hcz15_1, hcz15_2, hcz15_3, hcz15_4, hcz15_5, hcz15_6, _⟩ := cl7 BK114.out))
     go_ret
     exact ⟨by rfl, by (with_reducible exact HB.out)⟩
def zfb.l0 : Nat → Int → ByteArray → Option (ByteArray)
 | 0, _, _ => none
 | k + 1, x0, x3 => if (Utf8.encode (wrap32 (IntKind.u16.wrap (48 + (Int.tmod x0 10))))).size + x3.size ≤ 9223372036854775807 then (if (IntKind.u16.wrap (Int.tdiv x0 10)) = 0 then (some ((Utf8.encode (wrap32 (IntKind.u16.wrap (48 + (Int.tmod x0 10))))) ++ x3)) else (zfb.l0 k (IntKind.u16.wrap (Int.tdiv x0 10)) ((Utf8.encode (wrap32 (IntKind.u16.wrap (48 + (Int.tmod x0 10))))) ++ x3))) else (none)
def zfb.f (k : Nat) (a0 : Int) : Option (ByteArray) := zfb.l0 k a0 (⟨#[]⟩ : ByteArray)
theorem zfb.calls (k : Nat) (a0 : Int) (r : ByteArray) (w : World) (h : zfb.f k a0 = some r) :
  Calls Tryz.prog 20 #[.int .u16 a0] w fun e w' => e = .returned (.string r) ∧ zo w w' := by
 have H : (zfb.l0 k a0 (⟨#[]⟩ : ByteArray)) = some r := h
 clear h
 have H' := za.mk H
 clear H
 go_enter Tryz.func20, Tryz.ntmps20
 go_wp2
 (try simp only [Act.put, List.setIfInBounds_toArray, List.set_cons_zero, List.set_cons_succ])
 go_loopg [0, 3] k (fun kq v0 v3 w' => ∃ (x0_1 : Int) (x3_1 : ByteArray), v0 = .int .u16 x0_1 ∧ v3 = .string x3_1 ∧ za (zfb.l0 kq x0_1 x3_1 = some r) ∧ za (kq ≤ k) ∧ zo w w')
 case atStart => exact ⟨(a0), ((⟨#[]⟩ : ByteArray)), (by rfl), (by rfl), H', ⟨Nat.le_refl _⟩, by repeat (first | exact zo.refl _ | apply zo.step)⟩
 case round =>
  clear H'
  obtain ⟨x0_1, x3_1, rfl, rfl, HA, HK1, ⟨m1, rfl⟩⟩ := hrel
  cases gk with
  | zero => exact absurd HA.out (by simp [zfb.l0])
  | succ k1 =>
   have H := HA.out
   clear HA
   simp only [zfb.l0] at H
   by_cases c2 : (Utf8.encode (wrap32 (IntKind.u16.wrap (48 + (Int.tmod x0_1 10))))).size + x3_1.size ≤ 9223372036854775807
   ·rw [if_pos c2] at H
    have c2b0 := eq_true c2
    have c2b1 : decide ((Utf8.encode (wrap32 (IntKind.u16.wrap (48 + (Int.tmod x0_1 10))))).size + x3_1.size ≤ 9223372036854775807) = true := decide_eq_true c2
    try have c2b2 : (9223372036854775807 < (Utf8.encode (wrap32 (IntKind.u16.wrap (48 + (Int.tmod x0_1 10))))).size + x3_1.size) = False := eq_false (Nat.not_lt.2 c2)
    by_cases c3 : (IntKind.u16.wrap (Int.tdiv x0_1 10)) = 0
    ·rw [if_pos c3] at H
     have c3b0 : ((IntKind.u16.wrap (Int.tdiv x0_1 10)) == 0) = true := beq_iff_eq.mpr c3
     have c3b1 : ((IntKind.u16.wrap (Int.tdiv x0_1 10)) != 0) = false := bne_eq_false_iff_eq.mpr c3
     clear c3
     obtain rfl := Option.some.inj H
     have hcv4 := fun (W_ : World) => run_convert_int_string (P := Tryz.prog) W_ 21 9 .i32 (wrap32 (IntKind.u16.wrap (48 + (Int.tmod x0_1 10)))) (by rw [Tryz.underlying21]; rfl) Tryz.underlying9
     go_wp2
     go_ret
     exact ⟨by rfl, by repeat (first | exact zo.refl _ | apply zo.step)⟩
    ·rw [if_neg c3] at H
     have c3b0 : ((IntKind.u16.wrap (Int.tdiv x0_1 10)) == 0) = false := beq_eq_false_iff_ne.mpr c3
     have c3b1 : ((IntKind.u16.wrap (Int.tdiv x0_1 10)) != 0) = true := bne_iff_ne.mpr c3
     have H' := za.mk H
     clear H
     have hcv5 := fun (W_ : World) => run_convert_int_string (P := Tryz.prog) W_ 21 9 .i32 (wrap32 (IntKind.u16.wrap (48 + (Int.tmod x0_1 10)))) (by rw [Tryz.underlying21]; rfl) Tryz.underlying9
     go_wp2
     go_roundg k1
     case measure => have := HK1.out; omega
     case rel => exact ⟨(IntKind.u16.wrap (Int.tdiv x0_1 10)), ((Utf8.encode (wrap32 (IntKind.u16.wrap (48 + (Int.tmod x0_1 10))))) ++ x3_1), (by rfl), (by rfl), H', ⟨by have := HK1.out; omega⟩, by repeat (first | exact zo.refl _ | apply zo.step)⟩
   ·rw [if_neg c2] at H
    exact absurd H (by simp)
end Go.Proofs.YtapaijpglfmfgaaGreatDoor.Q
end
section
namespace Go.Proofs.YtapaijpglfmfgaaGreatDoorG
open Go.RowKit YtapaijpglfmfgaaGreatDoorH YtapaijpglfmfgaaGreatDoorB YtapaijpglfmfgaaGreatDoorM YtapaijpglfmfgaaGreatDoorP YtapaijpglfmfgaaGreatDoor.Q YtapaijpglfmfgaaGreatDoorW.PrintWords YtapaijpglfmfgaaGreatDoorW.PrintLast
def numsA (c : List (List Int)) : List S52 := c.zipIdx.map fun p => ⟨strOfNums p.1, ⟨false, magB (decL p.1)⟩, (p.2 : Int)⟩
def sufsA (s : List (List Int × List Int)) : List S56 := s.map fun x => ⟨(wgt x.1 : Int), ⟨false, magB (decL x.2)⟩⟩
def impl_AlpineParse.f (a0 : ByteArray) : Option (ByteArray × ByteArray × ByteArray × ByteArray × Bool × List S52 × List S56 × Bool × Bool × ByteArray × Bool) := if AOk a0 then
 some (a0, strOfNums (zxe (bytesOf a0)).r, strOfNums (zxe (bytesOf a0)).l, strOfNums (zxe (bytesOf a0)).h, (zxe (bytesOf a0)).i, numsA (zxe (bytesOf a0)).c, sufsA (zxe (bytesOf a0)).s, true, false, magB (decL (zxe (bytesOf a0)).b), true) else none
end Go.Proofs.YtapaijpglfmfgaaGreatDoorG
end
section
namespace Go.Proofs.YtapaijpglfmfgaaGreatDoor.Q
open Go.RowKit YtapaijpglfmfgaaGreatDoorH YtapaijpglfmfgaaGreatDoorG YtapaijpglfmfgaaGreatDoorW.PrintWords YtapaijpglfmfgaaGreatDoorW.PrintLast YtapaijpglfmfgaaGreatDoorW.PrintMore YtapaijpglfmfgaaGreatDoorC
attribute [local go_sem] zsc zuc zhd zgd zhc zic zvc ztc
mutual
def zab.l0 : Nat → ByteArray → List Int → Int → Option (Bool × ByteArray)
 | 0, _, _, _ => none
 | k + 1, x0, x3, x4 => if x4 < (x0.size : Int) then (if 0 ≤ x4 then (zab.l1 k x0 x3 x4 (((bt x0 x4) - 48) % 256) 0) else (none)) else (if 0 ≤ (x3.length : Int) then (if ((x3.length : Int) : Int).toNat ≤ 281474976710656 then (zab.l2 k x3 (List.replicate ((x3.length : Int) : Int).toNat 0) 0) else (none)) else (none))
def zab.l1 : Nat → ByteArray → List Int → Int → Int → Int → Option (Bool × ByteArray)
 | 0, _, _, _, _, _ => none
 | k + 1, x0, x3, x4, x5, x6 => if x6 < (x3.length : Int) then (if 0 ≤ x6 then (zab.l1 k x0 (x3.set (x6 : Int).toNat ((Int.tmod (wrap64 (x5 + (wrap64 (10 * (wrap64 (rd x3 x6)))))) 256) % 256)) x4 (wrap64 (Int.tdiv (wrap64 (x5 + (wrap64 (10 * (wrap64 (rd x3 x6)))))) 256)) (wrap64 (x6 + 1))) else (none)) else (if x5 > 0 then (if x3.length < 140737488355328 then (zab.l0 k x0 (x3 ++ [(x5) % 256]) (wrap64 (x4 + 1))) else (none)) else (zab.l0 k x0 x3 (wrap64 (x4 + 1))))
def zab.l2 : Nat → List Int → List Int → Int → Option (Bool × ByteArray)
 | 0, _, _, _ => none
 | k + 1, x3, x7, x8 => if x8 < (x3.length : Int) then (if 0 ≤ x8 then (if 0 ≤ (wrap64 ((wrap64 ((x3.length : Int) - 1)) - x8)) then (if (wrap64 ((wrap64 ((x3.length : Int) - 1)) - x8)) < (x7.length : Int) then (zab.l2 k x3 (x7.set ((wrap64 ((wrap64 ((x3.length : Int) - 1)) - x8)) : Int).toNat (rd x3 x8)) (wrap64 (x8 + 1))) else (none)) else (none)) else (none)) else (some (false, strOfNums x7))
end
def zab.f (k : Nat) (a0 : ByteArray) : Option (Bool × ByteArray) := zab.l0 k a0 ([] : List Int) 0
theorem zab.calls (k : Nat) (a0 : ByteArray) (r1 : Bool) (r2 : ByteArray) (w : World) (h : zab.f k a0 = some (r1, r2)) :
  Calls Tryz.prog 41 #[.string a0] w fun e w' => e = .returned (.agg #[.bool r1, .string r2]) ∧ Below w.heap.size w w' := by
 have hu31 := Tryz.underlying31
 have HB := za.mk (Below.refl w.heap.size w)
 have H : (zab.l0 k a0 ([] : List Int) 0) = some (r1, r2) := h
 clear h
 have H' := za.mk H
 clear H
 go_enter Tryz.func41, Tryz.ntmps41
 go_wp2_with (((with_reducible refine zmb (N := 2) rfl ?_); refine zrb ?hg (N := 2) ?hd (cs := #[.bool false, .string ⟨#[]⟩]) (t := 31) ?hr ?_; (case hd => rfl); (case hg => rfl); (case hr => first | (go_simp; done) | (go_simp; rfl)); intro gb115 hg w2 hbox hb; have BK115 := za.mk hbox; have GW115 := za.mk ((by rw [hg]; exact (zl (by (with_reducible exact HB.out))) : w.heap.size ≤ gb115)); have GE115 := za.mk ((by rw [hg]; exact (zl (by (with_reducible exact HB.out))) : w.heap.size ≤ gb115)); replace HB := za.mk (zm (by (with_reducible exact HB.out)) hb); clear hb hbox hg))
 (try simp only [Act.put, List.setIfInBounds_toArray, List.set_cons_zero, List.set_cons_succ])
 go_loopg [3, 4] k (fun kq v3 v4 w' => ∃ (x3_1 : List Int) (x4_1 : Int), v4 = .int .i64 x4_1 ∧ za (zab.l0 kq a0 x3_1 x4_1 = some (r1, r2)) ∧ za (kq ≤ k) ∧ za (Kd.R (Kd.int .u8) 5 w' w.heap.size (fun _ => True) v3 x3_1) ∧ za (w'.heap[gb115]? = some (.cells #[.bool false, .string ⟨#[]⟩] 31 (0, 0))) ∧ za (Below w.heap.size w w'))
 case atStart => exact ⟨(([] : List Int)), (0), (by rfl), H', ⟨Nat.le_refl _⟩, ⟨by exact Kd.R_nil _ _ _ _ _⟩, ⟨by exact BK115.out⟩, ⟨by (with_reducible exact HB.out)⟩⟩
 case round =>
  clear H'
  obtain ⟨x3_1, x4_1, rfl, HA, HK1, HO_3, BK115, HB⟩ := hrel
  cases gk with
  | zero => exact absurd HA.out (by simp [zab.l0])
  | succ k1 =>
   have H := HA.out
   clear HA
   simp only [zab.l0] at H
   by_cases c3 : x4_1 < (a0.size : Int)
   ·rw [if_pos c3] at H
    have c3b0 : decide (x4_1 < (a0.size : Int)) = true := decide_eq_true c3
    clear c3
    by_cases c4 : 0 ≤ x4_1
    ·rw [if_pos c4] at H
     have c4b0 : decide (0 ≤ x4_1) = true := decide_eq_true c4
     clear c4
     have H' := za.mk H
     clear H
     have p5 : 0 ≤ (x4_1 : Int) := of_decide_eq_true (by (with_reducible assumption))
     have q5 : x4_1 < (a0.size : Int) := of_decide_eq_true (by (with_reducible assumption))
     have hx5 := bt_at a0 x4_1
     replace p5 := eq_true p5
     replace q5 := eq_true q5
     go_wp2
     (try simp only [Act.put, List.setIfInBounds_toArray, List.set_cons_zero, List.set_cons_succ])
     go_loopg [5, 6] k1 (fun kq v5 v6 w' => ∃ (x3_2 : List Int) (x5_2 : Int) (x6_2 : Int), v5 = .int .i64 x5_2 ∧ v6 = .int .i64 x6_2 ∧ za (zab.l1 kq a0 x3_2 x4_1 x5_2 x6_2 = some (r1, r2)) ∧ za (kq ≤ k1) ∧ za (Kd.R (Kd.int .u8) 5 w' w.heap.size (fun _ => True) u3 x3_2) ∧ za (w'.heap[gb115]? = some (.cells #[.bool false, .string ⟨#[]⟩] 31 (0, 0))) ∧ za (Below w.heap.size w w'))
     case atStart => exact ⟨(x3_1), (((bt a0 x4_1) - 48) % 256), (0), (by rfl), (by rfl), H', ⟨Nat.le_refl _⟩, ⟨by (with_reducible repeat (first | apply Kd.R_alloc | apply Kd.R_drewN | apply Kd.R_drew)); exact HO_3.out⟩, ⟨by exact BK115.out⟩, ⟨by (with_reducible exact HB.out)⟩⟩
     case round =>
      clear H'
      clear c3b0 c4b0 p5 q5 hx5
      obtain ⟨x3_2, x5_2, x6_2, rfl, rfl, HA, HK2, HO_3, BK115, HB⟩ := hrel
      cases gk with
      | zero => exact absurd HA.out (by simp [zab.l1])
      | succ k2 =>
       have H := HA.out
       clear HA
       simp only [zab.l1] at H
       by_cases c6 : x6_2 < (x3_2.length : Int)
       ·rw [if_pos c6] at H
        have c6b0 : decide (x6_2 < (x3_2.length : Int)) = true := decide_eq_true c6
        clear c6
        by_cases c7 : 0 ≤ x6_2
        ·rw [if_pos c7] at H
         have c7b0 : decide (0 ≤ x6_2) = true := decide_eq_true c7
         clear c7
         obtain ⟨y117, hy117⟩ : ∃ y_ : List Int, y_ = (x3_2.set (x6_2 : Int).toNat ((Int.tmod (wrap64 (x5_2 + (wrap64 (10 * (wrap64 (rd x3_2 x6_2)))))) 256) % 256)) := ⟨_, rfl⟩
         replace H : (zab.l1 k2 a0 y117 x4_1 (wrap64 (Int.tdiv (wrap64 (x5_2 + (wrap64 (10 * (wrap64 (rd x3_2 x6_2)))))) 256)) (wrap64 (x6_2 + 1))) = some (r1, r2) := by (rw [hy117]; with_reducible exact H)
         have Ny117 := za.mk hy117
         clear hy117
         have H' := za.mk H
         clear H
         obtain ⟨Ao9, co9, eo9⟩ := Kd.R_slice HO_3.out
         subst eo9
         have p116 : 0 ≤ (x6_2 : Int) := of_decide_eq_true (by (with_reducible assumption))
         have q116 : x6_2 < (x3_2.length : Int) := of_decide_eq_true (by (with_reducible assumption))
         obtain ⟨ad116, e116, hx116_0⟩ := Kd.at_int (Kd.R_reads' HO_3.out).2.2 x6_2 p116 q116
         cases e116
         replace p116 := eq_true p116
         replace q116 := eq_true q116
         have p8 : 0 ≤ (x6_2 : Int) := of_decide_eq_true (by (with_reducible assumption))
         have q8 : (x6_2 : Int) < ((x3_2.length : Int) : Int) := of_decide_eq_true (by (with_reducible assumption))
         obtain ⟨go8, co8, eo8, gb8, gl8, cl8, HG8⟩ := Kd.R_form HO_3.out (by omega)
         (first | cases eo8 | (injection eo8 with ea_ en_ ec_; (first | subst ea_ | (injection ea_ with ea_; subst ea_)); subst ec_; clear en_))
         have GB8 := za.mk gb8
         have GG8 := za.mk HG8
         clear gb8 gl8 HG8
         (first | simp only [add_plain] at hx116_0 | skip)
         obtain ⟨hx8_0, hf8_0⟩ := Kd.R_celln 0 HO_3.out (x6_2 : Int) p8 q8
         replace p8 := eq_true p8
         replace q8 := eq_true q8
         have HP10 := Kd.R_putg HO_3.out (x6_2 : Int) ((Int.tmod (wrap64 (x5_2 + (wrap64 (10 * (wrap64 (rd x3_2 x6_2)))))) 256) % 256)
         go_wp2_with (((with_reducible refine gate_store (t := 5) (p := 39) rfl ?_); refine store_event (t := 5) (p := 39) (v := ?vo_w11) (w1 := (wr.setCell ⟨go8, (x6_2 : Int).toNat, none⟩ (.int .u8 ((Int.tmod (wrap64 (x5_2 + (wrap64 (10 * (wrap64 (rd x3_2 x6_2)))))) 256) % 256)))) ?hg ?ho ?hn ?hr ?_; (case ho => rfl); (case hg => rfl); (case hn => rfl); (case hr => first | (go_simp; done) | (go_simp; rfl)); intro w11 hw; have hg : wr.grownBy w11 (some go8) := (by rw [hw]; exact HP10.2); have hp_ : Kd.R (Kd.int .u8) 5 w11 w.heap.size (fun _ => True) (.slice (some ⟨go8, 0, none⟩) x3_2.length co9) y117 := (by rw [hw, Ny117.out]; exact HP10.1); clear HP10; have n0_ := za.mk hp_; have n1_ := za.mk (zrd BK115.out hg (Kd.R_ne HO_3.out BK115.out (by decide))); have n2_ := za.mk ((by rw [hw]; exact zk (HB.out) GB8.out : Below w.heap.size w w11)); clear HO_3; clear BK115; clear HB; have HO_3 := n0_; have BK115 := n1_; have HB := n2_; clear n0_ n1_ n2_; clear hg hw hp_))
         go_roundg k2
         case measure => have := HK1.out; have := HK2.out; omega
         case rel => exact ⟨(y117), (wrap64 (Int.tdiv (wrap64 (x5_2 + (wrap64 (10 * (wrap64 (rd x3_2 x6_2)))))) 256)), (wrap64 (x6_2 + 1)), (by rfl), (by rfl), H', ⟨by have := HK1.out; have := HK2.out; omega⟩, ⟨by (with_reducible repeat (first | apply Kd.R_alloc | apply Kd.R_drewN | apply Kd.R_drew)); exact HO_3.out⟩, ⟨by exact BK115.out⟩, ⟨by (with_reducible exact HB.out)⟩⟩
        ·rw [if_neg c7] at H
         exact absurd H (by simp)
       ·rw [if_neg c6] at H
        have c6b0 : decide (x6_2 < (x3_2.length : Int)) = false := decide_eq_false c6
        clear c6
        by_cases c12 : x5_2 > 0
        ·rw [if_pos c12] at H
         have c12b0 : decide (0 < x5_2) = true := decide_eq_true c12
         clear c12
         by_cases c13 : x3_2.length < 140737488355328
         ·rw [if_pos c13] at H
          have LMc13 := za.mk c13
          clear c13
          obtain ⟨y118, hy118⟩ : ∃ y_ : List Int, y_ = (x3_2 ++ [(x5_2) % 256]) := ⟨_, rfl⟩
          replace H : (zab.l0 k2 a0 y118 (wrap64 (x4_1 + 1))) = some (r1, r2) := by (rw [hy118]; with_reducible exact H)
          have Ny118 := za.mk hy118
          clear hy118
          have H' := za.mk H
          clear H
          obtain ⟨Ao14, co14, eo14⟩ := Kd.R_slice HO_3.out
          subst eo14
          go_wp2_with (((with_reducible refine zoe (b := .append) (xs := #[.tmp 44, .tmp 47]) rfl ?_); at_builtin; refine Kd.R_append (Kd.int .u8) (w0 := w) w.heap.size rfl (.tmp 44) (.tmp 47) 23 5 (.int .u8 0) 1 rfl Tryz.underlying23 info5 rfl (by decide) (by omega) (.slice Ao14 x3_2.length co14) x3_2 ((x5_2) % 256) [.int .u8 ((x5_2) % 256)] (fun _ => True) (fun _ => False) rfl rfl ?aP (fun _ hk => hk.elim) ?aF ?aO ?aB ?aS ?aL ?_; (case aP => exact rfl); (case aB => exact (by (with_reducible exact HB.out))); (case aF => exact (fun _ _ => trivial)); (case aO => exact (by (with_reducible repeat (first | apply Kd.R_alloc | apply Kd.R_drewN | apply Kd.R_drew)); exact HO_3.out)); (case aS => exact (zl (by (with_reducible exact HB.out)))); (case aL => have := LMc13.out; omega); intro v119 w15 ho hb hg hat; rw [← Ny118.out] at ho; replace BK115 := za.mk (zrd BK115.out hg (Kd.R_ne HO_3.out BK115.out (by decide))); have HO120 := za.mk ho; replace HB := za.mk hb; clear HO_3; clear ho hb hg hat))
          go_roundg k2
          case measure => have := HK1.out; have := HK2.out; omega
          case rel => exact ⟨(y118), (wrap64 (x4_1 + 1)), (by rfl), H', ⟨by have := HK1.out; have := HK2.out; omega⟩, ⟨by (with_reducible repeat (first | apply Kd.R_alloc | apply Kd.R_drewN | apply Kd.R_drew)); exact HO120.out⟩, ⟨by exact BK115.out⟩, ⟨by (with_reducible exact HB.out)⟩⟩
         ·rw [if_neg c13] at H
          exact absurd H (by simp)
        ·rw [if_neg c12] at H
         have c12b0 : decide (0 < x5_2) = false := decide_eq_false c12
         clear c12
         have H' := za.mk H
         clear H
         obtain ⟨Ao16, co16, eo16⟩ := Kd.R_slice HO_3.out
         subst eo16
         go_wp2
         go_roundg k2
         case measure => have := HK1.out; have := HK2.out; omega
         case rel => exact ⟨(x3_2), (wrap64 (x4_1 + 1)), (by rfl), H', ⟨by have := HK1.out; have := HK2.out; omega⟩, ⟨by (with_reducible repeat (first | apply Kd.R_alloc | apply Kd.R_drewN | apply Kd.R_drew)); exact HO_3.out⟩, ⟨by exact BK115.out⟩, ⟨by (with_reducible exact HB.out)⟩⟩
    ·rw [if_neg c4] at H
     exact absurd H (by simp)
   ·rw [if_neg c3] at H
    have c3b0 : decide (x4_1 < (a0.size : Int)) = false := decide_eq_false c3
    clear c3
    by_cases c17 : 0 ≤ (x3_1.length : Int)
    ·rw [if_pos c17] at H
     have c17b0 := eq_true c17
     have c17b1 : decide (0 ≤ (x3_1.length : Int)) = true := decide_eq_true c17
     clear c17
     by_cases c18 : ((x3_1.length : Int) : Int).toNat ≤ 281474976710656
     ·rw [if_pos c18] at H
      have c18b0 := eq_true c18
      have c18b1 : decide (((x3_1.length : Int) : Int).toNat ≤ 281474976710656) = true := decide_eq_true c18
      clear c18
      obtain ⟨y121, hy121⟩ : ∃ y_ : List Int, y_ = (List.replicate ((x3_1.length : Int) : Int).toNat 0) := ⟨_, rfl⟩
      replace H : (zab.l2 k1 x3_1 y121 0) = some (r1, r2) := by (rw [hy121]; with_reducible exact H)
      have Ny121 := za.mk hy121
      clear hy121
      have H' := za.mk H
      clear H
      obtain ⟨Ao19, co19, eo19⟩ := Kd.R_slice HO_3.out
      subst eo19
      go_wp2_with (((with_reducible refine zmb (N := 51) rfl ?_); refine Kd.R_make (Kd.int .u8) _ 5 rfl (N := 51) rfl 23 _ _ rfl (x3_1.length : Int) rfl rfl Tryz.underlying23 (.int .u8 0) 1 info5 rfl (by decide) (by omega) 0 (ok := fun _ => True) (okp := fun _ => True) rfl (fun _ hk => hk) trivial (of_decide_eq_true (by (with_reducible assumption))) (Nat.le_trans (Nat.mul_le_mul_right _ (of_decide_eq_true (by (with_reducible assumption)) : (x3_1.length : Int).toNat ≤ 281474976710656)) (by omega)) (Below.refl _ _) (Nat.le_refl _) ?_; intro v122 w20 ho21 hb hg_ hnew_; clear hg_ hnew_; (first | rw [← Ny121.out] at ho21 | (simp only [Int.reduceToNat] at ho21; rw [← Ny121.out] at ho21)); have n0_ := za.mk (Kd.R_elder' (by (with_reducible repeat (first | apply Kd.R_alloc | apply Kd.R_drewN | apply Kd.R_drew)); exact HO_3.out) (Kd.R_base ho21) hb); have n1_ := za.mk (Kd.R_lower (Kd.R_new' ho21 (Kd.R_lt (by (with_reducible repeat (first | apply Kd.R_alloc | apply Kd.R_drewN | apply Kd.R_drew)); exact HO_3.out))) (zl (by (with_reducible exact HB.out)))); have n2_ := za.mk (ze BK115.out hb); have n3_ := za.mk (zm (by (with_reducible exact HB.out)) hb); clear HO_3; clear BK115; clear HB; have HO_3 := n0_; have HO123 := n1_; have BK115 := n2_; have HB := n3_; clear n0_ n1_ n2_ n3_; clear hb ho21))
      (try simp only [Act.put, List.setIfInBounds_toArray, List.set_cons_zero, List.set_cons_succ])
      go_loopg [8] k1 (fun kq v8 w' => ∃ (x7_2 : List Int) (x8_2 : Int), v8 = .int .i64 x8_2 ∧ za (zab.l2 kq x3_1 x7_2 x8_2 = some (r1, r2)) ∧ za (kq ≤ k1) ∧ za (Kd.R (Kd.int .u8) 5 w' w.heap.size (fun k_ => some k_ ≠ (v122 : Value).ownBlock) (.slice Ao19 x3_1.length co19) x3_1) ∧ za (Kd.R (Kd.int .u8) 5 w' w.heap.size (fun k_ => some k_ ≠ ((.slice Ao19 x3_1.length co19) : Value).ownBlock) v122 x7_2) ∧ za (w'.heap[gb115]? = some (.cells #[.bool false, .string ⟨#[]⟩] 31 (0, 0))) ∧ za (Below w.heap.size w w'))
      case atStart => exact ⟨(y121), (0), (by rfl), H', ⟨Nat.le_refl _⟩, ⟨by (with_reducible repeat (first | apply Kd.R_alloc | apply Kd.R_drewN | apply Kd.R_drew)); exact Kd.R_mono HO_3.out (fun _ hk => hk.2)⟩, ⟨by (with_reducible repeat (first | apply Kd.R_alloc | apply Kd.R_drewN | apply Kd.R_drew)); exact Kd.R_mono HO123.out (fun _ hk => hk.2)⟩, ⟨by exact BK115.out⟩, ⟨by (with_reducible exact HB.out)⟩⟩
      case round =>
       clear H'
       clear c3b0 c17b0 c17b1 c18b0 c18b1
       obtain ⟨x7_2, x8_2, rfl, HA, HK2, HO_3, HO_7, BK115, HB⟩ := hrel
       cases gk with
       | zero => exact absurd HA.out (by simp [zab.l2])
       | succ k2 =>
        have H := HA.out
        clear HA
        simp only [zab.l2] at H
        by_cases c22 : x8_2 < (x3_1.length : Int)
        ·rw [if_pos c22] at H
         have c22b0 : decide (x8_2 < (x3_1.length : Int)) = true := decide_eq_true c22
         clear c22
         by_cases c23 : 0 ≤ x8_2
         ·rw [if_pos c23] at H
          have c23b0 : decide (0 ≤ x8_2) = true := decide_eq_true c23
          clear c23
          obtain ⟨ji24, hji24⟩ : ∃ j_ : Int, (wrap64 ((wrap64 ((x3_1.length : Int) - 1)) - x8_2)) = j_ := ⟨_, rfl⟩
          replace H : (if 0 ≤ (ji24) then (if (ji24) < (x7_2.length : Int) then (zab.l2 k2 x3_1 (x7_2.set ((ji24) : Int).toNat (rd x3_1 x8_2)) (wrap64 (x8_2 + 1))) else (none)) else (none)) = some (r1, r2) := by (rw [hji24] at H; exact H)
          have hji24w : (IntKind.i64.wrap ((wrap64 ((x3_1.length : Int) - 1)) - x8_2)) = ji24 := (i64_w _).trans hji24
          by_cases c25 : 0 ≤ (ji24)
          ·rw [if_pos c25] at H
           have c25b0 : decide (0 ≤ (ji24)) = true := decide_eq_true c25
           clear c25
           by_cases c26 : (ji24) < (x7_2.length : Int)
           ·rw [if_pos c26] at H
            have c26b0 : decide ((ji24) < (x7_2.length : Int)) = true := decide_eq_true c26
            clear c26
            obtain ⟨y125, hy125⟩ : ∃ y_ : List Int, y_ = (x7_2.set ((ji24) : Int).toNat (rd x3_1 x8_2)) := ⟨_, rfl⟩
            replace H : (zab.l2 k2 x3_1 y125 (wrap64 (x8_2 + 1))) = some (r1, r2) := by (rw [hy125]; with_reducible exact H)
            have Ny125 := za.mk hy125
            clear hy125
            have H' := za.mk H
            clear H
            have p124 : 0 ≤ (x8_2 : Int) := of_decide_eq_true (by (with_reducible assumption))
            have q124 : x8_2 < (x3_1.length : Int) := of_decide_eq_true (by (with_reducible assumption))
            obtain ⟨ad124, e124, hx124_0⟩ := Kd.at_int (Kd.R_reads' HO_3.out).2.2 x8_2 p124 q124
            cases e124
            replace p124 := eq_true p124
            replace q124 := eq_true q124
            have p27 : 0 ≤ ((ji24) : Int) := of_decide_eq_true (by (with_reducible assumption))
            have q27 : ((ji24) : Int) < ((x7_2.length : Int) : Int) := of_decide_eq_true (by (with_reducible assumption))
            obtain ⟨go27, co27, eo27, gb27, gl27, cl27, HG27⟩ := Kd.R_form HO_7.out (by omega)
            (first | cases eo27 | (injection eo27 with ea_ en_ ec_; (first | subst ea_ | (injection ea_ with ea_; subst ea_)); subst ec_; clear en_))
            have GB27 := za.mk gb27
            have GG27 := za.mk HG27
            clear gb27 gl27 HG27
            obtain ⟨hx27_0, hf27_0⟩ := Kd.R_celln 0 HO_7.out ((ji24) : Int) p27 q27
            replace p27 := eq_true p27
            replace q27 := eq_true q27
            have HP28 := Kd.R_putg HO_7.out ((ji24) : Int) (rd x3_1 x8_2)
            go_wp2_with (((with_reducible refine gate_store (t := 5) (p := 68) rfl ?_); refine store_event (t := 5) (p := 68) (v := ?vo_w29) (w1 := (wr.setCell ⟨go27, ((ji24) : Int).toNat, none⟩ (.int .u8 (rd x3_1 x8_2)))) ?hg ?ho ?hn ?hr ?_; (case ho => rfl); (case hg => rfl); (case hn => rfl); (case hr => first | (go_simp; done) | (go_simp; rfl)); intro w29 hw; have hg : wr.grownBy w29 (some go27) := (by rw [hw]; exact HP28.2); have hp_ : Kd.R (Kd.int .u8) 5 w29 w.heap.size (fun k_ => some k_ ≠ (.slice (some ad124) x3_1.length co19 : Value).ownBlock) (.slice (some ⟨go27, 0, none⟩) x7_2.length co27) y125 := (by rw [hw, Ny125.out]; exact HP28.1); clear HP28; have n0_ := za.mk (Kd.R_after (v := (.slice (some ⟨go27, 0, none⟩) x7_2.length co27)) (v1 := (.slice (some ⟨go27, 0, none⟩) x7_2.length co27)) (ok := (fun _ => True)) (by (with_reducible repeat (first | apply Kd.R_alloc | apply Kd.R_drewN | apply Kd.R_drew)); exact Kd.R_mono HO_3.out (fun _ hk => ⟨trivial, hk⟩)) hg (.inl rfl)); have n1_ := za.mk hp_; have n2_ := za.mk (zrd BK115.out hg (Kd.R_ne HO_7.out BK115.out (by decide))); have n3_ := za.mk ((by rw [hw]; exact zk (HB.out) GB27.out : Below w.heap.size w w29)); clear HO_3; clear HO_7; clear BK115; clear HB; have HO_3 := n0_; have HO_7 := n1_; have BK115 := n2_; have HB := n3_; clear n0_ n1_ n2_ n3_; clear hg hw hp_))
            go_roundg k2
            case measure => have := HK1.out; have := HK2.out; omega
            case rel => exact ⟨(y125), (wrap64 (x8_2 + 1)), (by rfl), H', ⟨by have := HK1.out; have := HK2.out; omega⟩, ⟨by (with_reducible repeat (first | apply Kd.R_alloc | apply Kd.R_drewN | apply Kd.R_drew)); exact Kd.R_mono HO_3.out (fun _ hk => hk.2)⟩, ⟨by (with_reducible repeat (first | apply Kd.R_alloc | apply Kd.R_drewN | apply Kd.R_drew)); exact HO_7.out⟩, ⟨by exact BK115.out⟩, ⟨by (with_reducible exact HB.out)⟩⟩
           ·rw [if_neg c26] at H
            exact absurd H (by simp)
          ·rw [if_neg c25] at H
           exact absurd H (by simp)
         ·rw [if_neg c23] at H
          exact absurd H (by simp)
        ·rw [if_neg c22] at H
         have c22b0 : decide (x8_2 < (x3_1.length : Int)) = false := decide_eq_false c22
         clear c22
         simp only [Option.some.injEq, Prod.mk.injEq] at H
         obtain ⟨rfl, rfl⟩ := H
         have hcv30 := own_string (P := Tryz.prog) Tryz.underlying23 Tryz.underlying5 Tryz.underlying9 (Kd.own_of_R HO_7.out)
         obtain ⟨hcz31_0, hcz31_1, hfz31_0, hfz31_1⟩ := cl2 BK115.out
         go_wp2
         refine bodyPost_ret (results_cell_row rfl _ _ gb115 31 #[.bool false, .string (strOfNums x7_2)] (0, 0) _ rfl (by exact put2 BK115.out) Tryz.underlying31 rfl (by kernel_rfl)) rfl ?_
         exact ⟨by rfl, by (with_reducible refine zk ?_ GE115.out; with_reducible refine zk ?_ GE115.out; with_reducible exact HB.out)⟩
     ·rw [if_neg c18] at H
      exact absurd H (by simp)
    ·rw [if_neg c17] at H
     exact absurd H (by simp)
def zlc.f (a0 : Int) : Option (Bool) := if a0 ≥ 48 then (some (decide (a0 ≤ 57))) else (some false)
theorem zlc.calls (a0 : Int) (r : Bool) (w : World) (h : zlc.f a0 = some r) :
  Calls Tryz.prog 40 #[.int .u8 a0] w fun e w' => e = .returned (.bool r) ∧ zo w w' := by
 have H : (if a0 ≥ 48 then (some (decide (a0 ≤ 57))) else (some false)) = some r := h
 clear h
 by_cases c2 : a0 ≥ 48
 ·rw [if_pos c2] at H
  have c2b0 : decide (48 ≤ a0) = true := decide_eq_true c2
  clear c2
  obtain rfl := Option.some.inj H
  go_enter Tryz.func40, Tryz.ntmps40
  go_wp2
  go_ret
  exact ⟨by rfl, by repeat (first | exact zo.refl _ | apply zo.step)⟩
 ·rw [if_neg c2] at H
  have c2b0 : decide (48 ≤ a0) = false := decide_eq_false c2
  clear c2
  obtain rfl := Option.some.inj H
  go_enter Tryz.func40, Tryz.ntmps40
  go_wp2
  go_ret
  exact ⟨by rfl, by repeat (first | exact zo.refl _ | apply zo.step)⟩
def zub.l0 : Nat → ByteArray → Int → Option (Bool)
 | 0, _, _ => none
 | k + 1, x0, x3 => if x3 < (x0.size : Int) then (if 0 ≤ x3 then ((zlc.f (bt x0 x3)).bind fun t126 => (if t126 = true then (zub.l0 k x0 (wrap64 (x3 + 1))) else (some false))) else (none)) else (some (decide ((x0.size : Int) > 0)))
def zub.f (k : Nat) (a0 : ByteArray) : Option (Bool) := zub.l0 k a0 0
theorem zub.calls (k : Nat) (a0 : ByteArray) (r : Bool) (w : World) (h : zub.f k a0 = some r) :
  Calls Tryz.prog 78 #[.string a0] w fun e w' => e = .returned (.bool r) ∧ zo w w' := by
 have H : (zub.l0 k a0 0) = some r := h
 clear h
 have H' := za.mk H
 clear H
 go_enter Tryz.func78, Tryz.ntmps78
 go_wp2
 (try simp only [Act.put, List.setIfInBounds_toArray, List.set_cons_zero, List.set_cons_succ])
 go_loopg [3] k (fun kq v3 w' => ∃ (x3_1 : Int), v3 = .int .i64 x3_1 ∧ za (zub.l0 kq a0 x3_1 = some r) ∧ za (kq ≤ k) ∧ zo w w')
 case atStart => exact ⟨(0), (by rfl), H', ⟨Nat.le_refl _⟩, by repeat (first | exact zo.refl _ | apply zo.step)⟩
 case round =>
  clear H'
  obtain ⟨x3_1, rfl, HA, HK1, ⟨m1, rfl⟩⟩ := hrel
  cases gk with
  | zero => exact absurd HA.out (by simp [zub.l0])
  | succ k1 =>
   have H := HA.out
   clear HA
   simp only [zub.l0] at H
   by_cases c2 : x3_1 < (a0.size : Int)
   ·rw [if_pos c2] at H
    have c2b0 : decide (x3_1 < (a0.size : Int)) = true := decide_eq_true c2
    clear c2
    by_cases c3 : 0 ≤ x3_1
    ·rw [if_pos c3] at H
     have c3b0 : decide (0 ≤ x3_1) = true := decide_eq_true c3
     clear c3
     replace H := Option.bind_eq_some_iff.mp H
     obtain ⟨t126, A50, H⟩ := H
     replace H : (if t126 = true then (zub.l0 k1 a0 (wrap64 (x3_1 + 1))) else (some false)) = some r := H
     have A5 := za.mk A50
     clear A50
     by_cases c6 : t126 = true
     ·subst c6
      have H1 : (zub.l0 k1 a0 (wrap64 (x3_1 + 1))) = some r := by rw [if_pos rfl] at H; exact H
      clear H
      have H := H1
      clear H1
      have H' := za.mk H
      clear H
      have p4 : 0 ≤ (x3_1 : Int) := of_decide_eq_true (by (with_reducible assumption))
      have q4 : x3_1 < (a0.size : Int) := of_decide_eq_true (by (with_reducible assumption))
      have hx4 := bt_at a0 x3_1
      replace p4 := eq_true p4
      replace q4 := eq_true q4
      go_wp2_with (((with_reducible refine zx (f := 40) rfl ?_); refine zdc (some 13) rfl rfl Tryz.func40 (by kernel_rfl) rfl #[.int .u8 (bt a0 x3_1)] rfl (by (try simp only [List.map_toArray, List.map_cons, List.map_nil]); first | done | rfl | (simp only [List.length_drop, List.length_take]; rfl)) ?_; (with_reducible refine (zlc.calls (bt a0 x3_1) true _ A5.out).mono ?_); rintro e w' ⟨rfl, ⟨nd, rfl⟩⟩; refine ⟨_, rfl, ?_⟩))
      go_roundg k1
      case measure => have := HK1.out; omega
      case rel => exact ⟨(wrap64 (x3_1 + 1)), (by rfl), H', ⟨by have := HK1.out; omega⟩, by repeat (first | exact zo.refl _ | apply zo.step)⟩
     ·replace c6 := Bool.eq_false_iff.mpr c6
      subst c6
      have H1 : (some false) = some r := by rw [if_neg (show ¬ (false = true) by decide)] at H; exact H
      clear H
      have H := H1
      clear H1
      obtain rfl := Option.some.inj H
      have p4 : 0 ≤ (x3_1 : Int) := of_decide_eq_true (by (with_reducible assumption))
      have q4 : x3_1 < (a0.size : Int) := of_decide_eq_true (by (with_reducible assumption))
      have hx4 := bt_at a0 x3_1
      replace p4 := eq_true p4
      replace q4 := eq_true q4
      go_wp2_with (((with_reducible refine zx (f := 40) rfl ?_); refine zdc (some 13) rfl rfl Tryz.func40 (by kernel_rfl) rfl #[.int .u8 (bt a0 x3_1)] rfl (by (try simp only [List.map_toArray, List.map_cons, List.map_nil]); first | done | rfl | (simp only [List.length_drop, List.length_take]; rfl)) ?_; (with_reducible refine (zlc.calls (bt a0 x3_1) false _ A5.out).mono ?_); rintro e w' ⟨rfl, ⟨nd, rfl⟩⟩; refine ⟨_, rfl, ?_⟩))
      go_ret
      exact ⟨by rfl, by repeat (first | exact zo.refl _ | apply zo.step)⟩
    ·rw [if_neg c3] at H
     exact absurd H (by simp)
   ·rw [if_neg c2] at H
    have c2b0 : decide (x3_1 < (a0.size : Int)) = false := decide_eq_false c2
    clear c2
    obtain rfl := Option.some.inj H
    go_wp2
    go_ret
    exact ⟨by rfl, by repeat (first | exact zo.refl _ | apply zo.step)⟩
mutual
def zwb.j0 : Nat → ByteArray → Bool → Bool → Option (Bool × ByteArray × Bool)
 | 0, _, _, _ => none
 | k + 1, x0, x4, x17 => if x17 = true then (if 0 < (x0.size : Int) then (if 1 ≤ (x0.size : Int) then (zwb.j1 k (x0.extract 1 x0.size) ((bt x0 0) == 45)) else (none)) else (none)) else (zwb.j1 k x0 x4)
def zwb.j1 : Nat → ByteArray → Bool → Option (Bool × ByteArray × Bool)
 | 0, _, _ => none
 | k + 1, x0, x4 => (zub.f k x0).bind fun t128 => (if t128 = true then ((zab.f k x0).bind fun bt129 => (if x4 = true then (some ((bt129.2.toList != ([] : List UInt8)), bt129.2, true)) else (some (false, bt129.2, true)))) else (some (false, (⟨#[]⟩ : ByteArray), false)))
end
def zwb.f (k : Nat) (a0 : ByteArray) : Option (Bool × ByteArray × Bool) := if (a0.size : Int) > 0 then (if 0 < (a0.size : Int) then (if (bt a0 0) = 43 then (zwb.j0 k a0 false true) else (zwb.j0 k a0 false ((bt a0 0) == 45))) else (none)) else (zwb.j0 k a0 false false)
theorem zwb.calls (k : Nat) (a0 : ByteArray) (r1 : Bool) (r2 : ByteArray) (r3 : Bool) (w : World) (h : zwb.f k a0 = some (r1, r2, r3)) :
  Calls Tryz.prog 59 #[.string a0] w fun e w' => e = .returned (.tuple #[.agg #[.bool r1, .string r2], .bool r3]) ∧ Below w.heap.size w w' := by
 have hu31 := Tryz.underlying31
 have HB := za.mk (Below.refl w.heap.size w)
 have H : (if (a0.size : Int) > 0 then (if 0 < (a0.size : Int) then (if (bt a0 0) = 43 then (zwb.j0 k a0 false true) else (zwb.j0 k a0 false ((bt a0 0) == 45))) else (none)) else (zwb.j0 k a0 false false)) = some (r1, r2, r3) := h
 clear h
 have HC2 := za.mk H
 clear H
 go_enter Tryz.func59, Tryz.ntmps59
 go_upto_region 2 with (((with_reducible refine zmb (N := 2) rfl ?_); refine zrb ?hg (N := 2) ?hd (cs := #[.bool false, .string ⟨#[]⟩]) (t := 31) ?hr ?_; (case hd => rfl); (case hg => rfl); (case hr => first | (go_simp; done) | (go_simp; rfl)); intro gb127 hg w3 hbox hb; have BK127 := za.mk hbox; have GW127 := za.mk ((by rw [hg]; exact (zl (by (with_reducible exact HB.out))) : w.heap.size ≤ gb127)); have GE127 := za.mk ((by rw [hg]; exact (zl (by (with_reducible exact HB.out))) : w.heap.size ≤ gb127)); replace HB := za.mk (zm (by (with_reducible exact HB.out)) hb); clear hb hbox hg))
 repeat (go_quiet (fail); go_upto_region 2 with (fail))
 (try simp only [Act.put, List.setIfInBounds_toArray, List.set_cons_zero, List.set_cons_succ])
 go_cut [17] (fun v17 wc => ∃ (kq : Nat) (x17_1 : Bool), v17 = .bool x17_1 ∧ za (zwb.j0 kq a0 false x17_1 = some (r1, r2, r3)) ∧ za (kq ≤ k) ∧ za (wc.heap[gb127]? = some (.cells #[.bool false, .string ⟨#[]⟩] 31 (0, 0))) ∧ za (Below w.heap.size w wc))
 case first =>
  have H := HC2.out
  clear HC2
  by_cases c4 : (a0.size : Int) > 0
  ·rw [if_pos c4] at H
   have c4b0 : decide (0 < (a0.size : Int)) = true := decide_eq_true c4
   have c4b1 : decide (0 < a0.size) = true := decide_eq_true (by omega)
   clear c4
   (first | rw [c4b0] | (simp only [i64_w, i32_w]; rw [c4b0]) | skip)
   by_cases c5 : 0 < (a0.size : Int)
   ·rw [if_pos c5] at H
    have c5b0 : decide (0 < (a0.size : Int)) = true := decide_eq_true c5
    have c5b1 : decide (0 < a0.size) = true := decide_eq_true (by omega)
    clear c5
    by_cases c7 : (bt a0 0) = 43
    ·rw [if_pos c7] at H
     have c7b0 : ((bt a0 0) == 43) = true := beq_iff_eq.mpr c7
     have c7b1 : ((bt a0 0) != 43) = false := bne_eq_false_iff_eq.mpr c7
     clear c7
     have H' := za.mk H
     clear H
     have p6 : 0 ≤ (0 : Int) := (by omega)
     have q6 : 0 < a0.size := (by have : (0 : Int) < (a0.size : Int) := of_decide_eq_true (by (with_reducible assumption)); omega)
     have hx6 : ∀ h : 0 < a0.size, ((a0[0]'h).toNat : Int) = bt a0 0 := bt_at a0 0
     clear p6
     have qi6 : (0 < (a0.size : Int)) = True := eq_true (of_decide_eq_true (by (with_reducible assumption)))
     replace q6 := eq_true q6
     go_wp2
     repeat (go_quiet (fail); try go_wp2)
     go_meet
     case rel => exact ⟨_, (true), (by rfl), H', ⟨by omega⟩, ⟨by exact BK127.out⟩, ⟨by (with_reducible exact HB.out)⟩⟩
    ·rw [if_neg c7] at H
     have c7b0 : ((bt a0 0) == 43) = false := beq_eq_false_iff_ne.mpr c7
     have c7b1 : ((bt a0 0) != 43) = true := bne_iff_ne.mpr c7
     have H' := za.mk H
     clear H
     have p6 : 0 ≤ (0 : Int) := (by omega)
     have q6 : 0 < a0.size := (by have : (0 : Int) < (a0.size : Int) := of_decide_eq_true (by (with_reducible assumption)); omega)
     have hx6 : ∀ h : 0 < a0.size, ((a0[0]'h).toNat : Int) = bt a0 0 := bt_at a0 0
     clear p6
     have qi6 : (0 < (a0.size : Int)) = True := eq_true (of_decide_eq_true (by (with_reducible assumption)))
     replace q6 := eq_true q6
     have p8 : 0 ≤ (0 : Int) := (by omega)
     have q8 : 0 < a0.size := (by have : (0 : Int) < (a0.size : Int) := of_decide_eq_true (by (with_reducible assumption)); omega)
     have hx8 : ∀ h : 0 < a0.size, ((a0[0]'h).toNat : Int) = bt a0 0 := bt_at a0 0
     clear p8
     have qi8 : (0 < (a0.size : Int)) = True := eq_true (of_decide_eq_true (by (with_reducible assumption)))
     replace q8 := eq_true q8
     go_wp2
     repeat (go_quiet (fail); try go_wp2)
     go_meet
     case rel => exact ⟨_, (((bt a0 0) == 45)), (by rfl), H', ⟨by omega⟩, ⟨by exact BK127.out⟩, ⟨by (with_reducible exact HB.out)⟩⟩
   ·rw [if_neg c5] at H
    exact absurd H (by simp)
  ·rw [if_neg c4] at H
   have c4b0 : decide (0 < (a0.size : Int)) = false := decide_eq_false c4
   have c4b1 : decide (0 < a0.size) = false := decide_eq_false (by omega)
   clear c4
   (first | rw [c4b0] | (simp only [i64_w, i32_w]; rw [c4b0]) | skip)
   have H' := za.mk H
   clear H
   go_wp2
   repeat (go_quiet (fail); try go_wp2)
   go_meet
   case rel => exact ⟨_, (false), (by rfl), H', ⟨by omega⟩, ⟨by exact BK127.out⟩, ⟨by (with_reducible exact HB.out)⟩⟩
 case rest =>
  clear HC2
  obtain ⟨kq, x17_1, rfl, HA, HJ1, BK127, HB⟩ := hcut
  cases kq with
  | zero => exact absurd HA.out (by simp [zwb.j0])
  | succ kj1 =>
   have H := HA.out
   clear HA
   simp only [zwb.j0] at H
   have HC9 := za.mk H
   clear H
   go_upto_if 17 with (fail)
   repeat (go_quiet (fail); go_upto_if 17 with (fail))
   go_cut [0, 4, 17] (fun v0 v4 v17 wc => ∃ (kq : Nat) (x0_8 : ByteArray) (x4_8 : Bool), v0 = .string x0_8 ∧ v4 = .bool x4_8 ∧ za (zwb.j1 kq x0_8 x4_8 = some (r1, r2, r3)) ∧ za (kq ≤ kj1) ∧ za (wc.heap[gb127]? = some (.cells #[.bool false, .string ⟨#[]⟩] 31 (0, 0))) ∧ za (Below w.heap.size w wc))
   case first =>
    have H := HC9.out
    clear HC9
    by_cases c10 : x17_1 = true
    ·subst c10
     have H1 : (if 0 < (a0.size : Int) then (if 1 ≤ (a0.size : Int) then (zwb.j1 kj1 (a0.extract 1 a0.size) ((bt a0 0) == 45)) else (none)) else (none)) = some (r1, r2, r3) := by rw [if_pos rfl] at H; exact H
     clear H
     have H := H1
     clear H1
     by_cases c11 : 0 < (a0.size : Int)
     ·rw [if_pos c11] at H
      have c11b0 : decide (0 < (a0.size : Int)) = true := decide_eq_true c11
      have c11b1 : decide (0 < a0.size) = true := decide_eq_true (by omega)
      clear c11
      (first | rw [c11b0] | (simp only [i64_w, i32_w]; rw [c11b0]) | skip)
      by_cases c13 : 1 ≤ (a0.size : Int)
      ·rw [if_pos c13] at H
       have c13b0 := eq_true c13
       have c13b1 : decide (1 ≤ (a0.size : Int)) = true := decide_eq_true c13
       clear c13
       have H' := za.mk H
       clear H
       have p12 : 0 ≤ (0 : Int) := (by omega)
       have q12 : 0 < a0.size := (by have : (0 : Int) < (a0.size : Int) := of_decide_eq_true (by (with_reducible assumption)); omega)
       have hx12 : ∀ h : 0 < a0.size, ((a0[0]'h).toNat : Int) = bt a0 0 := bt_at a0 0
       clear p12
       have qi12 : (0 < (a0.size : Int)) = True := eq_true (of_decide_eq_true (by (with_reducible assumption)))
       replace q12 := eq_true q12
       go_wp2
       repeat (go_quiet (fail); try go_wp2)
       go_meet
       case rel => exact ⟨_, (a0.extract 1 a0.size), (((bt a0 0) == 45)), (by rfl), (by rfl), (by exact H'), ⟨by have := HJ1.out; first | omega | exact Nat.le_refl _⟩, ⟨by (with_reducible (refine zib ?_ _)); exact BK127.out⟩, ⟨by (with_reducible apply zc; with_reducible exact HB.out)⟩⟩
      ·rw [if_neg c13] at H
       exact absurd H (by simp)
     ·rw [if_neg c11] at H
      exact absurd H (by simp)
    ·replace c10 := Bool.eq_false_iff.mpr c10
     subst c10
     have H1 : (zwb.j1 kj1 a0 false) = some (r1, r2, r3) := by rw [if_neg (show ¬ (false = true) by decide)] at H; exact H
     clear H
     have H := H1
     clear H1
     have H' := za.mk H
     clear H
     go_wp2
     repeat (go_quiet (fail); try go_wp2)
     go_meet
     case rel => exact ⟨_, (a0), (false), (by rfl), (by rfl), (by exact H'), ⟨by have := HJ1.out; first | omega | exact Nat.le_refl _⟩, ⟨by exact BK127.out⟩, ⟨by (with_reducible exact HB.out)⟩⟩
   case rest =>
    clear HC9
    obtain ⟨kq, x0_8, x4_8, rfl, rfl, HA, HJ8, BK127, HB⟩ := hcut
    cases kq with
    | zero => exact absurd HA.out (by simp [zwb.j1])
    | succ kj8 =>
     have H := HA.out
     clear HA
     simp only [zwb.j1] at H
     replace H := Option.bind_eq_some_iff.mp H
     obtain ⟨t128, A140, H⟩ := H
     replace H : (if t128 = true then ((zab.f kj8 x0_8).bind fun bt129 => (if x4_8 = true then (some ((bt129.2.toList != ([] : List UInt8)), bt129.2, true)) else (some (false, bt129.2, true)))) else (some (false, (⟨#[]⟩ : ByteArray), false))) = some (r1, r2, r3) := H
     have A14 := za.mk A140
     clear A140
     by_cases c15 : t128 = true
     ·subst c15
      have H1 : ((zab.f kj8 x0_8).bind fun bt129 => (if x4_8 = true then (some ((bt129.2.toList != ([] : List UInt8)), bt129.2, true)) else (some (false, bt129.2, true)))) = some (r1, r2, r3) := by rw [if_pos rfl] at H; exact H
      clear H
      have H := H1
      clear H1
      replace H := Option.bind_eq_some_iff.mp H
      obtain ⟨⟨t129, t130⟩, A160, H⟩ := H
      replace H : (if x4_8 = true then (some ((t130.toList != ([] : List UInt8)), t130, true)) else (some (false, t130, true))) = some (r1, r2, r3) := H
      have A16 := za.mk A160
      clear A160
      by_cases c17 : x4_8 = true
      ·subst c17
       have H1 : (some ((t130.toList != ([] : List UInt8)), t130, true)) = some (r1, r2, r3) := by rw [if_pos rfl] at H; exact H
       clear H
       have H := H1
       clear H1
       simp only [Option.some.injEq, Prod.mk.injEq] at H
       obtain ⟨rfl, rfl, rfl⟩ := H
       go_wp2_with (first | (go_at_call 78; (with_reducible refine (zub.calls kj8 x0_8 true _ A14.out).mono ?_); rintro e w' ⟨rfl, ⟨nd, rfl⟩⟩; (try first | exact ⟨rfl, _, World.drewN_drewN _ _ _⟩ | exact ⟨rfl, _, Eq.trans (World.drewN_drewN _ _ _) (congrArg (World.drewN _) (Nat.add_assoc _ _ _))⟩)) | (go_at_call 41; (with_reducible refine (zab.calls kj8 x0_8 t129 t130 _ A16.out).mono ?_); rintro e w18 ⟨rfl, hb⟩; replace BK127 := za.mk (ze (zib BK127.out _) hb); replace HB := za.mk (zm (by (with_reducible apply zc; with_reducible exact HB.out)) hb); (try clear hb); (try clear hb2); (try clear hk); (try clear hi); obtain ⟨hcz19_0, hcz19_1, hfz19_0, hfz19_1⟩ := cl2 BK127.out))
       repeat (go_quiet (fail); try go_wp2_with (fail))
       refine bodyPost_ret (zph rfl _ _ gb127 31 #[.bool (t130.toList != ([] : List UInt8)), .string t130] (0, 0) _ rfl (by refine zdb (cs := #[.bool (t130.toList != ([] : List UInt8)), .string t130]) ?_ 1 _ (by rfl); refine zdb (cs := #[.bool (t130.toList != ([] : List UInt8)), .string t130]) ?_ 0 _ (by (simp [zoc]; done)); refine zdb (cs := #[.bool t129, .string t130]) ?_ 0 _ (by (simp [zoc]; done)); refine zdb (cs := #[.bool t129, .string ⟨#[]⟩]) ?_ 1 _ (by rfl); refine zdb (cs := #[.bool false, .string ⟨#[]⟩]) ?_ 0 _ (by rfl); exact BK127.out) Tryz.underlying31 rfl (by kernel_rfl)) rfl ?_
       exact ⟨by rfl, by repeat (first | (with_reducible first | exact HB.out | apply zj | apply zc | apply zz | refine zk ?_ GE127.out) | exact HB.out)⟩
      ·replace c17 := Bool.eq_false_iff.mpr c17
       subst c17
       have H1 : (some (false, t130, true)) = some (r1, r2, r3) := by rw [if_neg (show ¬ (false = true) by decide)] at H; exact H
       clear H
       have H := H1
       clear H1
       simp only [Option.some.injEq, Prod.mk.injEq] at H
       obtain ⟨rfl, rfl, rfl⟩ := H
       go_wp2_with (first | (go_at_call 78; (with_reducible refine (zub.calls kj8 x0_8 true _ A14.out).mono ?_); rintro e w' ⟨rfl, ⟨nd, rfl⟩⟩; (try first | exact ⟨rfl, _, World.drewN_drewN _ _ _⟩ | exact ⟨rfl, _, Eq.trans (World.drewN_drewN _ _ _) (congrArg (World.drewN _) (Nat.add_assoc _ _ _))⟩)) | (go_at_call 41; (with_reducible refine (zab.calls kj8 x0_8 t129 t130 _ A16.out).mono ?_); rintro e w20 ⟨rfl, hb⟩; replace BK127 := za.mk (ze (zib BK127.out _) hb); replace HB := za.mk (zm (by (with_reducible apply zc; with_reducible exact HB.out)) hb); (try clear hb); (try clear hb2); (try clear hk); (try clear hi); obtain ⟨hcz21_0, hcz21_1, hfz21_0, hfz21_1⟩ := cl2 BK127.out))
       repeat (go_quiet (fail); try go_wp2_with (fail))
       refine bodyPost_ret (zph rfl _ _ gb127 31 #[.bool false, .string t130] (0, 0) _ rfl (by refine zdb (cs := #[.bool false, .string t130]) ?_ 1 _ rfl; refine zdb (cs := #[.bool false, .string t130]) ?_ 0 _ rfl; refine zdb (cs := #[.bool t129, .string t130]) ?_ 0 _ rfl; exact put2 BK127.out) Tryz.underlying31 rfl (by kernel_rfl)) rfl ?_
       exact ⟨by rfl, by repeat (first | (with_reducible first | exact HB.out | apply zj | apply zc | apply zz | refine zk ?_ GE127.out) | exact HB.out)⟩
     ·replace c15 := Bool.eq_false_iff.mpr c15
      subst c15
      have H1 : (some (false, (⟨#[]⟩ : ByteArray), false)) = some (r1, r2, r3) := by rw [if_neg (show ¬ (false = true) by decide)] at H; exact H
      clear H
      have H := H1
      clear H1
      simp only [Option.some.injEq, Prod.mk.injEq] at H
      obtain ⟨rfl, rfl, rfl⟩ := H
      go_wp2_with ((go_at_call 78; (with_reducible refine (zub.calls kj8 x0_8 false _ A14.out).mono ?_); rintro e w' ⟨rfl, ⟨nd, rfl⟩⟩; (try first | exact ⟨rfl, _, World.drewN_drewN _ _ _⟩ | exact ⟨rfl, _, Eq.trans (World.drewN_drewN _ _ _) (congrArg (World.drewN _) (Nat.add_assoc _ _ _))⟩); obtain ⟨hcz22_0, hcz22_1, hfz22_0, hfz22_1⟩ := cl2 BK127.out))
      repeat (go_quiet (fail); try go_wp2_with (fail))
      refine bodyPost_ret (zph rfl _ _ gb127 31 #[.bool false, .string ⟨#[]⟩] (0, 0) _ rfl (by refine zdb (cs := #[.bool false, .string ⟨#[]⟩]) ?_ 1 _ rfl; refine zdb (cs := #[.bool false, .string ⟨#[]⟩]) ?_ 0 _ rfl; (with_reducible (refine zib ?_ _)); exact BK127.out) Tryz.underlying31 rfl (by kernel_rfl)) rfl ?_
      exact ⟨by rfl, by (with_reducible refine zk ?_ GE127.out; with_reducible refine zk ?_ GE127.out; with_reducible apply zc; with_reducible exact HB.out)⟩
def zhe.f (k : Nat) (a0 : ByteArray) : Option (Bool × ByteArray × Bool) := (zwb.f k a0).bind fun bt132 => (some (bt132.1, bt132.2.1, bt132.2.2))
theorem zhe.calls (k : Nat) (a0 : ByteArray) (r1 : Bool) (r2 : ByteArray) (r3 : Bool) (w : World) (h : zhe.f k a0 = some (r1, r2, r3)) :
  Calls Tryz.prog 45 #[.string a0] w fun e w' => e = .returned (.tuple #[.agg #[.bool r1, .string r2], .bool r3]) ∧ Below w.heap.size w w' := by
 have hu31 := Tryz.underlying31
 have HB := za.mk (Below.refl w.heap.size w)
 have H : ((zwb.f k a0).bind fun bt132 => (some (bt132.1, bt132.2.1, bt132.2.2))) = some (r1, r2, r3) := h
 clear h
 replace H := Option.bind_eq_some_iff.mp H
 obtain ⟨⟨t132, t133, t134⟩, A20, H⟩ := H
 replace H : (some (t132, t133, t134)) = some (r1, r2, r3) := H
 have A2 := za.mk A20
 clear A20
 simp only [Option.some.injEq, Prod.mk.injEq] at H
 obtain ⟨rfl, rfl, rfl⟩ := H
 go_enter Tryz.func45, Tryz.ntmps45
 go_wp2_with (first | ((with_reducible refine zmb (N := 2) rfl ?_); refine zrb ?hg (N := 2) ?hd (cs := #[.bool false, .string ⟨#[]⟩]) (t := 31) ?hr ?_; (case hd => rfl); (case hg => rfl); (case hr => first | (go_simp; done) | (go_simp; rfl)); intro gb131 hg w3 hbox hb; have BK131 := za.mk hbox; have GW131 := za.mk ((by rw [hg]; exact (zl (by (with_reducible exact HB.out))) : w.heap.size ≤ gb131)); have GE131 := za.mk ((by rw [hg]; exact (zl (by (with_reducible exact HB.out))) : w.heap.size ≤ gb131)); replace HB := za.mk (zm (by (with_reducible exact HB.out)) hb); clear hb hbox hg) | ((with_reducible refine zx (f := 59) rfl ?_); refine zdc (some 5) rfl rfl Tryz.func59 (by kernel_rfl) rfl #[.string a0] rfl (by (try simp only [List.map_toArray, List.map_cons, List.map_nil]); first | done | rfl | (simp only [List.length_drop, List.length_take]; rfl)) ?_; (with_reducible refine (zwb.calls k a0 t132 t133 t134 _ A2.out).mono ?_); rintro e w4 ⟨rfl, hb⟩; refine ⟨_, rfl, ?_⟩; replace BK131 := za.mk (ze BK131.out hb); replace HB := za.mk (zm (by (with_reducible exact HB.out)) hb); (try clear hb); (try clear hb2); (try clear hk); (try clear hi); obtain ⟨hcz5_0, hcz5_1, hfz5_0, hfz5_1⟩ := cl2 BK131.out))
 refine bodyPost_ret (zph rfl _ _ gb131 31 #[.bool t132, .string t133] (0, 0) _ rfl (by exact put2 BK131.out) Tryz.underlying31 rfl (by kernel_rfl)) rfl ?_
 exact ⟨by rfl, by (with_reducible refine zk ?_ GE131.out; with_reducible refine zk ?_ GE131.out; with_reducible exact HB.out)⟩
end Go.Proofs.YtapaijpglfmfgaaGreatDoor.Q
end
section
namespace Go.Proofs.YtapaijpglfmfgaaGreatDoor.Q
open Go.RowKit YtapaijpglfmfgaaGreatDoorH YtapaijpglfmfgaaGreatDoorG YtapaijpglfmfgaaGreatDoorW.PrintWords YtapaijpglfmfgaaGreatDoorW.PrintLast YtapaijpglfmfgaaGreatDoorW.PrintMore
attribute [local go_sem] zsc zuc zhd zgd zhc zic zvc ztc
def znd.f (a0 : Int) (a1 : Int) : Option (Bool) := if a0 = (wrap64 (-a1)) then (if a0 ≥ (-1) then (some (decide (a0 ≤ 1))) else (some false)) else (some false)
theorem znd.calls (a0 : Int) (a1 : Int) (r : Bool) (w : World) (h : znd.f a0 a1 = some r) :
  Calls Tryz.prog 12 #[.int .i64 a0, .int .i64 a1] w fun e w' => e = .returned (.bool r) ∧ zo w w' := by
 have H : (if a0 = (wrap64 (-a1)) then (if a0 ≥ (-1) then (some (decide (a0 ≤ 1))) else (some false)) else (some false)) = some r := h
 clear h
 by_cases c3 : a0 = (wrap64 (-a1))
 ·rw [if_pos c3] at H
  have c3b0 : (a0 == (wrap64 (-a1))) = true := beq_iff_eq.mpr c3
  have c3b1 : (a0 != (wrap64 (-a1))) = false := bne_eq_false_iff_eq.mpr c3
  clear c3
  by_cases c4 : a0 ≥ (-1)
  ·rw [if_pos c4] at H
   have c4b0 : decide ((-1) ≤ a0) = true := decide_eq_true c4
   clear c4
   obtain rfl := Option.some.inj H
   go_enter Tryz.func12, Tryz.ntmps12
   go_wp2
   go_ret
   exact ⟨by rfl, by repeat (first | exact zo.refl _ | apply zo.step)⟩
  ·rw [if_neg c4] at H
   have c4b0 : decide ((-1) ≤ a0) = false := decide_eq_false c4
   clear c4
   obtain rfl := Option.some.inj H
   go_enter Tryz.func12, Tryz.ntmps12
   go_wp2
   go_ret
   exact ⟨by rfl, by repeat (first | exact zo.refl _ | apply zo.step)⟩
 ·rw [if_neg c3] at H
  have c3b0 : (a0 == (wrap64 (-a1))) = false := beq_eq_false_iff_ne.mpr c3
  have c3b1 : (a0 != (wrap64 (-a1))) = true := bne_iff_ne.mpr c3
  obtain rfl := Option.some.inj H
  go_enter Tryz.func12, Tryz.ntmps12
  go_wp2
  go_ret
  exact ⟨by rfl, by repeat (first | exact zo.refl _ | apply zo.step)⟩
def zyi.l0 : Nat → List ByteArray → List ByteArray → Int → Int → Option (Bool)
 | 0, _, _, _, _ => none
 | k + 1, x0, x5, x6, x7 => if x7 < x6 then (if 0 ≤ x7 then (if x7 < (x5.length : Int) then (if ((rdOf ByteArray.empty x5 x7).size : Int) > 1200 then (some false) else (zyi.l0 k x0 x5 x6 (wrap64 (x7 + 1)))) else (none)) else (none)) else (some (decide ((x0.length : Int) ≤ 60)))
def zyi.f (k : Nat) (l0 : List ByteArray) : Option (Bool) := zyi.l0 k l0 l0 (l0.length : Int) 0
def zyh.f (a0 : Int) : Option (Bool) := (zlc.f a0).bind fun t323 => (if t323 = true then (some true) else (if a0 ≥ 97 then (some (decide (a0 ≤ 102))) else (some false)))
end Go.Proofs.YtapaijpglfmfgaaGreatDoor.Q
end
