/- Proved here, for the row of the law FnAlpineBack: contracts of the Go functions that it reaches, each as its theorem 'calls' says, and the words and plain laws that they need (A8, A9, A10, A11, E1x0, E1x1, E2x0, E2x1, P, AQ, AR, AT, WEqStruct, Qx0, A14, HC, Qx4, AU). -/
import Derived.Test.YtapaijpglfmfgaaGreatDoorFnAlpineBackB
import Derived.Below
import Derived.Deep.Draws
import Derived.Deep.AppendLies
import Derived.Maps.AppendAt
import Derived.OwnWalk
import Derived.Laws.BytesArg
import Derived.Laws.MakeOwn
import Derived.Laws.OwnMore
import Derived.Deep.OwnRows
import Derived.Tactics
import Derived.Lib.ConvBytes
import Derived.Laws.Slices
import Derived.WalkKit
import Derived.KernelRfl
import Derived.RowKit3
import Derived.Deep.LoopGhost
import Derived.Deep.QuietTactic
import Derived.BigQuiet
import Derived.WideLaws
import Derived.Deep.DeepCutAuto
import Derived.Deep.CutBlock
import Derived.Deep.RegionHeld3
import Derived.Laws.Rows
import Derived.Lib.AppendStr
import Derived.ArgAppend
import Derived.Laws.IdiomCopy
import Derived.RowKit
import Derived.Test.YtapaijpglfmfgaaGreatDoorProg
import Derived.OrdersHeld
import Derived.Laws.BitsLemmas
import Derived.Laws.ResultCell
import Derived.Laws.StructEq
section -- A8
namespace Go.Proofs.YtapaijpglfmfgaaGreatDoorG
open Go.RowKit Go.Proofs.YtapaijpglfmfgaaGreatDoorH Go.Proofs.YtapaijpglfmfgaaGreatDoor.S Go.Proofs.YtapaijpglfmfgaaGreatDoorW.PrintWords Go.Proofs.YtapaijpglfmfgaaGreatDoorW.PrintLast
set_option linter.unusedVariables false
set_option linter.unusedSimpArgs false
theorem infoNum : (Tryz.prog.info? 114).map (fun i => (i.zero, i.size, i.bytes)) = some (some (.agg #[.string ⟨#[]⟩, .pointer none, .int .i64 0]), 3, 32) := by kernel_rfl
theorem infoSuf : (Tryz.prog.info? 117).map (fun i => (i.zero, i.size, i.bytes)) = some (some (.agg #[.int .i64 0, .pointer none]), 2, 16) := by kernel_rfl
def nmCell (x : Nm × Nat) : List Value := [.string x.1.o, .pointer (some ⟨x.1.a, 0, none⟩), .int .i64 (x.2 : Int)]
def nmCells (l : List Nm) : List (List Value) := l.zipIdx.map nmCell
theorem nmCells_snoc (l : List Nm) (x : Nm) : nmCells (l ++ [x]) = nmCells l ++ [[.string x.o, .pointer (some ⟨x.a, 0, none⟩), .int .i64 (l.length : Int)]] := by
 unfold nmCells
 rw [Kd.zip_snoc]
 simp [nmCell]
theorem nmCells_len (l : List Nm) : (nmCells l).length = l.length := by simp [nmCells]
def NGood (w : World) (x : Nm) : Prop := BigAt w x.a x.n ∧ x.n = dv x.o x.o.size ∧ 0 < x.o.size
def NOwn (w : World) (base : Nat) (v : Value) (l : List Nm) : Prop := Kd.R (Kd.raw 3) 114 w base (fun _ => True) v (nmCells l) ∧ ∀ x ∈ l, NGood w x
theorem NOwn.crow {w : World} {base : Nat} {v : Value} {l : List Nm} (h : NOwn w base v l) (hl : l.length ≤ 1000000) : CRow w v l := by
 obtain ⟨hr, hx⟩ := h
 rcases Nat.eq_zero_or_pos l.length with h0 | h0
 ·obtain ⟨A, c, e, _⟩ := Kd.R_reads hr
  rw [nmCells_len] at e
  exact ⟨A, c, e, hl, fun i x hi => by rw [List.eq_nil_of_length_eq_zero h0] at hi; simp at hi⟩
 ·obtain ⟨g, cap, e, _⟩ := Kd.R_form hr (by rw [nmCells_len]; exact h0)
  subst e
  refine ⟨some ⟨g, 0, none⟩, cap, by rw [nmCells_len], hl, fun i x hi => ⟨g, rfl, ?_⟩⟩
  have hil : i < l.length := (List.getElem?_eq_some_iff.1 hi).1
  obtain ⟨c, hc1, hM, hcc, _⟩ := Kd.R_elem hr [] (i : Int) (by omega) (by rw [nmCells_len]; omega)
  have hgd : (nmCells l).getD (i : Int).toNat [] = [.string x.o, .pointer (some ⟨x.a, 0, none⟩), .int .i64 (i : Int)] := by
   rw [List.getD_eq_getElem?_getD]
   unfold nmCells
   rw [List.getElem?_map, show ((i : Int).toNat) = i by omega, Kd.zip_at hi]
   rfl
  rw [hgd] at hM
  obtain ⟨rfl, _⟩ := hM
  have h0' := hcc 0 _ rfl
  have h1' := hcc 1 _ rfl
  have h2' := hcc 2 _ rfl
  obtain ⟨k1, _, k3⟩ := hx x (List.mem_of_getElem? hi)
  exact ⟨h0', h1', h2', k1, k3⟩
theorem NGood.below {w w' : World} {x : Nm} (h : NGood w x) (hb : Below w.heap.size w w') : NGood w' x := ⟨h.1.below hb, h.2⟩
theorem NGood.kept {w w' : World} {x : Nm} (h : NGood w x) (hb : KeptT numT w w') : NGood w' x := ⟨h.1.kept hb, h.2⟩
theorem KeptT.sub {p q : TypeId → Bool} {w w' : World} (h : KeptT q w w') (hpq : ∀ t, p t = true → q t = true) : KeptT p w w' := fun k cs t fr hk hp => h k cs t fr hk (hpq t hp)
theorem KeptT.blk {p : TypeId → Bool} {w w' : World} {g : Nat} {cs : Array Value} {t : TypeId} {fr : Nat × Nat} (h : KeptT p w w') (hg : w.heap[g]? = some (.cells cs t fr)) (hp : p t = true) : w'.heap[g]? = some (.cells cs t fr) := (h g cs t fr hg hp).trans hg
def takeNe (l : List ByteArray) : List ByteArray := l.takeWhile (fun d => decide (d.toList ≠ []))
theorem takeNe_at {l : List ByteArray} {k : Nat} (h1 : ∀ d ∈ l.take k, d.toList ≠ []) : (l.length ≤ k ∨ ∃ d, l[k]? = some d ∧ d.toList = []) → takeNe l = l.take k := by
 induction l generalizing k with
 | nil => simp [takeNe]
 | cons a l ih =>
  intro h
  cases k with
  | zero =>
   rcases h with h | ⟨d, h2, h3⟩
   ·simp at h
   ·simp at h2
    subst h2
    simp [takeNe, h3]
  | succ k =>
   have ha : a.toList ≠ [] := h1 a (by simp)
   have := ih (k := k) (fun d hd => h1 d (by simp [hd])) (by simpa using h)
   simp only [takeNe, List.takeWhile_cons, List.take_succ_cons] at this ⊢
   rw [if_pos (by simpa using ha), this]
theorem takeNe_mem {l : List ByteArray} {k : Nat} {d : ByteArray} (h1 : ∀ d ∈ l.take k, d.toList ≠ []) (h2 : l[k]? = some d) (h3 : d.toList ≠ []) : d ∈ takeNe l := by
 induction l generalizing k with
 | nil => simp at h2
 | cons a l ih =>
  cases k with
  | zero =>
   simp at h2
   subst h2
   simp [takeNe, h3]
  | succ k =>
   have ha : a.toList ≠ [] := h1 a (by simp)
   have := ih (k := k) (fun d hd => h1 d (by simp [hd])) (by simpa using h2)
   simp only [takeNe, List.takeWhile_cons] at this ⊢
   rw [if_pos (by simpa using ha)]
   exact List.mem_cons_of_mem _ this
set_option maxRecDepth 100000 in
theorem parseNums_e (w : World) (g : Nat) (s sub : ByteArray) (k : Nat) (h1 : semantic_zzAlpineNumbers.f k s = some sub) (h0 : sub.toList = []) :
  Calls Tryz.prog 48 #[.pointer (some ⟨g, 0, none⟩), .string s] w fun e w' => e = .returned (.tuple #[.string s, .nilIface]) ∧ ∃ n, w' = w.drewN n := by
 have e1 : (sub.toList == []) = true := by simpa using h0
 have e2 : (sub.toList != []) = false := by simpa using h0
 have e3 : sub.toList.isEmpty = true := by simpa using h0
 have H1 := Aside0.mk h1
 clear h0 h1
 go_enter Tryz.func48, Tryz.ntmps48
 go_wp2_with (first | (go_at_call 60; (with_reducible refine (semantic_zzAlpineNumbers.calls k s sub _ H1.out).mono ?_); rintro e' w' ⟨rfl, ⟨nd, rfl⟩⟩))
 go_ret2
 exact ⟨rfl, _, rfl⟩
structure NInv (w wr : World) (g : Nat) (o : ByteArray) (i : Bool) (r : ByteArray) (cv : Value) (l : ByteArray) (sv : Value) (h : ByteArray) (bv : Value) (sp : Value) (parts : List ByteArray) (k : Nat) (ns : List Nm) : Prop where
  told : ns.map (·.o) = parts.take k
  ne : ∀ d ∈ parts.take k, d.toList ≠ []
  blk : VBlk wr g o i r cv l sv h bv
  own : NOwn wr w.heap.size cv ns
  row : Kd.R Kd.string 9 wr w.heap.size (fun _ => True) sp parts
  gr : w.grownBy wr (some g)
theorem NInv.below {w wr w' : World} {g : Nat} {o : ByteArray} {i : Bool} {r : ByteArray} {cv : Value} {l : ByteArray} {sv : Value} {h : ByteArray} {bv sp : Value} {parts : List ByteArray} {k : Nat} {ns : List Nm} (H : NInv w wr g o i r cv l sv h bv sp parts k ns) (hb : Below wr.heap.size wr w') : NInv w w' g o i r cv l sv h bv sp parts k ns :=
 ⟨H.told, H.ne, blk_below H.blk hb, ⟨Kd.R_below H.own.1 hb, fun x hx => (H.own.2 x hx).below hb⟩, Kd.R_below H.row hb, gr_below H.gr hb⟩
def notNum (t : TypeId) : Bool := t != 114
theorem numT_notNum (t : TypeId) (h : numT t = true) : notNum t = true := by
 unfold numT at h
 unfold notNum
 rcases Bool.or_eq_true_iff.mp h with h | h
 ·rw [of_decide_eq_true h]; decide
 ·rw [of_decide_eq_true h]; decide
theorem NInv.step {w wr w7 : World} {g : Nat} {o : ByteArray} {i : Bool} {r : ByteArray} {cv v1 : Value} {l : ByteArray} {sv : Value} {h : ByteArray} {bv sp : Value} {parts : List ByteArray} {k : Nat} {ns : List Nm} (H : NInv w wr g o i r cv l sv h bv sp parts k ns) {d : ByteArray} {a : Nat} (hd : parts[k]? = some d) (hne : d.toList ≠ []) (hA : BigAt wr a (dv d d.size)) (hs : 0 < d.size)
    (ho : Kd.R (Kd.raw 3) 114 w7 w.heap.size (fun _ => True) v1 (nmCells ns ++ [[.string d, .pointer (some ⟨a, 0, none⟩), .int .i64 (k : Int)]])) (hg : wr.grownBy w7 cv.ownBlock) : NInv w (w7.setCell ⟨g, 3, none⟩ v1) g o i r v1 l sv h bv sp parts (k + 1) (ns ++ [⟨d, a, dv d d.size⟩]) := by
  have hk : ns.length = k := by
    have := congrArg List.length H.told
    have hkl := (List.getElem?_eq_some_iff.1 hd).1
    simpa [Nat.min_eq_left (Nat.le_of_lt hkl)] using this
  have K : KeptT notNum wr w7 := KeptT.row (by decide) H.own.1 hg
  have KN : KeptT numT wr w7 := K.sub numT_notNum
  have B7 : VBlk w7 g o i r cv l sv h bv := K.blk H.blk (by decide)
  have KN2 : KeptT numT wr (w7.setCell ⟨g, 3, none⟩ v1) := KN.trans (KeptT.set B7 (by decide) 3 _)
  have ht : parts.take (k + 1) = parts.take k ++ [d] := by
    rw [List.take_add_one, hd]; rfl
  refine ⟨by rw [ht, List.map_append, H.told]; rfl, fun x hx => ?_, blk_put B7 3 _ rfl, ⟨?_, fun x hx => ?_⟩, ?_, ?_⟩
  · rw [ht] at hx
    rcases List.mem_append.mp hx with hx | hx
    · exact H.ne x hx
    · simp at hx; subst hx; exact hne
  · rw [nmCells_snoc, hk]
    exact Kd.R_set ho B7 (by intro q hq; have : q = 114 := by simpa [Kd.raw] using hq
                             subst this; decide) 3 _
  · rcases List.mem_append.mp hx with hx | hx
    · exact (H.own.2 x hx).kept KN2
    · simp at hx; subst hx; exact ⟨hA.kept KN2, rfl, hs⟩
  · refine R_keptT (p := fun t => t == 9) rfl (by decide) H.row ((K.sub fun t ht => ?_).trans (KeptT.set B7 (by decide) 3 _))
    rw [of_decide_eq_true ht]; decide
  · refine gr_set (gr_then H.gr hg (fun b hb => ?_)) (.inl rfl) _ _
    exact .inr (Kd.R_base H.own.1 b hb)
set_option maxRecDepth 100000 in
set_option maxHeartbeats 4000000 in
theorem parseNums_ (w : World) (g : Nat) (o : ByteArray) (i : Bool) (r : ByteArray) (sv : Value) (l h : ByteArray) (bv : Value) (s sub rest : ByteArray) (k1 k2 : Nat) (parts : List ByteArray) (hv : VBlk w g o i r (.slice none 0 0) l sv h bv) (hGL : ∀ W, w.grownBy W (some g) → GLe W)
    (h1 : semantic_zzAlpineNumbers.f k1 s = some sub) (h0 : sub.toList ≠ []) (h2 : semantic_zzSplit.f k2 sub ⟨#[46]⟩ = some parts) (hp : 0 < parts.length) (hl : parts.length ≤ 1000000) (h4 : ∀ d ∈ takeNe parts, Plain d ∧ AllDig d) (h5 : strings_TrimPrefix.f s sub = some rest) :
    Calls Tryz.prog 48 #[.pointer (some ⟨g, 0, none⟩), .string s] w fun e w' => ∃ cv ns, e = .returned (.tuple #[.string rest, .nilIface]) ∧ VBlk w' g o i r cv l sv h bv ∧ NOwn w' w.heap.size cv ns ∧ ns.map (·.o) = takeNe parts ∧ w.grownBy w' (some g) := by
  have e1 : (sub.toList == []) = false := by simpa using h0
  have e2 : (sub.toList != []) = true := by simpa using h0
  have e3 : sub.toList.isEmpty = false := by simpa using h0
  have HG := Aside0.mk hv
  have H1 := Aside0.mk h1
  have H2 := Aside0.mk h2
  have H4 := Aside0.mk h4
  have H5 := Aside0.mk h5
  have HGL := Aside0.mk hGL
  have HP := Aside0.mk hp
  have HL := Aside0.mk hl
  clear h0 h1 h2 h4 h5 hv hGL hp hl
  go_enter Tryz.func48, Tryz.ntmps48
  go_wp2_with (first | (go_at_call 60; (with_reducible refine (semantic_zzAlpineNumbers.calls k1 s sub _ H1.out).mono ?_); rintro e' w' ⟨rfl, ⟨nd, rfl⟩⟩) | (go_at_call 61; (with_reducible refine (semantic_zzSplit.calls k2 sub ⟨#[46]⟩ parts _ H2.out).mono ?_); rintro e' w1 ⟨sp, rfl, hr, hb⟩; obtain ⟨b, cap, rfl, hb1, hb2, hb3⟩ := Kd.R_form hr HP.out; have B1 := Aside0.mk (below_then (pw_below_drewN (Below.refl w.heap.size w) nd) (Nat.le_refl w.heap.size) hb); have R1 := Aside0.mk hr; clear hr hb hb1 hb2 hb3))
  have I0 : Aside0 (NInv w w1 g o i r (.slice none 0 0) l sv h bv (.slice (some ⟨b, 0, none⟩) parts.length cap) parts 0 []) := ⟨⟨rfl, fun d hd => by simp at hd, blk_below HG.out B1.out, ⟨Kd.R_nil _ _ _ _ _, fun x hx => by simp at hx⟩, R1.out, gr_below (gr_refl w _) B1.out⟩⟩
  go_loopw [19] (fun iv wr => ∃ (k : Nat) (ns : List Nm) (cv : Value), k ≤ parts.length ∧ iv = .int .i64 k ∧ Aside0 (NInv w wr g o i r cv l sv h bv (.slice (some ⟨b, 0, none⟩) parts.length cap) parts k ns)) (fun iv _ => parts.length - (intOf iv).toNat)
  case atStart => exact ⟨0, [], _, Nat.zero_le _, rfl, I0⟩
  case round =>
    obtain ⟨k, ns, cv, hk, rfl, HI⟩ := hrel
    by_cases hlt : k < parts.length
    · have i3 : decide ((k : Int) < (parts.length : Int)) = true := decide_eq_true (by omega)
      have i4 : ((k : Int) < (parts.length : Int)) = True := eq_true (by omega)
      have i5 : (0 ≤ (k : Int)) = True := eq_true (by omega)
      have WR : wrap64 ((k : Int) + 1) = ((k + 1 : Nat) : Int) := by have := HL.out; unfold wrap64; omega
      have LT := Aside0.mk hlt
      obtain ⟨d, hd⟩ : ∃ d, parts[k]? = some d := ⟨_, List.getElem?_eq_getElem (by omega)⟩
      have HD := Aside0.mk hd
      have y0 : wr.cell? ⟨b, k, none⟩ = some (.string d) := by
        obtain ⟨c, hc1, hM, hcc, _⟩ := Kd.R_elem HI.out.row ByteArray.empty (k : Int) (by omega) (by omega)
        have hgd : parts.getD (k : Int).toNat ByteArray.empty = d := by
          rw [List.getD_eq_getElem?_getD, show ((k : Int).toNat) = k by omega, hd]; rfl
        rw [hgd] at hM
        have hM2 : c = [.string d] := hM
        have := hcc 0 (.string d) (by rw [hM2]; rfl)
        rw [show (k : Int).toNat * Kd.string.sz + 0 = k by show (k : Int).toNat * 1 + 0 = k; omega] at this
        exact this
      clear hlt hk hd
      by_cases hde : d.toList = []
      · have c1 : (d.toList == []) = true := by simpa using hde
        have c2 : (d.toList != []) = false := by simpa using hde
        have c3 : d.toList.isEmpty = true := by simpa using hde
        have HE := Aside0.mk (takeNe_at HI.out.ne (.inr ⟨d, HD.out, hde⟩))
        clear hde
        go_wp2_with (first | (go_at_call 63; (with_reducible refine (strings_TrimPrefix.calls s sub rest _ H5.out).mono ?_); rintro e' w' ⟨rfl, ⟨nd2, rfl⟩⟩))
        go_ret2
        exact ⟨cv, ns, rfl, blk_drewN HI.out.blk _, ⟨Kd.R_drewN HI.out.own.1 _, fun x hx => (HI.out.own.2 x hx).below (pw_below_drewN (Below.refl _ _) _)⟩, by rw [HI.out.told, HE.out], gr_drewN HI.out.gr _⟩
      · have c1 : (d.toList == []) = false := by simpa using hde
        have c2 : (d.toList != []) = true := by simpa using hde
        have c3 : d.toList.isEmpty = false := by simpa using hde
        have HDE := Aside0.mk hde
        have hgood := H4.out d (takeNe_mem HI.out.ne HD.out hde)
        have HDS := Aside0.mk hgood.2.1
        have HNL : Aside0 (ns.length ≤ 1000000) := ⟨by have q1 := congrArg List.length HI.out.told; have q2 := HL.out; rw [List.length_map, List.length_take] at q1; omega⟩
        have HV := Aside0.mk (conv_at wr d hgood.1 (HGL.out wr HI.out.gr) hgood.2)
        clear hde hgood
        go_wp2_with (first | (go_at_call 62; (with_reducible refine HV.out.mono ?_); rintro e' w3 ⟨a, rfl, hA, hb⟩; have I3 := Aside0.mk (HI.out.below hb); have HA := Aside0.mk hA; have x3 := (blk_cell I3.out.blk 3).trans rfl; clear hb hA) | ((with_reducible refine gate_builtin (b := .append) (xs := #[.tmp 38, .tmp 43]) rfl ?_); at_builtin; refine Kd.R_append (Kd.raw 3) (w0 := w3) w.heap.size rfl (.tmp 38) (.tmp 43) 67 114 (.agg #[.string ⟨#[]⟩, .pointer none, .int .i64 0]) 32 rfl Tryz.underlying67 infoNum rfl (by decide) (by omega) cv (nmCells ns) [.string d, .pointer (some ⟨a, 0, none⟩), .int .i64 (k : Int)] [.string d, .pointer (some ⟨a, 0, none⟩), .int .i64 (k : Int)] (fun _ => True) (fun _ => False) rfl rfl ?aP (fun _ hk => hk.elim) (fun _ _ => trivial) I3.out.own.1 (Below.refl _ _) I3.out.gr.size ?aL ?_; (case aP => exact ⟨rfl, rfl, by intro u hu; simp at hu; rcases hu with rfl | rfl | rfl <;> rfl⟩); (case aL => rw [nmCells_len]; have := HNL.out; omega); intro v1 w7 ho hb hg hat; obtain ⟨A1, n1, cp1, rfl⟩ : ∃ A n c, v1 = .slice A n c := (by obtain ⟨A, c, e⟩ := Kd.R_slice ho; exact ⟨A, _, c, e⟩); have K7 := KeptT.row (p := notNum) (by decide) I3.out.own.1 hg; have B7 := Aside0.mk (K7.blk I3.out.blk (by decide)); have x7 := (blk_cell B7.out 3).trans rfl; have f7 := blk_frozen B7.out 3; have I7 := Aside0.mk (I3.out.step HD.out HDE.out HA.out HDS.out ho hg); clear ho hb hg hat K7))
        go_roundw
        all_goals first | exact ⟨k + 1, _, .slice A1 n1 cp1, LT.out, by first | rfl | go_num, I7⟩ | exact meas_up0 _ k LT.out | exact meas_up1 _ k LT.out | exact meas_up2 _ k LT.out WR
    · obtain rfl : k = parts.length := by omega
      have i3 : decide ((parts.length : Int) < (parts.length : Int)) = false := decide_eq_false (by omega)
      have i4 : ((parts.length : Int) < (parts.length : Int)) = False := eq_false (by omega)
      have HE := Aside0.mk (takeNe_at HI.out.ne (.inl (Nat.le_refl _)))
      clear hlt hk
      go_wp2_with (first | (go_at_call 63; (with_reducible refine (strings_TrimPrefix.calls s sub rest _ H5.out).mono ?_); rintro e' w' ⟨rfl, ⟨nd2, rfl⟩⟩))
      go_ret2
      exact ⟨cv, ns, rfl, blk_drewN HI.out.blk _, ⟨Kd.R_drewN HI.out.own.1 _, fun x hx => (HI.out.own.2 x hx).below (pw_below_drewN (Below.refl _ _) _)⟩, by rw [HI.out.told, HE.out], gr_drewN HI.out.gr _⟩
end Go.Proofs.YtapaijpglfmfgaaGreatDoorG
end
section -- A9
namespace Go.Proofs.YtapaijpglfmfgaaGreatDoorG
open Go.RowKit Go.Proofs.YtapaijpglfmfgaaGreatDoorH Go.Proofs.YtapaijpglfmfgaaGreatDoor.S Go.Proofs.YtapaijpglfmfgaaGreatDoorW.PrintWords Go.Proofs.YtapaijpglfmfgaaGreatDoorW.PrintLast
set_option linter.unusedVariables false
set_option linter.unusedSimpArgs false
def sfCells (l : List Sx) : List (List Value) := l.map fun x => [.int .i64 x.wt, .pointer (some ⟨x.a, 0, none⟩)]
theorem sfCells_len (l : List Sx) : (sfCells l).length = l.length := by simp [sfCells]
theorem sfCells_snoc (l : List Sx) (x : Sx) : sfCells (l ++ [x]) = sfCells l ++ [[.int .i64 x.wt, .pointer (some ⟨x.a, 0, none⟩)]] := by simp [sfCells]
def SOwn (w : World) (base : Nat) (v : Value) (l : List Sx) : Prop := Kd.R (Kd.raw 2) 117 w base (fun _ => True) v (sfCells l) ∧ ∀ x ∈ l, BigAt w x.a x.n
theorem SOwn.srow {w : World} {base : Nat} {v : Value} {l : List Sx} (h : SOwn w base v l) (hl : l.length ≤ 1000000) : SRow w v l := by
 obtain ⟨hr, hx⟩ := h
 rcases Nat.eq_zero_or_pos l.length with h0 | h0
 ·obtain ⟨A, c, e, _⟩ := Kd.R_reads hr
  rw [sfCells_len] at e
  exact ⟨A, c, e, hl, fun i x hi => by rw [List.eq_nil_of_length_eq_zero h0] at hi; simp at hi⟩
 ·obtain ⟨g, cap, e, _⟩ := Kd.R_form hr (by rw [sfCells_len]; exact h0)
  subst e
  refine ⟨some ⟨g, 0, none⟩, cap, by rw [sfCells_len], hl, fun i x hi => ⟨g, rfl, ?_⟩⟩
  have hil : i < l.length := (List.getElem?_eq_some_iff.1 hi).1
  obtain ⟨c, hc1, hM, hcc, _⟩ := Kd.R_elem hr [] (i : Int) (by omega) (by rw [sfCells_len]; omega)
  have hgd : (sfCells l).getD (i : Int).toNat [] = [.int .i64 x.wt, .pointer (some ⟨x.a, 0, none⟩)] := by
   rw [List.getD_eq_getElem?_getD]
   unfold sfCells
   rw [List.getElem?_map, show ((i : Int).toNat) = i by omega, hi]
   rfl
  rw [hgd] at hM
  obtain ⟨rfl, _⟩ := hM
  exact ⟨hcc 0 _ rfl, hcc 1 _ rfl, hx x (List.mem_of_getElem? hi)⟩
def MRest (f : Nat → Nat) (A : Option Addr) (base : Nat) (xs : List (List ByteArray)) (i : Nat) (w : World) : Prop := ∀ j x, i ≤ j → xs[j]? = some x → ∃ g2 v, A = some ⟨g2, 0, none⟩ ∧ (∃ cells, w.heap[g2]? = some (.cells cells 57 (0, 0))) ∧ w.cell? ⟨g2, j, none⟩ = some v ∧ Kd.R Kd.string 9 w base (fun b => f b = j) v x
theorem MRest.move {f : Nat → Nat} {A : Option Addr} {base : Nat} {xs : List (List ByteArray)} {i i' : Nat} {w w' : World} (h : MRest f A base xs i w) (hi : i ≤ i') (k9 : ∀ (b : Nat) (cells : Array Value), w.heap[b]? = some (.cells cells 9 (0, 0)) → i' ≤ f b → w'.heap[b]? = w.heap[b]?) (k42 : ∀ (b : Nat) (cells : Array Value), w.heap[b]? = some (.cells cells 57 (0, 0)) → w'.heap[b]? = w.heap[b]?) : MRest f A base xs i' w' := by
 intro j x hj hx
 obtain ⟨g2, v, e, ⟨cells, h1⟩, h2, h3⟩ := h j x (Nat.le_trans hi hj) hx
 have hk := k42 g2 cells h1
 refine ⟨g2, v, e, ⟨cells, hk.trans h1⟩, (World.cell?_of_block hk).trans h2, ?_⟩
 refine Kd.R_mono (Kd.R_move (Kd.R_bound h3) (fun b hb => ?_)) (fun _ hk => hk.1)
 obtain ⟨e1, _, _, q, hq, cells2, hc⟩ := hb
 have : q = 9 := by simpa [Kd.string, Kd.scalar] using hq
 subst this
 exact k9 b cells2 hc (by omega)
theorem MRest.same {f : Nat → Nat} {A : Option Addr} {base : Nat} {xs : List (List ByteArray)} {i : Nat} {w w' : World} {p : TypeId → Bool} (h : MRest f A base xs i w) (k : KeptT p w w') (h9 : p 9 = true) (h42 : p 57 = true) : MRest f A base xs i w' :=
 h.move (Nat.le_refl _) (fun b cells hb _ => k b _ _ _ hb h9) (fun b cells hb => k b _ _ _ hb h42)
theorem MRest.first {A : Option Addr} {n c base : Nat} {xs : List (List ByteArray)} {w : World} {ok : Nat → Prop} (h : Kd.S (Kd.slice 9 Kd.string) 57 w base ok (.slice A n c) xs) : ∃ f, MRest f A base xs 0 w := by
 obtain ⟨f, hR⟩ := h
 refine ⟨f, fun j x _ hx => ?_⟩
 have hjl : j < xs.length := (List.getElem?_eq_some_iff.1 hx).1
 have hzl : xs.zipIdx.length = xs.length := List.length_zipIdx
 obtain ⟨g2, cap, e, _, _, ht⟩ := Kd.R_form hR (by omega)
 injection e with e1 e2 e3
 subst e1
 obtain ⟨c', hc1, hM, hcc, _⟩ := Kd.R_elem hR (([] : List ByteArray), 0) (j : Int) (by omega) (by rw [e2]; omega)
 have hgd : xs.zipIdx.getD (j : Int).toNat (([] : List ByteArray), 0) = (x, j) := by
  rw [List.getD_eq_getElem?_getD, show ((j : Int).toNat) = j by omega, Kd.zip_at hx]; rfl
 rw [hgd] at hM
 obtain ⟨v, rfl, hv⟩ := hM
 refine ⟨g2, v, rfl, ht, ?_, Kd.R_mono hv (fun _ hk => hk.2)⟩
 have := hcc 0 v rfl
 rw [show (j : Int).toNat * (Kd.tag f (Kd.slice 9 Kd.string)).sz + 0 = j by show (j : Int).toNat * 1 + 0 = j; omega] at this
 exact this
def notSuf (t : TypeId) : Bool := t != 117
theorem numT_notSuf (t : TypeId) (h : numT t = true) : notSuf t = true := by
 unfold numT at h
 unfold notSuf
 rcases Bool.or_eq_true_iff.mp h with h | h
 ·rw [of_decide_eq_true h]; decide
 ·rw [of_decide_eq_true h]; decide
def sufRun (k : Nat) : List (List ByteArray) → ByteArray → Option (List (Int × ByteArray) × ByteArray)
 | [], s => some ([], s)
 | [m0, wd, dg] :: ms, s => (semantic_weightAlpineSuffixString.f k wd).bind fun wt => (strings_TrimPrefix.f s m0).bind fun s' => if Plain (or0 dg) ∧ AllDig (or0 dg) then (sufRun k ms s').map (fun r => ((wt, or0 dg) :: r.1, r.2)) else none
 | _ :: _, _ => none
theorem sufRun_step {k : Nat} {m : List ByteArray} {ms : List (List ByteArray)} {s : ByteArray} {r : List (Int × ByteArray) × ByteArray} (h : sufRun k (m :: ms) s = some r) : ∃ m0 wd dg wt s' r', m = [m0, wd, dg] ∧ semantic_weightAlpineSuffixString.f k wd = some wt ∧ strings_TrimPrefix.f s m0 = some s' ∧ Plain (or0 dg) ∧ AllDig (or0 dg) ∧ sufRun k ms s' = some r' ∧ r = ((wt, or0 dg) :: r'.1, r'.2) := by
 match m, h with
 | [m0, wd, dg], h =>
  simp only [sufRun] at h
  obtain ⟨wt, h1, h⟩ := Option.bind_eq_some_iff.mp h
  obtain ⟨s', h2, h⟩ := Option.bind_eq_some_iff.mp h
  by_cases hc : Plain (or0 dg) ∧ AllDig (or0 dg)
  ·rw [if_pos hc] at h
   obtain ⟨r', h3, rfl⟩ := Option.map_eq_some_iff.mp h
   exact ⟨m0, wd, dg, wt, s', r', rfl, h1, h2, hc.1, hc.2, h3, rfl⟩
  ·rw [if_neg hc] at h
   cases h
 | [], h => simp [sufRun] at h
 | [_], h => simp [sufRun] at h
 | [_, _], h => simp [sufRun] at h
 | _ :: _ :: _ :: _ :: _, h => simp [sufRun] at h
def sxTold (l : List Sx) : List (Int × Nat) := l.map fun x => (x.wt, x.n)
def sxWant (l : List (Int × ByteArray)) : List (Int × Nat) := l.map fun x => (x.1, dv x.2 x.2.size)
structure SInv (w wr : World) (g : Nat) (o : ByteArray) (i : Bool) (r : ByteArray) (cv : Value) (l : ByteArray) (sv : Value) (h : ByteArray) (bv : Value) (f : Nat → Nat) (A : Option Addr) (xs : List (List ByteArray)) (k : Nat) (ns : List Sx) : Prop where
 len : ns.length = k
 blk : VBlk wr g o i r cv l sv h bv
 own : SOwn wr w.heap.size sv ns
 rest : MRest f A w.heap.size xs k wr
 gr : w.grownBy wr (some g)
structure SMid (w wr : World) (g : Nat) (o : ByteArray) (i : Bool) (r : ByteArray) (cv : Value) (l : ByteArray) (sv : Value) (h : ByteArray) (bv : Value) (f : Nat → Nat) (A : Option Addr) (xs : List (List ByteArray)) (k : Nat) (ns : List Sx) (b : Nat) (m0 wd : ByteArray) (a n : Nat) : Prop where
 len : ns.length = k
 blk : VBlk wr g o i r cv l sv h bv
 own : SOwn wr w.heap.size sv ns
 rest : MRest f A w.heap.size xs (k + 1) wr
 gr : w.grownBy wr (some g)
 ty : ∃ cells, wr.heap[b]? = some (.cells cells 9 (0, 0))
 c0 : wr.cell? ⟨b, 0, none⟩ = some (.string m0)
 c1 : wr.cell? ⟨b, 1, none⟩ = some (.string wd)
 num : BigAt wr a n
section
variable {w wr w' : World} {g : Nat} {o : ByteArray} {i : Bool} {r : ByteArray} {cv : Value} {l : ByteArray} {sv : Value} {h : ByteArray} {bv : Value} {f : Nat → Nat} {A : Option Addr} {xs : List (List ByteArray)} {k : Nat} {ns : List Sx} {b : Nat} {m0 wd : ByteArray} {a n : Nat}
theorem SOwn.below {base : Nat} (H : SOwn wr base sv ns) (hb : Below wr.heap.size wr w') : SOwn w' base sv ns := ⟨Kd.R_below H.1 hb, fun x hx => (H.2 x hx).below hb⟩
theorem SMid.below (H : SMid w wr g o i r cv l sv h bv f A xs k ns b m0 wd a n) (hb : Below wr.heap.size wr w') : SMid w w' g o i r cv l sv h bv f A xs k ns b m0 wd a n :=
 ⟨H.len, blk_below H.blk hb, H.own.below hb, H.rest.same (p := fun _ => true) (KeptT.below hb) rfl rfl, gr_below H.gr hb, by obtain ⟨cells, hc⟩ := H.ty; exact ⟨cells, blk_below hc hb⟩, cell_old hb H.c0, cell_old hb H.c1, H.num.below hb⟩
theorem SMid.drew (H : SMid w wr g o i r cv l sv h bv f A xs k ns b m0 wd a n) : SMid w wr.drew g o i r cv l sv h bv f A xs k ns b m0 wd a n := H.below (below_drew (Below.refl _ _))
theorem SInv.below (H : SInv w wr g o i r cv l sv h bv f A xs k ns) (hb : Below wr.heap.size wr w') : SInv w w' g o i r cv l sv h bv f A xs k ns :=
 ⟨H.len, blk_below H.blk hb, H.own.below hb, H.rest.same (p := fun _ => true) (KeptT.below hb) rfl rfl, gr_below H.gr hb⟩
theorem SInv.mid (H : SInv w wr g o i r cv l sv h bv f A xs k ns) (hb9 : ∃ cells, wr.heap[b]? = some (.cells cells 9 (0, 0))) (hfb : f b = k) (hbw : w.heap.size ≤ b) (h0 : wr.cell? ⟨b, 0, none⟩ = some (.string m0)) (h1 : wr.cell? ⟨b, 1, none⟩ = some (.string wd)) {W : World} (hW : W = wr ∨ W = wr.setCell ⟨b, 2, none⟩ (.string ⟨#[48]⟩)) (hb : Below W.heap.size W w') (hn : BigAt w' a n) : SMid w w' g o i r cv l sv h bv f A xs k ns b m0 wd a n := by
 have key : SMid w W g o i r cv l sv h bv f A xs k ns b m0 wd a n ∨ True := .inr trivial
 clear key
 obtain ⟨cells, hc⟩ := hb9
 rcases hW with rfl | rfl
 ·exact ⟨H.len, blk_below H.blk hb, H.own.below hb, (H.rest.move (Nat.le_succ k) (fun _ _ _ _ => rfl) (fun _ _ _ => rfl)).same (p := fun _ => true) (KeptT.below hb) rfl rfl, gr_below H.gr hb, ⟨cells, blk_below hc hb⟩, cell_old hb h0, cell_old hb h1, hn⟩
 ·have K : KeptT (fun t => t != 9) wr (wr.setCell ⟨b, 2, none⟩ (.string ⟨#[48]⟩)) := KeptT.set hc (by decide) 2 _
  have KN : KeptT numT wr (wr.setCell ⟨b, 2, none⟩ (.string ⟨#[48]⟩)) := KeptT.set hc (by decide) 2 _
  have hc' := blk_set hc 2 (.string ⟨#[48]⟩)
  have cell_ne : ∀ j, j ≠ 2 → (wr.setCell ⟨b, 2, none⟩ (.string ⟨#[48]⟩)).cell? ⟨b, j, none⟩ = wr.cell? ⟨b, j, none⟩ := fun j hj => by
   rw [blk_cell hc', blk_cell hc, Array.getElem?_setIfInBounds]
   rw [if_neg (by omega)]
  refine ⟨H.len, blk_below (K.blk H.blk (by decide)) hb, SOwn.below ⟨R_keptT (p := fun t => t != 9) rfl (by decide) H.own.1 K, fun x hx => (H.own.2 x hx).kept KN⟩ hb, (H.rest.move (Nat.le_succ k) (fun b' cells' hb' hf => ?_) (fun b' cells' hb' => ?_)).same (p := fun _ => true) (KeptT.below hb) rfl rfl, gr_below (gr_set H.gr (.inr hbw) 2 _) hb, ⟨_, blk_below hc' hb⟩, cell_old hb ((cell_ne 0 (by decide)).trans h0), cell_old hb ((cell_ne 1 (by decide)).trans h1), hn⟩
  ·exact Below.heap_setCell _ _ _ _ (fun e => by have e2 : b' = b := e; subst e2; omega)
  ·exact K b' _ _ _ hb' (by decide)
theorem SMid.step (H : SMid w wr g o i r cv l sv h bv f A xs k ns b m0 wd a n) {w7 : World} {v1 : Value} {wt : Int} (ho : Kd.R (Kd.raw 2) 117 w7 w.heap.size (fun _ => True) v1 (sfCells ns ++ [[.int .i64 wt, .pointer (some ⟨a, 0, none⟩)]])) (hg : wr.grownBy w7 sv.ownBlock) :
    SInv w (w7.setCell ⟨g, 5, none⟩ v1) g o i r cv l v1 h bv f A xs (k + 1) (ns ++ [⟨wt, a, n⟩]) ∧ (w7.setCell ⟨g, 5, none⟩ v1).cell? ⟨b, 0, none⟩ = some (.string m0) := by
  have K : KeptT notSuf wr w7 := KeptT.row (by decide) H.own.1 hg
  have B7 : VBlk w7 g o i r cv l sv h bv := K.blk H.blk (by decide)
  have KN2 : KeptT numT wr (w7.setCell ⟨g, 5, none⟩ v1) := (K.sub numT_notSuf).trans (KeptT.set B7 (by decide) 5 _)
  have KM : KeptT (fun t => t == 9 || t == 57) wr (w7.setCell ⟨g, 5, none⟩ v1) := (K.sub (fun t ht => by
    rcases Bool.or_eq_true_iff.mp ht with ht | ht
    · rw [of_decide_eq_true ht]; decide
    · rw [of_decide_eq_true ht]; decide)).trans (KeptT.set B7 (by decide) 5 _)
  refine ⟨⟨by rw [List.length_append, H.len]; rfl, blk_put B7 5 _ rfl, ⟨?_, fun x hx => ?_⟩, H.rest.same KM (by decide) (by decide), gr_set (gr_then H.gr hg (fun b hb => .inr (Kd.R_base H.own.1 b hb))) (.inl rfl) _ _⟩, ?_⟩
  · rw [sfCells_snoc]
    exact Kd.R_set ho B7 (by intro q hq; have : q = 117 := by simpa [Kd.raw] using hq
                             subst this; decide) 5 _
  · rcases List.mem_append.mp hx with hx | hx
    · exact (H.own.2 x hx).kept KN2
    · simp at hx; subst hx; exact H.num.kept KN2
  · obtain ⟨cells, hc⟩ := H.ty
    exact (World.cell?_of_block (KM b _ _ _ hc (by decide))).trans H.c0
end
set_option maxRecDepth 100000 in
set_option maxHeartbeats 8000000 in
theorem parseSufs_ (w : World) (g : Nat) (o : ByteArray) (i : Bool) (r : ByteArray) (cv : Value) (l h : ByteArray) (bv : Value) (s rest : ByteArray) (kq k2 : Nat) (xs : List (List ByteArray)) (L : List (Int × ByteArray)) (hv : VBlk w g o i r cv l (.slice none 0 0) h bv) (hGL : ∀ W, w.grownBy W (some g) → GLe W)
  (h1 : semantic_zzAlpineSuffixes.f k2 s = some xs) (hl : xs.length ≤ 1000000) (h2 : sufRun kq xs s = some (L, rest)) :
  Calls Tryz.prog 50 #[.pointer (some ⟨g, 0, none⟩), .string s] w fun e w' => ∃ sv ns, e = .returned (.tuple #[.string rest, .nilIface]) ∧ VBlk w' g o i r cv l sv h bv ∧ SOwn w' w.heap.size sv ns ∧ sxTold ns = sxWant L ∧ w.grownBy w' (some g) := by
 have HG := Aside0.mk hv
 have H1 := Aside0.mk h1
 have H2 : Aside0 (∃ L', sufRun kq (xs.drop 0) s = some (L', rest) ∧ sxTold [] ++ sxWant L' = sxWant L) := ⟨⟨L, by simpa using h2, rfl⟩⟩
 have HGL := Aside0.mk hGL
 have HL := Aside0.mk hl
 clear h1 h2 hv hGL hl
 go_enter Tryz.func50, Tryz.ntmps50
 go_wp2_with (first | (go_at_call 65; (with_reducible refine (semantic_zzAlpineSuffixes.calls k2 s xs _ H1.out).mono ?_); rintro e' w1 ⟨v0, rfl, hr, hb⟩; obtain ⟨A, cap, rfl⟩ := Kd.S_slice hr; have B1 := Aside0.mk hb; have R1 := Aside0.mk (MRest.first hr); clear hr hb))
 obtain ⟨f, hf⟩ := R1.out
 have I0 : Aside0 (SInv w w1 g o i r cv l (.slice none 0 0) h bv f A xs 0 []) := ⟨⟨rfl, blk_below HG.out B1.out, ⟨Kd.R_nil _ _ _ _ _, fun x hx => by simp at hx⟩, hf, gr_below (gr_refl w _) B1.out⟩⟩
 clear hf R1
 go_loopw [1, 13] (fun tv iv wr => ∃ (k : Nat) (ns : List Sx) (sv : Value) (t : ByteArray), k ≤ xs.length ∧ tv = .string t ∧ iv = .int .i64 k ∧ Aside0 (SInv w wr g o i r cv l sv h bv f A xs k ns) ∧ Aside0 (∃ L', sufRun kq (xs.drop k) t = some (L', rest) ∧ sxTold ns ++ sxWant L' = sxWant L)) (fun _ iv _ => xs.length - (intOf iv).toNat)
 case atStart => exact ⟨0, [], _, s, Nat.zero_le _, rfl, rfl, I0, H2⟩
 case round =>
  clear H2
  obtain ⟨k, ns, sv, t, hk, rfl, rfl, HI, HR⟩ := hrel
  by_cases hlt : k < xs.length
  ·have i3 : decide ((k : Int) < (xs.length : Int)) = true := decide_eq_true (by omega)
   have i4 : ((k : Int) < (xs.length : Int)) = True := eq_true (by omega)
   have i5 : (0 ≤ (k : Int)) = True := eq_true (by omega)
   have WR : wrap64 ((k : Int) + 1) = ((k + 1 : Nat) : Int) := by have := HL.out; unfold wrap64; omega
   have LT := Aside0.mk hlt
   have HNL : Aside0 (ns.length ≤ 1000000) := ⟨by have q1 := HI.out.len; have q2 := HL.out; omega⟩
   obtain ⟨L', hL1, hL2⟩ := HR.out
   rw [List.drop_eq_getElem_cons hlt] at hL1
   obtain ⟨m0, wd, dg, wt, t', r', hm, hw, ht, hp, hd, hrun, hr⟩ := sufRun_step hL1
   have HNX : ∀ a n, n = dv (or0 dg) (or0 dg).size → Aside0 (∃ L', sufRun kq (xs.drop (k + 1)) t' = some (L', rest) ∧ sxTold (ns ++ [⟨wt, a, n⟩]) ++ sxWant L' = sxWant L) := fun a n hn => ⟨⟨r'.1, by
    rw [hrun]
    have e := congrArg Prod.snd hr
    have e2 : rest = r'.2 := e
    rw [e2], by
    have e := congrArg Prod.fst hr
    have e2 : L' = (wt, or0 dg) :: r'.1 := e
    rw [← hL2, e2, hn]
    simp [sxTold, sxWant]⟩⟩
   have HW := Aside0.mk hw
   have HT := Aside0.mk ht
   have hx : xs[k]? = some [m0, wd, dg] := by rw [List.getElem?_eq_getElem hlt, hm]
   obtain ⟨g2, v, e, ⟨cells2, hg2⟩, hcell, hrow⟩ := HI.out.rest k _ (Nat.le_refl _) hx
   subst e
   obtain ⟨b, cap2, e, hb1, hb2, hb3⟩ := Kd.R_form hrow (by simp)
   subst e
   have hfb : f b = k := hrow.1 b rfl
   have el : ∀ j : Nat, j < 3 → wr.cell? ⟨b, j, none⟩ = some (.string ([m0, wd, dg].getD j ByteArray.empty)) ∧ wr.frozen? ⟨b, j, none⟩ = false := fun j hj => by
    obtain ⟨c, hc1, hM, hcc, hfr⟩ := Kd.R_elem hrow ByteArray.empty (j : Int) (by omega) (by simp; omega)
    have hM2 : c = [.string ([m0, wd, dg].getD (j : Int).toNat ByteArray.empty)] := hM
    have h3 := hcc 0 _ (by rw [hM2]; rfl)
    have h4 := hfr 0
    rw [show (j : Int).toNat * Kd.string.sz + 0 = j by show (j : Int).toNat * 1 + 0 = j; omega] at h3 h4
    rw [show (j : Int).toNat = j by omega] at h3
    exact ⟨h3, h4⟩
   have y0 : wr.cell? ⟨g2, k, none⟩ = some (.slice (some ⟨b, 0, none⟩) 3 cap2) := hcell
   have e0 : wr.cell? ⟨b, 0, none⟩ = some (.string m0) := (el 0 (by decide)).1
   have e1 : wr.cell? ⟨b, 1, none⟩ = some (.string wd) := (el 1 (by decide)).1
   have e2 : wr.cell? ⟨b, 2, none⟩ = some (.string dg) := (el 2 (by decide)).1
   have f2 : wr.frozen? ⟨b, 2, none⟩ = false := (el 2 (by decide)).2
   have HGE := Aside0.mk (HGL.out wr HI.out.gr)
   have HB3 := Aside0.mk hb3
   have HGE2 : Aside0 (GLe (wr.setCell ⟨b, 2, none⟩ (.string ⟨#[48]⟩))) := ⟨HGL.out _ (gr_set HI.out.gr (.inr hb1) _ _)⟩
   have HM : Aside0 (∀ (W w' : World) (a : Nat), (W = wr ∨ W = wr.setCell ⟨b, 2, none⟩ (.string ⟨#[48]⟩)) → Below W.heap.size W w' → BigAt w' a (dv (or0 dg) (or0 dg).size) → SMid w w' g o i r cv l sv h bv f (some ⟨g2, 0, none⟩) xs k ns b m0 wd a (dv (or0 dg) (or0 dg).size)) :=
    ⟨fun W w' a hW hb hn => HI.out.mid hb3 hfb hb1 e0 e1 hW hb hn⟩
   have HP := Aside0.mk (And.intro hp hd)
   clear hlt hk hL1 hL2 hm hw ht hp hd hrun hr hx hg2 hcell hrow hb1 hb2 hfb el e0 e1 hb3 HR I0 HI
   by_cases hde : dg.toList = []
   ·have c1 : (dg.toList == []) = true := by simpa using hde
    have c2 : (dg.toList != []) = false := by simpa using hde
    have c3 : dg.toList.isEmpty = true := by simpa using hde
    have eo : or0 dg = ⟨#[48]⟩ := if_pos hde
    rw [eo] at HM HP HNX
    have HV : Aside0 (∀ W, GLe W → Calls Tryz.prog 62 #[.string ⟨#[48]⟩] W fun e w' => ∃ a, e = .returned (.tuple #[.pointer (some ⟨a, 0, none⟩), .nilIface]) ∧ BigAt w' a (dv ⟨#[48]⟩ (⟨#[48]⟩ : ByteArray).size) ∧ Below W.heap.size W w') := ⟨fun W hW => conv_at W _ HP.out.1 hW HP.out.2⟩
    clear hde eo HP
    have y2 : (wr.setCell ⟨b, 2, none⟩ (.string ⟨#[48]⟩)).cell? ⟨b, 2, none⟩ = some (.string ⟨#[48]⟩) := by
     obtain ⟨cells, hc⟩ := HB3.out
     rw [blk_cell (blk_set hc 2 _), Array.getElem?_setIfInBounds]
     rw [blk_cell hc] at e2
     have := (Array.getElem?_eq_some_iff.1 e2).1
     simp [this]
    go_upto_region 9 with (first | (go_at_call 62; (with_reducible refine (HV.out _ HGE2.out).mono ?_); rintro e' w3 ⟨a, rfl, hA, hb⟩; have M3 := Aside0.mk (HM.out _ w3 a (.inr rfl) hb hA); have NX := HNX a _ rfl; clear hb hA HNX HB3))
    refine start_ (n := 16) (S := fun w' => w'.cell? ⟨g, 5, none⟩ = some sv ∧ w'.cell? ⟨b, 1, none⟩ = some (.string wd)) (ds := [12, 15]) #[false, false, false, false, false, false, false, false, false, false, false, false, false, false, false, false] (by kernel_rfl) rfl rfl ⟨(blk_cell M3.out.drew.blk 5).trans rfl, M3.out.drew.c1⟩ (fun hHeld => ?_)
    have M4 := Aside0.mk M3.out.drew
    clear M3 HM
    generalize w3.drew = w4 at M4 hHeld ⊢
    refine pure_ (i := 0) (N := some 33) (v := ?_) (a' := ?_) #[true, false, false, false, false, false, false, false, false, false, false, false, false, false, false, false] rfl rfl (by kernel_rfl) (fun _ _ _ h => h) (Or.inl ⟨by rfl, ?_⟩) ?_ ?_
    rotate_left
    ·intro w'
     go_simp
     with_reducible rfl
    rotate_left
    ·simp only [Act.put, List.setIfInBounds_toArray, List.set_cons_zero, List.set_cons_succ, i64_w, i32_w]
     rfl
    refine pure_ (i := 1) (N := some 34) (v := ?_) (a' := ?_) #[true, true, false, false, false, false, false, false, false, false, false, false, false, false, false, false] rfl rfl (by kernel_rfl) (fun _ _ _ h => h) (Or.inl ⟨by rfl, ?_⟩) ?_ ?_
    rotate_left
    ·intro w'
     go_simp
     with_reducible rfl
    rotate_left
    ·simp only [Act.put, List.setIfInBounds_toArray, List.set_cons_zero, List.set_cons_succ, i64_w, i32_w]
     rfl
    refine pure_ (i := 2) (N := some 35) (v := ?_) (a' := ?_) #[true, true, true, false, false, false, false, false, false, false, false, false, false, false, false, false] rfl rfl (by kernel_rfl) (fun _ _ _ h => h) (Or.inl ⟨by rfl, ?_⟩) ?_ ?_
    rotate_left
    ·intro w'
     go_simp
     with_reducible rfl
    rotate_left
    ·simp only [Act.put, List.setIfInBounds_toArray, List.set_cons_zero, List.set_cons_succ, i64_w, i32_w]
     rfl
    refine pure_ (i := 3) (N := some 36) (v := ?_) (a' := ?_) #[true, true, true, true, false, false, false, false, false, false, false, false, false, false, false, false] rfl rfl (by kernel_rfl) (fun _ _ _ h => h) (Or.inl ⟨by rfl, ?_⟩) ?_ ?_
    rotate_left
    ·intro w'
     go_simp
     with_reducible rfl
    rotate_left
    ·simp only [Act.put, List.setIfInBounds_toArray, List.set_cons_zero, List.set_cons_succ, i64_w, i32_w]
     rfl
    refine pure_ (i := 5) (N := some 38) (v := ?_) (a' := ?_) #[true, true, true, true, false, true, false, false, false, false, false, false, false, false, false, false] rfl rfl (by kernel_rfl) (fun _ _ _ h => h) (Or.inl ⟨by rfl, ?_⟩) ?_ ?_
    rotate_left
    ·intro w'
     go_simp
     with_reducible rfl
    rotate_left
    ·simp only [Act.put, List.setIfInBounds_toArray, List.set_cons_zero, List.set_cons_succ, i64_w, i32_w]
     rfl
    refine pure_ (i := 6) (N := some 39) (v := ?_) (a' := ?_) #[true, true, true, true, false, true, true, false, false, false, false, false, false, false, false, false] rfl rfl (by kernel_rfl) (fun _ _ _ h => h) (Or.inl ⟨by rfl, ?_⟩) ?_ ?_
    rotate_left
    ·intro w'
     go_simp
     with_reducible rfl
    rotate_left
    ·simp only [Act.put, List.setIfInBounds_toArray, List.set_cons_zero, List.set_cons_succ, i64_w, i32_w]
     rfl
    refine pure_ (i := 9) (N := some 42) (v := ?_) (a' := ?_) #[true, true, true, true, false, true, true, false, false, true, false, false, false, false, false, false] rfl rfl (by kernel_rfl) (fun _ _ _ h => h) (Or.inl ⟨by rfl, ?_⟩) ?_ ?_
    rotate_left
    ·intro w'
     go_simp
     with_reducible rfl
    rotate_left
    ·simp only [Act.put, List.setIfInBounds_toArray, List.set_cons_zero, List.set_cons_succ, i64_w, i32_w]
     rfl
    refine take_ (i := 4) (N := some 37) (v := ?_) (a' := ?_) #[true, true, true, true, true, true, true, false, false, true, false, false, false, false, false, false] rfl rfl (by kernel_rfl) (fun _ _ _ h => h) (Or.inl ⟨by rfl, ?_⟩) hHeld ?_ ?_
    rotate_left
    ·rintro w' ⟨s0, s1⟩
     go_simp
     with_reducible rfl
    rotate_left
    ·simp only [Act.put, List.setIfInBounds_toArray, List.set_cons_zero, List.set_cons_succ, i64_w, i32_w]
     rfl
    refine take_ (i := 7) (N := some 40) (v := ?_) (a' := ?_) #[true, true, true, true, true, true, true, true, false, true, false, false, false, false, false, false] rfl rfl (by kernel_rfl) (fun _ _ _ h => h) (Or.inl ⟨by rfl, ?_⟩) hHeld ?_ ?_
    rotate_left
    ·rintro w' ⟨s0, s1⟩
     go_simp
     with_reducible rfl
    rotate_left
    ·simp only [Act.put, List.setIfInBounds_toArray, List.set_cons_zero, List.set_cons_succ, i64_w, i32_w]
     rfl
    refine one_ (i := 8) (N := some 41) #[true, true, true, true, true, true, true, true, true, true, false, false, false, false, false, false] rfl rfl (by kernel_rfl) (by decide) (fun K hK => ?_)
    refine goes_ Tryz.func66 (by kernel_rfl) rfl #[.string wd] (by rfl) rfl rfl (by simp only [List.map_toArray, List.map_cons, List.map_nil]; rfl) ?_
    with_reducible refine (semantic_weightAlpineSuffixString.calls kq wd wt _ HW.out).mono ?_
    rintro e w5 ⟨rfl, hb⟩
    refine ⟨_, rfl, ?_⟩
    have M5 := Aside0.mk (M4.out.below hb)
    clear hb M4
    refine hK.out _ _ ⟨(blk_cell M5.out.blk 5).trans rfl, M5.out.c1⟩ (fun hHeld => ?_)
    clear hK K
    refine Go.Proofs.YtapaijpglfmfgaaGreatDoorW.PrintLast.norm_ (a' := ?_) ?_ ?_
    rotate_left
    ·show Act.put _ (some 41) _ = _
     simp only [Act.put, List.setIfInBounds_toArray, List.set_cons_zero, List.set_cons_succ, i64_w, i32_w]
     rfl
    refine pure_ (i := 10) (N := some 43) (v := ?_) (a' := ?_) #[true, true, true, true, true, true, true, true, true, true, true, false, false, false, false, false] rfl rfl (by kernel_rfl) (fun _ _ _ h => h) (Or.inl ⟨by rfl, ?_⟩) ?_ ?_
    rotate_left
    ·intro w'
     go_simp
     with_reducible rfl
    rotate_left
    ·simp only [Act.put, List.setIfInBounds_toArray, List.set_cons_zero, List.set_cons_succ, i64_w, i32_w]
     rfl
    refine one_ (i := 11) (N := some 44) #[true, true, true, true, true, true, true, true, true, true, true, true, false, false, false, false] rfl rfl (by kernel_rfl) (by decide) (fun K hK => ?_)
    refine value_ (w1 := ?_) (v := ?_) (by rfl) rfl ?_ ?_
    rotate_left 2
    ·go_simp
     constructor
     ·rfl
     ·rfl
    refine hK.out _ _ ⟨(blk_cell (blk_alloc M5.out.blk _) 5).trans rfl, (cell_old (below_alloc (Below.refl _ _) _) M5.out.c1)⟩ (fun hHeld => ?_)
    clear hK K
    refine Go.Proofs.YtapaijpglfmfgaaGreatDoorW.PrintLast.norm_ (a' := ?_) ?_ ?_
    rotate_left
    ·show Act.put _ (some 44) _ = _
     simp only [Act.put, List.setIfInBounds_toArray, List.set_cons_zero, List.set_cons_succ, i64_w, i32_w]
     rfl
    refine last_ (i := 12) (N := some 45) #[true, true, true, true, true, true, true, true, true, true, true, true, true, false, false, false] rfl rfl (by kernel_rfl) (by decide) (fun K hK => ?_)
    refine Kd.R_append_step (Kd.raw 2) (w0 := w5) w.heap.size (by rfl) (.tmp 37) (.tmp 44) 68 117 (.agg #[.int .i64 0, .pointer none]) 16 rfl Tryz.underlying68 infoSuf rfl (by decide) (by omega) sv (sfCells ns) [.int .i64 wt, .pointer (some ⟨a, 0, none⟩)] [.int .i64 wt, .pointer (some ⟨a, 0, none⟩)] (fun _ => True) (fun _ => False) rfl rfl ?aP (fun _ hk => hk.elim) (fun _ _ => trivial) M5.out.own.1 (Below.refl _ _) M5.out.gr.size ?aL ?_
    (case aP => exact ⟨rfl, rfl, by intro u hu; simp at hu; rcases hu with rfl | rfl <;> rfl⟩)
    (case aL => rw [sfCells_len]; have := HNL.out; omega)
    intro v1 w7 ho hb hg hat
    obtain ⟨A1, n1, cp1, rfl⟩ : ∃ A n c, v1 = .slice A n c := by
     obtain ⟨A, c, e⟩ := Kd.R_slice ho
     exact ⟨A, _, c, e⟩
    have B7 := Aside0.mk ((KeptT.row (p := notSuf) (by decide) M5.out.own.1 hg).blk M5.out.blk (by decide))
    have x7 := (blk_cell B7.out 5).trans rfl
    have f7 := blk_frozen B7.out 5
    have I7 := Aside0.mk (M5.out.step ho hg)
    clear ho hb hg hat
    refine hK.out _ _ ?_
    clear hK K
    refine Go.Proofs.YtapaijpglfmfgaaGreatDoorW.PrintLast.norm_ (a' := ?_) ?_ ?_
    rotate_left
    ·show Act.put _ (some 45) _ = _
     simp only [Act.put, List.setIfInBounds_toArray, List.set_cons_zero, List.set_cons_succ, i64_w, i32_w]
     rfl
    refine pure_ (i := 13) (N := some 46) (v := ?_) (a' := ?_) #[true, true, true, true, true, true, true, true, true, true, true, true, true, true, false, false] rfl rfl (by kernel_rfl) (fun _ _ _ h => h) (Or.inl ⟨by rfl, ?_⟩) ?_ ?_
    rotate_left
    ·intro w'
     go_simp
     with_reducible rfl
    rotate_left
    ·simp only [Act.put, List.setIfInBounds_toArray, List.set_cons_zero, List.set_cons_succ, i64_w, i32_w]
     rfl
    refine pure_ (i := 14) (N := some 47) (v := ?_) (a' := ?_) #[true, true, true, true, true, true, true, true, true, true, true, true, true, true, true, false] rfl rfl (by kernel_rfl) (fun _ _ _ h => h) (Or.inl ⟨by rfl, ?_⟩) ?_ ?_
    rotate_left
    ·intro w'
     go_simp
     with_reducible rfl
    rotate_left
    ·simp only [Act.put, List.setIfInBounds_toArray, List.set_cons_zero, List.set_cons_succ, i64_w, i32_w]
     rfl
    refine last_ (i := 15) (N := none) #[true, true, true, true, true, true, true, true, true, true, true, true, true, true, true, true] rfl rfl (by kernel_rfl) (by decide) (fun K hK => ?_)
    refine skip_ (w1 := ?_) (by rfl) rfl ?_ ?_
    rotate_left
    ·go_simp
     rfl
    refine hK.out _ _ ?_
    clear hK K
    refine done_ (by kernel_rfl) ?_
    have x8 := I7.out.2
    go_wp2_with (first | (go_at_call 63; (with_reducible refine (strings_TrimPrefix.calls t m0 t' _ HT.out).mono ?_); rintro e' w' ⟨rfl, ⟨nd2, rfl⟩⟩))
    go_roundw
    all_goals first | exact ⟨k + 1, _, .slice A1 n1 cp1, t', LT.out, rfl, by first | rfl | go_num, ⟨I7.out.1.below (pw_below_drewN (Below.refl _ _) _)⟩, NX⟩ | exact meas_up0 _ k LT.out | exact meas_up1 _ k LT.out | exact meas_up2 _ k LT.out WR
   ·have c1 : (dg.toList == []) = false := by simpa using hde
    have c2 : (dg.toList != []) = true := by simpa using hde
    have c3 : dg.toList.isEmpty = false := by simpa using hde
    have eo : or0 dg = dg := if_neg hde
    rw [eo] at HM HP HNX
    have HV : Aside0 (∀ W, GLe W → Calls Tryz.prog 62 #[.string dg] W fun e w' => ∃ a, e = .returned (.tuple #[.pointer (some ⟨a, 0, none⟩), .nilIface]) ∧ BigAt w' a (dv dg dg.size) ∧ Below W.heap.size W w') := ⟨fun W hW => conv_at W _ HP.out.1 hW HP.out.2⟩
    clear hde eo HP
    go_upto_region 9 with (first | (go_at_call 62; (with_reducible refine (HV.out _ HGE.out).mono ?_); rintro e' w3 ⟨a, rfl, hA, hb⟩; have M3 := Aside0.mk (HM.out _ w3 a (.inl rfl) hb hA); have NX := HNX a _ rfl; clear hb hA HNX HB3))
    refine start_ (n := 16) (S := fun w' => w'.cell? ⟨g, 5, none⟩ = some sv ∧ w'.cell? ⟨b, 1, none⟩ = some (.string wd)) (ds := [12, 15]) #[false, false, false, false, false, false, false, false, false, false, false, false, false, false, false, false] (by kernel_rfl) rfl rfl ⟨(blk_cell M3.out.drew.blk 5).trans rfl, M3.out.drew.c1⟩ (fun hHeld => ?_)
    have M4 := Aside0.mk M3.out.drew
    clear M3 HM
    generalize w3.drew = w4 at M4 hHeld ⊢
    refine pure_ (i := 0) (N := some 33) (v := ?_) (a' := ?_) #[true, false, false, false, false, false, false, false, false, false, false, false, false, false, false, false] rfl rfl (by kernel_rfl) (fun _ _ _ h => h) (Or.inl ⟨by rfl, ?_⟩) ?_ ?_
    rotate_left
    ·intro w'
     go_simp
     with_reducible rfl
    rotate_left
    ·simp only [Act.put, List.setIfInBounds_toArray, List.set_cons_zero, List.set_cons_succ, i64_w, i32_w]
     rfl
    refine pure_ (i := 1) (N := some 34) (v := ?_) (a' := ?_) #[true, true, false, false, false, false, false, false, false, false, false, false, false, false, false, false] rfl rfl (by kernel_rfl) (fun _ _ _ h => h) (Or.inl ⟨by rfl, ?_⟩) ?_ ?_
    rotate_left
    ·intro w'
     go_simp
     with_reducible rfl
    rotate_left
    ·simp only [Act.put, List.setIfInBounds_toArray, List.set_cons_zero, List.set_cons_succ, i64_w, i32_w]
     rfl
    refine pure_ (i := 2) (N := some 35) (v := ?_) (a' := ?_) #[true, true, true, false, false, false, false, false, false, false, false, false, false, false, false, false] rfl rfl (by kernel_rfl) (fun _ _ _ h => h) (Or.inl ⟨by rfl, ?_⟩) ?_ ?_
    rotate_left
    ·intro w'
     go_simp
     with_reducible rfl
    rotate_left
    ·simp only [Act.put, List.setIfInBounds_toArray, List.set_cons_zero, List.set_cons_succ, i64_w, i32_w]
     rfl
    refine pure_ (i := 3) (N := some 36) (v := ?_) (a' := ?_) #[true, true, true, true, false, false, false, false, false, false, false, false, false, false, false, false] rfl rfl (by kernel_rfl) (fun _ _ _ h => h) (Or.inl ⟨by rfl, ?_⟩) ?_ ?_
    rotate_left
    ·intro w'
     go_simp
     with_reducible rfl
    rotate_left
    ·simp only [Act.put, List.setIfInBounds_toArray, List.set_cons_zero, List.set_cons_succ, i64_w, i32_w]
     rfl
    refine pure_ (i := 5) (N := some 38) (v := ?_) (a' := ?_) #[true, true, true, true, false, true, false, false, false, false, false, false, false, false, false, false] rfl rfl (by kernel_rfl) (fun _ _ _ h => h) (Or.inl ⟨by rfl, ?_⟩) ?_ ?_
    rotate_left
    ·intro w'
     go_simp
     with_reducible rfl
    rotate_left
    ·simp only [Act.put, List.setIfInBounds_toArray, List.set_cons_zero, List.set_cons_succ, i64_w, i32_w]
     rfl
    refine pure_ (i := 6) (N := some 39) (v := ?_) (a' := ?_) #[true, true, true, true, false, true, true, false, false, false, false, false, false, false, false, false] rfl rfl (by kernel_rfl) (fun _ _ _ h => h) (Or.inl ⟨by rfl, ?_⟩) ?_ ?_
    rotate_left
    ·intro w'
     go_simp
     with_reducible rfl
    rotate_left
    ·simp only [Act.put, List.setIfInBounds_toArray, List.set_cons_zero, List.set_cons_succ, i64_w, i32_w]
     rfl
    refine pure_ (i := 9) (N := some 42) (v := ?_) (a' := ?_) #[true, true, true, true, false, true, true, false, false, true, false, false, false, false, false, false] rfl rfl (by kernel_rfl) (fun _ _ _ h => h) (Or.inl ⟨by rfl, ?_⟩) ?_ ?_
    rotate_left
    ·intro w'
     go_simp
     with_reducible rfl
    rotate_left
    ·simp only [Act.put, List.setIfInBounds_toArray, List.set_cons_zero, List.set_cons_succ, i64_w, i32_w]
     rfl
    refine take_ (i := 4) (N := some 37) (v := ?_) (a' := ?_) #[true, true, true, true, true, true, true, false, false, true, false, false, false, false, false, false] rfl rfl (by kernel_rfl) (fun _ _ _ h => h) (Or.inl ⟨by rfl, ?_⟩) hHeld ?_ ?_
    rotate_left
    ·rintro w' ⟨s0, s1⟩
     go_simp
     with_reducible rfl
    rotate_left
    ·simp only [Act.put, List.setIfInBounds_toArray, List.set_cons_zero, List.set_cons_succ, i64_w, i32_w]
     rfl
    refine take_ (i := 7) (N := some 40) (v := ?_) (a' := ?_) #[true, true, true, true, true, true, true, true, false, true, false, false, false, false, false, false] rfl rfl (by kernel_rfl) (fun _ _ _ h => h) (Or.inl ⟨by rfl, ?_⟩) hHeld ?_ ?_
    rotate_left
    ·rintro w' ⟨s0, s1⟩
     go_simp
     with_reducible rfl
    rotate_left
    ·simp only [Act.put, List.setIfInBounds_toArray, List.set_cons_zero, List.set_cons_succ, i64_w, i32_w]
     rfl
    refine one_ (i := 8) (N := some 41) #[true, true, true, true, true, true, true, true, true, true, false, false, false, false, false, false] rfl rfl (by kernel_rfl) (by decide) (fun K hK => ?_)
    refine goes_ Tryz.func66 (by kernel_rfl) rfl #[.string wd] (by rfl) rfl rfl (by simp only [List.map_toArray, List.map_cons, List.map_nil]; rfl) ?_
    with_reducible refine (semantic_weightAlpineSuffixString.calls kq wd wt _ HW.out).mono ?_
    rintro e w5 ⟨rfl, hb⟩
    refine ⟨_, rfl, ?_⟩
    have M5 := Aside0.mk (M4.out.below hb)
    clear hb M4
    refine hK.out _ _ ⟨(blk_cell M5.out.blk 5).trans rfl, M5.out.c1⟩ (fun hHeld => ?_)
    clear hK K
    refine Go.Proofs.YtapaijpglfmfgaaGreatDoorW.PrintLast.norm_ (a' := ?_) ?_ ?_
    rotate_left
    ·show Act.put _ (some 41) _ = _
     simp only [Act.put, List.setIfInBounds_toArray, List.set_cons_zero, List.set_cons_succ, i64_w, i32_w]
     rfl
    refine pure_ (i := 10) (N := some 43) (v := ?_) (a' := ?_) #[true, true, true, true, true, true, true, true, true, true, true, false, false, false, false, false] rfl rfl (by kernel_rfl) (fun _ _ _ h => h) (Or.inl ⟨by rfl, ?_⟩) ?_ ?_
    rotate_left
    ·intro w'
     go_simp
     with_reducible rfl
    rotate_left
    ·simp only [Act.put, List.setIfInBounds_toArray, List.set_cons_zero, List.set_cons_succ, i64_w, i32_w]
     rfl
    refine one_ (i := 11) (N := some 44) #[true, true, true, true, true, true, true, true, true, true, true, true, false, false, false, false] rfl rfl (by kernel_rfl) (by decide) (fun K hK => ?_)
    refine value_ (w1 := ?_) (v := ?_) (by rfl) rfl ?_ ?_
    rotate_left 2
    ·go_simp
     constructor
     ·rfl
     ·rfl
    refine hK.out _ _ ⟨(blk_cell (blk_alloc M5.out.blk _) 5).trans rfl, (cell_old (below_alloc (Below.refl _ _) _) M5.out.c1)⟩ (fun hHeld => ?_)
    clear hK K
    refine Go.Proofs.YtapaijpglfmfgaaGreatDoorW.PrintLast.norm_ (a' := ?_) ?_ ?_
    rotate_left
    ·show Act.put _ (some 44) _ = _
     simp only [Act.put, List.setIfInBounds_toArray, List.set_cons_zero, List.set_cons_succ, i64_w, i32_w]
     rfl
    refine last_ (i := 12) (N := some 45) #[true, true, true, true, true, true, true, true, true, true, true, true, true, false, false, false] rfl rfl (by kernel_rfl) (by decide) (fun K hK => ?_)
    refine Kd.R_append_step (Kd.raw 2) (w0 := w5) w.heap.size (by rfl) (.tmp 37) (.tmp 44) 68 117 (.agg #[.int .i64 0, .pointer none]) 16 rfl Tryz.underlying68 infoSuf rfl (by decide) (by omega) sv (sfCells ns) [.int .i64 wt, .pointer (some ⟨a, 0, none⟩)] [.int .i64 wt, .pointer (some ⟨a, 0, none⟩)] (fun _ => True) (fun _ => False) rfl rfl ?aP (fun _ hk => hk.elim) (fun _ _ => trivial) M5.out.own.1 (Below.refl _ _) M5.out.gr.size ?aL ?_
    (case aP => exact ⟨rfl, rfl, by intro u hu; simp at hu; rcases hu with rfl | rfl <;> rfl⟩)
    (case aL => rw [sfCells_len]; have := HNL.out; omega)
    intro v1 w7 ho hb hg hat
    obtain ⟨A1, n1, cp1, rfl⟩ : ∃ A n c, v1 = .slice A n c := by
     obtain ⟨A, c, e⟩ := Kd.R_slice ho
     exact ⟨A, _, c, e⟩
    have B7 := Aside0.mk ((KeptT.row (p := notSuf) (by decide) M5.out.own.1 hg).blk M5.out.blk (by decide))
    have x7 := (blk_cell B7.out 5).trans rfl
    have f7 := blk_frozen B7.out 5
    have I7 := Aside0.mk (M5.out.step ho hg)
    clear ho hb hg hat
    refine hK.out _ _ ?_
    clear hK K
    refine Go.Proofs.YtapaijpglfmfgaaGreatDoorW.PrintLast.norm_ (a' := ?_) ?_ ?_
    rotate_left
    ·show Act.put _ (some 45) _ = _
     simp only [Act.put, List.setIfInBounds_toArray, List.set_cons_zero, List.set_cons_succ, i64_w, i32_w]
     rfl
    refine pure_ (i := 13) (N := some 46) (v := ?_) (a' := ?_) #[true, true, true, true, true, true, true, true, true, true, true, true, true, true, false, false] rfl rfl (by kernel_rfl) (fun _ _ _ h => h) (Or.inl ⟨by rfl, ?_⟩) ?_ ?_
    rotate_left
    ·intro w'
     go_simp
     with_reducible rfl
    rotate_left
    ·simp only [Act.put, List.setIfInBounds_toArray, List.set_cons_zero, List.set_cons_succ, i64_w, i32_w]
     rfl
    refine pure_ (i := 14) (N := some 47) (v := ?_) (a' := ?_) #[true, true, true, true, true, true, true, true, true, true, true, true, true, true, true, false] rfl rfl (by kernel_rfl) (fun _ _ _ h => h) (Or.inl ⟨by rfl, ?_⟩) ?_ ?_
    rotate_left
    ·intro w'
     go_simp
     with_reducible rfl
    rotate_left
    ·simp only [Act.put, List.setIfInBounds_toArray, List.set_cons_zero, List.set_cons_succ, i64_w, i32_w]
     rfl
    refine last_ (i := 15) (N := none) #[true, true, true, true, true, true, true, true, true, true, true, true, true, true, true, true] rfl rfl (by kernel_rfl) (by decide) (fun K hK => ?_)
    refine skip_ (w1 := ?_) (by rfl) rfl ?_ ?_
    rotate_left
    ·go_simp
     rfl
    refine hK.out _ _ ?_
    clear hK K
    refine done_ (by kernel_rfl) ?_
    have x8 := I7.out.2
    go_wp2_with (first | (go_at_call 63; (with_reducible refine (strings_TrimPrefix.calls t m0 t' _ HT.out).mono ?_); rintro e' w' ⟨rfl, ⟨nd2, rfl⟩⟩))
    go_roundw
    all_goals first | exact ⟨k + 1, _, .slice A1 n1 cp1, t', LT.out, rfl, by first | rfl | go_num, ⟨I7.out.1.below (pw_below_drewN (Below.refl _ _) _)⟩, NX⟩ | exact meas_up0 _ k LT.out | exact meas_up1 _ k LT.out | exact meas_up2 _ k LT.out WR
  ·obtain rfl : k = xs.length := by omega
   have i3 : decide ((xs.length : Int) < (xs.length : Int)) = false := decide_eq_false (by omega)
   have i4 : ((xs.length : Int) < (xs.length : Int)) = False := eq_false (by omega)
   obtain ⟨L', hL1, hL2⟩ := HR.out
   rw [List.drop_length] at hL1
   obtain ⟨rfl, rfl⟩ : [] = L' ∧ t = rest := by simpa [sufRun] using hL1
   have HE := Aside0.mk hL2
   clear hlt hk hL1 hL2 HR
   go_wp2
   go_ret2
   exact ⟨sv, ns, rfl, HI.out.blk, HI.out.own, by rw [← HE.out]; simp [sxWant], HI.out.gr⟩
end Go.Proofs.YtapaijpglfmfgaaGreatDoorG
end
section -- A10
namespace Go.Proofs.YtapaijpglfmfgaaGreatDoorG
open Go.RowKit Go.Proofs.YtapaijpglfmfgaaGreatDoorH Go.Proofs.YtapaijpglfmfgaaGreatDoor.S Go.Proofs.YtapaijpglfmfgaaGreatDoorW.PrintWords Go.Proofs.YtapaijpglfmfgaaGreatDoorW.PrintLast
set_option linter.unusedVariables false
set_option linter.unusedSimpArgs false
def numsRun (k : Nat) (s : ByteArray) : Option (List ByteArray × ByteArray) := (semantic_zzAlpineNumbers.f k s).bind fun sub => if sub.toList = [] then some ([], s) else (semantic_zzSplit.f k sub ⟨#[46]⟩).bind fun parts =>
 if 0 < parts.length ∧ parts.length ≤ 1000000 ∧ ∀ d ∈ takeNe parts, Plain d ∧ AllDig d then (strings_TrimPrefix.f s sub).map fun rest => (takeNe parts, rest) else none
def letterRun (s : ByteArray) : Option (ByteArray × ByteArray) := (semantic_zzAlpineLower.f s).bind fun b => if b = true ∧ s.size = 0 then none else (strings_TrimPrefix.f s (if b then s.extract 0 1 else ⟨#[]⟩)).map fun rest => (if b then s.extract 0 1 else ⟨#[]⟩, rest)
def sufsRun (k : Nat) (s : ByteArray) : Option (List (Int × ByteArray) × ByteArray) := (semantic_zzAlpineSuffixes.f k s).bind fun xs => if xs.length ≤ 1000000 then sufRun k xs s else none
def hashRun (k : Nat) (s : ByteArray) : Option (ByteArray × ByteArray) := (semantic_zzAlpineHash.f k s).bind fun hs => (strings_TrimPrefix.f s hs).map fun rest => (hs, rest)
def buildRun (k : Nat) (s : ByteArray) : Option (Bool × Nat × ByteArray) := if s.toList = [] then some (false, 0, s) else (semantic_zzHas.f s 0 ⟨#[45, 114]⟩).bind fun t => if t = true then
  (semantic_zzDigits.f k s 2).bind fun n => if 2 ≤ n ∧ n ≤ (s.size : Int) ∧ Plain (or0 (s.extract 2 n.toNat)) ∧ AllDig (or0 (s.extract 2 n.toNat)) then (strings_TrimPrefix.f s (s.extract 0 n.toNat)).map fun rest => (false, dv (or0 (s.extract 2 n.toNat)) (or0 (s.extract 2 n.toNat)).size, rest) else none
 else some (true, 0, s)
theorem results_cell_row2 {P : Program} {fn : Func} {p u : Tmp} {ty : TypeId} (h : fn.results = #[.cell p ty, .tmp u]) (tmps : Array Value) (w : World) (g : Nat) (t : TypeId) (cs : Array Value) (fr : Nat × Nat) (d : TypeDesc)
    (hp : tmps.getD p undef = .pointer (some ⟨g, 0, none⟩)) (hg : w.heap[g]? = some (.cells cs t fr))
    (hu : P.underlying ty = some d) (hd : (match d with | .struct _ | .array _ _ => true | _ => false) = true) (hi : (P.info? ty).map (·.size) = some cs.size) :
    (results fn tmps).run P w = .ok (.tuple #[.agg cs, tmps.getD u undef]) w := by
  rw [results_cell_tmp h, hp]
  simp [asAddr, run_loadVar_row w g t ty cs fr d hg hu hd hi, Result.andThen]
theorem KeptT.gr {w w' : World} {g : Nat} {o : ByteArray} {i : Bool} {r : ByteArray} {cv : Value} {l : ByteArray} {sv : Value} {h : ByteArray} {bv : Value} (hv : VBlk w g o i r cv l sv h bv) (k : w.grownBy w' (some g)) : KeptT (fun t => t != 71) w w' := KeptT.grown hv (by decide) k
theorem numT_notV (t : TypeId) (h : numT t = true) : (t != 71) = true := by
 unfold numT at h
 rcases Bool.or_eq_true_iff.mp h with h | h
 ·rw [of_decide_eq_true h]; decide
 ·rw [of_decide_eq_true h]; decide
section
variable {w w' : World} {g : Nat} {o : ByteArray} {i : Bool} {r : ByteArray} {cv : Value} {l : ByteArray} {sv : Value} {h : ByteArray} {bv : Value}
theorem NOwn.gr {base : Nat} {v : Value} {ns : List Nm} (H : NOwn w base v ns) (hv : VBlk w g o i r cv l sv h bv) (k : w.grownBy w' (some g)) : NOwn w' base v ns :=
 ⟨R_keptT (p := fun t => t != 71) rfl (by decide) H.1 (KeptT.gr hv k), fun x hx => (H.2 x hx).kept ((KeptT.gr hv k).sub numT_notV)⟩
theorem SOwn.gr {base : Nat} {v : Value} {ns : List Sx} (H : SOwn w base v ns) (hv : VBlk w g o i r cv l sv h bv) (k : w.grownBy w' (some g)) : SOwn w' base v ns :=
 ⟨R_keptT (p := fun t => t != 71) rfl (by decide) H.1 (KeptT.gr hv k), fun x hx => (H.2 x hx).kept ((KeptT.gr hv k).sub numT_notV)⟩
theorem BigAt.gr {a n : Nat} (H : BigAt w a n) (hv : VBlk w g o i r cv l sv h bv) (k : w.grownBy w' (some g)) : BigAt w' a n := H.kept ((KeptT.gr hv k).sub numT_notV)
end
theorem nums_at (w : World) (g : Nat) (o : ByteArray) (i : Bool) (r : ByteArray) (sv : Value) (l h : ByteArray) (bv : Value) (s rest : ByteArray) (k : Nat) (ds : List ByteArray) (hv : VBlk w g o i r (.slice none 0 0) l sv h bv) (hGL : ∀ W, w.grownBy W (some g) → GLe W) (h1 : numsRun k s = some (ds, rest)) :
    Calls Tryz.prog 48 #[.pointer (some ⟨g, 0, none⟩), .string s] w fun e w' => ∃ cv ns base, e = .returned (.tuple #[.string rest, .nilIface]) ∧ VBlk w' g o i r cv l sv h bv ∧ NOwn w' base cv ns ∧ ns.map (·.o) = ds ∧ ns.length ≤ 1000000 ∧ w.grownBy w' (some g) := by
  unfold numsRun at h1
  obtain ⟨sub, h2, h1⟩ := Option.bind_eq_some_iff.mp h1
  by_cases h0 : sub.toList = []
  · rw [if_pos h0] at h1
    cases h1
    refine (parseNums_e w g s sub k h2 h0).mono ?_
    rintro e w' ⟨rfl, n, rfl⟩
    exact ⟨_, [], 0, rfl, blk_drewN hv _, ⟨Kd.R_nil _ _ _ _ _, fun x hx => by simp at hx⟩, rfl, by simp, gr_drewN (gr_refl w _) _⟩
  · rw [if_neg h0] at h1
    obtain ⟨parts, h3, h1⟩ := Option.bind_eq_some_iff.mp h1
    by_cases hc : 0 < parts.length ∧ parts.length ≤ 1000000 ∧ ∀ d ∈ takeNe parts, Plain d ∧ AllDig d
    · rw [if_pos hc] at h1
      obtain ⟨rest', h4, h5⟩ := Option.map_eq_some_iff.mp h1
      cases h5
      refine (parseNums_ w g o i r sv l h bv s sub rest k k parts hv hGL h2 h0 h3 hc.1 hc.2.1 hc.2.2 h4).mono ?_
      rintro e w' ⟨cv, ns, rfl, k1, k2, k3, k4⟩
      refine ⟨cv, ns, _, rfl, k1, k2, k3, ?_, k4⟩
      have q1 := congrArg List.length k3
      rw [List.length_map] at q1
      have q2 : (takeNe parts).length ≤ parts.length := by
        unfold takeNe
        exact (List.takeWhile_sublist _).length_le
      have q3 := hc.2.1
      omega
    · rw [if_neg hc] at h1
      cases h1
theorem letter_at (w : World) (g : Nat) (o : ByteArray) (i : Bool) (r : ByteArray) (cv sv : Value) (h : ByteArray) (bv : Value) (s L rest : ByteArray) (hv : VBlk w g o i r cv ⟨#[]⟩ sv h bv) (h1 : letterRun s = some (L, rest)) :
  Calls Tryz.prog 49 #[.pointer (some ⟨g, 0, none⟩), .string s] w fun e w' => e = .returned (.string rest) ∧ VBlk w' g o i r cv L sv h bv ∧ w.grownBy w' (some g) := by
 unfold letterRun at h1
 obtain ⟨b, h2, h1⟩ := Option.bind_eq_some_iff.mp h1
 by_cases hc : b = true ∧ s.size = 0
 ·rw [if_pos hc] at h1
  cases h1
 ·rw [if_neg hc] at h1
  obtain ⟨rest', h4, h5⟩ := Option.map_eq_some_iff.mp h1
  cases h5
  exact parseLetter_ w g o i r cv sv h bv s rest b hv h2 h4 (fun hb => by
   rcases Nat.eq_zero_or_pos s.size with h0 | h0
   ·exact absurd ⟨hb, h0⟩ hc
   ·exact h0)
theorem sufs_at (w : World) (g : Nat) (o : ByteArray) (i : Bool) (r : ByteArray) (cv : Value) (l h : ByteArray) (bv : Value) (s rest : ByteArray) (k : Nat) (L : List (Int × ByteArray)) (hv : VBlk w g o i r cv l (.slice none 0 0) h bv) (hGL : ∀ W, w.grownBy W (some g) → GLe W) (h1 : sufsRun k s = some (L, rest)) :
  Calls Tryz.prog 50 #[.pointer (some ⟨g, 0, none⟩), .string s] w fun e w' => ∃ sv ns base, e = .returned (.tuple #[.string rest, .nilIface]) ∧ VBlk w' g o i r cv l sv h bv ∧ SOwn w' base sv ns ∧ sxTold ns = sxWant L ∧ ns.length ≤ 1000000 ∧ w.grownBy w' (some g) := by
 unfold sufsRun at h1
 obtain ⟨xs, h2, h1⟩ := Option.bind_eq_some_iff.mp h1
 by_cases hc : xs.length ≤ 1000000
 ·rw [if_pos hc] at h1
  refine (parseSufs_ w g o i r cv l h bv s rest k k xs L hv hGL h2 hc h1).mono ?_
  rintro e w' ⟨sv, ns, rfl, k1, k2, k3, k4⟩
  refine ⟨sv, ns, _, rfl, k1, k2, k3, ?_, k4⟩
  have key : ∀ (xs : List (List ByteArray)) (s : ByteArray) (L : List (Int × ByteArray)) (rest : ByteArray), sufRun k xs s = some (L, rest) → L.length = xs.length := by
   intro xs
   induction xs with
   | nil => intro s L rest h; simp [sufRun] at h; rw [h.1]; rfl
   | cons m ms ih =>
    intro s L rest h
    obtain ⟨m0, wd, dg, wt, s', r', _, _, _, _, _, h6, h7⟩ := sufRun_step h
    have e1 := congrArg Prod.fst h7
    have e2 : L = (wt, or0 dg) :: r'.1 := e1
    rw [e2, List.length_cons, List.length_cons, ih s' r'.1 r'.2 h6]
  have q1 := congrArg List.length k3
  simp only [sxTold, sxWant, List.length_map] at q1
  rw [q1, key _ _ _ _ h1]
  exact hc
 ·rw [if_neg hc] at h1
  cases h1
theorem hash_at (w : World) (g : Nat) (o : ByteArray) (i : Bool) (r : ByteArray) (cv sv : Value) (l h : ByteArray) (bv : Value) (s hs rest : ByteArray) (k : Nat) (hv : VBlk w g o i r cv l sv h bv) (h1 : hashRun k s = some (hs, rest)) :
  Calls Tryz.prog 51 #[.pointer (some ⟨g, 0, none⟩), .string s] w fun e w' => e = .returned (.string rest) ∧ VBlk w' g o i r cv l sv hs bv ∧ w.grownBy w' (some g) := by
 unfold hashRun at h1
 obtain ⟨hs', h2, h1⟩ := Option.bind_eq_some_iff.mp h1
 obtain ⟨rest', h4, h5⟩ := Option.map_eq_some_iff.mp h1
 cases h5
 exact parseHash_ w g o i r cv sv l h bv s hs rest k hv h2 h4
theorem build_at (w : World) (g : Nat) (o : ByteArray) (r : ByteArray) (cv sv : Value) (l h : ByteArray) (a0 : Nat) (s rest : ByteArray) (inv : Bool) (n k : Nat) (hv : VBlk w g o false r cv l sv h (.pointer (some ⟨a0, 0, none⟩))) (hz : BigAt w a0 0) (hGL : GLe w) (h1 : buildRun k s = some (inv, n, rest)) :
  Calls Tryz.prog 52 #[.pointer (some ⟨g, 0, none⟩), .string s] w fun e w' => ∃ a, e = .returned (.tuple #[.string rest, .nilIface]) ∧ VBlk w' g o inv r cv l sv h (.pointer (some ⟨a, 0, none⟩)) ∧ BigAt w' a n ∧ w.grownBy w' (some g) := by
 unfold buildRun at h1
 by_cases h0 : s.toList = []
 ·rw [if_pos h0] at h1
  cases h1
  refine (parseBuild_e w g s h0).mono ?_
  rintro e w' ⟨rfl, rfl⟩
  exact ⟨a0, rfl, hv, hz, gr_refl _ _⟩
 ·rw [if_neg h0] at h1
  obtain ⟨t, h2, h1⟩ := Option.bind_eq_some_iff.mp h1
  cases t with
  | false =>
   rw [if_neg (by simp)] at h1
   cases h1
   refine (parseBuild_n w g o false r cv sv l h _ s hv h0 h2).mono ?_
   rintro e w' ⟨rfl, k1, k2⟩
   exact ⟨a0, rfl, k1, hz.gr hv k2, k2⟩
  | true =>
   rw [if_pos rfl] at h1
   obtain ⟨m, h3, h1⟩ := Option.bind_eq_some_iff.mp h1
   by_cases hc : 2 ≤ m ∧ m ≤ (s.size : Int) ∧ Plain (or0 (s.extract 2 m.toNat)) ∧ AllDig (or0 (s.extract 2 m.toNat))
   ·rw [if_pos hc] at h1
    obtain ⟨rest', h4, h5⟩ := Option.map_eq_some_iff.mp h1
    cases h5
    obtain ⟨m', rfl⟩ : ∃ m' : Nat, m = (m' : Int) := ⟨m.toNat, by omega⟩
    exact parseBuild_y w g o false r cv sv l h _ s rest k m' hv hGL h0 h2 h3 (by omega) (by omega) hc.2.2.1 hc.2.2.2 h4
   ·rw [if_neg hc] at h1
    cases h1
structure AP where
 o : ByteArray
 i : Bool
 r : ByteArray
 c : List ByteArray
 l : ByteArray
 s : List (Int × ByteArray)
 h : ByteArray
 b : Nat
def parseA (k : Nat) (s : ByteArray) : Option AP := (numsRun k s).bind fun a1 => (letterRun a1.2).bind fun a2 => (sufsRun k a2.2).bind fun a3 => (hashRun k a3.2).bind fun a4 => (buildRun k a4.2).bind fun a5 => some ⟨s, a5.1, a5.2.2, a1.1, a2.1, a3.1, a4.1, a5.2.1⟩
def Told (x : AV) (p : AP) : Prop := x.o = p.o ∧ x.i = p.i ∧ x.r = p.r ∧ x.c.map (·.o) = p.c ∧ (∀ y ∈ x.c, y.n = dv y.o y.o.size) ∧ x.l = p.l ∧ sxTold x.s = sxWant p.s ∧ x.h = p.h ∧ x.b = p.b
theorem parseA_inv {k : Nat} {s : ByteArray} {p : AP} (h : parseA k s = some p) : ∃ s1 s2 s3 s4, numsRun k s = some (p.c, s1) ∧ letterRun s1 = some (p.l, s2) ∧ sufsRun k s2 = some (p.s, s3) ∧ hashRun k s3 = some (p.h, s4) ∧ buildRun k s4 = some (p.i, p.b, p.r) ∧ p.o = s := by
 unfold parseA at h
 obtain ⟨⟨ds, s1⟩, h1, h⟩ := Option.bind_eq_some_iff.mp h
 obtain ⟨⟨L, s2⟩, h2, h⟩ := Option.bind_eq_some_iff.mp h
 obtain ⟨⟨sf, s3⟩, h3, h⟩ := Option.bind_eq_some_iff.mp h
 obtain ⟨⟨hs, s4⟩, h4, h⟩ := Option.bind_eq_some_iff.mp h
 obtain ⟨⟨inv, n, rest⟩, h5, h⟩ := Option.bind_eq_some_iff.mp h
 obtain rfl := Option.some.inj h
 exact ⟨s1, s2, s3, s4, h1, h2, h3, h4, h5, rfl⟩
set_option maxRecDepth 100000 in
set_option maxHeartbeats 4000000 in
theorem parse_ (w : World) (s : ByteArray) (p : AP) (k : Nat) (hGL : GLe w) (h0 : parseA k s = some p) :
  Calls Tryz.prog 30 #[.string s] w fun e w' => ∃ v x, e = .returned (.tuple #[v, .nilIface]) ∧ AVAt w' v x ∧ Told x p ∧ Below w.heap.size w w' := by
 obtain ⟨s1, s2, s3, s4, h1, h2, h3, h4, h5, h6⟩ := parseA_inv h0
 subst h6
 have HGL := Aside0.mk hGL
 have HB := Aside0.mk (Below.refl w.heap.size w)
 have H1 := Aside0.mk h1
 have H2 := Aside0.mk h2
 have H3 := Aside0.mk h3
 have H4 := Aside0.mk h4
 have H5 := Aside0.mk h5
 clear h0 h1 h2 h3 h4 h5 hGL
 obtain ⟨W0, hW0⟩ : ∃ W0, W0 = (((w.alloc (.cells #[.string ⟨#[]⟩, .bool false, .string ⟨#[]⟩, .slice none 0 0, .string ⟨#[]⟩, .slice none 0 0, .string ⟨#[]⟩, .pointer none] 71)).alloc (.cells #[.bool false, .slice none 0 0] 100)).alloc (.cells #[.string p.o, .bool false, .string ⟨#[]⟩, .slice none 0 0, .string ⟨#[]⟩, .slice none 0 0, .string ⟨#[]⟩, .pointer (some ⟨w.heap.size + 1, 0, none⟩)] 71)) := ⟨_, rfl⟩
 have b0 : Below w.heap.size w W0 := by rw [hW0]; exact below_alloc (below_alloc (below_alloc HB.out _) _) _
 have v0 : VBlk W0 (w.heap.size + 1 + 1) p.o false ⟨#[]⟩ (.slice none 0 0) ⟨#[]⟩ (.slice none 0 0) ⟨#[]⟩ (.pointer (some ⟨w.heap.size + 1, 0, none⟩)) := by
  unfold VBlk
  have h := blk_new ((w.alloc (.cells #[.string ⟨#[]⟩, .bool false, .string ⟨#[]⟩, .slice none 0 0, .string ⟨#[]⟩, .slice none 0 0, .string ⟨#[]⟩, .pointer none] 71)).alloc (.cells #[.bool false, .slice none 0 0] 100)) (.cells #[.string p.o, .bool false, .string ⟨#[]⟩, .slice none 0 0, .string ⟨#[]⟩, .slice none 0 0, .string ⟨#[]⟩, .pointer (some ⟨w.heap.size + 1, 0, none⟩)] 71)
  rw [alloc_size, alloc_size] at h
  rw [hW0]
  exact h
 have z0 : BigAt W0 (w.heap.size + 1) 0 := by
  have h := (big_zero (w.alloc (.cells #[.string ⟨#[]⟩, .bool false, .string ⟨#[]⟩, .slice none 0 0, .string ⟨#[]⟩, .slice none 0 0, .string ⟨#[]⟩, .pointer none] 71))).below (below_alloc (Below.refl _ _) (.cells #[.string p.o, .bool false, .string ⟨#[]⟩, .slice none 0 0, .string ⟨#[]⟩, .slice none 0 0, .string ⟨#[]⟩, .pointer (some ⟨w.heap.size + 1, 0, none⟩)] 71))
  rw [alloc_size] at h
  rw [hW0]
  exact h
 have r0 : W0.heap[w.heap.size]? = some (.cells #[.string ⟨#[]⟩, .bool false, .string ⟨#[]⟩, .slice none 0 0, .string ⟨#[]⟩, .slice none 0 0, .string ⟨#[]⟩, .pointer none] 71 (0, 0)) := by
  rw [hW0]
  exact blk_alloc (blk_alloc (blk_new w _) _) _
 have s0 : w.heap.size ≤ W0.heap.size := b0.size
 have HGA : Aside0 (∀ W, W0.grownBy W (some (w.heap.size + 1 + 1)) → GLe W) := ⟨fun W hW => HGL.out.lt (gr_from b0 s0 hW (by omega))⟩
 have HB0 := Aside0.mk b0
 have V0 := Aside0.mk v0
 have Z0 := Aside0.mk z0
 have R0 := Aside0.mk r0
 have HW0 := Aside0.mk hW0
 have C1 := Aside0.mk (nums_at W0 (w.heap.size + 1 + 1) p.o false ⟨#[]⟩ _ _ _ _ p.o s1 k p.c v0 HGA.out H1.out)
 rw [hW0] at C1
 clear b0 v0 z0 r0 s0 hW0 H1
 go_enter Tryz.func30, Tryz.ntmps30
 go_wp2_with (first | (go_at_call 48; (with_reducible refine C1.out.mono ?_); rintro e' w1 ⟨cv, ns, b1, rfl, v1, n1, t1, l1, g1⟩; obtain ⟨A1, cc1, rfl⟩ := Kd.R_slice n1.1; rw [← HW0.out] at g1; have V1 := Aside0.mk v1; have N1 := Aside0.mk n1; have T1 := Aside0.mk t1; have L1 := Aside0.mk l1; have GR1 := Aside0.mk g1; have Z1 := Aside0.mk (Z0.out.gr V0.out g1); clear v1 n1 t1 l1 g1 C1) | (go_at_call 49; (with_reducible refine (letter_at w1 _ p.o false ⟨#[]⟩ _ _ _ _ s1 p.l s2 V1.out H2.out).mono ?_); rintro e' w2 ⟨rfl, v2, g2⟩; have V2 := Aside0.mk v2; have N2 := Aside0.mk (N1.out.gr V1.out g2); have Z2 := Aside0.mk (Z1.out.gr V1.out g2); have GR2 := Aside0.mk (gr_gr GR1.out g2); clear v2 g2 N1 Z1) | (go_at_call 50; (with_reducible refine (sufs_at w2 _ p.o false ⟨#[]⟩ _ p.l _ _ s2 s3 k p.s V2.out (fun W hW => HGA.out W (gr_gr GR2.out hW)) H3.out).mono ?_); rintro e' w3 ⟨sv, ms, b2, rfl, v3, m3, t3, l3, g3⟩; obtain ⟨A3, cc3, rfl⟩ := Kd.R_slice m3.1; have V3 := Aside0.mk v3; have M3 := Aside0.mk m3; have T3 := Aside0.mk t3; have L3 := Aside0.mk l3; have N3 := Aside0.mk (N2.out.gr V2.out g3); have Z3 := Aside0.mk (Z2.out.gr V2.out g3); have GR3 := Aside0.mk (gr_gr GR2.out g3); clear v3 m3 t3 l3 g3 N2 Z2) | (go_at_call 51; (with_reducible refine (hash_at w3 _ p.o false ⟨#[]⟩ _ _ p.l _ _ s3 p.h s4 k V3.out H4.out).mono ?_); rintro e' w4 ⟨rfl, v4, g4⟩; have V4 := Aside0.mk v4; have M4 := Aside0.mk (M3.out.gr V3.out g4); have N4 := Aside0.mk (N3.out.gr V3.out g4); have Z4 := Aside0.mk (Z3.out.gr V3.out g4); have GR4 := Aside0.mk (gr_gr GR3.out g4); clear v4 g4 N3 M3 Z3) | (go_at_call 52; (with_reducible refine (build_at w4 _ p.o ⟨#[]⟩ _ _ p.l p.h _ s4 p.r p.i p.b k V4.out Z4.out (HGA.out w4 GR4.out) H5.out).mono ?_); rintro e' w5 ⟨a, rfl, v5, z5, g5⟩; have V5 := Aside0.mk v5; have M5 := Aside0.mk (M4.out.gr V4.out g5); have N5 := Aside0.mk (N4.out.gr V4.out g5); have Z5 := Aside0.mk z5; have GR5 := Aside0.mk (gr_gr GR4.out g5); have v6 := blk_put (cs' := #[.string p.o, .bool p.i, .string p.r, .slice A1 (nmCells ns).length cc1, .string p.l, .slice A3 (sfCells ms).length cc3, .string p.h, .pointer (some ⟨a, 0, none⟩)]) V5.out 2 (.string p.r) rfl; have x2 := (blk_cell V5.out 2).trans rfl; have f2 := blk_frozen V5.out 2; have x6 := fun j : Nat => blk_cell v6 j; have r5 := (GR5.out.block w.heap.size (blk_lt R0.out) (by intro e; have := Option.some.inj e; omega)).trans R0.out; have r6 := blk_far r5 (p := ⟨w.heap.size + 1 + 1, 2, none⟩) (by show w.heap.size ≠ w.heap.size + 1 + 1; omega) (.string p.r); have y6 := fun j : Nat => blk_cell r6 j; have q6 := fun j : Nat => blk_frozen r6 j; have V6 := Aside0.mk v6; have R6 := Aside0.mk r6; have R5 := Aside0.mk r5; clear v5 z5 g5 v6 r5 r6 N4 M4 Z4))
 (try simp only [Exit.inBlock, Exit.then])
 have hk : ∀ (W : World) (k : Nat), (∀ b, b ≠ w.heap.size + 1 + 1 → b ≠ w.heap.size → W.heap[b]? = w5.heap[b]?) → KeptT (fun t => t != 71) w5 W := fun W _ h b cs t fr hb ht => by
  refine h b (fun e => ?_) (fun e => ?_)
  ·subst e; have := V5.out; unfold VBlk at this; rw [this] at hb; cases hb; exact absurd ht (by decide)
  ·subst e; have := R5.out; rw [this] at hb; cases hb; exact absurd ht (by decide)
 refine bodyPost_ret (results_cell_row2 rfl _ _ w.heap.size 71 #[.string p.o, .bool p.i, .string p.r, .slice A1 (nmCells ns).length cc1, .string p.l, .slice A3 (sfCells ms).length cc3, .string p.h, .pointer (some ⟨a, 0, none⟩)] (0, 0) _ rfl (blk_put (cs' := #[.string p.o, .bool p.i, .string p.r, .slice A1 (nmCells ns).length cc1, .string p.l, .slice A3 (sfCells ms).length cc3, .string p.h, .pointer (some ⟨a, 0, none⟩)]) (blk_put (blk_put (blk_put (blk_put (blk_put (blk_put (blk_put R6.out 0 _ rfl) 1 _ rfl) 2 _ rfl) 3 _ rfl) 4 _ rfl) 5 _ rfl) 6 _ rfl) 7 _ rfl) Tryz.underlying71 rfl (by kernel_rfl)) rfl ?_
 have K := hk (((((((((w5.setCell ⟨w.heap.size + 1 + 1, 2, none⟩ (.string p.r)).setCell ⟨w.heap.size, 0, none⟩ (.string p.o)).setCell ⟨w.heap.size, 1, none⟩ (.bool p.i)).setCell ⟨w.heap.size, 2, none⟩ (.string p.r)).setCell ⟨w.heap.size, 3, none⟩ (.slice A1 (nmCells ns).length cc1)).setCell ⟨w.heap.size, 4, none⟩ (.string p.l)).setCell ⟨w.heap.size, 5, none⟩ (.slice A3 (sfCells ms).length cc3)).setCell ⟨w.heap.size, 6, none⟩ (.string p.h)).setCell ⟨w.heap.size, 7, none⟩ (.pointer (some ⟨a, 0, none⟩))) 0 (fun b h1 h2 => by repeat (first | rw [Below.heap_setCell _ _ _ _ h2] | rw [Below.heap_setCell _ _ _ _ h1]))
 refine ⟨_, ⟨p.o, p.i, p.r, ns, p.l, ms, p.h, p.b⟩, rfl, ⟨_, _, a, rfl, ?_, ?_, Z5.out.kept (K.sub numT_notV)⟩, ⟨rfl, rfl, rfl, T1.out, fun y hy => (N5.out.2 y hy).2.1, rfl, T3.out, rfl, rfl⟩, ?_⟩
 ·exact NOwn.crow (base := b1) ⟨R_keptT (p := fun t => t != 71) rfl (by decide) N5.out.1 K, fun x hx => (N5.out.2 x hx).kept (K.sub numT_notV)⟩ L1.out
 ·exact SOwn.srow (base := b2) ⟨R_keptT (p := fun t => t != 71) rfl (by decide) M5.out.1 K, fun x hx => (M5.out.2 x hx).kept (K.sub numT_notV)⟩ L3.out
 ·have b5 := gr_from HB0.out HB0.out.size GR5.out (show w.heap.size ≤ w.heap.size + 1 + 1 by omega)
  have b6 := b5.setCell (p := ⟨w.heap.size + 1 + 1, 2, none⟩) (by show w.heap.size ≤ w.heap.size + 1 + 1; omega) (.string p.r)
  repeat (first | (with_reducible exact b6) | refine below_set ?_ (Nat.le_refl _))
end Go.Proofs.YtapaijpglfmfgaaGreatDoorG
end
section -- A11
namespace Go.Proofs.YtapaijpglfmfgaaGreatDoorG
open Go.RowKit Go.Proofs.YtapaijpglfmfgaaGreatDoorH Go.Proofs.YtapaijpglfmfgaaGreatDoor.S Go.Proofs.YtapaijpglfmfgaaGreatDoorW.PrintWords Go.Proofs.YtapaijpglfmfgaaGreatDoorW.PrintLast
set_option linter.unusedVariables false
set_option linter.unusedSimpArgs false
def toNm (d : ByteArray) : Nm := ⟨d, 0, dv d d.size⟩
def toSx (x : Int × ByteArray) : Sx := ⟨x.1, 0, dv x.2 x.2.size⟩
def apC (p q : AP) : Int := if p.i = true ∧ q.i = true then strCmp p.o q.o else
 firstNe (compsC (p.c.map toNm) (q.c.map toNm)) (firstNe (lettersCmp p.l q.l) (firstNe (sufsC (p.s.map toSx) (q.s.map toSx)) (firstNe (cmpN p.b q.b) (firstNe (remCmp p.r q.r) 0))))
theorem nm_told {l : List Nm} {c : List ByteArray} (h : l.map (·.o) = c) (hn : ∀ y ∈ l, y.n = dv y.o y.o.size) (k : Nat) : nmO l k = nmO (c.map toNm) k ∧ nmN l k = nmN (c.map toNm) k ∧ nmI l k = nmI (c.map toNm) k := by
  subst h
  unfold nmO nmN nmI
  rw [List.map_map, List.getElem?_map]
  cases e : l[k]? with
  | none => exact ⟨rfl, rfl, rfl⟩
  | some x => exact ⟨rfl, hn x (List.mem_of_getElem? e), rfl⟩
theorem fromC_eq {d d' : Nat → Int} (h : ∀ k, d k = d' k) : ∀ n k, fromC d n k = fromC d' n k
 | 0, _ => rfl
 | n + 1, k => by simp only [fromC, h, fromC_eq h n]
theorem comps_told {l m : List Nm} {c d : List ByteArray} (h : l.map (·.o) = c) (hn : ∀ y ∈ l, y.n = dv y.o y.o.size) (h' : m.map (·.o) = d) (hn' : ∀ y ∈ m, y.n = dv y.o y.o.size) : compsC l m = compsC (c.map toNm) (d.map toNm) := by
  unfold compsC
  have e1 : l.length = (c.map toNm).length := by rw [← h]; simp
  have e2 : m.length = (d.map toNm).length := by rw [← h']; simp
  rw [e1, e2]
  refine fromC_eq (fun k => ?_) _ _
  obtain ⟨a1, a2, a3⟩ := nm_told h hn k
  obtain ⟨b1, b2, b3⟩ := nm_told h' hn' k
  unfold numD
  rw [a1, a2, a3, b1, b2, b3]
theorem sx_told {l : List Sx} {c : List (Int × ByteArray)} (h : sxTold l = sxWant c) (k : Nat) : sxW l k = sxW (c.map toSx) k ∧ sxN l k = sxN (c.map toSx) k := by
 have e : (sxTold l)[k]? = (sxWant c)[k]? := by rw [h]
 unfold sxTold sxWant at e
 rw [List.getElem?_map, List.getElem?_map] at e
 unfold sxW sxN
 rw [List.getElem?_map]
 cases e1 : l[k]? with
 | none =>
  cases e2 : c[k]? with
  | none => exact ⟨rfl, rfl⟩
  | some y => rw [e1, e2] at e; simp at e
 | some x =>
  cases e2 : c[k]? with
  | none => rw [e1, e2] at e; simp at e
  | some y =>
   rw [e1, e2] at e
   have e3 : (x.wt, x.n) = (y.1, dv y.2 y.2.size) := by simpa using e
   exact ⟨congrArg Prod.fst e3, congrArg Prod.snd e3⟩
theorem sufs_told {l m : List Sx} {c d : List (Int × ByteArray)} (h : sxTold l = sxWant c) (h' : sxTold m = sxWant d) : sufsC l m = sufsC (c.map toSx) (d.map toSx) := by
 unfold sufsC
 have e1 : l.length = (c.map toSx).length := by have := congrArg List.length h; simpa [sxTold, sxWant] using this
 have e2 : m.length = (d.map toSx).length := by have := congrArg List.length h'; simpa [sxTold, sxWant] using this
 rw [e1, e2]
 refine fromC_eq (fun k => ?_) _ _
 obtain ⟨a1, a2⟩ := sx_told h k
 obtain ⟨b1, b2⟩ := sx_told h' k
 unfold sufD
 rw [a1, a2, b1, b2]
theorem av_told {x y : AV} {p q : AP} (h : Told x p) (h' : Told y q) : avC x y = apC p q := by
 obtain ⟨a1, a2, a3, a4, a5, a6, a7, a8, a9⟩ := h
 obtain ⟨b1, b2, b3, b4, b5, b6, b7, b8, b9⟩ := h'
 unfold avC apC
 rw [a1, a2, a3, a6, a9, b1, b2, b3, b6, b9, comps_told a4 a5 b4 b5, sufs_told a7 b7]
theorem AVAt.form {w : World} {v : Value} {x : AV} (h : AVAt w v x) : ∃ p1 c1 p2 c2 a, v = AVv x.o x.i x.r (.slice p1 x.c.length c1) x.l (.slice p2 x.s.length c2) x.h (.pointer (some ⟨a, 0, none⟩)) := by
 obtain ⟨cv, sv, a, rfl, h1, h2, _⟩ := h
 obtain ⟨p1, c1, rfl⟩ := h1.len
 obtain ⟨p2, c2, rfl⟩ := h2.len
 exact ⟨p1, c1, p2, c2, a, rfl⟩
set_option maxRecDepth 100000 in
theorem compareStr_ (w : World) (v : Value) (x : AV) (b : ByteArray) (p q : AP) (k : Nat) (hv : AVAt w v x) (ht : Told x p) (hGL : GLe w) (h0 : parseA k b = some q) :
  Calls Tryz.prog 31 #[v, .string b] w fun e w' => e = .returned (.tuple #[.int .i64 (apC p q), .nilIface]) ∧ Below w.heap.size w w' := by
 have HV := Aside0.mk hv
 obtain ⟨p1, c1, p2, c2, a, e⟩ := hv.form
 unfold AVv at e
 subst e
 have HT := Aside0.mk ht
 have HP := Aside0.mk (fun (W : World) (h : Below w.heap.size w W) => parse_ W b q k (hGL.lt h) h0)
 have HB := Aside0.mk (Below.refl w.heap.size w)
 clear hv ht hGL h0
 go_enter Tryz.func31, Tryz.ntmps31
 go_wp2_with (first | (go_at_call 30; (with_reducible refine (HP.out _ (below_alloc HB.out _)).mono ?_); rintro e' w1 ⟨u, y, rfl, hy, hty, hb⟩; have HY := Aside0.mk hy; obtain ⟨p3, c3, p4, c4, a', e⟩ := hy.form; unfold AVv at e; subst e; have HTY := Aside0.mk hty; have B1 := Aside0.mk (below_step (below_alloc HB.out _) hb); have xx := fun j : Nat => blk_cell (blk_alloc (blk_below (blk_new w (.cells #[.string x.o, .bool x.i, .string x.r, .slice p1 x.c.length c1, .string x.l, .slice p2 x.s.length c2, .string x.h, .pointer (some ⟨a, 0, none⟩)] 71)) hb) (.cells #[.string y.o, .bool y.i, .string y.r, .slice p3 y.c.length c3, .string y.l, .slice p4 y.s.length c4, .string y.h, .pointer (some ⟨a', 0, none⟩)] 71)) j; clear hy hty hb) | (go_at_call 53; refine (compare_ _ _ _ x y (HV.out.below (below_alloc B1.out _)) (HY.out.below (below_alloc (Below.refl _ _) _))).mono ?_; rintro e' w2 ⟨rfl, hb⟩; have B2 := Aside0.mk (below_step (below_alloc B1.out _) hb); clear hb))
 go_ret2
 exact ⟨by rw [av_told HT.out HTY.out]; rfl, B2.out⟩
set_option maxRecDepth 100000 in
theorem compareText_ (w : World) (a b : ByteArray) (p q : AP) (k : Nat) (hGL : GLe w) (h1 : parseA k a = some p) (h2 : parseA k b = some q) :
  Calls Tryz.prog 10 #[.string a, .string b] w fun e w' => e = .returned (.tuple #[.int .i64 (apC p q), .bool true]) ∧ Below w.heap.size w w' := by
 have HP := Aside0.mk (parse_ w a p k hGL h1)
 have HS := Aside0.mk (fun (W : World) (v : Value) (x : AV) (h : Below w.heap.size w W) (hv : AVAt W v x) (ht : Told x p) => compareStr_ W v x b p q k hv ht (hGL.lt h) h2)
 have HB := Aside0.mk (Below.refl w.heap.size w)
 clear hGL h1 h2
 go_enter Tryz.func10, Tryz.ntmps10
 go_upto_region 5 with (first | (go_at_call 30; (with_reducible refine HP.out.mono ?_); rintro e' w1 ⟨u, y, rfl, hy, hty, hb⟩; have HY := Aside0.mk hy; obtain ⟨p3, c3, p4, c4, a', e⟩ := hy.form; unfold AVv at e; subst e; have HTY := Aside0.mk hty; have B1 := Aside0.mk hb; clear hy hty hb) | (go_at_call 31; refine (HS.out _ _ y (below_alloc B1.out _) (HY.out.below (below_alloc (Below.refl _ _) _)) HTY.out).mono ?_; rintro e' w2 ⟨rfl, hb⟩; have B2 := Aside0.mk (below_step (below_alloc B1.out _) hb); clear hb))
 go_region_with (fail)
 all_goals (try go_wp2)
 all_goals go_ret2
 all_goals exact ⟨rfl, below_drew1 B2.out⟩
end Go.Proofs.YtapaijpglfmfgaaGreatDoorG
end
section -- E1x0
namespace Go.Proofs.YtapaijpglfmfgaaGreatDoor.E1
open Go.RowKit Go.Proofs.YtapaijpglfmfgaaGreatDoorH Go.Proofs.YtapaijpglfmfgaaGreatDoorW.PrintWords Go.Proofs.YtapaijpglfmfgaaGreatDoorW.PrintLast Go.Proofs.YtapaijpglfmfgaaGreatDoorW.PrintMore
attribute [local go_sem] max2_int min2_int max_two min_two max_three min_three max_four min_four
set_option linter.unusedVariables false
set_option linter.unusedSimpArgs false
def errW : Option Int → Value
 | none => .nilIface
 | some c => .iface 0 (.int .i64 c)
theorem errW_none : errW none = .nilIface := rfl
theorem errW_some (c : Int) : errW (some c) = .iface 0 (.int .i64 c) := rfl
end Go.Proofs.YtapaijpglfmfgaaGreatDoor.E1
end
section -- E1x1
namespace Go.Proofs.YtapaijpglfmfgaaGreatDoor.E1
open Go.RowKit Go.Proofs.YtapaijpglfmfgaaGreatDoorH Go.Proofs.YtapaijpglfmfgaaGreatDoorW.PrintWords Go.Proofs.YtapaijpglfmfgaaGreatDoorW.PrintLast Go.Proofs.YtapaijpglfmfgaaGreatDoorW.PrintMore
attribute [local go_sem] max2_int min2_int max_two min_two max_three min_three max_four min_four
set_option linter.unusedVariables false
set_option linter.unusedSimpArgs false
def spec_isDigit.f (a0 : Int) : Option (Bool) := if a0 ≥ 48 then (some (decide (a0 ≤ 57))) else (some false)
set_option maxHeartbeats 8000000 in
set_option maxRecDepth 100000 in
theorem spec_isDigit.calls (a0 : Int) (r : Bool) (w : World) (h : spec_isDigit.f a0 = some r) :
  Calls Tryz.prog 40 #[.int .u8 a0] w fun e w' => e = .returned (.bool r) ∧ Drawn0 w w' := by
 have H : (if a0 ≥ 48 then (some (decide (a0 ≤ 57))) else (some false)) = some r := h
 clear h
 by_cases c2 : a0 ≥ 48
 ·rw [if_pos c2] at H
  have c2b0 : decide (48 ≤ a0) = true := decide_eq_true c2
  clear c2
  obtain rfl := Option.some.inj H
  go_enter Tryz.func40, Tryz.ntmps40
  go_wp2
  go_ret
  exact ⟨by first | rfl | (simp; done) | (simp [*]; done) | (simp [bne_nil_hyb]; done) | (simp [bne_nil_hyb, *]; done), by repeat (first | exact Drawn0.refl _ | apply Drawn0.step)⟩
 ·rw [if_neg c2] at H
  have c2b0 : decide (48 ≤ a0) = false := decide_eq_false c2
  clear c2
  obtain rfl := Option.some.inj H
  go_enter Tryz.func40, Tryz.ntmps40
  go_wp2
  go_ret
  exact ⟨by first | rfl | (simp; done) | (simp [*]; done) | (simp [bne_nil_hyb]; done) | (simp [bne_nil_hyb, *]; done), by repeat (first | exact Drawn0.refl _ | apply Drawn0.step)⟩
def spec_alpRun.l0 : Nat → ByteArray → Int → Option (Int)
 | 0, _, _ => none
 | k + 1, x0, x5 => if x5 < (x0.size : Int) then (if 0 ≤ x5 then ((spec_isDigit.f (bt x0 x5)).bind fun t101 => (if t101 = true then (spec_alpRun.l0 k x0 (wrap64 (x5 + 1))) else (some x5))) else (none)) else (some x5)
def spec_alpRun.f (k : Nat) (a0 : ByteArray)  : Option (Int) := spec_alpRun.l0 k a0 0
set_option maxHeartbeats 8000000 in
set_option maxRecDepth 100000 in
theorem spec_alpRun.calls (k : Nat) (a0 : ByteArray)  (r : Int) (w : World) (h : spec_alpRun.f k a0 = some r) :
  Calls Tryz.prog 39 #[.string a0, .func (.func 40) #[] #[]] w fun e w' => e = .returned (.int .i64 r) ∧ Drawn0 w w' := by
 have H : (spec_alpRun.l0 k a0 0) = some r := h
 clear h
 have H' := Aside0.mk H
 clear H
 go_enter Tryz.func39, Tryz.ntmps39
 go_wp2
 (try simp only [Act.put, List.setIfInBounds_toArray, List.set_cons_zero, List.set_cons_succ])
 go_loopg [5] k (fun kq v5 w' => ∃ (x5_1 : Int), v5 = .int .i64 x5_1 ∧ Aside0 (spec_alpRun.l0 kq a0 x5_1 = some r) ∧ Aside0 (kq ≤ k) ∧ Drawn0 w w')
 case atStart => exact ⟨(0), (by first | rfl | (simp; done) | (simp [*]; done) | (simp [bne_nil_hyb]; done) | (simp [bne_nil_hyb, *]; done)), H', ⟨Nat.le_refl _⟩, by repeat (first | exact Drawn0.refl _ | apply Drawn0.step)⟩
 case round =>
  clear H'
  try clear p2
  obtain ⟨x5_1, rfl, HA, HK1, ⟨m1, rfl⟩⟩ := hrel
  cases gk with
  | zero => exact absurd HA.out (by simp [spec_alpRun.l0])
  | succ k1 =>
   have H := HA.out
   clear HA
   simp only [spec_alpRun.l0] at H
   by_cases c3 : x5_1 < (a0.size : Int)
   ·rw [if_pos c3] at H
    have c3b0 : decide (x5_1 < (a0.size : Int)) = true := decide_eq_true c3
    clear c3
    by_cases c4 : 0 ≤ x5_1
    ·rw [if_pos c4] at H
     have c4b0 : decide (0 ≤ x5_1) = true := decide_eq_true c4
     clear c4
     replace H := Option.bind_eq_some_iff.mp H
     obtain ⟨t101, A60, H⟩ := H
     replace H : (if t101 = true then (spec_alpRun.l0 k1 a0 (wrap64 (x5_1 + 1))) else (some x5_1)) = some r := H
     have A6 := Aside0.mk A60
     clear A60
     by_cases c7 : t101 = true
     ·subst c7
      have H1 : (spec_alpRun.l0 k1 a0 (wrap64 (x5_1 + 1))) = some r := by rw [if_pos rfl] at H; exact H
      clear H
      have H := H1
      clear H1
      have H' := Aside0.mk H
      clear H
      have p5 : 0 ≤ (x5_1 : Int) := of_decide_eq_true (by first | (with_reducible assumption) | assumption)
      have q5 : x5_1 < (a0.size : Int) := of_decide_eq_true (by first | (with_reducible assumption) | assumption)
      have hx5 := bt_at a0 x5_1
      replace p5 := eq_true p5
      replace q5 := eq_true q5
      go_wp2_with (first | (go_at_call 40; (with_reducible refine (spec_isDigit.calls (bt a0 x5_1) true _ A6.out).mono ?_); rintro e w' ⟨rfl, ⟨nd, rfl⟩⟩))
      go_roundg k1
      case measure => have := HK1.out; omega
      case rel => exact ⟨(wrap64 (x5_1 + 1)), (by first | rfl | (simp; done) | (simp [*]; done) | (simp [bne_nil_hyb]; done) | (simp [bne_nil_hyb, *]; done)), H', ⟨by have := HK1.out; omega⟩, by repeat (first | exact Drawn0.refl _ | apply Drawn0.step)⟩
     ·replace c7 := Bool.eq_false_iff.mpr c7
      subst c7
      have H1 : (some x5_1) = some r := by rw [if_neg (show ¬ (false = true) by decide)] at H; exact H
      clear H
      have H := H1
      clear H1
      obtain rfl := Option.some.inj H
      have p5 : 0 ≤ (x5_1 : Int) := of_decide_eq_true (by first | (with_reducible assumption) | assumption)
      have q5 : x5_1 < (a0.size : Int) := of_decide_eq_true (by first | (with_reducible assumption) | assumption)
      have hx5 := bt_at a0 x5_1
      replace p5 := eq_true p5
      replace q5 := eq_true q5
      go_wp2_with (first | (go_at_call 40; (with_reducible refine (spec_isDigit.calls (bt a0 x5_1) false _ A6.out).mono ?_); rintro e w' ⟨rfl, ⟨nd, rfl⟩⟩))
      go_ret
      exact ⟨by first | rfl | (simp; done) | (simp [*]; done) | (simp [bne_nil_hyb]; done) | (simp [bne_nil_hyb, *]; done), by repeat (first | exact Drawn0.refl _ | apply Drawn0.step)⟩
    ·rw [if_neg c4] at H
     exact absurd H (by simp)
   ·rw [if_neg c3] at H
    have c3b0 : decide (x5_1 < (a0.size : Int)) = false := decide_eq_false c3
    clear c3
    obtain rfl := Option.some.inj H
    go_wp2
    go_ret
    exact ⟨by first | rfl | (simp; done) | (simp [*]; done) | (simp [bne_nil_hyb]; done) | (simp [bne_nil_hyb, *]; done), by repeat (first | exact Drawn0.refl _ | apply Drawn0.step)⟩
end Go.Proofs.YtapaijpglfmfgaaGreatDoor.E1
end
section -- E2x0
namespace Go.Proofs.YtapaijpglfmfgaaGreatDoor.E2
open Go.RowKit Go.Proofs.YtapaijpglfmfgaaGreatDoorH Go.Proofs.YtapaijpglfmfgaaGreatDoorW.PrintWords Go.Proofs.YtapaijpglfmfgaaGreatDoorW.PrintLast Go.Proofs.YtapaijpglfmfgaaGreatDoorW.PrintMore
attribute [local go_sem] max2_int min2_int max_two min_two max_three min_three max_four min_four
set_option linter.unusedVariables false
set_option linter.unusedSimpArgs false
def errW : Option Int → Value
 | none => .nilIface
 | some c => .iface 0 (.int .i64 c)
theorem errW_none : errW none = .nilIface := rfl
theorem errW_some (c : Int) : errW (some c) = .iface 0 (.int .i64 c) := rfl
end Go.Proofs.YtapaijpglfmfgaaGreatDoor.E2
end
section -- E2x1
namespace Go.Proofs.YtapaijpglfmfgaaGreatDoor.E2
open Go.RowKit Go.Proofs.YtapaijpglfmfgaaGreatDoorH Go.Proofs.YtapaijpglfmfgaaGreatDoorW.PrintWords Go.Proofs.YtapaijpglfmfgaaGreatDoorW.PrintLast Go.Proofs.YtapaijpglfmfgaaGreatDoorW.PrintMore
attribute [local go_sem] max2_int min2_int max_two min_two max_three min_three max_four min_four
set_option linter.unusedVariables false
set_option linter.unusedSimpArgs false
def spec_isDigit.f (a0 : Int) : Option (Bool) := if a0 ≥ 48 then (some (decide (a0 ≤ 57))) else (some false)
set_option maxHeartbeats 8000000 in
set_option maxRecDepth 100000 in
theorem spec_isDigit.calls (a0 : Int) (r : Bool) (w : World) (h : spec_isDigit.f a0 = some r) :
  Calls Tryz.prog 40 #[.int .u8 a0] w fun e w' => e = .returned (.bool r) ∧ Drawn0 w w' := by
 have H : (if a0 ≥ 48 then (some (decide (a0 ≤ 57))) else (some false)) = some r := h
 clear h
 by_cases c2 : a0 ≥ 48
 ·rw [if_pos c2] at H
  have c2b0 : decide (48 ≤ a0) = true := decide_eq_true c2
  clear c2
  obtain rfl := Option.some.inj H
  go_enter Tryz.func40, Tryz.ntmps40
  go_wp2
  go_ret
  exact ⟨by rfl, by repeat (first | exact Drawn0.refl _ | apply Drawn0.step)⟩
 ·rw [if_neg c2] at H
  have c2b0 : decide (48 ≤ a0) = false := decide_eq_false c2
  clear c2
  obtain rfl := Option.some.inj H
  go_enter Tryz.func40, Tryz.ntmps40
  go_wp2
  go_ret
  exact ⟨by rfl, by repeat (first | exact Drawn0.refl _ | apply Drawn0.step)⟩
def spec_alpHex.f (a0 : Int) : Option (Bool) := (spec_isDigit.f a0).bind fun t101 => (if t101 = true then (some true) else (if a0 ≥ 97 then (some (decide (a0 ≤ 102))) else (some false)))
set_option maxHeartbeats 8000000 in
set_option maxRecDepth 100000 in
theorem spec_alpHex.calls (a0 : Int) (r : Bool) (w : World) (h : spec_alpHex.f a0 = some r) :
  Calls Tryz.prog 38 #[.int .u8 a0] w fun e w' => e = .returned (.bool r) ∧ Drawn0 w w' := by
 have H : ((spec_isDigit.f a0).bind fun t101 => (if t101 = true then (some true) else (if a0 ≥ 97 then (some (decide (a0 ≤ 102))) else (some false)))) = some r := h
 clear h
 replace H := Option.bind_eq_some_iff.mp H
 obtain ⟨t101, A20, H⟩ := H
 replace H : (if t101 = true then (some true) else (if a0 ≥ 97 then (some (decide (a0 ≤ 102))) else (some false))) = some r := H
 have A2 := Aside0.mk A20
 clear A20
 by_cases c3 : t101 = true
 ·subst c3
  have H1 : (some true) = some r := by rw [if_pos rfl] at H; exact H
  clear H
  have H := H1
  clear H1
  obtain rfl := Option.some.inj H
  go_enter Tryz.func38, Tryz.ntmps38
  go_wp2_with (((with_reducible refine gate_callee (f := 40) rfl ?_); refine goesL_ (some 4) rfl rfl Tryz.func40 (by kernel_rfl) rfl #[.int .u8 a0] rfl (by (try simp only [List.map_toArray, List.map_cons, List.map_nil]); first | done | rfl | (simp only [List.length_drop, List.length_take]; rfl)) ?_; (with_reducible refine (spec_isDigit.calls a0 true _ A2.out).mono ?_); rintro e w' ⟨rfl, ⟨nd, rfl⟩⟩; refine ⟨_, rfl, ?_⟩))
  go_ret
  exact ⟨by rfl, by repeat (first | exact Drawn0.refl _ | apply Drawn0.step)⟩
 ·replace c3 := Bool.eq_false_iff.mpr c3
  subst c3
  have H1 : (if a0 ≥ 97 then (some (decide (a0 ≤ 102))) else (some false)) = some r := by rw [if_neg (show ¬ (false = true) by decide)] at H; exact H
  clear H
  have H := H1
  clear H1
  by_cases c4 : a0 ≥ 97
  ·rw [if_pos c4] at H
   have c4b0 : decide (97 ≤ a0) = true := decide_eq_true c4
   clear c4
   obtain rfl := Option.some.inj H
   go_enter Tryz.func38, Tryz.ntmps38
   go_wp2_with (((with_reducible refine gate_callee (f := 40) rfl ?_); refine goesL_ (some 4) rfl rfl Tryz.func40 (by kernel_rfl) rfl #[.int .u8 a0] rfl (by (try simp only [List.map_toArray, List.map_cons, List.map_nil]); first | done | rfl | (simp only [List.length_drop, List.length_take]; rfl)) ?_; (with_reducible refine (spec_isDigit.calls a0 false _ A2.out).mono ?_); rintro e w' ⟨rfl, ⟨nd, rfl⟩⟩; refine ⟨_, rfl, ?_⟩))
   go_ret
   exact ⟨by rfl, by repeat (first | exact Drawn0.refl _ | apply Drawn0.step)⟩
  ·rw [if_neg c4] at H
   have c4b0 : decide (97 ≤ a0) = false := decide_eq_false c4
   clear c4
   obtain rfl := Option.some.inj H
   go_enter Tryz.func38, Tryz.ntmps38
   go_wp2_with (((with_reducible refine gate_callee (f := 40) rfl ?_); refine goesL_ (some 4) rfl rfl Tryz.func40 (by kernel_rfl) rfl #[.int .u8 a0] rfl (by (try simp only [List.map_toArray, List.map_cons, List.map_nil]); first | done | rfl | (simp only [List.length_drop, List.length_take]; rfl)) ?_; (with_reducible refine (spec_isDigit.calls a0 false _ A2.out).mono ?_); rintro e w' ⟨rfl, ⟨nd, rfl⟩⟩; refine ⟨_, rfl, ?_⟩))
   go_ret
   exact ⟨by rfl, by repeat (first | exact Drawn0.refl _ | apply Drawn0.step)⟩
def spec_alpRun.l0 : Nat → ByteArray → Int → Option (Int)
 | 0, _, _ => none
 | k + 1, x0, x5 => if x5 < (x0.size : Int) then (if 0 ≤ x5 then ((spec_alpHex.f (bt x0 x5)).bind fun t102 => (if t102 = true then (spec_alpRun.l0 k x0 (wrap64 (x5 + 1))) else (some x5))) else (none)) else (some x5)
def spec_alpRun.f (k : Nat) (a0 : ByteArray)  : Option (Int) := spec_alpRun.l0 k a0 0
set_option maxHeartbeats 8000000 in
set_option maxRecDepth 100000 in
theorem spec_alpRun.calls (k : Nat) (a0 : ByteArray)  (r : Int) (w : World) (h : spec_alpRun.f k a0 = some r) :
  Calls Tryz.prog 39 #[.string a0, .func (.func 38) #[] #[]] w fun e w' => e = .returned (.int .i64 r) ∧ Drawn0 w w' := by
 have H : (spec_alpRun.l0 k a0 0) = some r := h
 clear h
 have H' := Aside0.mk H
 clear H
 go_enter Tryz.func39, Tryz.ntmps39
 go_wp2
 (try simp only [Act.put, List.setIfInBounds_toArray, List.set_cons_zero, List.set_cons_succ])
 go_loopg [5] k (fun kq v5 w' => ∃ (x5_1 : Int), v5 = .int .i64 x5_1 ∧ Aside0 (spec_alpRun.l0 kq a0 x5_1 = some r) ∧ Aside0 (kq ≤ k) ∧ Drawn0 w w')
 case atStart => exact ⟨(0), (by rfl), H', ⟨Nat.le_refl _⟩, by repeat (first | exact Drawn0.refl _ | apply Drawn0.step)⟩
 case round =>
  clear H'
  obtain ⟨x5_1, rfl, HA, HK1, ⟨m1, rfl⟩⟩ := hrel
  cases gk with
  | zero => exact absurd HA.out (by simp [spec_alpRun.l0])
  | succ k1 =>
   have H := HA.out
   clear HA
   simp only [spec_alpRun.l0] at H
   by_cases c3 : x5_1 < (a0.size : Int)
   ·rw [if_pos c3] at H
    have c3b0 : decide (x5_1 < (a0.size : Int)) = true := decide_eq_true c3
    clear c3
    by_cases c4 : 0 ≤ x5_1
    ·rw [if_pos c4] at H
     have c4b0 : decide (0 ≤ x5_1) = true := decide_eq_true c4
     clear c4
     replace H := Option.bind_eq_some_iff.mp H
     obtain ⟨t102, A60, H⟩ := H
     replace H : (if t102 = true then (spec_alpRun.l0 k1 a0 (wrap64 (x5_1 + 1))) else (some x5_1)) = some r := H
     have A6 := Aside0.mk A60
     clear A60
     by_cases c7 : t102 = true
     ·subst c7
      have H1 : (spec_alpRun.l0 k1 a0 (wrap64 (x5_1 + 1))) = some r := by rw [if_pos rfl] at H; exact H
      clear H
      have H := H1
      clear H1
      have H' := Aside0.mk H
      clear H
      have p5 : 0 ≤ (x5_1 : Int) := of_decide_eq_true (by (with_reducible assumption))
      have q5 : x5_1 < (a0.size : Int) := of_decide_eq_true (by (with_reducible assumption))
      have hx5 := bt_at a0 x5_1
      replace p5 := eq_true p5
      replace q5 := eq_true q5
      go_wp2_with ((go_at_call 38; (with_reducible refine (spec_alpHex.calls (bt a0 x5_1) true _ A6.out).mono ?_); rintro e w' ⟨rfl, ⟨nd, rfl⟩⟩))
      go_roundg k1
      case measure => have := HK1.out; omega
      case rel => exact ⟨(wrap64 (x5_1 + 1)), (by rfl), H', ⟨by have := HK1.out; omega⟩, by repeat (first | exact Drawn0.refl _ | apply Drawn0.step)⟩
     ·replace c7 := Bool.eq_false_iff.mpr c7
      subst c7
      have H1 : (some x5_1) = some r := by rw [if_neg (show ¬ (false = true) by decide)] at H; exact H
      clear H
      have H := H1
      clear H1
      obtain rfl := Option.some.inj H
      have p5 : 0 ≤ (x5_1 : Int) := of_decide_eq_true (by (with_reducible assumption))
      have q5 : x5_1 < (a0.size : Int) := of_decide_eq_true (by (with_reducible assumption))
      have hx5 := bt_at a0 x5_1
      replace p5 := eq_true p5
      replace q5 := eq_true q5
      go_wp2_with ((go_at_call 38; (with_reducible refine (spec_alpHex.calls (bt a0 x5_1) false _ A6.out).mono ?_); rintro e w' ⟨rfl, ⟨nd, rfl⟩⟩))
      go_ret
      exact ⟨by rfl, by repeat (first | exact Drawn0.refl _ | apply Drawn0.step)⟩
    ·rw [if_neg c4] at H
     exact absurd H (by simp)
   ·rw [if_neg c3] at H
    have c3b0 : decide (x5_1 < (a0.size : Int)) = false := decide_eq_false c3
    clear c3
    obtain rfl := Option.some.inj H
    go_wp2
    go_ret
    exact ⟨by rfl, by repeat (first | exact Drawn0.refl _ | apply Drawn0.step)⟩
end Go.Proofs.YtapaijpglfmfgaaGreatDoor.E2
end
section -- P
namespace Go.Proofs.YtapaijpglfmfgaaGreatDoorP
open Go.RowKit Go.Proofs.YtapaijpglfmfgaaGreatDoorB Go.Proofs.YtapaijpglfmfgaaGreatDoorM Go.Proofs.YtapaijpglfmfgaaGreatDoorW.PrintWords
set_option linter.unusedVariables false
set_option linter.unusedSimpArgs false
theorem run_mem {p : Int → Bool} : ∀ {l : List Int} {c : Int}, c ∈ l.take (run p l) → p c = true
 | [], c, h => by simp at h
 | x :: l, c, h => by
  cases hx : p x with
  | false => rw [run_neg hx] at h; simp at h
  | true =>
   rw [run_pos hx, List.take_succ_cons] at h
   rcases List.mem_cons.1 h with rfl | h
   ·exact hx
   ·exact run_mem h
theorem run_append {p : Int → Bool} : ∀ {a b : List Int}, (∀ c ∈ a, p c = true) → run p (a ++ b) = a.length + run p b
 | [], b, _ => by simp
 | x :: a, b, h => by
  rw [List.cons_append, run_pos (h x List.mem_cons_self), run_append (fun c hc => h c (List.mem_cons_of_mem _ hc))]
  simp; omega
theorem run_all {p : Int → Bool} {a : List Int} (h : ∀ c ∈ a, p c = true) : run p a = a.length := by
 have := run_append (b := []) h
 simpa [run_nil] using this
theorem run_stop_append {p : Int → Bool} {a b : List Int} (h : ∀ c ∈ a, p c = true) (hb : b = [] ∨ p (b.getD 0 0) = false) : run p (a ++ b) = a.length := by
 rw [run_append h]
 rcases hb with rfl | hb
 ·rfl
 ·cases b with
  | nil => rfl
  | cons x b => rw [run_neg (show p x = false from hb)]; rfl
def isPt (c : Int) : Bool := decide (c = 46)
theorem splitP_pt (a b : List Int) : splitP isPt (a ++ 46 :: b) = splitP isPt a ++ splitP isPt b := by
 induction a with
 | nil => rfl
 | cons c a ih =>
  simp only [List.cons_append, splitP]
  split
  ·rw [ih]; rfl
  ·rw [ih]
   cases hs : splitP isPt a with
   | nil => exact absurd hs (splitP_ne _ a)
   | cons x L => rfl
theorem splitP_one {l : List Int} (h : ∀ c ∈ l, c ≠ 46) : splitP isPt l = [l] := by
 induction l with
 | nil => rfl
 | cons c l ih =>
  simp only [splitP]
  rw [if_neg (by have := h c List.mem_cons_self; simp [isPt, this]), ih (fun x hx => h x (List.mem_cons_of_mem _ hx))]
  rfl
theorem getD_head {l : List Int} {c : Int} (h : l.getD 0 0 = c) (hc : c ≠ 0) : l = c :: l.drop 1 := by
 cases l with
 | nil => exact absurd h.symm hc
 | cons x l => have : x = c := h; subst this; rfl
def numsP : Nat → List Int → List (List Int) × List Int
 | 0, l => ([], l)
 | n + 1, l => if run isD l = 0 then ([], l) else
  if (l.drop (run isD l)).getD 0 0 = 46 then (l.take (run isD l) :: (numsP n (l.drop (run isD l + 1))).1, (numsP n (l.drop (run isD l + 1))).2)
  else ([l.take (run isD l)], l.drop (run isD l))
theorem numsP_none {l : List Int} (h : run isD l = 0) : ∀ n, numsP n l = ([], l)
 | 0 => rfl
 | n + 1 => by simp only [numsP, h, if_true]
theorem take_run_ne {p : Int → Bool} {l : List Int} (h : run p l ≠ 0) : l.take (run p l) ≠ [] := by
 intro e
 have := congrArg List.length e
 have h1 := run_le p l
 rw [List.length_take, List.length_nil] at this
 omega
theorem isD_pt {c : Int} (h : isD c = true) : c ≠ 46 := by
 unfold isD at h
 have := of_decide_eq_true h
 omega
theorem numsP_shape : ∀ (n : Nat) (l : List Int), ∃ sub, l = sub ++ (numsP n l).2 ∧ (splitP isPt sub).takeWhile (fun d => decide (d ≠ [])) = (numsP n l).1 ∧ ((numsP n l).1 = [] → sub = []) ∧ (∀ d ∈ (numsP n l).1, d ≠ [] ∧ ∀ c ∈ d, isD c = true)
 | 0, l => ⟨[], rfl, rfl, fun _ => rfl, fun d hd => by simp [numsP] at hd⟩
 | n + 1, l => by
  simp only [numsP]
  by_cases h0 : run isD l = 0
  ·rw [if_pos h0]
   exact ⟨[], rfl, rfl, fun _ => rfl, fun d hd => by simp at hd⟩
  ·rw [if_neg h0]
   have hne := take_run_ne h0
   have hdig : ∀ c ∈ l.take (run isD l), isD c = true := fun c hc => run_mem hc
   by_cases h1 : (l.drop (run isD l)).getD 0 0 = 46
   ·rw [if_pos h1]
    obtain ⟨sub, e1, e2, e3, e4⟩ := numsP_shape n (l.drop (run isD l + 1))
    have e := getD_head h1 (by omega)
    rw [List.drop_drop] at e
    refine ⟨l.take (run isD l) ++ 46 :: sub, ?_, ?_, fun h => by simp at h, fun d hd => ?_⟩
    ·show l = l.take (run isD l) ++ 46 :: sub ++ (numsP n (l.drop (run isD l + 1))).2
     rw [List.append_assoc, List.cons_append, ← e1, ← e, List.take_append_drop]
    ·rw [splitP_pt, splitP_one (fun c hc => isD_pt (hdig c hc))]
     show (l.take (run isD l) :: splitP isPt sub).takeWhile _ = _
     rw [List.takeWhile_cons_of_pos (by simpa using hne), e2]
    ·rcases List.mem_cons.1 hd with rfl | hd
     ·exact ⟨hne, hdig⟩
     ·exact e4 d hd
   ·rw [if_neg h1]
    refine ⟨l.take (run isD l), (List.take_append_drop _ _).symm, ?_, fun h => by simp at h, fun d hd => ?_⟩
    ·rw [splitP_one (fun c hc => isD_pt (hdig c hc)), List.takeWhile_cons_of_pos (by simpa using hne)]
     rfl
    ·have : d = l.take (run isD l) := by simpa using hd
     subst this
     exact ⟨hne, hdig⟩
theorem numsP_len (n : Nat) (l : List Int) : (numsP n l).2.length ≤ l.length := by
 obtain ⟨sub, e, _⟩ := numsP_shape n l
 have := congrArg List.length e
 rw [List.length_append] at this
 omega
theorem numsP_count : ∀ (n : Nat) (l : List Int), (numsP n l).1.length ≤ l.length
 | 0, l => by simp [numsP]
 | n + 1, l => by
  simp only [numsP]
  by_cases h0 : run isD l = 0
  ·rw [if_pos h0]; simp
  ·rw [if_neg h0]
   have hl := run_le isD l
   by_cases h1 : (l.drop (run isD l)).getD 0 0 = 46
   ·rw [if_pos h1]
    have := numsP_count n (l.drop (run isD l + 1))
    rw [List.length_drop] at this
    simp only [List.length_cons]
    omega
   ·rw [if_neg h1]; simp; omega
theorem numsP_part : ∀ (n : Nat) (l : List Int), ∀ d ∈ (numsP n l).1, d.length ≤ l.length
 | 0, l, d, h => by simp [numsP] at h
 | n + 1, l, d, h => by
  simp only [numsP] at h
  by_cases h0 : run isD l = 0
  ·rw [if_pos h0] at h; simp at h
  ·rw [if_neg h0] at h
   by_cases h1 : (l.drop (run isD l)).getD 0 0 = 46
   ·rw [if_pos h1] at h
    rcases List.mem_cons.1 h with rfl | h
    ·rw [List.length_take]; omega
    ·have := numsP_part n _ d h
     rw [List.length_drop] at this
     omega
   ·rw [if_neg h1] at h
    have : d = l.take (run isD l) := by simpa using h
    subst this
    rw [List.length_take]; omega
def letterP (l : List Int) : List Int × List Int := if isL (l.getD 0 0) = true then (l.take 1, l.drop 1) else ([], l)
def sufWords : List (List Int) := [[97, 108, 112, 104, 97], [98, 101, 116, 97], [112, 114, 101], [114, 99], [99, 118, 115], [115, 118, 110], [103, 105, 116], [104, 103], [112]]
def wgtWords : List (List Int) := [[97, 108, 112, 104, 97], [98, 101, 116, 97], [112, 114, 101], [114, 99], [], [99, 118, 115], [115, 118, 110], [103, 105, 116], [104, 103]]
def wgt (w : List Int) : Nat := wgtWords.idxOf w
def pre (w l : List Int) : Bool := decide (l.take w.length = w)
def wordAt (l : List Int) : Option (List Int) := if l.getD 0 0 = 95 then sufWords.find? (fun w => pre w (l.drop 1)) else none
def sufsP : Nat → List Int → List (List Int × List Int) × List Int
 | 0, l => ([], l)
 | n + 1, l => match wordAt l with
  | none => ([], l)
  | some w => ((w, (l.drop (1 + w.length)).take (run isD (l.drop (1 + w.length)))) :: (sufsP n ((l.drop (1 + w.length)).drop (run isD (l.drop (1 + w.length))))).1, (sufsP n ((l.drop (1 + w.length)).drop (run isD (l.drop (1 + w.length))))).2)
theorem sufsP_none {l : List Int} (h : wordAt l = none) : ∀ n, sufsP n l = ([], l)
 | 0 => rfl
 | n + 1 => by simp only [sufsP, h]
theorem sufsP_some {l w : List Int} (h : wordAt l = some w) (n : Nat) : sufsP (n + 1) l = ((w, (l.drop (1 + w.length)).take (run isD (l.drop (1 + w.length)))) :: (sufsP n ((l.drop (1 + w.length)).drop (run isD (l.drop (1 + w.length))))).1, (sufsP n ((l.drop (1 + w.length)).drop (run isD (l.drop (1 + w.length))))).2) := by simp only [sufsP, h]
theorem wordAt_some {l w : List Int} (h : wordAt l = some w) : w ∈ sufWords ∧ l = 95 :: (w ++ l.drop (1 + w.length)) := by
 unfold wordAt at h
 by_cases h0 : l.getD 0 0 = 95
 ·rw [if_pos h0] at h
  have h1 := List.mem_of_find?_eq_some h
  have h2 := List.find?_some h
  unfold pre at h2
  have h3 : (l.drop 1).take w.length = w := of_decide_eq_true h2
  refine ⟨h1, ?_⟩
  have e := getD_head h0 (by omega)
  have e2 : l.drop 1 = w ++ (l.drop 1).drop w.length := by
   have := List.take_append_drop w.length (l.drop 1)
   rw [h3] at this
   exact this.symm
  rw [List.drop_drop] at e2
  rw [← e2]
  exact e
 ·rw [if_neg h0] at h; cases h
theorem sufWords_len {w : List Int} (h : w ∈ sufWords) : 1 ≤ w.length ∧ w.length ≤ 5 := by
 have : ∀ w ∈ sufWords, 1 ≤ w.length ∧ w.length ≤ 5 := by decide
 exact this w h
theorem sufWords_asc {w : List Int} (h : w ∈ sufWords) : ∀ c ∈ w, 97 ≤ c ∧ c ≤ 122 := by
 have : ∀ w ∈ sufWords, ∀ c ∈ w, 97 ≤ c ∧ c ≤ 122 := by decide
 exact this w h
theorem sufsP_len : ∀ (n : Nat) (l : List Int), (sufsP n l).2.length ≤ l.length
 | 0, l => Nat.le_refl _
 | n + 1, l => by
  cases h : wordAt l with
  | none => rw [sufsP_none h]; exact Nat.le_refl _
  | some w =>
   rw [sufsP_some h]
   have := sufsP_len n ((l.drop (1 + w.length)).drop (run isD (l.drop (1 + w.length))))
   rw [List.length_drop, List.length_drop] at this
   simp only
   omega
theorem sufsP_count : ∀ (n : Nat) (l : List Int), (sufsP n l).1.length ≤ l.length
 | 0, l => Nat.zero_le _
 | n + 1, l => by
  cases h : wordAt l with
  | none => rw [sufsP_none h]; exact Nat.zero_le _
  | some w =>
   rw [sufsP_some h]
   have := sufsP_count n ((l.drop (1 + w.length)).drop (run isD (l.drop (1 + w.length))))
   rw [List.length_drop, List.length_drop] at this
   have h1 := (wordAt_some h).2
   have h2 := congrArg List.length h1
   simp only [List.length_cons, List.length_append, List.length_drop] at h2 ⊢
   omega
theorem sufsP_mem : ∀ (n : Nat) (l : List Int), ∀ x ∈ (sufsP n l).1, x.1 ∈ sufWords ∧ x.2.length ≤ l.length ∧ ∀ c ∈ x.2, isD c = true
 | 0, l, x, hx => by simp [sufsP] at hx
 | n + 1, l, x, hx => by
  cases h : wordAt l with
  | none => rw [sufsP_none h] at hx; simp at hx
  | some w =>
   rw [sufsP_some h] at hx
   rcases List.mem_cons.1 hx with rfl | hx
   ·refine ⟨(wordAt_some h).1, ?_, fun c hc => run_mem hc⟩
    simp only [List.length_take, List.length_drop]
    omega
   ·have := sufsP_mem n _ x hx
    refine ⟨this.1, Nat.le_trans this.2.1 ?_, this.2.2⟩
    rw [List.length_drop, List.length_drop]
    omega
def isX (c : Int) : Bool := isD c || decide (97 ≤ c ∧ c ≤ 102)
def hashP (l : List Int) : List Int × List Int := if l.getD 0 0 = 126 ∧ run isX (l.drop 1) ≠ 0 then (l.take (1 + run isX (l.drop 1)), l.drop (1 + run isX (l.drop 1))) else ([], l)
def buildP (l : List Int) : Bool × List Int × List Int := if l = [] then (false, [], []) else
 if l.take 2 = [45, 114] then (false, (l.drop 2).take (run isD (l.drop 2)), (l.drop 2).drop (run isD (l.drop 2))) else (true, [], l)
structure PV where
 o : List Int
 c : List (List Int)
 l : List Int
 s : List (List Int × List Int)
 h : List Int
 i : Bool
 b : List Int
 r : List Int
def rest1 (l : List Int) : List Int := (numsP l.length l).2
def rest2 (l : List Int) : List Int := (letterP (rest1 l)).2
def rest3 (l : List Int) : List Int := (sufsP (rest2 l).length (rest2 l)).2
def rest4 (l : List Int) : List Int := (hashP (rest3 l)).2
def parseP (l : List Int) : PV := ⟨l, (numsP l.length l).1, (letterP (rest1 l)).1, (sufsP (rest2 l).length (rest2 l)).1, (hashP (rest3 l)).1, (buildP (rest4 l)).1, (buildP (rest4 l)).2.1, (buildP (rest4 l)).2.2⟩
def Clear (l : List Int) : Prop := ∀ j, wordAt (l.drop j) = none
theorem rest1_len (l : List Int) : (rest1 l).length ≤ l.length := numsP_len _ l
theorem rest2_len (l : List Int) : (rest2 l).length ≤ l.length := by
 unfold rest2 letterP
 have := rest1_len l
 split
 ·simp only [List.length_drop]; omega
 ·exact this
theorem rest3_len (l : List Int) : (rest3 l).length ≤ l.length := Nat.le_trans (sufsP_len _ _) (rest2_len l)
theorem rest4_len (l : List Int) : (rest4 l).length ≤ l.length := by
 unfold rest4 hashP
 have := rest3_len l
 split
 ·simp only [List.length_drop]; omega
 ·exact this
theorem Clear.drop {l : List Int} (h : Clear l) (i : Nat) : Clear (l.drop i) := fun j => by rw [List.drop_drop]; exact h (i + j)
end Go.Proofs.YtapaijpglfmfgaaGreatDoorP
end
section -- AQ
namespace Go.Proofs.YtapaijpglfmfgaaGreatDoorP
open Go.RowKit Go.Proofs.YtapaijpglfmfgaaGreatDoorG Go.Proofs.YtapaijpglfmfgaaGreatDoorH Go.Proofs.YtapaijpglfmfgaaGreatDoorB Go.Proofs.YtapaijpglfmfgaaGreatDoorM Go.Proofs.YtapaijpglfmfgaaGreatDoor.S Go.Proofs.YtapaijpglfmfgaaGreatDoorW.PrintWords Go.Proofs.YtapaijpglfmfgaaGreatDoorW.PrintLast
set_option linter.unusedVariables false
set_option linter.unusedSimpArgs false
theorem run_drop {p : Int → Bool} : ∀ (l : List Int), run p (l.drop (run p l)) = 0
 | [] => rfl
 | x :: l => by
  cases hx : p x with
  | false => rw [run_neg hx, List.drop_zero, run_neg hx]
  | true => rw [run_pos hx, List.drop_succ_cons]; exact run_drop l
theorem zzDigit_eq (c : Int) : semantic_zzDigit.f c = some (isD c) := by
 unfold semantic_zzDigit.f isD
 by_cases h : c ≥ 48
 ·rw [if_pos h]; simp; omega
 ·rw [if_neg h]; simp; omega
theorem digits_from (s : ByteArray) (hs : s.size ≤ 2000000) : ∀ (n i : Nat), s.size - i = n → i ≤ s.size →
  Ev (fun k => semantic_zzDigits.l0 k s (i : Int)) ((i + run isD ((bytesOf s).drop i) : Nat) : Int) := by
 intro n
 induction n with
 | zero =>
  intro i hn hi
  refine Ev.succ ?_
  simp only [semantic_zzDigits.l0]
  refine Ev.neg (fun _ => by first | omega | assumption | nofun) ?_
  refine Ev.eq (Ev.now _) ?_
  rw [List.drop_of_length_le (by rw [bytesOf_length]; omega), run_nil]
  rfl
 | succ n ih =>
  intro i hn hi
  have hl : i < (bytesOf s).length := by rw [bytesOf_length]; omega
  refine Ev.succ ?_
  simp only [semantic_zzDigits.l0, bt_nat, zzDigit_eq, Option.bind_some]
  refine Ev.pos (fun _ => by first | omega | trivial | assumption) ?_
  refine Ev.pos (fun _ => by first | omega | trivial | assumption) ?_
  rw [drop_get _ _ hl]
  cases hd : isD ((bytesOf s).getD i 0)
  ·refine Ev.neg (fun _ => Bool.false_ne_true) ?_
   refine Ev.eq (Ev.now _) ?_
   rw [run_neg hd]
   rfl
  ·refine Ev.pos (fun _ => rfl) ?_
   rw [w64 (by omega) (by omega), run_pos hd]
   refine Ev.eq (ih (i + 1) (by omega) (by omega)) ?_
   have : i + 1 + run isD ((bytesOf s).drop (i + 1)) = i + (run isD ((bytesOf s).drop (i + 1)) + 1) := by omega
   rw [this]
theorem digits_ev (s : ByteArray) (hs : s.size ≤ 2000000) (i : Nat) (hi : i ≤ s.size) : Ev (fun k => semantic_zzDigits.f k s (i : Int)) ((i + run isD ((bytesOf s).drop i) : Nat) : Int) := digits_from s hs _ i rfl hi
theorem numbers_stop (s : ByteArray) (hs : s.size ≤ 2000000) (i : Nat) (hi : i ≤ s.size) (h : run isD ((bytesOf s).drop i) = 0) : Ev (fun k => semantic_zzAlpineNumbers.l0 k s (i : Int)) (s.extract 0 i) := by
 refine Ev.succ ?_
 simp only [semantic_zzAlpineNumbers.l0]
 refine Ev.bind (digits_ev s hs i hi) ?_
 rw [h, Nat.add_zero]
 refine Ev.pos (fun _ => rfl) ?_
 refine Ev.pos (fun _ => by first | omega | trivial | assumption) ?_
 refine Ev.pos (fun _ => by first | omega | trivial | assumption) ?_
 exact Ev.eq (Ev.now _) (by simp)
theorem numbers_from (s : ByteArray) (hs : s.size ≤ 2000000) : ∀ (n i : Nat), s.size - i ≤ n → i ≤ s.size →
  Ev (fun k => semantic_zzAlpineNumbers.l0 k s (i : Int)) (s.extract 0 (s.size - (numsP n ((bytesOf s).drop i)).2.length)) := by
 intro n
 induction n with
 | zero =>
  intro i hn hi
  have e : (bytesOf s).drop i = [] := List.drop_of_length_le (by rw [bytesOf_length]; omega)
  have := numbers_stop s hs i hi (by rw [e]; rfl)
  rw [e]
  have e2 : s.size - (numsP 0 []).2.length = i := by simp [numsP]; omega
  rw [e2]
  exact this
 | succ n ih =>
  intro i hn hi
  by_cases h0 : run isD ((bytesOf s).drop i) = 0
  ·rw [numsP_none h0]
   have e2 : s.size - ((([] : List (List Int)), (bytesOf s).drop i)).2.length = i := by simp only [List.length_drop, bytesOf_length]; omega
   rw [e2]
   exact numbers_stop s hs i hi h0
  ·have hr := run_le isD ((bytesOf s).drop i)
   rw [List.length_drop, bytesOf_length] at hr
   have hdd : ((bytesOf s).drop i).drop (run isD ((bytesOf s).drop i)) = (bytesOf s).drop (i + run isD ((bytesOf s).drop i)) := by rw [List.drop_drop]
   have hdd1 : ((bytesOf s).drop i).drop (run isD ((bytesOf s).drop i) + 1) = (bytesOf s).drop (i + run isD ((bytesOf s).drop i) + 1) := by rw [List.drop_drop, Nat.add_assoc]
   have hz : run isD ((bytesOf s).drop (i + run isD ((bytesOf s).drop i))) = 0 := by rw [← hdd]; exact run_drop _
   have hgt : (((bytesOf s).drop i).drop (run isD ((bytesOf s).drop i))).getD 0 0 = (bytesOf s).getD (i + run isD ((bytesOf s).drop i)) 0 := by
    rw [hdd]; simp [List.getD_eq_getElem?_getD]
   simp only [numsP]
   rw [if_neg h0, hgt, hdd, hdd1]
   have D := digits_ev s hs i hi
   generalize run isD ((bytesOf s).drop i) = r at D hr hz h0 ⊢
   refine Ev.succ ?_
   simp only [semantic_zzAlpineNumbers.l0]
   refine Ev.bind D ?_
   refine Ev.neg (fun _ => by omega) ?_
   by_cases hlt : i + r < s.size
   ·refine Ev.pos (fun _ => by omega) ?_
    refine Ev.pos (fun _ => by omega) ?_
    rw [bt_nat]
    by_cases h46 : (bytesOf s).getD (i + r) 0 = 46
    ·rw [if_pos h46]
     refine Ev.pos (fun _ => h46) ?_
     rw [w64 (by omega) (by omega)]
     exact ih (i + r + 1) (by omega) (by omega)
    ·rw [if_neg h46]
     refine Ev.neg (fun _ => h46) ?_
     have e2 : s.size - ([((bytesOf s).drop i).take r], (bytesOf s).drop (i + r)).2.length = i + r := by simp only [List.length_drop, bytesOf_length]; omega
     rw [e2]
     exact numbers_stop s hs (i + r) (by omega) hz
   ·refine Ev.neg (fun _ => by omega) ?_
    have e3 : (bytesOf s).drop (i + r) = [] := List.drop_of_length_le (by rw [bytesOf_length]; omega)
    have h46 : (bytesOf s).getD (i + r) 0 ≠ 46 := by
     rw [List.getD_eq_getElem?_getD, List.getElem?_eq_none (by rw [bytesOf_length]; omega)]
     simp
    rw [if_neg h46]
    have e2 : s.size - ([((bytesOf s).drop i).take r], (bytesOf s).drop (i + r)).2.length = i + r := by simp only [List.length_drop, bytesOf_length]; omega
    rw [e2]
    exact numbers_stop s hs (i + r) (by omega) hz
def nPt (c : Int) : Bool := !isPt c
theorem index_from (s : ByteArray) (hs : s.size ≤ 1000000) : ∀ (n i : Nat), s.size - i = n → i ≤ s.size →
  Ev (fun k => semantic_zzIndex.l0 k s (⟨#[46]⟩ : ByteArray) i) (if i + run nPt ((bytesOf s).drop i) < s.size then ((i + run nPt ((bytesOf s).drop i) : Nat) : Int) else -1) := by
 have e1 : ((⟨#[46]⟩ : ByteArray).size : Int) = 1 := rfl
 intro n
 induction n with
 | zero =>
  intro i hn hi
  refine Ev.succ ?_
  simp only [semantic_zzIndex.l0]
  rw [e1, w64 (by omega) (by omega)]
  refine Ev.neg (fun _ => by first | omega | assumption | nofun) ?_
  refine Ev.eq (Ev.now _) ?_
  rw [if_neg (by omega)]
 | succ n ih =>
  intro i hn hi
  have hl : i < (bytesOf s).length := by rw [bytesOf_length]; omega
  have hg := drop_get _ _ hl
  have hone : bytesOf (s.extract i (i + 1)) = [(bytesOf s).getD i 0] := by rw [B_extract, hg]; simp
  refine Ev.succ ?_
  simp only [semantic_zzIndex.l0]
  rw [e1, w64 (by omega) (by omega)]
  have e2 : ((i : Int) + 1).toNat = i + 1 := by omega
  rw [e2, Int.toNat_natCast]
  refine Ev.pos (fun _ => by first | omega | trivial | assumption) ?_
  refine Ev.pos (fun _ => by first | omega | trivial | assumption) ?_
  refine Ev.pos (fun _ => by first | omega | trivial | assumption) ?_
  cases hp : isPt ((bytesOf s).getD i 0)
  ·refine Ev.neg (fun _ h => ?_) ?_
   ·rw [toList_eq_iff, hone] at h
    have h2 : [(bytesOf s).getD i 0] = [46] := h
    injection h2 with h2 _
    rw [h2] at hp
    cases hp
   ·refine Ev.eq (ih (i + 1) (by omega) (by omega)) ?_
    rw [hg, run_pos (show nPt ((bytesOf s).getD i 0) = true by unfold nPt; rw [hp]; rfl)]
    have e3 : i + 1 + run nPt ((bytesOf s).drop (i + 1)) = i + (run nPt ((bytesOf s).drop (i + 1)) + 1) := by omega
    rw [e3]
  ·refine Ev.pos (fun _ => ?_) ?_
   ·rw [toList_eq_iff, hone]
    have : (bytesOf s).getD i 0 = 46 := by simpa [isPt] using hp
    rw [this]
    rfl
   ·refine Ev.eq (Ev.now _) ?_
    rw [hg, run_neg (show nPt ((bytesOf s).getD i 0) = false by unfold nPt; rw [hp]; rfl), if_pos (by omega)]
    rfl
theorem split_from : ∀ (n : Nat) (s : ByteArray) (out : List ByteArray), s.size ≤ n → n ≤ 1000000 → out.length + n ≤ 2000000 →
  ∃ r, Ev (fun k => semantic_zzSplit.l1 k s (⟨#[46]⟩ : ByteArray) out) r ∧ r.map bytesOf = out.map bytesOf ++ splitP isPt (bytesOf s) := by
 have e1 : ((⟨#[46]⟩ : ByteArray).size : Int) = 1 := rfl
 intro n
 induction n using Nat.strongRecOn with
 | _ n ih =>
  intro s out hs hn ho
  have hix := index_from s (by omega) _ 0 rfl (by omega)
  have hix2 : Ev (fun k => semantic_zzIndex.f k s (⟨#[46]⟩ : ByteArray)) (if run nPt (bytesOf s) < s.size then ((run nPt (bytesOf s) : Nat) : Int) else -1) := by simpa [semantic_zzIndex.f] using hix
  have hsp := splitP_run isPt (bytesOf s)
  rw [bytesOf_length] at hsp
  have hrun : run (fun c => !isPt c) (bytesOf s) = run nPt (bytesOf s) := rfl
  rw [hrun] at hsp
  by_cases hlt : run nPt (bytesOf s) < s.size
  ·rw [if_pos hlt] at hix2 hsp
   obtain ⟨m, hm⟩ : ∃ m, m = run nPt (bytesOf s) := ⟨_, rfl⟩
   rw [← hm] at hix2 hsp hlt
   have hb : bytesOf (s.extract (m + 1) s.size) = (bytesOf s).drop (m + 1) := B_drop _ _
   have hsz : (s.extract (m + 1) s.size).size = s.size - (m + 1) := by rw [B_size, hb, List.length_drop, bytesOf_length]
   obtain ⟨r, hr, h1⟩ := ih (s.size - (m + 1)) (by omega) (s.extract (m + 1) s.size) (out ++ [s.extract 0 m]) (by omega) (by omega) (by simp; omega)
   refine ⟨r, Ev.succ ?_, ?_⟩
   ·simp only [semantic_zzSplit.l1]
    refine Ev.bind hix2 ?_
    rw [e1, w64 (i := (m : Int) + 1) (by omega) (by omega)]
    have e2 : ((m : Int) + 1).toNat = m + 1 := by omega
    rw [e2, Int.toNat_natCast]
    refine Ev.neg (fun _ => by first | omega | assumption | nofun) ?_
    refine Ev.pos (fun _ => by first | omega | trivial | assumption) ?_
    refine Ev.pos (fun _ => by first | omega | trivial | assumption) ?_
    refine Ev.pos (fun _ => by first | omega | trivial | assumption) ?_
    refine Ev.pos (fun _ => by first | omega | trivial | assumption) ?_
    refine Ev.pos (fun _ => by first | omega | trivial | assumption) ?_
    exact hr
   ·rw [h1, hb, hsp, List.map_append, List.map_cons, List.map_nil, B_take]
    simp
  ·rw [if_neg hlt] at hix2 hsp
   refine ⟨out ++ [s], Ev.succ ?_, ?_⟩
   ·simp only [semantic_zzSplit.l1]
    refine Ev.bind hix2 ?_
    refine Ev.pos (fun _ => by first | omega | trivial | assumption) ?_
    refine Ev.pos (fun _ => by first | omega | trivial | assumption) ?_
    exact Ev.now _
   ·rw [hsp]; simp
theorem split_ev (s : ByteArray) (hs : s.size ≤ 1000000) : ∃ r, Ev (fun k => semantic_zzSplit.f k s (⟨#[46]⟩ : ByteArray)) r ∧ r.map bytesOf = splitP isPt (bytesOf s) := by
 obtain ⟨r, h, h1⟩ := split_from s.size s [] (Nat.le_refl _) hs (by simp; omega)
 refine ⟨r, ?_, by simpa using h1⟩
 simp only [semantic_zzSplit.f]
 refine Ev.neg (fun _ h => by cases h) ?_
 exact h
theorem allDig_str {m : List Int} (h0 : m ≠ []) (h : ∀ c ∈ m, isD c = true) : AllDig (strOfNums m) ∧ bytesOf (strOfNums m) = m := by
 have hb : bytesOf (strOfNums m) = m := B_str (fun c hc => by have := h c hc; unfold isD at this; have := of_decide_eq_true this; omega)
 refine ⟨⟨by rw [B_size, hb]; exact List.length_pos_iff.2 h0, fun j hj => ?_⟩, hb⟩
 rw [bt_nat, hb]
 rw [B_size, hb] at hj
 have hm : m.getD j 0 ∈ m := by rw [List.getD_eq_getElem?_getD, List.getElem?_eq_getElem hj]; exact List.getElem_mem hj
 have := h _ hm
 unfold isD at this
 exact of_decide_eq_true this
theorem plain_dig {d : ByteArray} (h : AllDig d) (hs : d.size ≤ 1000000) : Plain d := by
 have := h.2 0 h.1
 unfold Dig at this
 have e : bt d ((0 : Nat) : Int) = bt d 0 := rfl
 rw [e] at this
 exact ⟨hs, by omega, by omega⟩
theorem dv_decL (s : ByteArray) : ∀ k, k ≤ s.size → dv s k = decL ((bytesOf s).take k)
 | 0, _ => rfl
 | k + 1, h => by
  have hl : k < (bytesOf s).length := by rw [bytesOf_length]; omega
  have e : (bytesOf s).take (k + 1) = (bytesOf s).take k ++ [(bytesOf s).getD k 0] := by
   rw [List.take_add_one, List.getElem?_eq_getElem hl, List.getD_eq_getElem?_getD, List.getElem?_eq_getElem hl]
   rfl
  rw [e, decL_snoc, ← dv_decL s k (by omega)]
  show dv s k * 10 + (bt s (k : Int) - 48).toNat = _
  rw [bt_nat]
  omega
theorem dv_all (s : ByteArray) : dv s s.size = decL (bytesOf s) := by
 rw [dv_decL s s.size (Nat.le_refl _), List.take_of_length_le (by rw [bytesOf_length]; exact Nat.le_refl _)]
theorem dv_str {m : List Int} (h : ∀ c ∈ m, 0 ≤ c ∧ c ≤ 255) : dv (strOfNums m) (strOfNums m).size = decL m := by
 rw [dv_all, B_str h]
theorem trim_pre (s p : ByteArray) (r : List Int) (h : bytesOf s = bytesOf p ++ r) (hs : s.size ≤ 2000000) : ∃ t, strings_TrimPrefix.f s p = some t ∧ bytesOf t = r := by
 have hl : p.size ≤ s.size := by rw [B_size, B_size, h, List.length_append]; omega
 unfold strings_TrimPrefix.f stringslite_TrimPrefix.f stringslite_HasPrefix.f
 rw [if_pos (by omega), if_pos (by omega), if_pos (by omega)]
 have e : ((s.extract 0 ((p.size : Int)).toNat).toList == p.toList) = true := by
  rw [beq_iff_eq, toList_eq_iff, B_take, Int.toNat_natCast, h, B_size, List.take_left]
 rw [e]
 simp only [Option.bind_some]
 rw [if_pos True.intro, if_pos (by omega), if_pos (by omega)]
 simp only [Option.bind_some]
 refine ⟨_, rfl, ?_⟩
 rw [B_drop, Int.toNat_natCast, h, B_size, List.drop_left]
theorem takeNe_map {l : List ByteArray} : (takeNe l).map bytesOf = (l.map bytesOf).takeWhile (fun d => decide (d ≠ [])) := by
 induction l with
 | nil => rfl
 | cons a l ih =>
  unfold takeNe at ih ⊢
  rw [List.map_cons]
  by_cases h : a.toList = []
  ·have h2 : bytesOf a = [] := (toList_nil a).1 h
   rw [List.takeWhile_cons_of_neg (by simpa using h), List.takeWhile_cons_of_neg (by simpa using h2)]
   rfl
  ·have h2 : bytesOf a ≠ [] := fun e => h ((toList_nil a).2 e)
   rw [List.takeWhile_cons_of_pos (by simpa using h), List.takeWhile_cons_of_pos (by simpa using h2), List.map_cons, ih]
theorem nums_ev (s : ByteArray) (hs : s.size ≤ 100000) : ∃ rest, Ev (fun k => numsRun k s) ((numsP (bytesOf s).length (bytesOf s)).1.map strOfNums, rest) ∧ bytesOf rest = rest1 (bytesOf s) := by
 obtain ⟨sub, e1, e2, e3, e4⟩ := numsP_shape (bytesOf s).length (bytesOf s)
 have hN := numbers_from s (by omega) (bytesOf s).length 0 (by rw [bytesOf_length]; omega) (Nat.zero_le _)
 rw [List.drop_zero] at hN
 have hsub : bytesOf (s.extract 0 (s.size - (numsP (bytesOf s).length (bytesOf s)).2.length)) = sub := by
  rw [B_take, B_size]
  have : (bytesOf s).length - (numsP (bytesOf s).length (bytesOf s)).2.length = sub.length := by
   have := congrArg List.length e1
   rw [List.length_append] at this
   omega
  rw [this]
  conv => lhs; rw [e1]
  exact List.take_left
 obtain ⟨S, hS⟩ : ∃ S, S = s.extract 0 (s.size - (numsP (bytesOf s).length (bytesOf s)).2.length) := ⟨_, rfl⟩
 rw [← hS] at hN hsub
 have hSs : S.size ≤ 1000000 := by
  have hz := hs
  have := congrArg List.length e1
  rw [List.length_append] at this
  rw [B_size, hsub]
  rw [B_size] at hs
  omega
 unfold numsRun
 by_cases h0 : sub = []
 ·have hn : (numsP (bytesOf s).length (bytesOf s)).1 = [] := by
   rw [← e2, h0]; rfl
  refine ⟨s, ?_, ?_⟩
  ·refine Ev.bind hN ?_
   refine Ev.pos (fun _ => (toList_nil S).2 (hsub.trans h0)) ?_
   rw [hn]
   exact Ev.now _
  ·unfold rest1
   conv => lhs; rw [e1, h0]
   rfl
 ·obtain ⟨parts, hp, hpb⟩ := split_ev S hSs
  obtain ⟨t, ht, htb⟩ := trim_pre s S _ (by rw [hsub]; exact e1) (by omega)
  have hpt : (takeNe parts).map bytesOf = (numsP (bytesOf s).length (bytesOf s)).1 := by rw [takeNe_map, hpb, hsub, e2]
  have hpt2 : takeNe parts = (numsP (bytesOf s).length (bytesOf s)).1.map strOfNums := by
   rw [← hpt, List.map_map]
   have : (strOfNums ∘ bytesOf) = id := by funext s; exact str_B s
   rw [this, List.map_id]
  refine ⟨t, ?_, htb⟩
  refine Ev.bind hN ?_
  refine Ev.neg (fun _ h => h0 (hsub.symm.trans ((toList_nil S).1 h))) ?_
  refine Ev.bind hp ?_
  have hlen : parts.length = (splitP isPt sub).length := by rw [← hsub, ← hpb, List.length_map]
  have hl2 := splitP_length isPt sub
  have hl3 : sub.length ≤ 1000000 - 0 := by rw [← hsub, ← B_size]; exact hSs
  have hl4 : sub.length ≤ (bytesOf s).length := by
   have := congrArg List.length e1
   rw [List.length_append] at this
   omega
  have hne : 0 < (splitP isPt sub).length := List.length_pos_iff.2 (splitP_ne _ _)
  have hle : parts.length ≤ 1000000 := by
   have hz := hs
   rw [B_size] at hz
   omega
  have hgood : ∀ d ∈ takeNe parts, Plain d ∧ AllDig d := by
   intro d hd
   rw [hpt2] at hd
   obtain ⟨m, hm, rfl⟩ := List.mem_map.1 hd
   obtain ⟨k1, k2⟩ := e4 m hm
   obtain ⟨k3, k4⟩ := allDig_str k1 k2
   refine ⟨plain_dig k3 ?_, k3⟩
   rw [B_size, k4]
   have := numsP_part (bytesOf s).length (bytesOf s) m hm
   rw [B_size] at hs
   omega
  refine Ev.pos (fun _ => ⟨by omega, hle, hgood⟩) ?_
  rw [ht, hpt2]
  exact Ev.now _
theorem letter_ev (s : ByteArray) (hs : s.size ≤ 100000) : ∃ rest, letterRun s = some (strOfNums (letterP (bytesOf s)).1, rest) ∧ bytesOf rest = (letterP (bytesOf s)).2 := by
 have hE : semantic_zzAlpineLower.f s = some (isL ((bytesOf s).getD 0 0)) := by
  unfold semantic_zzAlpineLower.f
  by_cases h0 : bytesOf s = []
  ·rw [if_pos ((toList_nil s).2 h0), h0]; rfl
  ·have hpos : 0 < s.size := by rw [B_size]; exact List.length_pos_iff.2 h0
   rw [if_neg (fun h => h0 ((toList_nil s).1 h)), if_pos (by omega), bt_zero]
   unfold isL
   by_cases h1 : (bytesOf s).getD 0 0 ≥ 97
   ·rw [if_pos h1]
    congr 1
    rw [decide_eq_decide]
    omega
   ·rw [if_neg h1]
    congr 1
    symm
    rw [decide_eq_false_iff_not]
    omega
 unfold letterRun letterP
 rw [hE]
 simp only [Option.bind_some]
 cases hc : isL ((bytesOf s).getD 0 0)
 ·obtain ⟨t, ht, htb⟩ := trim_pre s ⟨#[]⟩ (bytesOf s) (by rfl) (by omega)
  refine ⟨t, ?_, ?_⟩
  ·rw [if_neg (by rintro ⟨h, _⟩; cases h)]
   simp only [Bool.false_eq_true, if_false]
   rw [ht]
   rfl
  ·simpa using htb
 ·have hne : bytesOf s ≠ [] := by intro e; rw [e] at hc; exact absurd hc (by decide)
  have hpos : s.size ≠ 0 := fun h => hne ((size_nil s).1 h)
  obtain ⟨t, ht, htb⟩ := trim_pre s (s.extract 0 1) ((bytesOf s).drop 1) (by rw [B_take]; exact (List.take_append_drop 1 _).symm) (by omega)
  refine ⟨t, ?_, ?_⟩
  ·rw [if_neg (by rintro ⟨_, h⟩; exact hpos h)]
   simp only [if_true]
   rw [ht]
   have : s.extract 0 1 = strOfNums ((bytesOf s).take 1) := by rw [← B_take, str_B]
   rw [this]
   rfl
  ·simpa using htb
theorem has_ev (s w : ByteArray) (i : Nat) (hi : i ≤ s.size) (hs : s.size ≤ 2000000) (hw : w.size ≤ 100) : semantic_zzHas.f s (i : Int) w = some (pre (bytesOf w) ((bytesOf s).drop i)) := by
 unfold semantic_zzHas.f pre
 rw [w64 (by omega) (by omega), w64 (by omega) (by omega)]
 have e1 : ((i : Int) + (w.size : Int)).toNat = i + w.size := by omega
 by_cases h : ((s.size : Int) - i) ≥ w.size
 ·rw [if_pos h, if_pos (by omega), if_pos (by omega), if_pos (by omega), e1, Int.toNat_natCast]
  congr 1
  rw [Bool.eq_iff_iff, beq_iff_eq, toList_eq_iff, decide_eq_true_iff, B_extract, Nat.add_sub_cancel_left, B_size]
 ·rw [if_neg h]
  congr 1
  symm
  rw [decide_eq_false_iff_not]
  intro e
  have := congrArg List.length e
  rw [List.length_take, List.length_drop, bytesOf_length, ← B_size] at this
  omega
def pick (L : List Int) : List ByteArray → ByteArray → ByteArray
 | [], w => w
 | x :: xs, w => if w.toList = [] then (if pre (bytesOf x) L = true then pick L xs x else pick L xs w) else pick L xs w
theorem pick_done {L : List Int} : ∀ (xs : List ByteArray) {w : ByteArray}, w.toList ≠ [] → pick L xs w = w
 | [], _, _ => rfl
 | x :: xs, w, h => by simp only [pick]; rw [if_neg h]; exact pick_done xs h
theorem pick_find {L : List Int} : ∀ (xs : List ByteArray), (∀ x ∈ xs, x.toList ≠ []) → bytesOf (pick L xs ⟨#[]⟩) = (((xs.map bytesOf).find? (fun w => pre w L)).getD [])
 | [], _ => rfl
 | x :: xs, h => by
  simp only [pick]
  rw [if_pos (show (⟨#[]⟩ : ByteArray).toList = [] by rw [B_toList])]
  simp only [List.map_cons, List.find?_cons]
  by_cases hp : pre (bytesOf x) L = true
  ·rw [if_pos hp, hp, pick_done xs (h x List.mem_cons_self)]
   rfl
  ·rw [if_neg hp, Bool.eq_false_iff.2 hp]
   exact pick_find xs (fun y hy => h y (List.mem_cons_of_mem _ hy))
theorem words_walk (s : ByteArray) (out : List (List ByteArray)) (i : Nat) (hi : i + 1 ≤ s.size) (hs : s.size ≤ 2000000) (ws : List ByteArray) (hw : ∀ w ∈ ws, w.size ≤ 100) (hl : ws.length ≤ 100) {r : List (List ByteArray)} : ∀ (m j : Nat) (word : ByteArray), ws.length - j = m → j ≤ ws.length →
  Ev (fun k => semantic_zzAlpineSuffixes.l1 k s out (i : Int) (pick ((bytesOf s).drop (i + 1)) (ws.drop j) word) ws (ws.length : Int) (ws.length : Int)) r → Ev (fun k => semantic_zzAlpineSuffixes.l1 k s out (i : Int) word ws (ws.length : Int) (j : Int)) r := by
 intro m
 induction m with
 | zero =>
  intro j word hm hj h
  obtain rfl : j = ws.length := by omega
  rw [List.drop_length] at h
  exact h
 | succ m ih =>
  intro j word hm hj h
  have hlt : j < ws.length := by omega
  have hd : ws.drop j = ws[j] :: ws.drop (j + 1) := List.drop_eq_getElem_cons hlt
  have hrd : rdOf ByteArray.empty ws (j : Int) = ws[j] := by
   simp only [rdOf, Int.toNat_natCast, List.getD_eq_getElem?_getD, List.getElem?_eq_getElem hlt, Option.getD_some]
  rw [hd] at h
  simp only [pick] at h
  refine Ev.succ ?_
  simp only [semantic_zzAlpineSuffixes.l1]
  refine Ev.pos (fun _ => by first | omega | trivial | assumption) ?_
  refine Ev.pos (fun _ => by first | omega | trivial | assumption) ?_
  refine Ev.pos (fun _ => by first | omega | trivial | assumption) ?_
  rw [hrd, w64 (i := (j : Int) + 1) (by omega) (by omega)]
  by_cases hne : word.toList = []
  ·rw [if_pos hne] at h
   refine Ev.pos (fun _ => hne) ?_
   rw [w64 (i := (i : Int) + 1) (by omega) (by omega)]
   refine Ev.bind0 (has_ev s ws[j] (i + 1) hi hs (hw _ (List.getElem_mem hlt))) ?_
   by_cases hp : pre (bytesOf ws[j]) ((bytesOf s).drop (i + 1)) = true
   ·rw [if_pos hp] at h
    refine Ev.pos (fun _ => hp) ?_
    exact ih (j + 1) _ (by omega) (by omega) h
   ·rw [if_neg hp] at h
    refine Ev.neg (fun _ => hp) ?_
    exact ih (j + 1) _ (by omega) (by omega) h
  ·rw [if_neg hne] at h
   refine Ev.neg (fun _ => hne) ?_
   exact ih (j + 1) _ (by omega) (by omega) h
def sufBs : List ByteArray := [(⟨#[97, 108, 112, 104, 97]⟩ : ByteArray), (⟨#[98, 101, 116, 97]⟩ : ByteArray), (⟨#[112, 114, 101]⟩ : ByteArray), (⟨#[114, 99]⟩ : ByteArray), (⟨#[99, 118, 115]⟩ : ByteArray), (⟨#[115, 118, 110]⟩ : ByteArray), (⟨#[103, 105, 116]⟩ : ByteArray), (⟨#[104, 103]⟩ : ByteArray), (⟨#[112]⟩ : ByteArray)]
theorem sufBs_B : sufBs.map bytesOf = sufWords := by decide
theorem sufBs_ne : ∀ x ∈ sufBs, x.toList ≠ [] := by
 intro x hx e
 have h1 : bytesOf x ∈ sufWords := by rw [← sufBs_B]; exact List.mem_map_of_mem hx
 have h2 := sufWords_len h1
 rw [(toList_nil x).1 e] at h2
 simp at h2
theorem sufBs_size : ∀ x ∈ sufBs, x.size ≤ 100 := by
 intro x hx
 have h1 : bytesOf x ∈ sufWords := by rw [← sufBs_B]; exact List.mem_map_of_mem hx
 have h2 := sufWords_len h1
 rw [← B_size] at h2
 omega
def toM (x : List Int × List Int) : List ByteArray := [strOfNums (95 :: (x.1 ++ x.2)), strOfNums x.1, strOfNums x.2]
theorem suf_round (s : ByteArray) (out : List (List ByteArray)) (i : Nat) (hi : i < s.size) (hs : s.size ≤ 2000000) (ho : out.length ≤ 2000000) {r : List (List ByteArray)}
  (h : match wordAt ((bytesOf s).drop i) with
   | none => Ev (fun k => semantic_zzAlpineSuffixes.l0 k s out ((i + 1 : Nat) : Int)) r
   | some w => Ev (fun k => semantic_zzAlpineSuffixes.l0 k s (out ++ [toM (w, (((bytesOf s).drop i).drop (1 + w.length)).take (run isD (((bytesOf s).drop i).drop (1 + w.length))))]) ((i + 1 + w.length + run isD (((bytesOf s).drop i).drop (1 + w.length)) : Nat) : Int)) r) :
  Ev (fun k => semantic_zzAlpineSuffixes.l0 k s out (i : Int)) r := by
 have hl : i < (bytesOf s).length := by rw [bytesOf_length]; exact hi
 have hg : ((bytesOf s).drop i).getD 0 0 = (bytesOf s).getD i 0 := by simp [List.getD_eq_getElem?_getD]
 refine Ev.succ ?_
 simp only [semantic_zzAlpineSuffixes.l0, bt_nat]
 refine Ev.pos (fun _ => by first | omega | trivial | assumption) ?_
 refine Ev.pos (fun _ => by first | omega | trivial | assumption) ?_
 by_cases h95 : (bytesOf s).getD i 0 = 95
 ·refine Ev.pos (fun _ => h95) ?_
  refine Ev.bind0 rfl ?_
  show Ev (fun k => semantic_zzAlpineSuffixes.l1 k s out (i : Int) ⟨#[]⟩ sufBs (sufBs.length : Int) ((0 : Nat) : Int)) r
  refine words_walk s out i (by omega) hs sufBs sufBs_size (by decide) 9 0 _ rfl (by decide) ?_
  rw [List.drop_zero]
  have hp := pick_find (L := (bytesOf s).drop (i + 1)) sufBs sufBs_ne
  rw [sufBs_B] at hp
  have hw : wordAt ((bytesOf s).drop i) = sufWords.find? (fun w => pre w ((bytesOf s).drop (i + 1))) := by
   unfold wordAt
   rw [if_pos (hg.trans h95), List.drop_drop]
  rw [hw] at h
  have hws := fun w (hq : sufWords.find? (fun w => pre w ((bytesOf s).drop (i + 1))) = some w) => wordAt_some (hw.trans hq)
  obtain ⟨W, hW⟩ : ∃ W, W = pick ((bytesOf s).drop (i + 1)) sufBs ⟨#[]⟩ := ⟨_, rfl⟩
  rw [← hW] at hp ⊢
  refine Ev.succ ?_
  simp only [semantic_zzAlpineSuffixes.l1]
  refine Ev.neg (fun _ => by first | omega | assumption | nofun) ?_
  cases hq : sufWords.find? (fun w => pre w ((bytesOf s).drop (i + 1))) with
  | none =>
   rw [hq] at h hp
   refine Ev.pos (fun _ => (toList_nil W).2 hp) ?_
   rw [w64 (i := (i : Int) + 1) (by omega) (by omega)]
   exact h
  | some w =>
   rw [hq] at h hp
   obtain ⟨k1, k2⟩ := hws w hq
   have hpw : bytesOf W = w := hp
   have hlen := sufWords_len k1
   have hWs : W.size = w.length := by rw [B_size, hpw]
   have htot := congrArg List.length k2
   simp only [List.length_cons, List.length_append, List.length_drop, bytesOf_length] at htot
   refine Ev.neg (fun _ e => by have := (toList_nil W).1 e; rw [hpw] at this; rw [this] at hlen; simp at hlen) ?_
   rw [w64 (i := (i : Int) + 1) (by omega) (by omega), w64 (i := (i : Int) + 1 + (W.size : Int)) (by omega) (by omega), hWs]
   have hdd : ((bytesOf s).drop i).drop (1 + w.length) = (bytesOf s).drop (i + 1 + w.length) := by rw [List.drop_drop, Nat.add_assoc]
   simp only [hdd] at h
   have hr := run_le isD ((bytesOf s).drop (i + 1 + w.length))
   rw [List.length_drop, bytesOf_length] at hr
   have D := digits_ev s hs (i + 1 + w.length) (by omega)
   obtain ⟨n, hn⟩ : ∃ n, n = run isD ((bytesOf s).drop (i + 1 + w.length)) := ⟨_, rfl⟩
   rw [← hn] at D h hr
   have e1 : ((i : Int) + 1 + (w.length : Int)) = ((i + 1 + w.length : Nat) : Int) := by omega
   rw [e1]
   refine Ev.bind D ?_
   refine Ev.pos (fun _ => by omega) ?_
   refine Ev.pos (fun _ => by omega) ?_
   refine Ev.pos (fun _ => by omega) ?_
   refine Ev.pos (fun _ => by omega) ?_
   refine Ev.pos (fun _ => by omega) ?_
   refine Ev.pos (fun _ => by omega) ?_
   refine Ev.eq (g := _) ?_ rfl
   have m0 : s.extract i (i + 1 + w.length + n) = strOfNums (95 :: (w ++ ((bytesOf s).drop (i + 1 + w.length)).take n)) := by
    rw [← str_B (s.extract i (i + 1 + w.length + n)), B_extract]
    congr 1
    rw [show i + 1 + w.length + n - i = (w.length + n) + 1 by omega]
    rw [k2]
    rw [List.take_succ_cons, hdd]
    congr 1
    rw [List.take_append, List.take_of_length_le (by omega), Nat.add_sub_cancel_left]
   have m2 : s.extract (i + 1 + w.length) (i + 1 + w.length + n) = strOfNums (((bytesOf s).drop (i + 1 + w.length)).take n) := by
    rw [← str_B (s.extract (i + 1 + w.length) (i + 1 + w.length + n)), B_extract]
    rw [Nat.add_sub_cancel_left]
   have m1 : W = strOfNums w := by rw [← hpw, str_B]
   simp only [Int.toNat_natCast]
   rw [m0, m2, m1]
   exact h
 ·refine Ev.neg (fun _ => h95) ?_
  rw [w64 (i := (i : Int) + 1) (by omega) (by omega)]
  have hw : wordAt ((bytesOf s).drop i) = none := by
   unfold wordAt
   rw [if_neg (fun e => h95 (hg.symm.trans e))]
  rw [hw] at h
  exact h
theorem sufs_none (s : ByteArray) (hs : s.size ≤ 2000000) (out : List (List ByteArray)) (ho : out.length ≤ 2000000) : ∀ (n i : Nat), s.size - i = n → i ≤ s.size → Clear ((bytesOf s).drop i) →
  Ev (fun k => semantic_zzAlpineSuffixes.l0 k s out (i : Int)) out := by
 intro n
 induction n with
 | zero =>
  intro i hn hi hc
  refine Ev.succ ?_
  simp only [semantic_zzAlpineSuffixes.l0]
  refine Ev.neg (fun _ => by first | omega | assumption | nofun) ?_
  exact Ev.now _
 | succ n ih =>
  intro i hn hi hc
  refine suf_round s out i (by omega) hs ho ?_
  have h0 : wordAt ((bytesOf s).drop i) = none := hc 0
  rw [h0]
  refine ih (i + 1) (by omega) (by omega) ?_
  have := hc.drop 1
  rw [List.drop_drop] at this
  exact this
theorem sufs_from (s : ByteArray) (hs : s.size ≤ 1000000) : ∀ (n i : Nat) (out : List (List ByteArray)), s.size - i ≤ n → i ≤ s.size → out.length ≤ i → Clear (sufsP n ((bytesOf s).drop i)).2 →
  Ev (fun k => semantic_zzAlpineSuffixes.l0 k s out (i : Int)) (out ++ (sufsP n ((bytesOf s).drop i)).1.map toM) := by
 intro n
 induction n with
 | zero =>
  intro i out hn hi ho hc
  refine Ev.eq (sufs_none s (by omega) out (by omega) _ i rfl hi hc) ?_
  simp [sufsP]
 | succ n ih =>
  intro i out hn hi ho hc
  cases hq : wordAt ((bytesOf s).drop i) with
  | none =>
   rw [sufsP_none hq] at hc ⊢
   refine Ev.eq (sufs_none s (by omega) out (by omega) _ i rfl hi hc) ?_
   simp
  | some w =>
   obtain ⟨k1, k2⟩ := wordAt_some hq
   have hlen := sufWords_len k1
   have htot := congrArg List.length k2
   simp only [List.length_cons, List.length_append, List.length_drop, bytesOf_length] at htot
   have hdd : ((bytesOf s).drop i).drop (1 + w.length) = (bytesOf s).drop (i + 1 + w.length) := by rw [List.drop_drop, Nat.add_assoc]
   have hr := run_le isD ((bytesOf s).drop (i + 1 + w.length))
   rw [List.length_drop, bytesOf_length] at hr
   rw [sufsP_some hq] at hc ⊢
   rw [hdd, List.drop_drop] at hc ⊢
   refine suf_round s out i (by omega) (by omega) (by omega) ?_
   rw [hq]
   simp only
   rw [hdd]
   have := ih (i + 1 + w.length + run isD ((bytesOf s).drop (i + 1 + w.length))) (out ++ [toM (w, ((bytesOf s).drop (i + 1 + w.length)).take (run isD ((bytesOf s).drop (i + 1 + w.length))))]) (by omega) (by omega) (by rw [List.length_append]; simp; omega) hc
   refine Ev.eq this ?_
   rw [List.append_assoc]
   rfl
end Go.Proofs.YtapaijpglfmfgaaGreatDoorP
end
section -- AR
namespace Go.Proofs.YtapaijpglfmfgaaGreatDoorP
open Go.RowKit Go.Proofs.YtapaijpglfmfgaaGreatDoorG Go.Proofs.YtapaijpglfmfgaaGreatDoorH Go.Proofs.YtapaijpglfmfgaaGreatDoorB Go.Proofs.YtapaijpglfmfgaaGreatDoorM Go.Proofs.YtapaijpglfmfgaaGreatDoor.S Go.Proofs.YtapaijpglfmfgaaGreatDoorW.PrintWords Go.Proofs.YtapaijpglfmfgaaGreatDoorW.PrintLast
set_option linter.unusedVariables false
set_option linter.unusedSimpArgs false
theorem Ev.map {α β : Type} {g : Nat → Option α} {a : α} {F : α → β} (h : Ev g a) : Ev (fun k => (g k).map F) (F a) := by
 obtain ⟨k0, hk⟩ := h
 exact ⟨k0, fun k h => by show Option.map F (g k) = _; rw [hk k h]; rfl⟩
def wgtBs : List ByteArray := [(⟨#[97, 108, 112, 104, 97]⟩ : ByteArray), (⟨#[98, 101, 116, 97]⟩ : ByteArray), (⟨#[112, 114, 101]⟩ : ByteArray), (⟨#[114, 99]⟩ : ByteArray), (⟨#[]⟩ : ByteArray), (⟨#[99, 118, 115]⟩ : ByteArray), (⟨#[115, 118, 110]⟩ : ByteArray), (⟨#[103, 105, 116]⟩ : ByteArray), (⟨#[104, 103]⟩ : ByteArray)]
theorem wgtBs_B : wgtBs.map bytesOf = wgtWords := by decide
theorem weight_from (x : ByteArray) (ws : List ByteArray) (hl : ws.length ≤ 100) : ∀ (m j : Nat), ws.length - j = m → j ≤ ws.length →
  Ev (fun k => semantic_weightAlpineSuffixString.l0 k x ws ws (ws.length : Int) (j : Int)) ((j + ((ws.drop j).map bytesOf).idxOf (bytesOf x) : Nat) : Int) := by
 intro m
 induction m with
 | zero =>
  intro j hm hj
  obtain rfl : j = ws.length := by omega
  refine Ev.succ ?_
  simp only [semantic_weightAlpineSuffixString.l0]
  refine Ev.neg (fun _ => by first | omega | assumption | nofun) ?_
  refine Ev.eq (Ev.now _) ?_
  rw [List.drop_length]
  rfl
 | succ m ih =>
  intro j hm hj
  have hlt : j < ws.length := by omega
  have hd : ws.drop j = ws[j] :: ws.drop (j + 1) := List.drop_eq_getElem_cons hlt
  have hrd : rdOf ByteArray.empty ws (j : Int) = ws[j] := by
   simp only [rdOf, Int.toNat_natCast, List.getD_eq_getElem?_getD, List.getElem?_eq_getElem hlt, Option.getD_some]
  refine Ev.succ ?_
  simp only [semantic_weightAlpineSuffixString.l0]
  refine Ev.pos (fun _ => by first | omega | trivial | assumption) ?_
  refine Ev.pos (fun _ => by first | omega | trivial | assumption) ?_
  refine Ev.pos (fun _ => by first | omega | trivial | assumption) ?_
  rw [hrd, hd, List.map_cons, List.idxOf_cons]
  by_cases h : bytesOf x = bytesOf ws[j]
  ·refine Ev.pos (fun _ => (toList_eq_iff _ _).2 h) ?_
   refine Ev.eq (Ev.now _) ?_
   have : (bytesOf ws[j] == bytesOf x) = true := by rw [beq_iff_eq]; exact h.symm
   rw [this]
   rfl
  ·refine Ev.neg (fun _ e => h ((toList_eq_iff _ _).1 e)) ?_
   rw [w64 (i := (j : Int) + 1) (by omega) (by omega)]
   refine Ev.eq (ih (j + 1) (by omega) (by omega)) ?_
   have : (bytesOf ws[j] == bytesOf x) = false := by rw [beq_eq_false_iff_ne]; exact fun e => h e.symm
   rw [this]
   simp only [cond_false]
   omega
theorem weight_ev (x : ByteArray) : Ev (fun k => semantic_weightAlpineSuffixString.f k x) (wgt (bytesOf x) : Int) := by
 simp only [semantic_weightAlpineSuffixString.f]
 refine Ev.bind0 rfl ?_
 have h := weight_from x wgtBs (by decide) 9 0 rfl (by decide)
 rw [List.drop_zero, wgtBs_B] at h
 refine Ev.eq h ?_
 unfold wgt
 rw [Nat.zero_add]
def convS (x : List Int × List Int) : Int × ByteArray := ((wgt x.1 : Int), or0 (strOfNums x.2))
theorem digs_asc {d : List Int} (h : ∀ c ∈ d, isD c = true) : ∀ c ∈ d, 0 ≤ c ∧ c ≤ 255 := fun c hc => by
 have := h c hc
 unfold isD at this
 have := of_decide_eq_true this
 omega
theorem or0_good {d : List Int} (h : ∀ c ∈ d, isD c = true) (hl : d.length ≤ 1000000) : Plain (or0 (strOfNums d)) ∧ AllDig (or0 (strOfNums d)) ∧ dv (or0 (strOfNums d)) (or0 (strOfNums d)).size = decL d := by
 have hb := B_str (digs_asc h)
 unfold or0
 by_cases h0 : d = []
 ·subst h0
  rw [if_pos ((toList_nil _).2 hb)]
  refine ⟨by decide, ?_, by decide⟩
  have := (allDig_str (m := [48]) (by simp) (by decide)).1
  exact this
 ·rw [if_neg (fun e => h0 (hb.symm.trans ((toList_nil _).1 e)))]
  obtain ⟨k1, k2⟩ := allDig_str h0 h
  refine ⟨plain_dig k1 (by rw [B_size, hb]; exact hl), k1, ?_⟩
  rw [dv_all, hb]
theorem sufRun_ev : ∀ (n : Nat) (s : ByteArray), s.size ≤ 100000 → ∃ rest, Ev (fun k => sufRun k ((sufsP n (bytesOf s)).1.map toM) s) ((sufsP n (bytesOf s)).1.map convS, rest) ∧ bytesOf rest = (sufsP n (bytesOf s)).2 := by
 intro n
 induction n with
 | zero => intro s hs; exact ⟨s, Ev.now _, rfl⟩
 | succ n ih =>
  intro s hs
  cases hq : wordAt (bytesOf s) with
  | none =>
   rw [sufsP_none hq]
   exact ⟨s, Ev.now _, rfl⟩
  | some w =>
   obtain ⟨k1, k2⟩ := wordAt_some hq
   rw [sufsP_some hq]
   obtain ⟨D, hD⟩ : ∃ D, D = (bytesOf s).drop (1 + w.length) := ⟨_, rfl⟩
   rw [← hD] at k2 ⊢
   have hdig : ∀ c ∈ D.take (run isD D), isD c = true := fun c hc => run_mem hc
   have hDl : D.length ≤ 100000 := by rw [hD, List.length_drop, bytesOf_length]; omega
   have hm0 : bytesOf (strOfNums (95 :: (w ++ D.take (run isD D)))) = 95 :: (w ++ D.take (run isD D)) := B_str (fun c hc => by
    rcases List.mem_cons.1 hc with rfl | hc
    ·omega
    ·rcases List.mem_append.1 hc with hc | hc
     ·have := sufWords_asc k1 c hc; omega
     ·exact digs_asc hdig c hc)
   have hw : bytesOf (strOfNums w) = w := B_str (fun c hc => by have := sufWords_asc k1 c hc; omega)
   obtain ⟨t, ht, htb⟩ := trim_pre s (strOfNums (95 :: (w ++ D.take (run isD D)))) (D.drop (run isD D)) (by
    rw [hm0, k2]
    simp only [List.cons_append, List.append_assoc, List.take_append_drop]) (by omega)
   have hts : t.size ≤ 100000 := by rw [B_size, htb, List.length_drop]; omega
   obtain ⟨rest, hr, hrb⟩ := ih t hts
   rw [htb] at hr hrb
   refine ⟨rest, ?_, hrb⟩
   simp only [List.map_cons, toM, sufRun]
   have hwe := weight_ev (strOfNums w)
   rw [hw] at hwe
   refine Ev.bind hwe ?_
   refine Ev.bind0 ht ?_
   obtain ⟨g1, g2, _⟩ := or0_good hdig (by rw [List.length_take]; omega)
   refine Ev.pos (fun _ => ⟨g1, g2⟩) ?_
   exact Ev.map hr
theorem sufs_ev (s : ByteArray) (hs : s.size ≤ 100000) (hc : Clear (sufsP (bytesOf s).length (bytesOf s)).2) : ∃ rest, Ev (fun k => sufsRun k s) ((sufsP (bytesOf s).length (bytesOf s)).1.map convS, rest) ∧ bytesOf rest = (sufsP (bytesOf s).length (bytesOf s)).2 := by
 obtain ⟨rest, hr, hrb⟩ := sufRun_ev (bytesOf s).length s hs
 refine ⟨rest, ?_, hrb⟩
 have h := sufs_from s (by omega) (bytesOf s).length 0 [] (by rw [bytesOf_length]; omega) (Nat.zero_le _) (Nat.zero_le _) (by rw [List.drop_zero]; exact hc)
 rw [List.drop_zero, List.nil_append] at h
 unfold sufsRun
 refine Ev.bind h ?_
 refine Ev.pos (fun _ => ?_) hr
 rw [List.length_map]
 have := sufsP_count (bytesOf s).length (bytesOf s)
 rw [B_size] at hs
 omega
theorem hash_from (s : ByteArray) (hs : s.size ≤ 2000000) : ∀ (m i : Nat), s.size - i = m → 1 ≤ i → i ≤ s.size →
  Ev (fun k => semantic_zzAlpineHash.l0 k s (i : Int)) (if i + run isX ((bytesOf s).drop i) = 1 then ⟨#[]⟩ else s.extract 0 (i + run isX ((bytesOf s).drop i))) := by
 intro m
 induction m with
 | zero =>
  intro i hm h1 hi
  refine Ev.succ ?_
  simp only [semantic_zzAlpineHash.l0]
  refine Ev.neg (fun _ => by first | omega | assumption | nofun) ?_
  rw [List.drop_of_length_le (by rw [bytesOf_length]; omega), run_nil, Nat.add_zero]
  by_cases h : i = 1
  ·rw [if_pos h]
   refine Ev.pos (fun _ => by omega) ?_
   exact Ev.now _
  ·rw [if_neg h]
   refine Ev.neg (fun _ => by omega) ?_
   refine Ev.pos (fun _ => by first | omega | trivial | assumption) ?_
   refine Ev.pos (fun _ => by first | omega | trivial | assumption) ?_
   exact Ev.eq (Ev.now _) (by simp)
 | succ m ih =>
  intro i hm h1 hi
  have hl : i < (bytesOf s).length := by rw [bytesOf_length]; omega
  have next := ih (i + 1) (by omega) (by omega) (by omega)
  refine Ev.succ ?_
  simp only [semantic_zzAlpineHash.l0, bt_nat, zzDigit_eq, Option.bind_some]
  refine Ev.pos (fun _ => by first | omega | trivial | assumption) ?_
  refine Ev.pos (fun _ => by first | omega | trivial | assumption) ?_
  rw [w64 (i := (i : Int) + 1) (by omega) (by omega), drop_get _ _ hl]
  obtain ⟨c, hcc⟩ : ∃ c, c = (bytesOf s).getD i 0 := ⟨_, rfl⟩
  rw [← hcc]
  cases hx : isX c with
  | true =>
   rw [run_pos hx]
   have e : i + (run isX ((bytesOf s).drop (i + 1)) + 1) = i + 1 + run isX ((bytesOf s).drop (i + 1)) := by omega
   rw [e]
   cases hd : isD c with
   | true => exact Ev.pos (fun _ => rfl) next
   | false =>
    unfold isX at hx
    rw [hd, Bool.false_or] at hx
    have hx2 := of_decide_eq_true hx
    refine Ev.neg (fun _ => Bool.false_ne_true) ?_
    refine Ev.pos (fun _ => by omega) ?_
    exact Ev.pos (fun _ => by omega) next
  | false =>
   rw [run_neg hx, Nat.add_zero]
   unfold isX at hx
   have hx1 := (Bool.or_eq_false_iff.1 hx).1
   have hx2 := of_decide_eq_false (Bool.or_eq_false_iff.1 hx).2
   rw [hx1]
   refine Ev.neg (fun _ => Bool.false_ne_true) ?_
   have fin : ∀ {g : Nat → Option ByteArray}, Ev g (if i = 1 then ⟨#[]⟩ else s.extract 0 i) → Ev g (if i = 1 then ⟨#[]⟩ else s.extract 0 i) := fun h => h
   have stop : Ev (fun k : Nat => if (i : Int) = 1 then some (⟨#[]⟩ : ByteArray) else if (i : Int) ≤ (s.size : Int) then some (s.extract 0 ((i : Int)).toNat) else none) (if i = 1 then ⟨#[]⟩ else s.extract 0 i) := by
    by_cases h : i = 1
    ·rw [if_pos h]
     refine Ev.pos (fun _ => by omega) ?_
     exact Ev.now _
    ·rw [if_neg h]
     refine Ev.neg (fun _ => by omega) ?_
     refine Ev.pos (fun _ => by first | omega | trivial | assumption) ?_
     exact Ev.eq (Ev.now _) (by simp)
   by_cases h97 : c ≥ 97
   ·refine Ev.pos (fun _ => h97) ?_
    refine Ev.neg (fun _ => by omega) ?_
    exact stop
   ·refine Ev.neg (fun _ => h97) ?_
    exact stop
theorem hash_ev (s : ByteArray) (hs : s.size ≤ 100000) : ∃ rest, Ev (fun k => hashRun k s) (strOfNums (hashP (bytesOf s)).1, rest) ∧ bytesOf rest = (hashP (bytesOf s)).2 := by
 have hE : Ev (fun k => semantic_zzAlpineHash.f k s) (strOfNums (hashP (bytesOf s)).1) := by
  simp only [semantic_zzAlpineHash.f]
  by_cases h0 : bytesOf s = []
  ·refine Ev.pos (fun _ => (toList_nil s).2 h0) ?_
   refine Ev.succ ?_
   simp only [semantic_zzAlpineHash.j0]
   rw [h0]
   exact Ev.now _
  ·have hpos : 0 < s.size := by rw [B_size]; exact List.length_pos_iff.2 h0
   refine Ev.neg (fun _ e => h0 ((toList_nil s).1 e)) ?_
   refine Ev.pos (fun _ => by omega) ?_
   refine Ev.succ ?_
   simp only [semantic_zzAlpineHash.j0, bt_zero]
   by_cases h1 : (bytesOf s).getD 0 0 = 126
   ·refine Ev.neg (fun _ => by rw [h1]; decide) ?_
    have h := hash_from s (by omega) _ 1 rfl (Nat.le_refl 1) (by omega)
    refine Ev.eq h ?_
    unfold hashP
    by_cases h2 : run isX ((bytesOf s).drop 1) = 0
    ·rw [if_pos (by omega), if_neg (fun h => h.2 h2)]
     rfl
    ·rw [if_neg (by omega), if_pos ⟨h1, h2⟩, ← B_take, str_B]
   ·refine Ev.pos (fun _ => by rw [bne_iff_ne]; exact h1) ?_
    refine Ev.eq (Ev.now _) ?_
    unfold hashP
    rw [if_neg (fun h => h1 h.1)]
    rfl
 have hsplit : bytesOf s = (hashP (bytesOf s)).1 ++ (hashP (bytesOf s)).2 := by
  unfold hashP
  split
  ·exact (List.take_append_drop _ _).symm
  ·rfl
 have hb : bytesOf (strOfNums (hashP (bytesOf s)).1) = (hashP (bytesOf s)).1 := B_str (fun c hc => B_range s c (by rw [hsplit]; exact List.mem_append_left _ hc))
 obtain ⟨t, ht, htb⟩ := trim_pre s (strOfNums (hashP (bytesOf s)).1) (hashP (bytesOf s)).2 (by rw [hb]; exact hsplit) (by omega)
 refine ⟨t, ?_, htb⟩
 unfold hashRun
 refine Ev.bind hE ?_
 rw [ht]
 exact Ev.now _
theorem build_ev (s : ByteArray) (hs : s.size ≤ 100000) : ∃ rest, Ev (fun k => buildRun k s) ((buildP (bytesOf s)).1, decL (buildP (bytesOf s)).2.1, rest) ∧ bytesOf rest = (buildP (bytesOf s)).2.2 := by
 unfold buildRun buildP
 by_cases h0 : bytesOf s = []
 ·refine ⟨s, ?_, ?_⟩
  ·refine Ev.pos (fun _ => (toList_nil s).2 h0) ?_
   rw [if_pos h0]
   exact Ev.now _
  ·rw [if_pos h0]; exact h0
 ·rw [if_neg h0]
  have hh := has_ev s ⟨#[45, 114]⟩ 0 (Nat.zero_le _) (by omega) (by decide)
  rw [List.drop_zero] at hh
  have hh2 : semantic_zzHas.f s 0 ⟨#[45, 114]⟩ = some (pre [45, 114] (bytesOf s)) := hh
  by_cases h1 : (bytesOf s).take 2 = [45, 114]
  ·rw [if_pos h1]
   have hp : pre [45, 114] (bytesOf s) = true := decide_eq_true h1
   rw [hp] at hh2
   have hl2 : 2 ≤ s.size := by
    have := congrArg List.length h1
    rw [List.length_take, bytesOf_length] at this
    simp at this
    omega
   have D := digits_ev s (by omega) 2 hl2
   have hr := run_le isD ((bytesOf s).drop 2)
   rw [List.length_drop, bytesOf_length] at hr
   have hdig : ∀ c ∈ ((bytesOf s).drop 2).take (run isD ((bytesOf s).drop 2)), isD c = true := fun c hc => run_mem hc
   obtain ⟨n, hn⟩ : ∃ n, n = run isD ((bytesOf s).drop 2) := ⟨_, rfl⟩
   rw [← hn] at D hr hdig ⊢
   have e2 : s.extract 2 (2 + n) = strOfNums (((bytesOf s).drop 2).take n) := by
    rw [← str_B (s.extract 2 (2 + n)), B_extract, Nat.add_sub_cancel_left]
   have e0 : bytesOf (s.extract 0 (2 + n)) = (bytesOf s).take (2 + n) := B_take _ _
   obtain ⟨g1, g2, g3⟩ := or0_good hdig (by rw [List.length_take]; omega)
   obtain ⟨t, ht, htb⟩ := trim_pre s (s.extract 0 (2 + n)) (((bytesOf s).drop 2).drop n) (by rw [e0, List.drop_drop]; exact (List.take_append_drop _ _).symm) (by omega)
   refine ⟨t, ?_, htb⟩
   refine Ev.neg (fun _ e => h0 ((toList_nil s).1 e)) ?_
   refine Ev.bind0 hh2 ?_
   refine Ev.pos (fun _ => rfl) ?_
   refine Ev.bind D ?_
   rw [Int.toNat_natCast, e2]
   refine Ev.pos (fun _ => ⟨by omega, by omega, g1, g2⟩) ?_
   rw [ht, g3]
   exact Ev.now _
  ·rw [if_neg h1]
   have hp : pre [45, 114] (bytesOf s) = false := decide_eq_false h1
   rw [hp] at hh2
   refine ⟨s, ?_, rfl⟩
   refine Ev.neg (fun _ e => h0 ((toList_nil s).1 e)) ?_
   refine Ev.bind0 hh2 ?_
   refine Ev.neg (fun _ => Bool.false_ne_true) ?_
   exact Ev.now _
def apOf (p : PV) : AP := ⟨strOfNums p.o, p.i, strOfNums p.r, p.c.map strOfNums, strOfNums p.l, p.s.map convS, strOfNums p.h, decL p.b⟩
theorem parseA_ev (s : ByteArray) (hs : s.size ≤ 100000) (hc : Clear (rest3 (bytesOf s))) : Ev (fun k => parseA k s) (apOf (parseP (bytesOf s))) := by
 obtain ⟨s1, h1, b1⟩ := nums_ev s hs
 have z1 : s1.size ≤ 100000 := by rw [B_size, b1]; have := rest1_len (bytesOf s); rw [B_size] at hs; omega
 obtain ⟨s2, h2, b2⟩ := letter_ev s1 z1
 rw [b1] at h2 b2
 have b2' : bytesOf s2 = rest2 (bytesOf s) := b2
 have z2 : s2.size ≤ 100000 := by rw [B_size, b2']; have := rest2_len (bytesOf s); rw [B_size] at hs; omega
 obtain ⟨s3, h3, b3⟩ := sufs_ev s2 z2 (by rw [b2']; exact hc)
 rw [b2'] at h3 b3
 have b3' : bytesOf s3 = rest3 (bytesOf s) := b3
 have z3 : s3.size ≤ 100000 := by rw [B_size, b3']; have := rest3_len (bytesOf s); rw [B_size] at hs; omega
 obtain ⟨s4, h4, b4⟩ := hash_ev s3 z3
 rw [b3'] at h4 b4
 have b4' : bytesOf s4 = rest4 (bytesOf s) := b4
 have z4 : s4.size ≤ 100000 := by rw [B_size, b4']; have := rest4_len (bytesOf s); rw [B_size] at hs; omega
 obtain ⟨s5, h5, b5⟩ := build_ev s4 z4
 rw [b4'] at h5 b5
 unfold parseA
 refine Ev.bind h1 ?_
 refine Ev.bind0 h2 ?_
 refine Ev.bind h3 ?_
 refine Ev.bind h4 ?_
 refine Ev.bind h5 ?_
 refine Ev.eq (Ev.now _) ?_
 have e0 : s = strOfNums (bytesOf s) := (str_B s).symm
 have e5 : s5 = strOfNums (buildP (rest4 (bytesOf s))).2.2 := by rw [← b5, str_B]
 unfold apOf parseP
 simp only
 rw [← e5, ← e0]
end Go.Proofs.YtapaijpglfmfgaaGreatDoorP
end
section -- AT
namespace Go.Proofs.YtapaijpglfmfgaaGreatDoorG
open Go.RowKit Go.Proofs.YtapaijpglfmfgaaGreatDoorP Go.Proofs.YtapaijpglfmfgaaGreatDoorB Go.Proofs.YtapaijpglfmfgaaGreatDoorW.PrintWords Go.Proofs.YtapaijpglfmfgaaGreatDoorW.PrintLast
def GL (w : World) : Prop := GLe w
theorem GL.at {w w' : World} (h : GL w) (hb : Below w.heap.size w w') : GL w' := GLe.below h hb (Nat.le_refl _)
def clearB : List Int → Bool
 | [] => true
 | x :: l => (wordAt (x :: l)).isNone && clearB l
theorem clearB_iff : ∀ (l : List Int), clearB l = true ↔ Clear l
 | [] => ⟨fun _ j => by rw [List.drop_nil]; rfl, fun _ => rfl⟩
 | x :: l => by
  simp only [clearB, Bool.and_eq_true, clearB_iff l]
  constructor
  ·rintro ⟨h1, h2⟩ j
   cases j with
   | zero => exact Option.isNone_iff_eq_none.1 h1
   | succ j => exact h2 j
  ·intro h
   exact ⟨Option.isNone_iff_eq_none.2 (h 0), fun j => h (j + 1)⟩
def AOk (s : ByteArray) : Prop := s.size ≤ 100000 ∧ clearB (rest3 (bytesOf s)) = true
instance (s : ByteArray) : Decidable (AOk s) := inferInstanceAs (Decidable (_ ∧ _))
theorem AOk.ev {s : ByteArray} (h : AOk s) : Ev (fun k => parseA k s) (apOf (parseP (bytesOf s))) := parseA_ev s h.1 ((clearB_iff _).1 h.2)
def impl_AlpineCompareText.f (a0 a1 : ByteArray) : Option (Int × Bool) := if AOk a0 ∧ AOk a1 then some (apC (apOf (parseP (bytesOf a0))) (apOf (parseP (bytesOf a1))), true) else none
theorem impl_AlpineCompareText.calls (a0 a1 : ByteArray) (r1 : Int) (r2 : Bool) (w : World) (h : impl_AlpineCompareText.f a0 a1 = some (r1, r2)) (hG : GL w) :
  Calls Tryz.prog 10 #[.string a0, .string a1] w fun e w' => e = .returned (.tuple #[.int .i64 r1, .bool r2]) ∧ Below w.heap.size w w' := by
 unfold impl_AlpineCompareText.f at h
 by_cases hc : AOk a0 ∧ AOk a1
 ·rw [if_pos hc] at h
  have h2 := Option.some.inj h
  injection h2 with e1 e2
  subst e1
  subst e2
  obtain ⟨k1, h1⟩ := hc.1.ev
  obtain ⟨k2, h2⟩ := hc.2.ev
  exact compareText_ w a0 a1 _ _ (max k1 k2) hG (h1 _ (Nat.le_max_left _ _)) (h2 _ (Nat.le_max_right _ _))
 ·rw [if_neg hc] at h
  cases h
end Go.Proofs.YtapaijpglfmfgaaGreatDoorG
end
section -- WEqStruct
namespace Go.Proofs.YtapaijpglfmfgaaGreatDoorW.PrintWords
open Go.RowKit
section
variable {P : Program} {d : Nat} {xs ys : Array Value} {f : Field} {fs : List Field} {a b : Value} {r s : Bool} {w : World}
theorem eqf_last (hn : (f.name == "_") = false) (ha : (part f.type xs f.offset).run P w = .ok a w) (hb : (part f.type ys f.offset).run P w = .ok b w) (he : (Op.equalIn d f.type a b).run P w = .ok r w) : (Op.eqFields d xs ys [f]).run P w = .ok r w := by
 have hn' : f.name ≠ "_" := by simpa using hn
 simp only [Op.eqFields, if_pos hn', Sem.run_bind, ha, hb, he, Result.andThen_ok]
 cases r <;> simp
theorem eqf_cons (hn : (f.name == "_") = false) (ha : (part f.type xs f.offset).run P w = .ok a w) (hb : (part f.type ys f.offset).run P w = .ok b w) (he : (Op.equalIn d f.type a b).run P w = .ok r w) (hr : (Op.eqFields d xs ys fs).run P w = .ok s w) : (Op.eqFields d xs ys (f :: fs)).run P w = .ok (r && s) w := by
 have hn' : f.name ≠ "_" := by simpa using hn
 rw [Op.eqFields]
 simp only [if_pos hn', Sem.run_bind, ha, hb, he, Result.andThen_ok]
 cases r
 ·simp
 ·simpa using hr
theorem eqA_of {t : TypeId} {fs : Array Field} (hu : P.underlying t = some (.struct fs)) (hp : P.stoodInHeld t = false) (h : (Op.eqFields d xs ys fs.toList).run P w = .ok r w) : (Op.equalIn (d + 1) t (.agg xs) (.agg ys)).run P w = .ok r w := by
 have hf : P.fieldsOf t = fs := by simp [Program.fieldsOf, hu]
 rw [run_equalIn_struct (P := P) w d t xs ys (by rw [hf]; exact hu) hp, hf]
 exact h
end
end Go.Proofs.YtapaijpglfmfgaaGreatDoorW.PrintWords
end
section -- Qx0
namespace Go.Proofs.YtapaijpglfmfgaaGreatDoor.Q
open Go.RowKit Go.Proofs.YtapaijpglfmfgaaGreatDoorH Go.Proofs.YtapaijpglfmfgaaGreatDoorG Go.Proofs.YtapaijpglfmfgaaGreatDoorW.PrintWords Go.Proofs.YtapaijpglfmfgaaGreatDoorW.PrintLast Go.Proofs.YtapaijpglfmfgaaGreatDoorW.PrintMore
attribute [local go_sem] max2_int min2_int max_two min_two max_three min_three max_four min_four
set_option linter.unusedVariables false
set_option linter.unusedSimpArgs false
def errW : Option Int → Value
 | none => .nilIface
 | some c => .iface 0 (.int .i64 c)
theorem errW_none : errW none = .nilIface := rfl
theorem errW_some (c : Int) : errW (some c) = .iface 0 (.int .i64 c) := rfl
theorem info5 : (Tryz.prog.info? 5).map (fun i => (i.zero, i.size, i.bytes)) = some (some (.int .u8 0), 1, 1) := by kernel_rfl
theorem info52 : (Tryz.prog.info? 52).map (fun i => (i.zero, i.size, i.bytes)) = some (some (.agg #[(.string ⟨#[]⟩), (.bool false), (.string ⟨#[]⟩), (.int .i64 0)]), 4, 48) := by kernel_rfl
theorem info56 : (Tryz.prog.info? 56).map (fun i => (i.zero, i.size, i.bytes)) = some (some (.agg #[(.int .i64 0), (.bool false), (.string ⟨#[]⟩)]), 3, 32) := by kernel_rfl
structure S85 where
 f0 : Bool
 f1 : ByteArray
def z85 : S85 := ⟨false, (⟨#[]⟩ : ByteArray)⟩
def k85 : Kd S85 := Kd.iso (Kd.pair Kd.bool Kd.string) (fun x : S85 => (x.f0, x.f1))
theorem k85_open {w : World} {x : S85} {cs : List Value} (h : k85.K w x cs) : cs = [.bool x.f0, .string x.f1] := by
 obtain ⟨_, _, rfl, rfl, rfl⟩ := h
 exact rfl
theorem k85_mkM (w : World) (base : Nat) (ok : Nat → Prop) (x : S85)  : k85.M w base ok x [.bool x.f0, .string x.f1] := ⟨[.bool x.f0], [.string x.f1], rfl, rfl, rfl⟩
structure S110 where
 f0 : ByteArray
 f1 : S85
 f2 : Int
def z110 : S110 := ⟨(⟨#[]⟩ : ByteArray), z85, (0 : Int)⟩
def k110 : Kd S110 := Kd.iso (Kd.pair Kd.string (Kd.pair k85 (Kd.int .i64))) (fun x : S110 => (x.f0, x.f1, x.f2))
theorem k110_open {w : World} {x : S110} {cs : List Value} (h : k110.K w x cs) : cs = [.string x.f0, .bool x.f1.f0, .string x.f1.f1, .int .i64 x.f2] := by
 obtain ⟨_, _, rfl, rfl, ⟨_, _, rfl, s1, rfl⟩⟩ := h
 obtain rfl := k85_open s1
 exact rfl
theorem k110_mkM (w : World) (base : Nat) (ok : Nat → Prop) (x : S110)  : k110.M w base ok x [.string x.f0, .bool x.f1.f0, .string x.f1.f1, .int .i64 x.f2] := ⟨[.string x.f0], [.bool x.f1.f0, .string x.f1.f1, .int .i64 x.f2], rfl, rfl, ⟨[.bool x.f1.f0, .string x.f1.f1], [.int .i64 x.f2], rfl, (k85_mkM w base ok x.f1 ), rfl⟩⟩
def rd_T110 (xs : List S110) (i : Int) : S110 := xs.getD i.toNat z110
theorem at_T110 {w : World} {A : Option Addr} {n : Nat} {xs : List S110} (h : Kd.C k110 w A n xs) (i : Int) (h0 : 0 ≤ i) (h1 : i < n) : ∃ ad , A = some ad ∧ w.cell? (ad.add (i.toNat * 4)) = some (.string (rd_T110 xs i).f0) ∧ w.cell? ⟨(ad.add (i.toNat * 4)).block, (ad.add (i.toNat * 4)).off + 1, none⟩ = some (.bool (rd_T110 xs i).f1.f0) ∧ w.cell? ⟨(ad.add (i.toNat * 4)).block, (ad.add (i.toNat * 4)).off + 2, none⟩ = some (.string (rd_T110 xs i).f1.f1) ∧ w.cell? ⟨(ad.add (i.toNat * 4)).block, (ad.add (i.toNat * 4)).off + 3, none⟩ = some (.int .i64 (rd_T110 xs i).f2) := by
 obtain ⟨ad, c, e, _, hK, hc0⟩ := Kd.C_get h z110 i h0 h1
 have hc : ∀ j u, c[j]? = some u → w.cell? (ad.add (i.toNat * 4 + j)) = some u := hc0
 obtain rfl := k110_open hK
 exact ⟨ad, e, hc 0 _ rfl, by rw [← add_field _ _ 1 (by omega)]; exact hc 1 _ rfl, by rw [← add_field _ _ 2 (by omega)]; exact hc 2 _ rfl, by rw [← add_field _ _ 3 (by omega)]; exact hc 3 _ rfl⟩
structure S112 where
 f0 : Int
 f1 : S85
def z112 : S112 := ⟨(0 : Int), z85⟩
def k112 : Kd S112 := Kd.iso (Kd.pair (Kd.int .i64) k85) (fun x : S112 => (x.f0, x.f1))
theorem k112_open {w : World} {x : S112} {cs : List Value} (h : k112.K w x cs) : cs = [.int .i64 x.f0, .bool x.f1.f0, .string x.f1.f1] := by
 obtain ⟨_, _, rfl, rfl, s1⟩ := h
 obtain rfl := k85_open s1
 exact rfl
theorem k112_mkM (w : World) (base : Nat) (ok : Nat → Prop) (x : S112)  : k112.M w base ok x [.int .i64 x.f0, .bool x.f1.f0, .string x.f1.f1] := ⟨[.int .i64 x.f0], [.bool x.f1.f0, .string x.f1.f1], rfl, rfl, (k85_mkM w base ok x.f1 )⟩
def rd_T112 (xs : List S112) (i : Int) : S112 := xs.getD i.toNat z112
theorem at_T112 {w : World} {A : Option Addr} {n : Nat} {xs : List S112} (h : Kd.C k112 w A n xs) (i : Int) (h0 : 0 ≤ i) (h1 : i < n) : ∃ ad , A = some ad ∧ w.cell? (ad.add (i.toNat * 3)) = some (.int .i64 (rd_T112 xs i).f0) ∧ w.cell? ⟨(ad.add (i.toNat * 3)).block, (ad.add (i.toNat * 3)).off + 1, none⟩ = some (.bool (rd_T112 xs i).f1.f0) ∧ w.cell? ⟨(ad.add (i.toNat * 3)).block, (ad.add (i.toNat * 3)).off + 2, none⟩ = some (.string (rd_T112 xs i).f1.f1) := by
 obtain ⟨ad, c, e, _, hK, hc0⟩ := Kd.C_get h z112 i h0 h1
 have hc : ∀ j u, c[j]? = some u → w.cell? (ad.add (i.toNat * 3 + j)) = some u := hc0
 obtain rfl := k112_open hK
 exact ⟨ad, e, hc 0 _ rfl, by rw [← add_field _ _ 1 (by omega)]; exact hc 1 _ rfl, by rw [← add_field _ _ 2 (by omega)]; exact hc 2 _ rfl⟩
structure S31 where
 f0 : Bool
 f1 : ByteArray
def z31 : S31 := ⟨false, (⟨#[]⟩ : ByteArray)⟩
def k31 : Kd S31 := Kd.iso (Kd.pair Kd.bool Kd.string) (fun x : S31 => (x.f0, x.f1))
theorem k31_open {w : World} {x : S31} {cs : List Value} (h : k31.K w x cs) : cs = [.bool x.f0, .string x.f1] := by
 obtain ⟨_, _, rfl, rfl, rfl⟩ := h
 exact rfl
theorem k31_mkM (w : World) (base : Nat) (ok : Nat → Prop) (x : S31)  : k31.M w base ok x [.bool x.f0, .string x.f1] := ⟨[.bool x.f0], [.string x.f1], rfl, rfl, rfl⟩
structure S52 where
 f0 : ByteArray
 f1 : S31
 f2 : Int
def z52 : S52 := ⟨(⟨#[]⟩ : ByteArray), z31, (0 : Int)⟩
def k52 : Kd S52 := Kd.iso (Kd.pair Kd.string (Kd.pair k31 (Kd.int .i64))) (fun x : S52 => (x.f0, x.f1, x.f2))
theorem k52_open {w : World} {x : S52} {cs : List Value} (h : k52.K w x cs) : cs = [.string x.f0, .bool x.f1.f0, .string x.f1.f1, .int .i64 x.f2] := by
 obtain ⟨_, _, rfl, rfl, ⟨_, _, rfl, s1, rfl⟩⟩ := h
 obtain rfl := k31_open s1
 exact rfl
theorem k52_mkM (w : World) (base : Nat) (ok : Nat → Prop) (x : S52)  : k52.M w base ok x [.string x.f0, .bool x.f1.f0, .string x.f1.f1, .int .i64 x.f2] := ⟨[.string x.f0], [.bool x.f1.f0, .string x.f1.f1, .int .i64 x.f2], rfl, rfl, ⟨[.bool x.f1.f0, .string x.f1.f1], [.int .i64 x.f2], rfl, (k31_mkM w base ok x.f1 ), rfl⟩⟩
def rd_T52 (xs : List S52) (i : Int) : S52 := xs.getD i.toNat z52
theorem at_T52 {w : World} {A : Option Addr} {n : Nat} {xs : List S52} (h : Kd.C k52 w A n xs) (i : Int) (h0 : 0 ≤ i) (h1 : i < n) : ∃ ad , A = some ad ∧ w.cell? (ad.add (i.toNat * 4)) = some (.string (rd_T52 xs i).f0) ∧ w.cell? ⟨(ad.add (i.toNat * 4)).block, (ad.add (i.toNat * 4)).off + 1, none⟩ = some (.bool (rd_T52 xs i).f1.f0) ∧ w.cell? ⟨(ad.add (i.toNat * 4)).block, (ad.add (i.toNat * 4)).off + 2, none⟩ = some (.string (rd_T52 xs i).f1.f1) ∧ w.cell? ⟨(ad.add (i.toNat * 4)).block, (ad.add (i.toNat * 4)).off + 3, none⟩ = some (.int .i64 (rd_T52 xs i).f2) := by
 obtain ⟨ad, c, e, _, hK, hc0⟩ := Kd.C_get h z52 i h0 h1
 have hc : ∀ j u, c[j]? = some u → w.cell? (ad.add (i.toNat * 4 + j)) = some u := hc0
 obtain rfl := k52_open hK
 exact ⟨ad, e, hc 0 _ rfl, by rw [← add_field _ _ 1 (by omega)]; exact hc 1 _ rfl, by rw [← add_field _ _ 2 (by omega)]; exact hc 2 _ rfl, by rw [← add_field _ _ 3 (by omega)]; exact hc 3 _ rfl⟩
structure S56 where
 f0 : Int
 f1 : S31
def z56 : S56 := ⟨(0 : Int), z31⟩
def k56 : Kd S56 := Kd.iso (Kd.pair (Kd.int .i64) k31) (fun x : S56 => (x.f0, x.f1))
theorem k56_open {w : World} {x : S56} {cs : List Value} (h : k56.K w x cs) : cs = [.int .i64 x.f0, .bool x.f1.f0, .string x.f1.f1] := by
 obtain ⟨_, _, rfl, rfl, s1⟩ := h
 obtain rfl := k31_open s1
 exact rfl
theorem k56_mkM (w : World) (base : Nat) (ok : Nat → Prop) (x : S56)  : k56.M w base ok x [.int .i64 x.f0, .bool x.f1.f0, .string x.f1.f1] := ⟨[.int .i64 x.f0], [.bool x.f1.f0, .string x.f1.f1], rfl, rfl, (k31_mkM w base ok x.f1 )⟩
def rd_T56 (xs : List S56) (i : Int) : S56 := xs.getD i.toNat z56
theorem at_T56 {w : World} {A : Option Addr} {n : Nat} {xs : List S56} (h : Kd.C k56 w A n xs) (i : Int) (h0 : 0 ≤ i) (h1 : i < n) : ∃ ad , A = some ad ∧ w.cell? (ad.add (i.toNat * 3)) = some (.int .i64 (rd_T56 xs i).f0) ∧ w.cell? ⟨(ad.add (i.toNat * 3)).block, (ad.add (i.toNat * 3)).off + 1, none⟩ = some (.bool (rd_T56 xs i).f1.f0) ∧ w.cell? ⟨(ad.add (i.toNat * 3)).block, (ad.add (i.toNat * 3)).off + 2, none⟩ = some (.string (rd_T56 xs i).f1.f1) := by
 obtain ⟨ad, c, e, _, hK, hc0⟩ := Kd.C_get h z56 i h0 h1
 have hc : ∀ j u, c[j]? = some u → w.cell? (ad.add (i.toNat * 3 + j)) = some u := hc0
 obtain rfl := k56_open hK
 exact ⟨ad, e, hc 0 _ rfl, by rw [← add_field _ _ 1 (by omega)]; exact hc 1 _ rfl, by rw [← add_field _ _ 2 (by omega)]; exact hc 2 _ rfl⟩
end Go.Proofs.YtapaijpglfmfgaaGreatDoor.Q
end
section -- A14
namespace Go.Proofs.YtapaijpglfmfgaaGreatDoorG
open Go.RowKit Go.Proofs.YtapaijpglfmfgaaGreatDoorH Go.Proofs.YtapaijpglfmfgaaGreatDoorB Go.Proofs.YtapaijpglfmfgaaGreatDoorM Go.Proofs.YtapaijpglfmfgaaGreatDoor.Q Go.Proofs.YtapaijpglfmfgaaGreatDoorW.PrintWords Go.Proofs.YtapaijpglfmfgaaGreatDoorW.PrintLast
set_option linter.unusedVariables false
set_option linter.unusedSimpArgs false
theorem infoZN : (Tryz.prog.info? 110).map (fun i => (i.zero, i.size, i.bytes)) = some (some (.agg #[.string ⟨#[]⟩, .bool false, .string ⟨#[]⟩, .int .i64 0]), 4, 48) := by kernel_rfl
theorem infoZS : (Tryz.prog.info? 112).map (fun i => (i.zero, i.size, i.bytes)) = some (some (.agg #[.int .i64 0, .bool false, .string ⟨#[]⟩]), 3, 32) := by kernel_rfl
def tnN (x : Nm) (k : Nat) : S110 := ⟨x.o, ⟨false, magB x.n⟩, (k : Int)⟩
def numsT (l : List Nm) : List S110 := l.zipIdx.map fun p => tnN p.1 p.2
def tsS (x : Sx) : S112 := ⟨x.wt, ⟨false, magB x.n⟩⟩
def sufsT (l : List Sx) : List S112 := l.map tsS
theorem numsT_snoc (l : List Nm) (x : Nm) : numsT (l ++ [x]) = numsT l ++ [tnN x l.length] := by
 unfold numsT
 rw [Kd.zip_snoc]
 simp
theorem numsT_len (l : List Nm) : (numsT l).length = l.length := by simp [numsT]
theorem blk_apart {w : World} {g b : Nat} {o : Obj} (h : w.heap[g]? = some o) (hne : b ≠ g) (i : Nat) (v : Value) : (w.setCell ⟨b, i, none⟩ v).heap[g]? = some o := by
 rw [World.setCell, Array.getElem?_modify, if_neg hne]
 exact h
def butT (u : TypeId) (t : TypeId) : Bool := t != u
section
variable {w wr : World} {g1 g2 g3 : Nat} {o r l h : ByteArray} {i : Bool} {cv sv bv : Value} {v5 v6 : Value} {ys : List S110} {zs : List S112} {hb : Bool} {m : ByteArray}
structure TInv (w wr : World) (g1 g2 g3 : Nat) (o r l h : ByteArray) (i : Bool) (cv sv bv v5 v6 : Value) (ys : List S110) (zs : List S112) : Prop where
 b1 : wr.heap[g1]? = some (.cells #[.string o, .bool i, .string r, cv, .string l, sv, .string h, bv] 71 (0, 0))
 b2 : wr.heap[g2]? = some (.cells #[.string ⟨#[]⟩, .string ⟨#[]⟩, .string ⟨#[]⟩, .string ⟨#[]⟩, .bool false, .slice none 0 0, .slice none 0 0, .bool false, .bool false, .string ⟨#[]⟩] 87 (0, 0))
 b3 : wr.heap[g3]? = some (.cells #[.string o, .string r, .string l, .string h, .bool i, v5, v6, .bool false, .bool false, .string ⟨#[]⟩] 87 (0, 0))
 own5 : Kd.R k110 110 wr w.heap.size (fun _ => True) v5 ys
 own6 : Kd.R k112 112 wr w.heap.size (fun _ => True) v6 zs
 below : Below w.heap.size w wr
theorem TInv.to (H : TInv w wr g1 g2 g3 o r l h i cv sv bv v5 v6 ys zs) {w' : World} (k : Below wr.heap.size wr w') : TInv w w' g1 g2 g3 o r l h i cv sv bv v5 v6 ys zs :=
 ⟨blk_below H.b1 k, blk_below H.b2 k, blk_below H.b3 k, Kd.R_below H.own5 k, Kd.R_below H.own6 k, below_then H.below H.below.size k⟩
theorem TInv.step5 (H : TInv w wr g1 g2 g3 o r l h i cv sv bv v5 v6 ys zs) (hg3 : w.heap.size ≤ g3) (h13 : g1 ≠ g3) (h23 : g2 ≠ g3) {w7 : World} {v1 : Value} {ys' : List S110} (ho : Kd.R k110 110 w7 w.heap.size (fun _ => True) v1 ys') (hg : wr.grownBy w7 v5.ownBlock) :
  w7.heap[g3]? = some (.cells #[.string o, .string r, .string l, .string h, .bool i, v5, v6, .bool false, .bool false, .string ⟨#[]⟩] 87 (0, 0)) ∧ TInv w (w7.setCell ⟨g3, 5, none⟩ v1) g1 g2 g3 o r l h i cv sv bv v1 v6 ys' zs := by
 have K : KeptT (butT 110) wr w7 := KeptT.row (by decide) H.own5 hg
 have B3 := K.blk H.b3 (by decide)
 refine ⟨B3, ?_, ?_, blk_put B3 5 _ rfl, ?_, ?_, ?_⟩
 ·rw [World.setCell, Array.getElem?_modify, if_neg (fun e => h13 e.symm)]; exact K.blk H.b1 (by decide)
 ·rw [World.setCell, Array.getElem?_modify, if_neg (fun e => h23 e.symm)]; exact K.blk H.b2 (by decide)
 ·exact R_keptT (p := fun t => t != 87) rfl (by decide) ho (KeptT.set B3 (by decide) 5 _)
 ·exact R_keptT (p := fun t => t == 112) rfl (by decide) H.own6 ((K.sub fun t ht => by rw [of_decide_eq_true ht]; decide).trans (KeptT.set B3 (by decide) 5 _))
 ·exact (H.below.grown hg H.below.size (fun b e => Kd.R_base H.own5 b e)).setCell (p := ⟨g3, 5, none⟩) hg3 _
theorem TInv.step6 (H : TInv w wr g1 g2 g3 o r l h i cv sv bv v5 v6 ys zs) (hg3 : w.heap.size ≤ g3) (h13 : g1 ≠ g3) (h23 : g2 ≠ g3) {w7 : World} {v1 : Value} {zs' : List S112} (ho : Kd.R k112 112 w7 w.heap.size (fun _ => True) v1 zs') (hg : wr.grownBy w7 v6.ownBlock) :
  w7.heap[g3]? = some (.cells #[.string o, .string r, .string l, .string h, .bool i, v5, v6, .bool false, .bool false, .string ⟨#[]⟩] 87 (0, 0)) ∧ TInv w (w7.setCell ⟨g3, 6, none⟩ v1) g1 g2 g3 o r l h i cv sv bv v5 v1 ys zs' := by
 have K : KeptT (butT 112) wr w7 := KeptT.row (by decide) H.own6 hg
 have B3 := K.blk H.b3 (by decide)
 refine ⟨B3, ?_, ?_, blk_put B3 6 _ rfl, ?_, ?_, ?_⟩
 ·rw [World.setCell, Array.getElem?_modify, if_neg (fun e => h13 e.symm)]; exact K.blk H.b1 (by decide)
 ·rw [World.setCell, Array.getElem?_modify, if_neg (fun e => h23 e.symm)]; exact K.blk H.b2 (by decide)
 ·exact R_keptT (p := fun t => t == 110) rfl (by decide) H.own5 ((K.sub fun t ht => by rw [of_decide_eq_true ht]; decide).trans (KeptT.set B3 (by decide) 6 _))
 ·exact R_keptT (p := fun t => t != 87) rfl (by decide) ho (KeptT.set B3 (by decide) 6 _)
 ·exact (H.below.grown hg H.below.size (fun b e => Kd.R_base H.own6 b e)).setCell (p := ⟨g3, 6, none⟩) hg3 _
end
set_option maxRecDepth 100000 in
set_option maxHeartbeats 8000000 in
theorem told_ (w : World) (v : Value) (x : AV) (hv : AVAt w v x) :
  Calls Tryz.prog 37 #[v] w fun e w' => ∃ v5 v6, e = .returned (.agg #[.string x.o, .string x.r, .string x.l, .string x.h, .bool x.i, v5, v6, .bool true, .bool false, .string (magB x.b)]) ∧
   Kd.R k110 110 w' w.heap.size (fun _ => True) v5 (numsT x.c) ∧ Kd.R k112 112 w' w.heap.size (fun _ => True) v6 (sufsT x.s) ∧ Below w.heap.size w w' := by
 obtain ⟨o, i, r, xc, l, xs, h, n⟩ := x
 obtain ⟨cv, sv, a, rfl, hc, hs, hn⟩ := hv
 unfold AVv
 simp only at hc hs hn ⊢
 have KC := Aside0.mk hc
 have KS := Aside0.mk hs
 have HP := Aside0.mk (fun (W : World) (y : Nat) (q : Nat) (hb : BigAt W y q) => zzPlain_ W y q hb)
 have HN := Aside0.mk hn
 have LC : Aside0 (xc.length ≤ 1000000) := ⟨by obtain ⟨_, _, _, hl, _⟩ := hc; exact hl⟩
 have LS : Aside0 (xs.length ≤ 1000000) := ⟨by obtain ⟨_, _, _, hl, _⟩ := hs; exact hl⟩
 obtain ⟨pc, cc, rfl⟩ := hc.len
 obtain ⟨ps, cs, rfl⟩ := hs.len
 clear hc hs hn
 obtain ⟨W0, hW0⟩ : ∃ W0, W0 = (((w.alloc (.cells #[.string o, .bool i, .string r, .slice pc xc.length cc, .string l, .slice ps xs.length cs, .string h, .pointer (some ⟨a, 0, none⟩)] 71)).alloc (.cells #[.string ⟨#[]⟩, .string ⟨#[]⟩, .string ⟨#[]⟩, .string ⟨#[]⟩, .bool false, .slice none 0 0, .slice none 0 0, .bool false, .bool false, .string ⟨#[]⟩] 87)).alloc (.cells #[.string o, .string r, .string l, .string h, .bool i, .slice none 0 0, .slice none 0 0, .bool false, .bool false, .string ⟨#[]⟩] 87)) := ⟨_, rfl⟩
 have I0 : Aside0 (TInv w W0 w.heap.size (w.heap.size + 1) (w.heap.size + 1 + 1) o r l h i (.slice pc xc.length cc) (.slice ps xs.length cs) (.pointer (some ⟨a, 0, none⟩)) (.slice none 0 0) (.slice none 0 0) [] []) := ⟨by
  rw [hW0]
  refine ⟨blk_alloc (blk_alloc (blk_new w _) _) _, ?_, ?_, Kd.R_nil _ _ _ _ _, Kd.R_nil _ _ _ _ _, below_alloc (below_alloc (below_alloc (Below.refl _ _) _) _) _⟩
  ·have h := blk_alloc (blk_new (w.alloc (.cells #[.string o, .bool i, .string r, .slice pc xc.length cc, .string l, .slice ps xs.length cs, .string h, .pointer (some ⟨a, 0, none⟩)] 71)) (.cells #[.string ⟨#[]⟩, .string ⟨#[]⟩, .string ⟨#[]⟩, .string ⟨#[]⟩, .bool false, .slice none 0 0, .slice none 0 0, .bool false, .bool false, .string ⟨#[]⟩] 87)) (.cells #[.string o, .string r, .string l, .string h, .bool i, .slice none 0 0, .slice none 0 0, .bool false, .bool false, .string ⟨#[]⟩] 87)
   rw [alloc_size] at h
   exact h
  ·have h := blk_new ((w.alloc (.cells #[.string o, .bool i, .string r, .slice pc xc.length cc, .string l, .slice ps xs.length cs, .string h, .pointer (some ⟨a, 0, none⟩)] 71)).alloc (.cells #[.string ⟨#[]⟩, .string ⟨#[]⟩, .string ⟨#[]⟩, .string ⟨#[]⟩, .bool false, .slice none 0 0, .slice none 0 0, .bool false, .bool false, .string ⟨#[]⟩] 87)) (.cells #[.string o, .string r, .string l, .string h, .bool i, .slice none 0 0, .slice none 0 0, .bool false, .bool false, .string ⟨#[]⟩] 87)
   rw [alloc_size, alloc_size] at h
   exact h⟩
 have HW0 := Aside0.mk hW0
 have y3 := (blk_cell I0.out.b1 3).trans rfl
 rw [hW0] at y3
 clear hW0
 go_enter Tryz.func37, Tryz.ntmps37
 go_wp2
 try rw [← HW0.out]
 go_loopw [22] (fun iv wr => ∃ (k : Nat) (v5 : Value), k ≤ xc.length ∧ iv = .int .i64 (k : Int) ∧ Aside0 (TInv w wr w.heap.size (w.heap.size + 1) (w.heap.size + 1 + 1) o r l h i (.slice pc xc.length cc) (.slice ps xs.length cs) (.pointer (some ⟨a, 0, none⟩)) v5 (.slice none 0 0) (numsT (xc.take k)) [])) (fun iv _ => xc.length - (intOf iv).toNat)
 case atStart => exact ⟨0, _, Nat.zero_le _, rfl, I0⟩
 case round =>
  obtain ⟨k, v5, hk, rfl, HI⟩ := hrel
  clear I0
  by_cases hlt : k < xc.length
  ·have i3 : decide ((k : Int) < (xc.length : Int)) = true := decide_eq_true (by omega)
   have i4 : ((k : Int) < (xc.length : Int)) = True := eq_true (by omega)
   have i5 : (0 ≤ (k : Int)) = True := eq_true (by omega)
   have WR : wrap64 ((k : Int) + 1) = ((k + 1 : Nat) : Int) := by have := LC.out; unfold wrap64; omega
   have LT := Aside0.mk hlt
   obtain ⟨x, hx⟩ : ∃ x, x = xc[k] := ⟨_, rfl⟩
   have hx2 : xc[k]? = some x := by rw [hx, List.getElem?_eq_getElem hlt]
   obtain ⟨pc2, cc2, hpe, _, hrows⟩ := KC.out.below HI.out.below
   injection hpe with hp1 _ hp3
   subst hp1
   subst hp3
   obtain ⟨b, rfl, k1, k2, k3, k4, k5⟩ := hrows k x hx2
   have SN : Aside0 (numsT (xc.take (k + 1)) = numsT (xc.take k) ++ [tnN x k]) := ⟨by
    rw [List.take_add_one, hx2]
    show numsT (xc.take k ++ [x]) = _
    rw [numsT_snoc, List.length_take, Nat.min_eq_left (Nat.le_of_lt hlt)]⟩
   have K4 := Aside0.mk k4
   have HLY : Aside0 ((numsT (xc.take k)).length ≤ 1000000) := ⟨by rw [numsT_len, List.length_take]; have := LC.out; omega⟩
   clear hlt hk hx hx2 hrows k4 k5
   go_upto_region 5 with (fail)
   have M3 := Aside0.mk (HI.out.to (below_alloc (Below.refl _ _) (.cells #[.string x.o, .pointer (some ⟨x.a, 0, none⟩), .int .i64 (k : Int)] 114)))
   have Y3 := Aside0.mk (blk_new wr (.cells #[.string x.o, .pointer (some ⟨x.a, 0, none⟩), .int .i64 (k : Int)] 114))
   have K3 := Aside0.mk (K4.out.below (below_alloc (Below.refl _ _) (.cells #[.string x.o, .pointer (some ⟨x.a, 0, none⟩), .int .i64 (k : Int)] 114)))
   clear HI K4
   generalize wr.alloc (.cells #[.string x.o, .pointer (some ⟨x.a, 0, none⟩), .int .i64 (k : Int)] 114) = w3 at M3 Y3 K3 ⊢
   generalize wr.heap.size = g5 at Y3 ⊢
   refine start_ (n := 14) (S := fun w' => w'.cell? ⟨w.heap.size + 1 + 1, 5, none⟩ = some v5 ∧ w'.cell? ⟨g5, 0, none⟩ = some (.string x.o) ∧ w'.cell? ⟨g5, 1, none⟩ = some (.pointer (some ⟨x.a, 0, none⟩)) ∧ w'.cell? ⟨g5, 2, none⟩ = some (.int .i64 (k : Int))) (ds := [11, 13]) #[false, false, false, false, false, false, false, false, false, false, false, false, false, false] (by kernel_rfl) rfl rfl ⟨(blk_cell (blk_drew M3.out.b3) 5).trans rfl, (blk_cell (blk_drew Y3.out) 0).trans rfl, (blk_cell (blk_drew Y3.out) 1).trans rfl, (blk_cell (blk_drew Y3.out) 2).trans rfl⟩ (fun hHeld => ?_)
   have M4 := Aside0.mk (M3.out.to (below_drew (Below.refl _ _)))
   have Y4 := Aside0.mk (blk_drew Y3.out)
   have K5 := Aside0.mk (K3.out.below (below_drew (Below.refl _ _)))
   clear M3 Y3 K3
   generalize w3.drew = w4 at M4 Y4 K5 hHeld ⊢
   refine pure_ (i := 0) (N := some 26) (v := ?_) (a' := ?_) #[true, false, false, false, false, false, false, false, false, false, false, false, false, false] rfl rfl (by kernel_rfl) (fun _ _ _ h => h) (Or.inl ⟨by rfl, ?_⟩) ?_ ?_
   rotate_left
   ·intro w'
    go_simp
    with_reducible rfl
   rotate_left
   ·simp only [Act.put, List.setIfInBounds_toArray, List.set_cons_zero, List.set_cons_succ, i64_w, i32_w]
    rfl
   refine pure_ (i := 2) (N := some 28) (v := ?_) (a' := ?_) #[true, false, true, false, false, false, false, false, false, false, false, false, false, false] rfl rfl (by kernel_rfl) (fun _ _ _ h => h) (Or.inl ⟨by rfl, ?_⟩) ?_ ?_
   rotate_left
   ·intro w'
    go_simp
    with_reducible rfl
   rotate_left
   ·simp only [Act.put, List.setIfInBounds_toArray, List.set_cons_zero, List.set_cons_succ, i64_w, i32_w]
    rfl
   refine pure_ (i := 4) (N := some 30) (v := ?_) (a' := ?_) #[true, false, true, false, true, false, false, false, false, false, false, false, false, false] rfl rfl (by kernel_rfl) (fun _ _ _ h => h) (Or.inl ⟨by rfl, ?_⟩) ?_ ?_
   rotate_left
   ·intro w'
    go_simp
    with_reducible rfl
   rotate_left
   ·simp only [Act.put, List.setIfInBounds_toArray, List.set_cons_zero, List.set_cons_succ, i64_w, i32_w]
    rfl
   refine pure_ (i := 7) (N := some 33) (v := ?_) (a' := ?_) #[true, false, true, false, true, false, false, true, false, false, false, false, false, false] rfl rfl (by kernel_rfl) (fun _ _ _ h => h) (Or.inl ⟨by rfl, ?_⟩) ?_ ?_
   rotate_left
   ·intro w'
    go_simp
    with_reducible rfl
   rotate_left
   ·simp only [Act.put, List.setIfInBounds_toArray, List.set_cons_zero, List.set_cons_succ, i64_w, i32_w]
    rfl
   refine take_ (i := 1) (N := some 27) (v := ?_) (a' := ?_) #[true, true, true, false, true, false, false, true, false, false, false, false, false, false] rfl rfl (by kernel_rfl) (fun _ _ _ h => h) (Or.inl ⟨by rfl, ?_⟩) hHeld ?_ ?_
   rotate_left
   ·rintro w' ⟨s0, s1, s2, s3⟩
    go_simp
    with_reducible rfl
   rotate_left
   ·simp only [Act.put, List.setIfInBounds_toArray, List.set_cons_zero, List.set_cons_succ, i64_w, i32_w]
    rfl
   refine take_ (i := 3) (N := some 29) (v := ?_) (a' := ?_) #[true, true, true, true, true, false, false, true, false, false, false, false, false, false] rfl rfl (by kernel_rfl) (fun _ _ _ h => h) (Or.inl ⟨by rfl, ?_⟩) hHeld ?_ ?_
   rotate_left
   ·rintro w' ⟨s0, s1, s2, s3⟩
    go_simp
    with_reducible rfl
   rotate_left
   ·simp only [Act.put, List.setIfInBounds_toArray, List.set_cons_zero, List.set_cons_succ, i64_w, i32_w]
    rfl
   refine take_ (i := 5) (N := some 31) (v := ?_) (a' := ?_) #[true, true, true, true, true, true, false, true, false, false, false, false, false, false] rfl rfl (by kernel_rfl) (fun _ _ _ h => h) (Or.inl ⟨by rfl, ?_⟩) hHeld ?_ ?_
   rotate_left
   ·rintro w' ⟨s0, s1, s2, s3⟩
    go_simp
    with_reducible rfl
   rotate_left
   ·simp only [Act.put, List.setIfInBounds_toArray, List.set_cons_zero, List.set_cons_succ, i64_w, i32_w]
    rfl
   refine take_ (i := 8) (N := some 34) (v := ?_) (a' := ?_) #[true, true, true, true, true, true, false, true, true, false, false, false, false, false] rfl rfl (by kernel_rfl) (fun _ _ _ h => h) (Or.inl ⟨by rfl, ?_⟩) hHeld ?_ ?_
   rotate_left
   ·rintro w' ⟨s0, s1, s2, s3⟩
    go_simp
    with_reducible rfl
   rotate_left
   ·simp only [Act.put, List.setIfInBounds_toArray, List.set_cons_zero, List.set_cons_succ, i64_w, i32_w]
    rfl
   refine one_ (i := 6) (N := some 32) #[true, true, true, true, true, true, true, true, true, false, false, false, false, false] rfl rfl (by kernel_rfl) (by decide) (fun K hK => ?_)
   refine goes_ Tryz.func57 (by kernel_rfl) rfl #[.pointer (some ⟨x.a, 0, none⟩)] (by rfl) rfl rfl (by simp only [List.map_toArray, List.map_cons, List.map_nil]; rfl) ?_
   with_reducible refine (HP.out _ x.a x.n K5.out).mono ?_
   rintro e w5 ⟨rfl, hb⟩
   refine ⟨_, rfl, ?_⟩
   have M5 := Aside0.mk (M4.out.to hb)
   have Y5 := Aside0.mk (blk_below Y4.out hb)
   clear hb M4 Y4 K5
   refine hK.out _ _ ⟨(blk_cell M5.out.b3 5).trans rfl, (blk_cell Y5.out 0).trans rfl, (blk_cell Y5.out 1).trans rfl, (blk_cell Y5.out 2).trans rfl⟩ (fun hHeld => ?_)
   clear hK K
   refine Go.Proofs.YtapaijpglfmfgaaGreatDoorW.PrintLast.norm_ (a' := ?_) ?_ ?_
   rotate_left
   ·show Act.put _ (some 32) _ = _
    simp only [Act.put, List.setIfInBounds_toArray, List.set_cons_zero, List.set_cons_succ, i64_w, i32_w]
    rfl
   refine pure_ (i := 9) (N := some 35) (v := ?_) (a' := ?_) #[true, true, true, true, true, true, true, true, true, true, false, false, false, false] rfl rfl (by kernel_rfl) (fun _ _ _ h => h) (Or.inl ⟨by rfl, ?_⟩) ?_ ?_
   rotate_left
   ·intro w'
    go_simp
    with_reducible rfl
   rotate_left
   ·simp only [Act.put, List.setIfInBounds_toArray, List.set_cons_zero, List.set_cons_succ, i64_w, i32_w]
    rfl
   refine one_ (i := 10) (N := some 36) #[true, true, true, true, true, true, true, true, true, true, true, false, false, false] rfl rfl (by kernel_rfl) (by decide) (fun K hK => ?_)
   refine value_ (w1 := ?_) (v := ?_) (by rfl) rfl ?_ ?_
   rotate_left 2
   ·go_simp
    constructor
    ·rfl
    ·rfl
   refine hK.out _ _ ⟨(blk_cell (blk_alloc M5.out.b3 _) 5).trans rfl, (blk_cell (blk_alloc Y5.out _) 0).trans rfl, (blk_cell (blk_alloc Y5.out _) 1).trans rfl, (blk_cell (blk_alloc Y5.out _) 2).trans rfl⟩ (fun hHeld => ?_)
   clear hK K
   refine Go.Proofs.YtapaijpglfmfgaaGreatDoorW.PrintLast.norm_ (a' := ?_) ?_ ?_
   rotate_left
   ·show Act.put _ (some 36) _ = _
    simp only [Act.put, List.setIfInBounds_toArray, List.set_cons_zero, List.set_cons_succ, i64_w, i32_w]
    rfl
   refine last_ (i := 11) (N := some 37) #[true, true, true, true, true, true, true, true, true, true, true, true, false, false] rfl rfl (by kernel_rfl) (by decide) (fun K hK => ?_)
   refine Kd.R_append_step k110 (w0 := w5) w.heap.size (by rfl) (.tmp 27) (.tmp 36) 83 110 (.agg #[.string ⟨#[]⟩, .bool false, .string ⟨#[]⟩, .int .i64 0]) 48 rfl Tryz.underlying83 infoZN rfl (by decide) (by omega) v5 (numsT (xc.take k)) (tnN x k) [.string x.o, .bool false, .string (magB x.n), .int .i64 (k : Int)] (fun _ => True) (fun _ => False) rfl rfl ?aP (fun _ hk => hk.elim) (fun _ _ => trivial) M5.out.own5 (Below.refl _ _) M5.out.below.size ?aL ?_
   (case aP => exact k110_mkM _ _ _ (tnN x k))
   (case aL => have := HLY.out; omega)
   intro v1 w7 ho hb hg hat
   obtain ⟨A1, n1, cp1, rfl⟩ : ∃ A n c, v1 = .slice A n c := by
    obtain ⟨A, c, e⟩ := Kd.R_slice ho
    exact ⟨A, _, c, e⟩
   obtain ⟨b7, i7⟩ := M5.out.step5 (by omega) (by omega) (by omega) ho hg
   have x7 := (blk_cell b7 5).trans rfl
   have f7 := blk_frozen b7 5
   have I7 := Aside0.mk i7
   clear ho hb hg hat b7 i7
   refine hK.out _ _ ?_
   clear hK K
   refine Go.Proofs.YtapaijpglfmfgaaGreatDoorW.PrintLast.norm_ (a' := ?_) ?_ ?_
   rotate_left
   ·show Act.put _ (some 37) _ = _
    simp only [Act.put, List.setIfInBounds_toArray, List.set_cons_zero, List.set_cons_succ, i64_w, i32_w]
    rfl
   refine pure_ (i := 12) (N := some 38) (v := ?_) (a' := ?_) #[true, true, true, true, true, true, true, true, true, true, true, true, true, false] rfl rfl (by kernel_rfl) (fun _ _ _ h => h) (Or.inl ⟨by rfl, ?_⟩) ?_ ?_
   rotate_left
   ·intro w'
    go_simp
    with_reducible rfl
   rotate_left
   ·simp only [Act.put, List.setIfInBounds_toArray, List.set_cons_zero, List.set_cons_succ, i64_w, i32_w]
    rfl
   refine last_ (i := 13) (N := none) #[true, true, true, true, true, true, true, true, true, true, true, true, true, true] rfl rfl (by kernel_rfl) (by decide) (fun K hK => ?_)
   refine skip_ (w1 := ?_) (by rfl) rfl ?_ ?_
   rotate_left
   ·go_simp
    rfl
   refine hK.out _ _ ?_
   clear hK K
   refine done_ (by kernel_rfl) ?_
   go_wp2
   go_roundw
   all_goals first | exact ⟨k + 1, .slice A1 n1 cp1, LT.out, by first | rfl | go_num, ⟨by rw [SN.out]; exact I7.out⟩⟩ | exact meas_up0 _ k LT.out | exact meas_up1 _ k LT.out | exact meas_up2 _ k LT.out WR
  ·obtain rfl : k = xc.length := by omega
   have i3 : decide ((xc.length : Int) < (xc.length : Int)) = false := decide_eq_false (by omega)
   have i4 : ((xc.length : Int) < (xc.length : Int)) = False := eq_false (by omega)
   have hi2 := HI.out
   rw [List.take_length] at hi2
   have H2 := Aside0.mk hi2
   have y5 := (blk_cell hi2.b1 5).trans rfl
   clear hlt hk HI hi2
   go_wp2
   go_loopw [43] (fun iv wr => ∃ (k : Nat) (v6 : Value), k ≤ xs.length ∧ iv = .int .i64 (k : Int) ∧ Aside0 (TInv w wr w.heap.size (w.heap.size + 1) (w.heap.size + 1 + 1) o r l h i (.slice pc xc.length cc) (.slice ps xs.length cs) (.pointer (some ⟨a, 0, none⟩)) v5 v6 (numsT xc) (sufsT (xs.take k)))) (fun iv _ => xs.length - (intOf iv).toNat)
   case atStart => exact ⟨0, _, Nat.zero_le _, rfl, H2⟩
   case round =>
    obtain ⟨k, v6, hk, rfl, HI⟩ := hrel
    clear H2
    by_cases hlt : k < xs.length
    ·have i3 : decide ((k : Int) < (xs.length : Int)) = true := decide_eq_true (by omega)
     have i4 : ((k : Int) < (xs.length : Int)) = True := eq_true (by omega)
     have i5 : (0 ≤ (k : Int)) = True := eq_true (by omega)
     have WR : wrap64 ((k : Int) + 1) = ((k + 1 : Nat) : Int) := by have := LS.out; unfold wrap64; omega
     have LT := Aside0.mk hlt
     obtain ⟨x, hx⟩ : ∃ x, x = xs[k] := ⟨_, rfl⟩
     have hx2 : xs[k]? = some x := by rw [hx, List.getElem?_eq_getElem hlt]
     obtain ⟨pc2, cc2, hpe, _, hrows⟩ := KS.out.below HI.out.below
     injection hpe with hp1 _ hp3
     subst hp1
     subst hp3
     obtain ⟨b, rfl, k1, k2, k4⟩ := hrows k x hx2
     have SN : Aside0 (sufsT (xs.take (k + 1)) = sufsT (xs.take k) ++ [tsS x]) := ⟨by
      rw [List.take_add_one, hx2]
      show sufsT (xs.take k ++ [x]) = _
      simp [sufsT]⟩
     have K4 := Aside0.mk k4
     have HLY : Aside0 ((sufsT (xs.take k)).length ≤ 1000000) := ⟨by unfold sufsT; rw [List.length_map, List.length_take]; have := LS.out; omega⟩
     clear hlt hk hx hx2 hrows k4
     go_upto_region 10 with (fail)
     have M3 := Aside0.mk (HI.out.to (below_alloc (Below.refl _ _) (.cells #[.int .i64 x.wt, .pointer (some ⟨x.a, 0, none⟩)] 117)))
     have Y3 := Aside0.mk (blk_new wr (.cells #[.int .i64 x.wt, .pointer (some ⟨x.a, 0, none⟩)] 117))
     have K3 := Aside0.mk (K4.out.below (below_alloc (Below.refl _ _) (.cells #[.int .i64 x.wt, .pointer (some ⟨x.a, 0, none⟩)] 117)))
     clear HI K4
     generalize wr.alloc (.cells #[.int .i64 x.wt, .pointer (some ⟨x.a, 0, none⟩)] 117) = w3 at M3 Y3 K3 ⊢
     generalize wr.heap.size = g5 at Y3 ⊢
     refine start_ (n := 12) (S := fun w' => w'.cell? ⟨w.heap.size + 1 + 1, 6, none⟩ = some v6 ∧ w'.cell? ⟨g5, 0, none⟩ = some (.int .i64 x.wt) ∧ w'.cell? ⟨g5, 1, none⟩ = some (.pointer (some ⟨x.a, 0, none⟩))) (ds := [9, 11]) #[false, false, false, false, false, false, false, false, false, false, false, false] (by kernel_rfl) rfl rfl ⟨(blk_cell (blk_drew M3.out.b3) 6).trans rfl, (blk_cell (blk_drew Y3.out) 0).trans rfl, (blk_cell (blk_drew Y3.out) 1).trans rfl⟩ (fun hHeld => ?_)
     have M4 := Aside0.mk (M3.out.to (below_drew (Below.refl _ _)))
     have Y4 := Aside0.mk (blk_drew Y3.out)
     have K5 := Aside0.mk (K3.out.below (below_drew (Below.refl _ _)))
     clear M3 Y3 K3
     generalize w3.drew = w4 at M4 Y4 K5 hHeld ⊢
     refine pure_ (i := 0) (N := some 47) (v := ?_) (a' := ?_) #[true, false, false, false, false, false, false, false, false, false, false, false] rfl rfl (by kernel_rfl) (fun _ _ _ h => h) (Or.inl ⟨by rfl, ?_⟩) ?_ ?_
     rotate_left
     ·intro w'
      go_simp
      with_reducible rfl
     rotate_left
     ·simp only [Act.put, List.setIfInBounds_toArray, List.set_cons_zero, List.set_cons_succ, i64_w, i32_w]
      rfl
     refine pure_ (i := 2) (N := some 49) (v := ?_) (a' := ?_) #[true, false, true, false, false, false, false, false, false, false, false, false] rfl rfl (by kernel_rfl) (fun _ _ _ h => h) (Or.inl ⟨by rfl, ?_⟩) ?_ ?_
     rotate_left
     ·intro w'
      go_simp
      with_reducible rfl
     rotate_left
     ·simp only [Act.put, List.setIfInBounds_toArray, List.set_cons_zero, List.set_cons_succ, i64_w, i32_w]
      rfl
     refine pure_ (i := 4) (N := some 51) (v := ?_) (a' := ?_) #[true, false, true, false, true, false, false, false, false, false, false, false] rfl rfl (by kernel_rfl) (fun _ _ _ h => h) (Or.inl ⟨by rfl, ?_⟩) ?_ ?_
     rotate_left
     ·intro w'
      go_simp
      with_reducible rfl
     rotate_left
     ·simp only [Act.put, List.setIfInBounds_toArray, List.set_cons_zero, List.set_cons_succ, i64_w, i32_w]
      rfl
     refine take_ (i := 1) (N := some 48) (v := ?_) (a' := ?_) #[true, true, true, false, true, false, false, false, false, false, false, false] rfl rfl (by kernel_rfl) (fun _ _ _ h => h) (Or.inl ⟨by rfl, ?_⟩) hHeld ?_ ?_
     rotate_left
     ·rintro w' ⟨s0, s1, s2⟩
      go_simp
      with_reducible rfl
     rotate_left
     ·simp only [Act.put, List.setIfInBounds_toArray, List.set_cons_zero, List.set_cons_succ, i64_w, i32_w]
      rfl
     refine take_ (i := 3) (N := some 50) (v := ?_) (a' := ?_) #[true, true, true, true, true, false, false, false, false, false, false, false] rfl rfl (by kernel_rfl) (fun _ _ _ h => h) (Or.inl ⟨by rfl, ?_⟩) hHeld ?_ ?_
     rotate_left
     ·rintro w' ⟨s0, s1, s2⟩
      go_simp
      with_reducible rfl
     rotate_left
     ·simp only [Act.put, List.setIfInBounds_toArray, List.set_cons_zero, List.set_cons_succ, i64_w, i32_w]
      rfl
     refine take_ (i := 5) (N := some 52) (v := ?_) (a' := ?_) #[true, true, true, true, true, true, false, false, false, false, false, false] rfl rfl (by kernel_rfl) (fun _ _ _ h => h) (Or.inl ⟨by rfl, ?_⟩) hHeld ?_ ?_
     rotate_left
     ·rintro w' ⟨s0, s1, s2⟩
      go_simp
      with_reducible rfl
     rotate_left
     ·simp only [Act.put, List.setIfInBounds_toArray, List.set_cons_zero, List.set_cons_succ, i64_w, i32_w]
      rfl
     refine one_ (i := 6) (N := some 53) #[true, true, true, true, true, true, true, false, false, false, false, false] rfl rfl (by kernel_rfl) (by decide) (fun K hK => ?_)
     refine goes_ Tryz.func57 (by kernel_rfl) rfl #[.pointer (some ⟨x.a, 0, none⟩)] (by rfl) rfl rfl (by simp only [List.map_toArray, List.map_cons, List.map_nil]; rfl) ?_
     with_reducible refine (HP.out _ x.a x.n K5.out).mono ?_
     rintro e w5 ⟨rfl, hb⟩
     refine ⟨_, rfl, ?_⟩
     have M5 := Aside0.mk (M4.out.to hb)
     have Y5 := Aside0.mk (blk_below Y4.out hb)
     clear hb M4 Y4 K5
     refine hK.out _ _ ⟨(blk_cell M5.out.b3 6).trans rfl, (blk_cell Y5.out 0).trans rfl, (blk_cell Y5.out 1).trans rfl⟩ (fun hHeld => ?_)
     clear hK K
     refine Go.Proofs.YtapaijpglfmfgaaGreatDoorW.PrintLast.norm_ (a' := ?_) ?_ ?_
     rotate_left
     ·show Act.put _ (some 53) _ = _
      simp only [Act.put, List.setIfInBounds_toArray, List.set_cons_zero, List.set_cons_succ, i64_w, i32_w]
      rfl
     refine pure_ (i := 7) (N := some 54) (v := ?_) (a' := ?_) #[true, true, true, true, true, true, true, true, false, false, false, false] rfl rfl (by kernel_rfl) (fun _ _ _ h => h) (Or.inl ⟨by rfl, ?_⟩) ?_ ?_
     rotate_left
     ·intro w'
      go_simp
      with_reducible rfl
     rotate_left
     ·simp only [Act.put, List.setIfInBounds_toArray, List.set_cons_zero, List.set_cons_succ, i64_w, i32_w]
      rfl
     refine one_ (i := 8) (N := some 55) #[true, true, true, true, true, true, true, true, true, false, false, false] rfl rfl (by kernel_rfl) (by decide) (fun K hK => ?_)
     refine value_ (w1 := ?_) (v := ?_) (by rfl) rfl ?_ ?_
     rotate_left 2
     ·go_simp
      constructor
      ·rfl
      ·rfl
     refine hK.out _ _ ⟨(blk_cell (blk_alloc M5.out.b3 _) 6).trans rfl, (blk_cell (blk_alloc Y5.out _) 0).trans rfl, (blk_cell (blk_alloc Y5.out _) 1).trans rfl⟩ (fun hHeld => ?_)
     clear hK K
     refine Go.Proofs.YtapaijpglfmfgaaGreatDoorW.PrintLast.norm_ (a' := ?_) ?_ ?_
     rotate_left
     ·show Act.put _ (some 55) _ = _
      simp only [Act.put, List.setIfInBounds_toArray, List.set_cons_zero, List.set_cons_succ, i64_w, i32_w]
      rfl
     refine last_ (i := 9) (N := some 56) #[true, true, true, true, true, true, true, true, true, true, false, false] rfl rfl (by kernel_rfl) (by decide) (fun K hK => ?_)
     refine Kd.R_append_step k112 (w0 := w5) w.heap.size (by rfl) (.tmp 48) (.tmp 55) 84 112 (.agg #[.int .i64 0, .bool false, .string ⟨#[]⟩]) 32 rfl Tryz.underlying84 infoZS rfl (by decide) (by omega) v6 (sufsT (xs.take k)) (tsS x) [.int .i64 x.wt, .bool false, .string (magB x.n)] (fun _ => True) (fun _ => False) rfl rfl ?aP (fun _ hk => hk.elim) (fun _ _ => trivial) M5.out.own6 (Below.refl _ _) M5.out.below.size ?aL ?_
     (case aP => exact k112_mkM _ _ _ (tsS x))
     (case aL => have := HLY.out; omega)
     intro v1 w7 ho hb hg hat
     obtain ⟨A1, n1, cp1, rfl⟩ : ∃ A n c, v1 = .slice A n c := by
      obtain ⟨A, c, e⟩ := Kd.R_slice ho
      exact ⟨A, _, c, e⟩
     obtain ⟨b7, i7⟩ := M5.out.step6 (by omega) (by omega) (by omega) ho hg
     have x7 := (blk_cell b7 6).trans rfl
     have f7 := blk_frozen b7 6
     have I7 := Aside0.mk i7
     clear ho hb hg hat b7 i7
     refine hK.out _ _ ?_
     clear hK K
     refine Go.Proofs.YtapaijpglfmfgaaGreatDoorW.PrintLast.norm_ (a' := ?_) ?_ ?_
     rotate_left
     ·show Act.put _ (some 56) _ = _
      simp only [Act.put, List.setIfInBounds_toArray, List.set_cons_zero, List.set_cons_succ, i64_w, i32_w]
      rfl
     refine pure_ (i := 10) (N := some 57) (v := ?_) (a' := ?_) #[true, true, true, true, true, true, true, true, true, true, true, false] rfl rfl (by kernel_rfl) (fun _ _ _ h => h) (Or.inl ⟨by rfl, ?_⟩) ?_ ?_
     rotate_left
     ·intro w'
      go_simp
      with_reducible rfl
     rotate_left
     ·simp only [Act.put, List.setIfInBounds_toArray, List.set_cons_zero, List.set_cons_succ, i64_w, i32_w]
      rfl
     refine last_ (i := 11) (N := none) #[true, true, true, true, true, true, true, true, true, true, true, true] rfl rfl (by kernel_rfl) (by decide) (fun K hK => ?_)
     refine skip_ (w1 := ?_) (by rfl) rfl ?_ ?_
     rotate_left
     ·go_simp
      rfl
     refine hK.out _ _ ?_
     clear hK K
     refine done_ (by kernel_rfl) ?_
     go_wp2
     go_roundw
     all_goals first | exact ⟨k + 1, .slice A1 n1 cp1, LT.out, by first | rfl | go_num, ⟨by rw [SN.out]; exact I7.out⟩⟩ | exact meas_up0 _ k LT.out | exact meas_up1 _ k LT.out | exact meas_up2 _ k LT.out WR
    ·obtain rfl : k = xs.length := by omega
     have i3 : decide ((xs.length : Int) < (xs.length : Int)) = false := decide_eq_false (by omega)
     have i4 : ((xs.length : Int) < (xs.length : Int)) = False := eq_false (by omega)
     have hi2 := HI.out
     rw [List.take_length] at hi2
     obtain ⟨A5, c5, e5⟩ := Kd.R_slice hi2.own5
     subst e5
     obtain ⟨A6, c6, e6⟩ := Kd.R_slice hi2.own6
     subst e6
     have H2 := Aside0.mk hi2
     have y7 := (blk_cell hi2.b1 7).trans rfl
     have pn := neq_nilptr a
     have HNW := Aside0.mk (HN.out.below hi2.below)
     clear hlt hk HI hi2
     go_wp2_with (first | (go_at_call 57; (with_reducible refine (HP.out _ a n HNW.out).mono ?_); rintro e' w5 ⟨rfl, hb⟩; have H5 := Aside0.mk (H2.out.to hb); have f7 := blk_frozen H5.out.b3 7; have f8 := blk_frozen H5.out.b3 8; have f9 := blk_frozen H5.out.b3 9; have x7 := (blk_cell H5.out.b3 7).trans rfl; have x8 := (blk_cell H5.out.b3 8).trans rfl; have x9 := (blk_cell H5.out.b3 9).trans rfl; have gF := Aside0.mk (blk_put (cs' := #[.string o, .string r, .string l, .string h, .bool i, .slice A5 (numsT xc).length c5, .slice A6 (sufsT xs).length c6, .bool true, .bool false, .string (magB n)]) (blk_put (blk_put H5.out.b3 7 (.bool true) rfl) 8 (.bool false) rfl) 9 (.string (magB n)) rfl); have xF := fun j : Nat => blk_cell gF.out j; have gG := Aside0.mk (blk_apart (blk_apart (blk_apart H5.out.b2 (b := w.heap.size + 1 + 1) (by omega) 7 (.bool true)) (b := w.heap.size + 1 + 1) (by omega) 8 (.bool false)) (b := w.heap.size + 1 + 1) (by omega) 9 (.string (magB n))); have zF := fun j : Nat => blk_cell gG.out j; have zf := fun j : Nat => blk_frozen gG.out j; clear hb))
     (try simp only [Exit.inBlock, Exit.then])
     have hk : ∀ (W : World), (∀ b, b ≠ w.heap.size + 1 + 1 → b ≠ w.heap.size + 1 → W.heap[b]? = w5.heap[b]?) → KeptT (butT 87) w5 W := fun W h b cs t fr hb ht => by
      refine h b (fun e => ?_) (fun e => ?_)
      ·subst e; rw [H5.out.b3] at hb; cases hb; exact absurd ht (by decide)
      ·subst e; rw [H5.out.b2] at hb; cases hb; exact absurd ht (by decide)
     have p0 := blk_put (cs' := #[.string o, .string ⟨#[]⟩, .string ⟨#[]⟩, .string ⟨#[]⟩, .bool false, .slice none 0 0, .slice none 0 0, .bool false, .bool false, .string ⟨#[]⟩]) gG.out 0 (.string o) rfl
     have p1 := blk_put (cs' := #[.string o, .string r, .string ⟨#[]⟩, .string ⟨#[]⟩, .bool false, .slice none 0 0, .slice none 0 0, .bool false, .bool false, .string ⟨#[]⟩]) p0 1 (.string r) rfl
     have p2 := blk_put (cs' := #[.string o, .string r, .string l, .string ⟨#[]⟩, .bool false, .slice none 0 0, .slice none 0 0, .bool false, .bool false, .string ⟨#[]⟩]) p1 2 (.string l) rfl
     have p3 := blk_put (cs' := #[.string o, .string r, .string l, .string h, .bool false, .slice none 0 0, .slice none 0 0, .bool false, .bool false, .string ⟨#[]⟩]) p2 3 (.string h) rfl
     have p4 := blk_put (cs' := #[.string o, .string r, .string l, .string h, .bool i, .slice none 0 0, .slice none 0 0, .bool false, .bool false, .string ⟨#[]⟩]) p3 4 (.bool i) rfl
     have p5 := blk_put (cs' := #[.string o, .string r, .string l, .string h, .bool i, .slice A5 (numsT xc).length c5, .slice none 0 0, .bool false, .bool false, .string ⟨#[]⟩]) p4 5 (.slice A5 (numsT xc).length c5) rfl
     have p6 := blk_put (cs' := #[.string o, .string r, .string l, .string h, .bool i, .slice A5 (numsT xc).length c5, .slice A6 (sufsT xs).length c6, .bool false, .bool false, .string ⟨#[]⟩]) p5 6 (.slice A6 (sufsT xs).length c6) rfl
     have p7 := blk_put (cs' := #[.string o, .string r, .string l, .string h, .bool i, .slice A5 (numsT xc).length c5, .slice A6 (sufsT xs).length c6, .bool true, .bool false, .string ⟨#[]⟩]) p6 7 (.bool true) rfl
     have p8 := blk_put (cs' := #[.string o, .string r, .string l, .string h, .bool i, .slice A5 (numsT xc).length c5, .slice A6 (sufsT xs).length c6, .bool true, .bool false, .string ⟨#[]⟩]) p7 8 (.bool false) rfl
     have p9 := blk_put (cs' := #[.string o, .string r, .string l, .string h, .bool i, .slice A5 (numsT xc).length c5, .slice A6 (sufsT xs).length c6, .bool true, .bool false, .string (magB n)]) p8 9 (.string (magB n)) rfl
     refine bodyPost_ret (results_cell_row rfl _ _ (w.heap.size + 1) 87 #[.string o, .string r, .string l, .string h, .bool i, .slice A5 (numsT xc).length c5, .slice A6 (sufsT xs).length c6, .bool true, .bool false, .string (magB n)] (0, 0) _ rfl p9 Tryz.underlying87 rfl (by kernel_rfl)) rfl ?_
     have K := hk (((((((((((((w5.setCell ⟨w.heap.size + 1 + 1, 7, none⟩ (.bool true)).setCell ⟨w.heap.size + 1 + 1, 8, none⟩ (.bool false)).setCell ⟨w.heap.size + 1 + 1, 9, none⟩ (.string (magB n))).setCell ⟨w.heap.size + 1, 0, none⟩ (.string o)).setCell ⟨w.heap.size + 1, 1, none⟩ (.string r)).setCell ⟨w.heap.size + 1, 2, none⟩ (.string l)).setCell ⟨w.heap.size + 1, 3, none⟩ (.string h)).setCell ⟨w.heap.size + 1, 4, none⟩ (.bool i)).setCell ⟨w.heap.size + 1, 5, none⟩ (.slice A5 (numsT xc).length c5)).setCell ⟨w.heap.size + 1, 6, none⟩ (.slice A6 (sufsT xs).length c6)).setCell ⟨w.heap.size + 1, 7, none⟩ (.bool true)).setCell ⟨w.heap.size + 1, 8, none⟩ (.bool false)).setCell ⟨w.heap.size + 1, 9, none⟩ (.string (magB n))) (fun b h1 h2 => by repeat (first | rw [Below.heap_setCell _ _ _ _ h2] | rw [Below.heap_setCell _ _ _ _ h1]))
     refine ⟨_, _, rfl, R_keptT (p := butT 87) rfl (by decide) H5.out.own5 K, R_keptT (p := butT 87) rfl (by decide) H5.out.own6 K, ?_⟩
     have b5 := H5.out.below
     repeat (first | (with_reducible exact b5) | refine below_set ?_ (by omega))
end Go.Proofs.YtapaijpglfmfgaaGreatDoorG
end
section -- HC
namespace Go.Proofs.YtapaijpglfmfgaaGreatDoorC
open Go.RowKit Go.Proofs.YtapaijpglfmfgaaGreatDoorW.PrintWords
set_option linter.unusedVariables false
theorem cl2 {w : World} {g : Nat} {t : TypeId} {a0 a1 : Value} (h : w.heap[g]? = some (.cells #[a0, a1] t (0, 0))) : w.cell? ⟨g, 0, none⟩ = some a0 ∧ w.cell? ⟨g, 1, none⟩ = some a1 ∧ w.frozen? ⟨g, 0, none⟩ = false ∧ w.frozen? ⟨g, 1, none⟩ = false :=
 ⟨(blk_cell h 0).trans rfl, (blk_cell h 1).trans rfl, blk_frozen h 0, blk_frozen h 1⟩
theorem cl3 {w : World} {g : Nat} {t : TypeId} {a0 a1 a2 : Value} (h : w.heap[g]? = some (.cells #[a0, a1, a2] t (0, 0))) : w.cell? ⟨g, 0, none⟩ = some a0 ∧ w.cell? ⟨g, 1, none⟩ = some a1 ∧ w.cell? ⟨g, 2, none⟩ = some a2 ∧ w.frozen? ⟨g, 0, none⟩ = false ∧ w.frozen? ⟨g, 1, none⟩ = false ∧ w.frozen? ⟨g, 2, none⟩ = false :=
 ⟨(blk_cell h 0).trans rfl, (blk_cell h 1).trans rfl, (blk_cell h 2).trans rfl, blk_frozen h 0, blk_frozen h 1, blk_frozen h 2⟩
theorem cl4 {w : World} {g : Nat} {t : TypeId} {a0 a1 a2 a3 : Value} (h : w.heap[g]? = some (.cells #[a0, a1, a2, a3] t (0, 0))) : w.cell? ⟨g, 0, none⟩ = some a0 ∧ w.cell? ⟨g, 1, none⟩ = some a1 ∧ w.cell? ⟨g, 2, none⟩ = some a2 ∧ w.cell? ⟨g, 3, none⟩ = some a3 ∧ w.frozen? ⟨g, 0, none⟩ = false ∧ w.frozen? ⟨g, 1, none⟩ = false ∧ w.frozen? ⟨g, 2, none⟩ = false ∧ w.frozen? ⟨g, 3, none⟩ = false :=
 ⟨(blk_cell h 0).trans rfl, (blk_cell h 1).trans rfl, (blk_cell h 2).trans rfl, (blk_cell h 3).trans rfl, blk_frozen h 0, blk_frozen h 1, blk_frozen h 2, blk_frozen h 3⟩
theorem cl7 {w : World} {g : Nat} {t : TypeId} {a0 a1 a2 a3 a4 a5 a6 : Value} (h : w.heap[g]? = some (.cells #[a0, a1, a2, a3, a4, a5, a6] t (0, 0))) : w.cell? ⟨g, 0, none⟩ = some a0 ∧ w.cell? ⟨g, 1, none⟩ = some a1 ∧ w.cell? ⟨g, 2, none⟩ = some a2 ∧ w.cell? ⟨g, 3, none⟩ = some a3 ∧ w.cell? ⟨g, 4, none⟩ = some a4 ∧ w.cell? ⟨g, 5, none⟩ = some a5 ∧ w.cell? ⟨g, 6, none⟩ = some a6 ∧ w.frozen? ⟨g, 0, none⟩ = false ∧ w.frozen? ⟨g, 1, none⟩ = false ∧ w.frozen? ⟨g, 2, none⟩ = false ∧ w.frozen? ⟨g, 3, none⟩ = false ∧ w.frozen? ⟨g, 4, none⟩ = false ∧ w.frozen? ⟨g, 5, none⟩ = false ∧ w.frozen? ⟨g, 6, none⟩ = false :=
 ⟨(blk_cell h 0).trans rfl, (blk_cell h 1).trans rfl, (blk_cell h 2).trans rfl, (blk_cell h 3).trans rfl, (blk_cell h 4).trans rfl, (blk_cell h 5).trans rfl, (blk_cell h 6).trans rfl, blk_frozen h 0, blk_frozen h 1, blk_frozen h 2, blk_frozen h 3, blk_frozen h 4, blk_frozen h 5, blk_frozen h 6⟩
theorem cl10 {w : World} {g : Nat} {t : TypeId} {a0 a1 a2 a3 a4 a5 a6 a7 a8 a9 : Value} (h : w.heap[g]? = some (.cells #[a0, a1, a2, a3, a4, a5, a6, a7, a8, a9] t (0, 0))) : w.cell? ⟨g, 0, none⟩ = some a0 ∧ w.cell? ⟨g, 1, none⟩ = some a1 ∧ w.cell? ⟨g, 2, none⟩ = some a2 ∧ w.cell? ⟨g, 3, none⟩ = some a3 ∧ w.cell? ⟨g, 4, none⟩ = some a4 ∧ w.cell? ⟨g, 5, none⟩ = some a5 ∧ w.cell? ⟨g, 6, none⟩ = some a6 ∧ w.cell? ⟨g, 7, none⟩ = some a7 ∧ w.cell? ⟨g, 8, none⟩ = some a8 ∧ w.cell? ⟨g, 9, none⟩ = some a9 ∧ w.frozen? ⟨g, 0, none⟩ = false ∧ w.frozen? ⟨g, 1, none⟩ = false ∧ w.frozen? ⟨g, 2, none⟩ = false ∧ w.frozen? ⟨g, 3, none⟩ = false ∧ w.frozen? ⟨g, 4, none⟩ = false ∧ w.frozen? ⟨g, 5, none⟩ = false ∧ w.frozen? ⟨g, 6, none⟩ = false ∧ w.frozen? ⟨g, 7, none⟩ = false ∧ w.frozen? ⟨g, 8, none⟩ = false ∧ w.frozen? ⟨g, 9, none⟩ = false :=
 ⟨(blk_cell h 0).trans rfl, (blk_cell h 1).trans rfl, (blk_cell h 2).trans rfl, (blk_cell h 3).trans rfl, (blk_cell h 4).trans rfl, (blk_cell h 5).trans rfl, (blk_cell h 6).trans rfl, (blk_cell h 7).trans rfl, (blk_cell h 8).trans rfl, (blk_cell h 9).trans rfl, blk_frozen h 0, blk_frozen h 1, blk_frozen h 2, blk_frozen h 3, blk_frozen h 4, blk_frozen h 5, blk_frozen h 6, blk_frozen h 7, blk_frozen h 8, blk_frozen h 9⟩
theorem farC {α : Type} {d : Kd α} {e : TypeId} {w : World} {base : Nat} {ok : Nat → Prop} {v : Value} {xs : List α} {g i : Nat} {u : Value} (h : d.R e w base (fun k => ok k ∧ k ≠ g) v xs) : d.R e (w.setCell ⟨g, i, none⟩ u) base (fun k => ok k ∧ k ≠ g) v xs :=
 Kd.R_far (p := ⟨g, i, none⟩) h (fun _ hk => hk.2) u
end Go.Proofs.YtapaijpglfmfgaaGreatDoorC
end
section -- Qx4
namespace Go.Proofs.YtapaijpglfmfgaaGreatDoor.Q
open Go.RowKit Go.Proofs.YtapaijpglfmfgaaGreatDoorH Go.Proofs.YtapaijpglfmfgaaGreatDoorG Go.Proofs.YtapaijpglfmfgaaGreatDoorW.PrintWords Go.Proofs.YtapaijpglfmfgaaGreatDoorW.PrintLast Go.Proofs.YtapaijpglfmfgaaGreatDoorW.PrintMore Go.Proofs.YtapaijpglfmfgaaGreatDoorC
attribute [local go_sem] max2_int min2_int max_two min_two max_three min_three max_four min_four
set_option linter.unusedVariables false
set_option linter.unusedSimpArgs false
mutual
def impl_plainAlpine.l0 : Nat → List (S110) → Int → Int → ByteArray → ByteArray → ByteArray → ByteArray → Bool → List (S110) → List (S112) → Bool → Bool → ByteArray → ByteArray → ByteArray → ByteArray → ByteArray → Bool → List (S52) → Bool → Bool → ByteArray → Option (ByteArray × ByteArray × ByteArray × ByteArray × Bool × (List (S52)) × (List (S56)) × Bool × Bool × ByteArray)
 | 0, _, _, _, _, _, _, _, _, _, _, _, _, _, _, _, _, _, _, _, _, _, _ => none
 | k + 1, x24, x25, x26, x102000, x102001, x102002, x102003, x102004, x102005, x102006, x102007, x102008, x102009, x104000, x104001, x104002, x104003, x104004, x104005, x104007, x104008, x104009 => if x26 < x25 then (if 0 ≤ x26 then (if x26 < (x24.length : Int) then (if x104005.length < 2932031007402 then (impl_plainAlpine.l0 k x24 x25 (wrap64 (x26 + 1)) x102000 x102001 x102002 x102003 x102004 x102005 x102006 x102007 x102008 x102009 x104000 x104001 x104002 x104003 x104004 (x104005 ++ [(⟨(rd_T110 x24 x26).f0, (⟨(rd_T110 x24 x26).f1.f0, (rd_T110 x24 x26).f1.f1⟩ : S31), (rd_T110 x24 x26).f2⟩ : S52)]) x104007 x104008 x104009) else (none)) else (none)) else (none)) else (impl_plainAlpine.l1 k x102006 (x102006.length : Int) 0 x104000 x104001 x104002 x104003 x104004 x104005 ([] : List (S56)) x104007 x104008 x104009)
def impl_plainAlpine.l1 : Nat → List (S112) → Int → Int → ByteArray → ByteArray → ByteArray → ByteArray → Bool → List (S52) → List (S56) → Bool → Bool → ByteArray → Option (ByteArray × ByteArray × ByteArray × ByteArray × Bool × (List (S52)) × (List (S56)) × Bool × Bool × ByteArray)
 | 0, _, _, _, _, _, _, _, _, _, _, _, _, _ => none
 | k + 1, x44, x45, x46, x104000, x104001, x104002, x104003, x104004, x104005, x104006, x104007, x104008, x104009 => if x46 < x45 then (if 0 ≤ x46 then (if x46 < (x44.length : Int) then (if x104006.length < 4398046511104 then (impl_plainAlpine.l1 k x44 x45 (wrap64 (x46 + 1)) x104000 x104001 x104002 x104003 x104004 x104005 (x104006 ++ [(⟨(rd_T112 x44 x46).f0, (⟨(rd_T112 x44 x46).f1.f0, (rd_T112 x44 x46).f1.f1⟩ : S31)⟩ : S56)]) x104007 x104008 x104009) else (none)) else (none)) else (none)) else (some (x104000, x104001, x104002, x104003, x104004, x104005, x104006, x104007, x104008, x104009))
end
def impl_plainAlpine.f (k : Nat) (a0_0 : ByteArray) (a0_1 : ByteArray) (a0_2 : ByteArray) (a0_3 : ByteArray) (a0_4 : Bool) (l0_5 : List (S110)) (l0_6 : List (S112)) (a0_7 : Bool) (a0_8 : Bool) (a0_9 : ByteArray) : Option (ByteArray × ByteArray × ByteArray × ByteArray × Bool × (List (S52)) × (List (S56)) × Bool × Bool × ByteArray) := impl_plainAlpine.l0 k l0_5 (l0_5.length : Int) 0 a0_0 a0_1 a0_2 a0_3 a0_4 l0_5 l0_6 a0_7 a0_8 a0_9 a0_0 a0_1 a0_2 a0_3 a0_4 ([] : List (S52)) a0_7 a0_8 a0_9
set_option maxHeartbeats 8000000 in
set_option maxRecDepth 100000 in
theorem impl_plainAlpine.calls (k : Nat) (a0_0 : ByteArray) (a0_1 : ByteArray) (a0_2 : ByteArray) (a0_3 : ByteArray) (a0_4 : Bool) (A0_5 : Option Addr) (c0_5 : Nat) (l0_5 : List (S110)) (A0_6 : Option Addr) (c0_6 : Nat) (l0_6 : List (S112)) (a0_7 : Bool) (a0_8 : Bool) (a0_9 : ByteArray) (r1 : ByteArray) (r2 : ByteArray) (r3 : ByteArray) (r4 : ByteArray) (r5 : Bool) (r6 : List (S52)) (r7 : List (S56)) (r8 : Bool) (r9 : Bool) (r10 : ByteArray) (w : World) (hr0_5 : Kd.C k110 w A0_5 l0_5.length l0_5) (hc0_5 : l0_5.length ≤ c0_5) (hr0_6 : Kd.C k112 w A0_6 l0_6.length l0_6) (hc0_6 : l0_6.length ≤ c0_6) (h : impl_plainAlpine.f k a0_0 a0_1 a0_2 a0_3 a0_4 l0_5 l0_6 a0_7 a0_8 a0_9 = some (r1, r2, r3, r4, r5, r6, r7, r8, r9, r10)) :
  Calls Tryz.prog 36 #[.agg #[.string a0_0, .string a0_1, .string a0_2, .string a0_3, .bool a0_4, .slice A0_5 l0_5.length c0_5, .slice A0_6 l0_6.length c0_6, .bool a0_7, .bool a0_8, .string a0_9]] w fun e w' => ∃ v5_ v6_ : Value, e = .returned (.agg #[.string r1, .string r2, .string r3, .string r4, .bool r5, v5_, v6_, .bool r8, .bool r9, .string r10]) ∧ Kd.R k52 52 w' w.heap.size (fun _ => True) v5_ r6 ∧ Kd.R k56 56 w' w.heap.size (fun _ => True) v6_ r7 ∧ Below w.heap.size w w' := by
 have hu87 := Tryz.underlying87
 have hu33 := Tryz.underlying33
 have hu85 := Tryz.underlying85
 have hu110 := Tryz.underlying110
 have hu52 := Tryz.underlying52
 have hu112 := Tryz.underlying112
 have hu56 := Tryz.underlying56
 have HR0_5 := Aside0.mk hr0_5
 have HC0_5 := Aside0.mk hc0_5
 clear hr0_5 hc0_5
 have HR0_6 := Aside0.mk hr0_6
 have HC0_6 := Aside0.mk hc0_6
 clear hr0_6 hc0_6
 have HB := Aside0.mk (Below.refl w.heap.size w)
 have H : (impl_plainAlpine.l0 k l0_5 (l0_5.length : Int) 0 a0_0 a0_1 a0_2 a0_3 a0_4 l0_5 l0_6 a0_7 a0_8 a0_9 a0_0 a0_1 a0_2 a0_3 a0_4 ([] : List (S52)) a0_7 a0_8 a0_9) = some (r1, r2, r3, r4, r5, r6, r7, r8, r9, r10) := h
 clear h
 have H' := Aside0.mk H
 clear H
 go_enter Tryz.func36, Tryz.ntmps36
 go_wp2_with (first | ((with_reducible refine gate_dst (N := 1) rfl ?_); refine box_event ?hg (N := 1) ?hd (cs := #[.string a0_0, .string a0_1, .string a0_2, .string a0_3, .bool a0_4, .slice A0_5 l0_5.length c0_5, .slice A0_6 l0_6.length c0_6, .bool a0_7, .bool a0_8, .string a0_9]) (t := 87) ?hr ?_; (case hd => rfl); (case hg => rfl); (case hr => first | (go_simp; done) | (go_simp; rfl)); intro gb101 hg w2 hbox hb; have BK101 := Aside0.mk hbox; have GW101 := Aside0.mk ((by rw [hg]; exact (below_size (by (with_reducible exact HB.out))) : w.heap.size ≤ gb101)); have GE101 := Aside0.mk ((by rw [hg]; exact (below_size (by (with_reducible exact HB.out))) : w.heap.size ≤ gb101)); replace HB := Aside0.mk (below_step (by (with_reducible exact HB.out)) hb); clear hb hbox hg) | ((with_reducible refine gate_dst (N := 2) rfl ?_); refine box_event ?hg (N := 2) ?hd (cs := #[.string ⟨#[]⟩, .string ⟨#[]⟩, .string ⟨#[]⟩, .string ⟨#[]⟩, .bool false, .slice none 0 0, .slice none 0 0, .bool false, .bool false, .string ⟨#[]⟩]) (t := 33) ?hr ?_; (case hd => rfl); (case hg => rfl); (case hr => first | (go_simp; done) | (go_simp; rfl)); intro gb102 hg w3 hbox hb; have n0_ := Aside0.mk (blk_below (g := gb101) (o := .cells #[.string a0_0, .string a0_1, .string a0_2, .string a0_3, .bool a0_4, .slice A0_5 l0_5.length c0_5, .slice A0_6 l0_6.length c0_6, .bool a0_7, .bool a0_8, .string a0_9] 87 (0, 0)) (by exact BK101.out) hb); have n1_ := Aside0.mk (below_step (by (with_reducible exact HB.out)) hb); have n2_ := Aside0.mk hbox; have n3_ := Aside0.mk ((by rw [hg]; exact (below_size (by (with_reducible exact HB.out))) : w.heap.size ≤ gb102)); have n4_ := Aside0.mk ((by rw [hg]; exact (below_size (by (with_reducible exact HB.out))) : w.heap.size ≤ gb102)); have n5_ := Aside0.mk ((by rw [hg]; exact Nat.ne_of_lt (blk_lt (g := gb101) (o := .cells #[.string a0_0, .string a0_1, .string a0_2, .string a0_3, .bool a0_4, .slice A0_5 l0_5.length c0_5, .slice A0_6 l0_6.length c0_6, .bool a0_7, .bool a0_8, .string a0_9] 87 (0, 0)) (by exact BK101.out)) : gb101 ≠ gb102)); have n6_ := Aside0.mk ((by rw [hg]; exact Nat.ne_of_gt (blk_lt (g := gb101) (o := .cells #[.string a0_0, .string a0_1, .string a0_2, .string a0_3, .bool a0_4, .slice A0_5 l0_5.length c0_5, .slice A0_6 l0_6.length c0_6, .bool a0_7, .bool a0_8, .string a0_9] 87 (0, 0)) (by exact BK101.out)) : gb102 ≠ gb101)); clear BK101; clear HB; have BK101 := n0_; have HB := n1_; have BK102 := n2_; have GW102 := n3_; have GE102 := n4_; have NB101_102 := n5_; have NB102_101 := n6_; clear n0_ n1_ n2_ n3_ n4_ n5_ n6_; clear hb hbox hg; have hnb4 := NB101_102.out; have hnc4 := NB102_101.out; obtain ⟨hcz5_0, hcz5_1, hcz5_2, hcz5_3, hcz5_4, hcz5_5, hcz5_6, hcz5_7, hcz5_8, hcz5_9, hfz5_0, hfz5_1, hfz5_2, hfz5_3, hfz5_4, hfz5_5, hfz5_6, hfz5_7, hfz5_8, hfz5_9⟩ := cl10 BK101.out) | ((with_reducible refine gate_dst (N := 3) rfl ?_); refine box_event ?hg (N := 3) ?hd (cs := #[.string ⟨#[]⟩, .string ⟨#[]⟩, .string ⟨#[]⟩, .string ⟨#[]⟩, .bool false, .slice none 0 0, .slice none 0 0, .bool false, .bool false, .string ⟨#[]⟩]) (t := 33) ?hr ?_; (case hd => rfl); (case hg => rfl); (case hr => first | (go_simp; done) | (go_simp; rfl)); intro gb103 hg w6 hbox hb; have n0_ := Aside0.mk (blk_below (g := gb101) (o := .cells #[.string a0_0, .string a0_1, .string a0_2, .string a0_3, .bool a0_4, .slice A0_5 l0_5.length c0_5, .slice A0_6 l0_6.length c0_6, .bool a0_7, .bool a0_8, .string a0_9] 87 (0, 0)) (by exact BK101.out) hb); have n1_ := Aside0.mk (blk_below (g := gb102) (o := .cells #[.string ⟨#[]⟩, .string ⟨#[]⟩, .string ⟨#[]⟩, .string ⟨#[]⟩, .bool false, .slice none 0 0, .slice none 0 0, .bool false, .bool false, .string ⟨#[]⟩] 33 (0, 0)) (by exact BK102.out) hb); have n2_ := Aside0.mk (below_step (by (with_reducible exact HB.out)) hb); have n3_ := Aside0.mk hbox; have n4_ := Aside0.mk ((by rw [hg]; exact (below_size (by (with_reducible exact HB.out))) : w.heap.size ≤ gb103)); have n5_ := Aside0.mk ((by rw [hg]; exact (below_size (by (with_reducible exact HB.out))) : w.heap.size ≤ gb103)); have n6_ := Aside0.mk ((by rw [hg]; exact Nat.ne_of_lt (blk_lt (g := gb101) (o := .cells #[.string a0_0, .string a0_1, .string a0_2, .string a0_3, .bool a0_4, .slice A0_5 l0_5.length c0_5, .slice A0_6 l0_6.length c0_6, .bool a0_7, .bool a0_8, .string a0_9] 87 (0, 0)) (by exact BK101.out)) : gb101 ≠ gb103)); have n7_ := Aside0.mk ((by rw [hg]; exact Nat.ne_of_gt (blk_lt (g := gb101) (o := .cells #[.string a0_0, .string a0_1, .string a0_2, .string a0_3, .bool a0_4, .slice A0_5 l0_5.length c0_5, .slice A0_6 l0_6.length c0_6, .bool a0_7, .bool a0_8, .string a0_9] 87 (0, 0)) (by exact BK101.out)) : gb103 ≠ gb101)); have n8_ := Aside0.mk ((by rw [hg]; exact Nat.ne_of_lt (blk_lt (g := gb102) (o := .cells #[.string ⟨#[]⟩, .string ⟨#[]⟩, .string ⟨#[]⟩, .string ⟨#[]⟩, .bool false, .slice none 0 0, .slice none 0 0, .bool false, .bool false, .string ⟨#[]⟩] 33 (0, 0)) (by exact BK102.out)) : gb102 ≠ gb103)); have n9_ := Aside0.mk ((by rw [hg]; exact Nat.ne_of_gt (blk_lt (g := gb102) (o := .cells #[.string ⟨#[]⟩, .string ⟨#[]⟩, .string ⟨#[]⟩, .string ⟨#[]⟩, .bool false, .slice none 0 0, .slice none 0 0, .bool false, .bool false, .string ⟨#[]⟩] 33 (0, 0)) (by exact BK102.out)) : gb103 ≠ gb102)); clear BK101; clear BK102; clear HB; have BK101 := n0_; have BK102 := n1_; have HB := n2_; have BK103 := n3_; have GW103 := n4_; have GE103 := n5_; have NB101_103 := n6_; have NB103_101 := n7_; have NB102_103 := n8_; have NB103_102 := n9_; clear n0_ n1_ n2_ n3_ n4_ n5_ n6_ n7_ n8_ n9_; clear hb hbox hg; have hnb7 := NB103_101.out; have hnc7 := NB101_103.out; have hnb8 := NB103_102.out; have hnc8 := NB102_103.out; obtain ⟨hcz9_0, hcz9_1, hcz9_2, hcz9_3, hcz9_4, hcz9_5, hcz9_6, hcz9_7, hcz9_8, hcz9_9, hfz9_0, hfz9_1, hfz9_2, hfz9_3, hfz9_4, hfz9_5, hfz9_6, hfz9_7, hfz9_8, hfz9_9⟩ := cl10 BK103.out; obtain ⟨hcz10_0, hcz10_1, hcz10_2, hcz10_3, hcz10_4, hcz10_5, hcz10_6, hcz10_7, hcz10_8, hcz10_9, hfz10_0, hfz10_1, hfz10_2, hfz10_3, hfz10_4, hfz10_5, hfz10_6, hfz10_7, hfz10_8, hfz10_9⟩ := cl10 BK101.out))
 (try simp only [Act.put, List.setIfInBounds_toArray, List.set_cons_zero, List.set_cons_succ])
 go_loopg [26] k (fun kq v26 w' => ∃ (x26_1 : Int) (x104005_1 : List (S52)) (u104005 : Value), v26 = .int .i64 x26_1 ∧ Aside0 (impl_plainAlpine.l0 kq l0_5 (l0_5.length : Int) x26_1 a0_0 a0_1 a0_2 a0_3 a0_4 l0_5 l0_6 a0_7 a0_8 a0_9 a0_0 a0_1 a0_2 a0_3 a0_4 x104005_1 a0_7 a0_8 a0_9 = some (r1, r2, r3, r4, r5, r6, r7, r8, r9, r10)) ∧ Aside0 (kq ≤ k) ∧ Aside0 (Kd.R k52 52 w' w.heap.size (fun _ => True) u104005 x104005_1) ∧ Aside0 (w'.heap[gb101]? = some (.cells #[.string a0_0, .string a0_1, .string a0_2, .string a0_3, .bool a0_4, (.slice A0_5 l0_5.length c0_5), (.slice A0_6 l0_6.length c0_6), .bool a0_7, .bool a0_8, .string a0_9] 87 (0, 0))) ∧ Aside0 (w'.heap[gb102]? = some (.cells #[.string ⟨#[]⟩, .string ⟨#[]⟩, .string ⟨#[]⟩, .string ⟨#[]⟩, .bool false, (.slice none 0 0), (.slice none 0 0), .bool false, .bool false, .string ⟨#[]⟩] 33 (0, 0))) ∧ Aside0 (w'.heap[gb103]? = some (.cells #[.string a0_0, .string a0_1, .string a0_2, .string a0_3, .bool a0_4, u104005, (.slice none 0 0), .bool a0_7, .bool a0_8, .string a0_9] 33 (0, 0))) ∧ Aside0 (Below w.heap.size w w'))
 case atStart => exact ⟨(0), (([] : List (S52))), (.slice none 0 0), (by rfl), H', ⟨Nat.le_refl _⟩, ⟨by exact Kd.R_nil _ _ _ _ _⟩, ⟨by refine blk_far ?_ NB101_103.out _; refine blk_far ?_ NB101_103.out _; refine blk_far ?_ NB101_103.out _; refine blk_far ?_ NB101_103.out _; refine blk_far ?_ NB101_103.out _; refine blk_far ?_ NB101_103.out _; refine blk_far ?_ NB101_103.out _; refine blk_far ?_ NB101_103.out _; refine blk_far ?_ NB101_103.out _; refine blk_far ?_ NB101_103.out _; exact BK101.out⟩, ⟨by refine blk_far ?_ NB102_103.out _; refine blk_far ?_ NB102_103.out _; refine blk_far ?_ NB102_103.out _; refine blk_far ?_ NB102_103.out _; refine blk_far ?_ NB102_103.out _; refine blk_far ?_ NB102_103.out _; refine blk_far ?_ NB102_103.out _; refine blk_far ?_ NB102_103.out _; refine blk_far ?_ NB102_103.out _; refine blk_far ?_ NB102_103.out _; exact BK102.out⟩, ⟨by refine blk_put (cs := #[.string a0_0, .string a0_1, .string a0_2, .string a0_3, .bool a0_4, .slice none 0 0, .slice none 0 0, .bool a0_7, .bool a0_8, .string ⟨#[]⟩]) ?_ 9 _ rfl; refine blk_put (cs := #[.string a0_0, .string a0_1, .string a0_2, .string a0_3, .bool a0_4, .slice none 0 0, .slice none 0 0, .bool a0_7, .bool false, .string ⟨#[]⟩]) ?_ 8 _ rfl; refine blk_put (cs := #[.string a0_0, .string a0_1, .string a0_2, .string a0_3, .bool a0_4, .slice none 0 0, .slice none 0 0, .bool false, .bool false, .string ⟨#[]⟩]) ?_ 7 _ rfl; refine blk_put (cs := #[.string a0_0, .string a0_1, .string a0_2, .string a0_3, .bool a0_4, .slice none 0 0, .slice none 0 0, .bool false, .bool false, .string ⟨#[]⟩]) ?_ 6 _ rfl; refine blk_put (cs := #[.string a0_0, .string a0_1, .string a0_2, .string a0_3, .bool a0_4, .slice none 0 0, .slice none 0 0, .bool false, .bool false, .string ⟨#[]⟩]) ?_ 5 _ rfl; refine blk_put (cs := #[.string a0_0, .string a0_1, .string a0_2, .string a0_3, .bool false, .slice none 0 0, .slice none 0 0, .bool false, .bool false, .string ⟨#[]⟩]) ?_ 4 _ rfl; refine blk_put (cs := #[.string a0_0, .string a0_1, .string a0_2, .string ⟨#[]⟩, .bool false, .slice none 0 0, .slice none 0 0, .bool false, .bool false, .string ⟨#[]⟩]) ?_ 3 _ rfl; refine blk_put (cs := #[.string a0_0, .string a0_1, .string ⟨#[]⟩, .string ⟨#[]⟩, .bool false, .slice none 0 0, .slice none 0 0, .bool false, .bool false, .string ⟨#[]⟩]) ?_ 2 _ rfl; refine blk_put (cs := #[.string a0_0, .string ⟨#[]⟩, .string ⟨#[]⟩, .string ⟨#[]⟩, .bool false, .slice none 0 0, .slice none 0 0, .bool false, .bool false, .string ⟨#[]⟩]) ?_ 1 _ rfl; refine blk_put (cs := #[.string ⟨#[]⟩, .string ⟨#[]⟩, .string ⟨#[]⟩, .string ⟨#[]⟩, .bool false, .slice none 0 0, .slice none 0 0, .bool false, .bool false, .string ⟨#[]⟩]) ?_ 0 _ rfl; exact BK103.out⟩, ⟨by repeat (first | (with_reducible first | exact HB.out | apply below_alloc | apply pw_below_drewN | apply below_drew1 | refine below_set ?_ GE101.out | refine below_set ?_ GE102.out | refine below_set ?_ GE103.out) | exact HB.out)⟩⟩
 case round =>
  clear H'
  clear hcz10_0 hcz10_1 hcz10_2 hcz10_3 hcz10_4 hcz10_5 hcz10_6 hcz10_7 hcz10_8 hcz10_9 hcz5_0 hcz5_1 hcz5_2 hcz5_3 hcz5_4 hcz5_5 hcz5_6 hcz5_7 hcz5_8 hcz5_9 hcz9_0 hcz9_1 hcz9_2 hcz9_3 hcz9_4 hcz9_5 hcz9_6 hcz9_7 hcz9_8 hcz9_9 hfz10_0 hfz10_1 hfz10_2 hfz10_3 hfz10_4 hfz10_5 hfz10_6 hfz10_7 hfz10_8 hfz10_9 hfz5_0 hfz5_1 hfz5_2 hfz5_3 hfz5_4 hfz5_5 hfz5_6 hfz5_7 hfz5_8 hfz5_9 hfz9_0 hfz9_1 hfz9_2 hfz9_3 hfz9_4 hfz9_5 hfz9_6 hfz9_7 hfz9_8 hfz9_9
  obtain ⟨x26_1, x104005_1, u104005, rfl, HA, HK1, HO_104005, BK101, BK102, BK103, HB⟩ := hrel
  cases gk with
  | zero => exact absurd HA.out (by simp [impl_plainAlpine.l0])
  | succ k1 =>
   have H := HA.out
   clear HA
   simp only [impl_plainAlpine.l0] at H
   by_cases c11 : x26_1 < (l0_5.length : Int)
   ·rw [if_pos c11] at H
    have c11b0 : decide (x26_1 < (l0_5.length : Int)) = true := decide_eq_true c11
    clear c11
    by_cases c12 : 0 ≤ x26_1
    ·rw [if_pos c12] at H
     have c12b0 : decide (0 ≤ x26_1) = true := decide_eq_true c12
     clear c12
     by_cases c13 : x26_1 < (l0_5.length : Int)
     ·rw [if_pos c13] at H
      have c13b0 : decide (x26_1 < (l0_5.length : Int)) = true := decide_eq_true c13
      clear c13
      by_cases c14 : x104005_1.length < 2932031007402
      ·rw [if_pos c14] at H
       have LMc14 := Aside0.mk c14
       clear c14
       obtain ⟨y106, hy106⟩ : ∃ y_ : List (S52), y_ = (x104005_1 ++ [(⟨(rd_T110 l0_5 x26_1).f0, (⟨(rd_T110 l0_5 x26_1).f1.f0, (rd_T110 l0_5 x26_1).f1.f1⟩ : S31), (rd_T110 l0_5 x26_1).f2⟩ : S52)]) := ⟨_, rfl⟩
       replace H : (impl_plainAlpine.l0 k1 l0_5 (l0_5.length : Int) (wrap64 (x26_1 + 1)) a0_0 a0_1 a0_2 a0_3 a0_4 l0_5 l0_6 a0_7 a0_8 a0_9 a0_0 a0_1 a0_2 a0_3 a0_4 y106 a0_7 a0_8 a0_9) = some (r1, r2, r3, r4, r5, r6, r7, r8, r9, r10) := by (rw [hy106]; with_reducible exact H)
       have Ny106 := Aside0.mk hy106
       clear hy106
       have H' := Aside0.mk H
       clear H
       have p104 : 0 ≤ (x26_1 : Int) := of_decide_eq_true (by (with_reducible assumption))
       have q104 : x26_1 < (l0_5.length : Int) := of_decide_eq_true (by (with_reducible assumption))
       obtain ⟨ad104, e104, hx104_0, hx104_1, hx104_2, hx104_3⟩ := at_T110 HR0_5.out x26_1 p104 q104
       cases e104
       replace hx104_0 := (HB.out.cell (World.block_lt_of_cell? w _ hx104_0)).trans hx104_0
       replace hx104_1 := (HB.out.cell (World.block_lt_of_cell? w _ hx104_1)).trans hx104_1
       replace hx104_2 := (HB.out.cell (World.block_lt_of_cell? w _ hx104_2)).trans hx104_2
       replace hx104_3 := (HB.out.cell (World.block_lt_of_cell? w _ hx104_3)).trans hx104_3
       replace p104 := eq_true p104
       replace q104 := eq_true q104
       go_wp2_with (first | ((with_reducible refine gate_dst (N := 5) rfl ?_); refine box_event ?hg (N := 5) ?hd (cs := #[.string ⟨#[]⟩, .bool false, .string ⟨#[]⟩, .int .i64 0]) (t := 110) ?hr ?_; (case hd => rfl); (case hg => rfl); (case hr => first | (go_simp; done) | (go_simp; rfl)); intro gb105 hg w15 hbox hb; have n0_ := Aside0.mk (Kd.R_below (by (with_reducible repeat (first | apply Kd.R_alloc | apply Kd.R_drewN | apply Kd.R_drew)); exact HO_104005.out) hb); have n1_ := Aside0.mk (blk_below (g := gb101) (o := .cells #[.string a0_0, .string a0_1, .string a0_2, .string a0_3, .bool a0_4, .slice (some ad104) l0_5.length c0_5, .slice A0_6 l0_6.length c0_6, .bool a0_7, .bool a0_8, .string a0_9] 87 (0, 0)) (by exact BK101.out) hb); have n2_ := Aside0.mk (blk_below (g := gb102) (o := .cells #[.string ⟨#[]⟩, .string ⟨#[]⟩, .string ⟨#[]⟩, .string ⟨#[]⟩, .bool false, .slice none 0 0, .slice none 0 0, .bool false, .bool false, .string ⟨#[]⟩] 33 (0, 0)) (by exact BK102.out) hb); have n3_ := Aside0.mk (blk_below (g := gb103) (o := .cells #[.string a0_0, .string a0_1, .string a0_2, .string a0_3, .bool a0_4, u104005, .slice none 0 0, .bool a0_7, .bool a0_8, .string a0_9] 33 (0, 0)) (by exact BK103.out) hb); have n4_ := Aside0.mk (below_step (by (with_reducible exact HB.out)) hb); have n5_ := Aside0.mk hbox; have n6_ := Aside0.mk ((by rw [hg]; exact (below_size (by (with_reducible exact HB.out))) : w.heap.size ≤ gb105)); have n7_ := Aside0.mk ((by rw [hg]; exact (below_size (by (with_reducible exact HB.out))) : w.heap.size ≤ gb105)); have n8_ := Aside0.mk ((by rw [hg]; exact Nat.ne_of_lt (blk_lt (g := gb101) (o := .cells #[.string a0_0, .string a0_1, .string a0_2, .string a0_3, .bool a0_4, .slice (some ad104) l0_5.length c0_5, .slice A0_6 l0_6.length c0_6, .bool a0_7, .bool a0_8, .string a0_9] 87 (0, 0)) (by exact BK101.out)) : gb101 ≠ gb105)); have n9_ := Aside0.mk ((by rw [hg]; exact Nat.ne_of_gt (blk_lt (g := gb101) (o := .cells #[.string a0_0, .string a0_1, .string a0_2, .string a0_3, .bool a0_4, .slice (some ad104) l0_5.length c0_5, .slice A0_6 l0_6.length c0_6, .bool a0_7, .bool a0_8, .string a0_9] 87 (0, 0)) (by exact BK101.out)) : gb105 ≠ gb101)); have n10_ := Aside0.mk ((by rw [hg]; exact Nat.ne_of_lt (blk_lt (g := gb102) (o := .cells #[.string ⟨#[]⟩, .string ⟨#[]⟩, .string ⟨#[]⟩, .string ⟨#[]⟩, .bool false, .slice none 0 0, .slice none 0 0, .bool false, .bool false, .string ⟨#[]⟩] 33 (0, 0)) (by exact BK102.out)) : gb102 ≠ gb105)); have n11_ := Aside0.mk ((by rw [hg]; exact Nat.ne_of_gt (blk_lt (g := gb102) (o := .cells #[.string ⟨#[]⟩, .string ⟨#[]⟩, .string ⟨#[]⟩, .string ⟨#[]⟩, .bool false, .slice none 0 0, .slice none 0 0, .bool false, .bool false, .string ⟨#[]⟩] 33 (0, 0)) (by exact BK102.out)) : gb105 ≠ gb102)); have n12_ := Aside0.mk ((by rw [hg]; exact Nat.ne_of_lt (blk_lt (g := gb103) (o := .cells #[.string a0_0, .string a0_1, .string a0_2, .string a0_3, .bool a0_4, u104005, .slice none 0 0, .bool a0_7, .bool a0_8, .string a0_9] 33 (0, 0)) (by exact BK103.out)) : gb103 ≠ gb105)); have n13_ := Aside0.mk ((by rw [hg]; exact Nat.ne_of_gt (blk_lt (g := gb103) (o := .cells #[.string a0_0, .string a0_1, .string a0_2, .string a0_3, .bool a0_4, u104005, .slice none 0 0, .bool a0_7, .bool a0_8, .string a0_9] 33 (0, 0)) (by exact BK103.out)) : gb105 ≠ gb103)); clear HO_104005; clear BK101; clear BK102; clear BK103; clear HB; have HO_104005 := n0_; have BK101 := n1_; have BK102 := n2_; have BK103 := n3_; have HB := n4_; have BK105 := n5_; have GW105 := n6_; have GE105 := n7_; have NB101_105 := n8_; have NB105_101 := n9_; have NB102_105 := n10_; have NB105_102 := n11_; have NB103_105 := n12_; have NB105_103 := n13_; clear n0_ n1_ n2_ n3_ n4_ n5_ n6_ n7_ n8_ n9_ n10_ n11_ n12_ n13_; clear hb hbox hg; have hnb16 := NB105_101.out; have hnc16 := NB101_105.out; have hnb17 := NB105_102.out; have hnc17 := NB102_105.out; have hnb18 := NB105_103.out; have hnc18 := NB103_105.out; obtain ⟨hcz19_0, hcz19_1, hcz19_2, hcz19_3, hfz19_0, hfz19_1, hfz19_2, hfz19_3⟩ := cl4 BK105.out; have hnb20 := NB103_101.out; have hnc20 := NB101_103.out; have hnb21 := NB103_102.out; have hnc21 := NB102_103.out; obtain ⟨hcz22_0, hcz22_1, hcz22_2, hcz22_3, hcz22_4, hcz22_5, hcz22_6, hcz22_7, hcz22_8, hcz22_9, hfz22_0, hfz22_1, hfz22_2, hfz22_3, hfz22_4, hfz22_5, hfz22_6, hfz22_7, hfz22_8, hfz22_9⟩ := cl10 BK103.out) | ((with_reducible refine gate_builtin (b := .append) (xs := #[.tmp 31, .tmp 39]) rfl ?_); at_builtin; refine Kd.R_append k52 (w0 := w) w.heap.size rfl (.tmp 31) (.tmp 39) 28 52 (.agg #[(.string ⟨#[]⟩), (.bool false), (.string ⟨#[]⟩), (.int .i64 0)]) 48 rfl Tryz.underlying28 info52 rfl (by decide) (by omega) u104005 x104005_1 (⟨(rd_T110 l0_5 x26_1).f0, (⟨(rd_T110 l0_5 x26_1).f1.f0, (rd_T110 l0_5 x26_1).f1.f1⟩ : S31), (rd_T110 l0_5 x26_1).f2⟩ : S52) [.string ((rd_T110 l0_5 x26_1).f0), .bool ((rd_T110 l0_5 x26_1).f1.f0), .string ((rd_T110 l0_5 x26_1).f1.f1), .int .i64 ((rd_T110 l0_5 x26_1).f2)] (fun _ => True) (fun _ => False) rfl (by (go_simp; done)) ?aP (fun _ hk => hk.elim) ?aF ?aO ?aB ?aS ?aL ?_; (case aP => exact k52_mkM _ _ _ (⟨(rd_T110 l0_5 x26_1).f0, (⟨(rd_T110 l0_5 x26_1).f1.f0, (rd_T110 l0_5 x26_1).f1.f1⟩ : S31), (rd_T110 l0_5 x26_1).f2⟩ : S52)); (case aB => exact (by (with_reducible refine below_set ?_ GE105.out; with_reducible refine below_set ?_ GE105.out; with_reducible refine below_set ?_ GE105.out; with_reducible refine below_set ?_ GE105.out; with_reducible exact HB.out))); (case aF => exact (fun _ _ => trivial)); (case aO => exact (by (with_reducible repeat (first | apply Kd.R_alloc | apply Kd.R_drewN | apply Kd.R_drew)); exact Kd.R_mono (farC (farC (farC (farC (Kd.R_types HO_104005.out BK105.out (by decide)))))) (fun _ hk => trivial))); (case aS => exact (below_size (by (with_reducible refine below_set ?_ GE105.out; with_reducible refine below_set ?_ GE105.out; with_reducible refine below_set ?_ GE105.out; with_reducible refine below_set ?_ GE105.out; with_reducible exact HB.out)))); (case aL => have := LMc14.out; omega); intro v107 w23 ho hb hg hat; rw [← Ny106.out] at ho; replace BK101 := Aside0.mk (blk_grown (g := gb101) (o := .cells #[.string a0_0, .string a0_1, .string a0_2, .string a0_3, .bool a0_4, .slice (some ad104) l0_5.length c0_5, .slice A0_6 l0_6.length c0_6, .bool a0_7, .bool a0_8, .string a0_9] 87 (0, 0)) (by refine blk_far ?_ NB101_105.out _; refine blk_far ?_ NB101_105.out _; refine blk_far ?_ NB101_105.out _; refine blk_far ?_ NB101_105.out _; exact BK101.out) hg (Kd.R_ne HO_104005.out BK101.out (by decide))); replace BK102 := Aside0.mk (blk_grown (g := gb102) (o := .cells #[.string ⟨#[]⟩, .string ⟨#[]⟩, .string ⟨#[]⟩, .string ⟨#[]⟩, .bool false, .slice none 0 0, .slice none 0 0, .bool false, .bool false, .string ⟨#[]⟩] 33 (0, 0)) (by refine blk_far ?_ NB102_105.out _; refine blk_far ?_ NB102_105.out _; refine blk_far ?_ NB102_105.out _; refine blk_far ?_ NB102_105.out _; exact BK102.out) hg (Kd.R_ne HO_104005.out BK102.out (by decide))); replace BK103 := Aside0.mk (blk_grown (g := gb103) (o := .cells #[.string a0_0, .string a0_1, .string a0_2, .string a0_3, .bool a0_4, u104005, .slice none 0 0, .bool a0_7, .bool a0_8, .string a0_9] 33 (0, 0)) (by refine blk_far ?_ NB103_105.out _; refine blk_far ?_ NB103_105.out _; refine blk_far ?_ NB103_105.out _; refine blk_far ?_ NB103_105.out _; exact BK103.out) hg (Kd.R_ne HO_104005.out BK103.out (by decide))); replace BK105 := Aside0.mk (blk_grown (g := gb105) (o := .cells #[.string ((rd_T110 l0_5 x26_1).f0), .bool ((rd_T110 l0_5 x26_1).f1.f0), .string ((rd_T110 l0_5 x26_1).f1.f1), .int .i64 ((rd_T110 l0_5 x26_1).f2)] 110 (0, 0)) (by refine blk_put (cs := #[.string ((rd_T110 l0_5 x26_1).f0), .bool ((rd_T110 l0_5 x26_1).f1.f0), .string ((rd_T110 l0_5 x26_1).f1.f1), .int .i64 0]) ?_ 3 _ rfl; refine blk_put (cs := #[.string ((rd_T110 l0_5 x26_1).f0), .bool ((rd_T110 l0_5 x26_1).f1.f0), .string ⟨#[]⟩, .int .i64 0]) ?_ 2 _ rfl; refine blk_put (cs := #[.string ((rd_T110 l0_5 x26_1).f0), .bool false, .string ⟨#[]⟩, .int .i64 0]) ?_ 1 _ rfl; refine blk_put (cs := #[.string ⟨#[]⟩, .bool false, .string ⟨#[]⟩, .int .i64 0]) ?_ 0 _ rfl; exact BK105.out) hg (Kd.R_ne HO_104005.out BK105.out (by decide))); have HO108 := Aside0.mk ho; replace HB := Aside0.mk hb; clear HO_104005; clear ho hb hg hat; obtain ⟨Ao24, co24, eo24⟩ := Kd.R_slice HO108.out; subst eo24; obtain ⟨hcz25_0, hcz25_1, hcz25_2, hcz25_3, hcz25_4, hcz25_5, hcz25_6, hcz25_7, hcz25_8, hcz25_9, hfz25_0, hfz25_1, hfz25_2, hfz25_3, hfz25_4, hfz25_5, hfz25_6, hfz25_7, hfz25_8, hfz25_9⟩ := cl10 BK103.out))
       go_roundg k1
       case measure => have := HK1.out; omega
       case rel => exact ⟨(wrap64 (x26_1 + 1)), (y106), (.slice Ao24 y106.length co24), (by rfl), H', ⟨by have := HK1.out; omega⟩, ⟨by (with_reducible repeat (first | apply Kd.R_alloc | apply Kd.R_drewN | apply Kd.R_drew)); exact Kd.R_mono (farC (Kd.R_types HO108.out BK103.out (by decide))) (fun _ hk => trivial)⟩, ⟨by refine blk_far ?_ NB101_103.out _; exact BK101.out⟩, ⟨by refine blk_far ?_ NB102_103.out _; exact BK102.out⟩, ⟨by refine blk_put (cs := #[.string a0_0, .string a0_1, .string a0_2, .string a0_3, .bool a0_4, u104005, .slice none 0 0, .bool a0_7, .bool a0_8, .string a0_9]) ?_ 5 _ rfl; exact BK103.out⟩, ⟨by (with_reducible refine below_set ?_ GE103.out; with_reducible exact HB.out)⟩⟩
      ·rw [if_neg c14] at H
       exact absurd H (by simp)
     ·rw [if_neg c13] at H
      exact absurd H (by simp)
    ·rw [if_neg c12] at H
     exact absurd H (by simp)
   ·rw [if_neg c11] at H
    have c11b0 : decide (x26_1 < (l0_5.length : Int)) = false := decide_eq_false c11
    clear c11
    have H' := Aside0.mk H
    clear H
    have hnb26 := NB101_102.out
    have hnc26 := NB102_101.out
    have hnb27 := NB101_103.out
    have hnc27 := NB103_101.out
    obtain ⟨hcz28_0, hcz28_1, hcz28_2, hcz28_3, hcz28_4, hcz28_5, hcz28_6, hcz28_7, hcz28_8, hcz28_9, hfz28_0, hfz28_1, hfz28_2, hfz28_3, hfz28_4, hfz28_5, hfz28_6, hfz28_7, hfz28_8, hfz28_9⟩ := cl10 BK101.out
    go_wp2
    (try simp only [Act.put, List.setIfInBounds_toArray, List.set_cons_zero, List.set_cons_succ])
    go_loopg [46] k1 (fun kq v46 w' => ∃ (x46_2 : Int) (x104006_2 : List (S56)) (u104006 : Value), v46 = .int .i64 x46_2 ∧ Aside0 (impl_plainAlpine.l1 kq l0_6 (l0_6.length : Int) x46_2 a0_0 a0_1 a0_2 a0_3 a0_4 x104005_1 x104006_2 a0_7 a0_8 a0_9 = some (r1, r2, r3, r4, r5, r6, r7, r8, r9, r10)) ∧ Aside0 (kq ≤ k1) ∧ Aside0 (Kd.R k52 52 w' w.heap.size (fun _ => True) u104005 x104005_1) ∧ Aside0 (Kd.R k56 56 w' w.heap.size (fun _ => True) u104006 x104006_2) ∧ Aside0 (w'.heap[gb101]? = some (.cells #[.string a0_0, .string a0_1, .string a0_2, .string a0_3, .bool a0_4, (.slice A0_5 l0_5.length c0_5), (.slice A0_6 l0_6.length c0_6), .bool a0_7, .bool a0_8, .string a0_9] 87 (0, 0))) ∧ Aside0 (w'.heap[gb102]? = some (.cells #[.string ⟨#[]⟩, .string ⟨#[]⟩, .string ⟨#[]⟩, .string ⟨#[]⟩, .bool false, (.slice none 0 0), (.slice none 0 0), .bool false, .bool false, .string ⟨#[]⟩] 33 (0, 0))) ∧ Aside0 (w'.heap[gb103]? = some (.cells #[.string a0_0, .string a0_1, .string a0_2, .string a0_3, .bool a0_4, u104005, u104006, .bool a0_7, .bool a0_8, .string a0_9] 33 (0, 0))) ∧ Aside0 (Below w.heap.size w w'))
    case atStart => exact ⟨(0), (([] : List (S56))), (.slice none 0 0), (by rfl), H', ⟨Nat.le_refl _⟩, ⟨by (with_reducible repeat (first | apply Kd.R_alloc | apply Kd.R_drewN | apply Kd.R_drew)); exact HO_104005.out⟩, ⟨by exact Kd.R_nil _ _ _ _ _⟩, ⟨by exact BK101.out⟩, ⟨by exact BK102.out⟩, ⟨by exact BK103.out⟩, ⟨by (with_reducible exact HB.out)⟩⟩
    case round =>
     clear H'
     clear c11b0 hcz28_0 hcz28_1 hcz28_2 hcz28_3 hcz28_4 hcz28_5 hcz28_6 hcz28_7 hcz28_8 hcz28_9 hfz28_0 hfz28_1 hfz28_2 hfz28_3 hfz28_4 hfz28_5 hfz28_6 hfz28_7 hfz28_8 hfz28_9
     obtain ⟨x46_2, x104006_2, u104006, rfl, HA, HK2, HO_104005, HO_104006, BK101, BK102, BK103, HB⟩ := hrel
     cases gk with
     | zero => exact absurd HA.out (by simp [impl_plainAlpine.l1])
     | succ k2 =>
      have H := HA.out
      clear HA
      simp only [impl_plainAlpine.l1] at H
      by_cases c29 : x46_2 < (l0_6.length : Int)
      ·rw [if_pos c29] at H
       have c29b0 : decide (x46_2 < (l0_6.length : Int)) = true := decide_eq_true c29
       clear c29
       by_cases c30 : 0 ≤ x46_2
       ·rw [if_pos c30] at H
        have c30b0 : decide (0 ≤ x46_2) = true := decide_eq_true c30
        clear c30
        by_cases c31 : x46_2 < (l0_6.length : Int)
        ·rw [if_pos c31] at H
         have c31b0 : decide (x46_2 < (l0_6.length : Int)) = true := decide_eq_true c31
         clear c31
         by_cases c32 : x104006_2.length < 4398046511104
         ·rw [if_pos c32] at H
          have LMc32 := Aside0.mk c32
          clear c32
          obtain ⟨y111, hy111⟩ : ∃ y_ : List (S56), y_ = (x104006_2 ++ [(⟨(rd_T112 l0_6 x46_2).f0, (⟨(rd_T112 l0_6 x46_2).f1.f0, (rd_T112 l0_6 x46_2).f1.f1⟩ : S31)⟩ : S56)]) := ⟨_, rfl⟩
          replace H : (impl_plainAlpine.l1 k2 l0_6 (l0_6.length : Int) (wrap64 (x46_2 + 1)) a0_0 a0_1 a0_2 a0_3 a0_4 x104005_1 y111 a0_7 a0_8 a0_9) = some (r1, r2, r3, r4, r5, r6, r7, r8, r9, r10) := by (rw [hy111]; with_reducible exact H)
          have Ny111 := Aside0.mk hy111
          clear hy111
          have H' := Aside0.mk H
          clear H
          have p109 : 0 ≤ (x46_2 : Int) := of_decide_eq_true (by (with_reducible assumption))
          have q109 : x46_2 < (l0_6.length : Int) := of_decide_eq_true (by (with_reducible assumption))
          obtain ⟨ad109, e109, hx109_0, hx109_1, hx109_2⟩ := at_T112 HR0_6.out x46_2 p109 q109
          cases e109
          replace hx109_0 := (HB.out.cell (World.block_lt_of_cell? w _ hx109_0)).trans hx109_0
          replace hx109_1 := (HB.out.cell (World.block_lt_of_cell? w _ hx109_1)).trans hx109_1
          replace hx109_2 := (HB.out.cell (World.block_lt_of_cell? w _ hx109_2)).trans hx109_2
          replace p109 := eq_true p109
          replace q109 := eq_true q109
          go_wp2_with (first | ((with_reducible refine gate_dst (N := 7) rfl ?_); refine box_event ?hg (N := 7) ?hd (cs := #[.int .i64 0, .bool false, .string ⟨#[]⟩]) (t := 112) ?hr ?_; (case hd => rfl); (case hg => rfl); (case hr => first | (go_simp; done) | (go_simp; rfl)); intro gb110 hg w33 hbox hb; have n0_ := Aside0.mk (Kd.R_below (by (with_reducible repeat (first | apply Kd.R_alloc | apply Kd.R_drewN | apply Kd.R_drew)); exact HO_104005.out) hb); have n1_ := Aside0.mk (Kd.R_below (by (with_reducible repeat (first | apply Kd.R_alloc | apply Kd.R_drewN | apply Kd.R_drew)); exact HO_104006.out) hb); have n2_ := Aside0.mk (blk_below (g := gb101) (o := .cells #[.string a0_0, .string a0_1, .string a0_2, .string a0_3, .bool a0_4, .slice A0_5 l0_5.length c0_5, .slice (some ad109) l0_6.length c0_6, .bool a0_7, .bool a0_8, .string a0_9] 87 (0, 0)) (by exact BK101.out) hb); have n3_ := Aside0.mk (blk_below (g := gb102) (o := .cells #[.string ⟨#[]⟩, .string ⟨#[]⟩, .string ⟨#[]⟩, .string ⟨#[]⟩, .bool false, .slice none 0 0, .slice none 0 0, .bool false, .bool false, .string ⟨#[]⟩] 33 (0, 0)) (by exact BK102.out) hb); have n4_ := Aside0.mk (blk_below (g := gb103) (o := .cells #[.string a0_0, .string a0_1, .string a0_2, .string a0_3, .bool a0_4, u104005, u104006, .bool a0_7, .bool a0_8, .string a0_9] 33 (0, 0)) (by exact BK103.out) hb); have n5_ := Aside0.mk (below_step (by (with_reducible exact HB.out)) hb); have n6_ := Aside0.mk hbox; have n7_ := Aside0.mk ((by rw [hg]; exact (below_size (by (with_reducible exact HB.out))) : w.heap.size ≤ gb110)); have n8_ := Aside0.mk ((by rw [hg]; exact (below_size (by (with_reducible exact HB.out))) : w.heap.size ≤ gb110)); have n9_ := Aside0.mk ((by rw [hg]; exact Nat.ne_of_lt (blk_lt (g := gb101) (o := .cells #[.string a0_0, .string a0_1, .string a0_2, .string a0_3, .bool a0_4, .slice A0_5 l0_5.length c0_5, .slice (some ad109) l0_6.length c0_6, .bool a0_7, .bool a0_8, .string a0_9] 87 (0, 0)) (by exact BK101.out)) : gb101 ≠ gb110)); have n10_ := Aside0.mk ((by rw [hg]; exact Nat.ne_of_gt (blk_lt (g := gb101) (o := .cells #[.string a0_0, .string a0_1, .string a0_2, .string a0_3, .bool a0_4, .slice A0_5 l0_5.length c0_5, .slice (some ad109) l0_6.length c0_6, .bool a0_7, .bool a0_8, .string a0_9] 87 (0, 0)) (by exact BK101.out)) : gb110 ≠ gb101)); have n11_ := Aside0.mk ((by rw [hg]; exact Nat.ne_of_lt (blk_lt (g := gb102) (o := .cells #[.string ⟨#[]⟩, .string ⟨#[]⟩, .string ⟨#[]⟩, .string ⟨#[]⟩, .bool false, .slice none 0 0, .slice none 0 0, .bool false, .bool false, .string ⟨#[]⟩] 33 (0, 0)) (by exact BK102.out)) : gb102 ≠ gb110)); have n12_ := Aside0.mk ((by rw [hg]; exact Nat.ne_of_gt (blk_lt (g := gb102) (o := .cells #[.string ⟨#[]⟩, .string ⟨#[]⟩, .string ⟨#[]⟩, .string ⟨#[]⟩, .bool false, .slice none 0 0, .slice none 0 0, .bool false, .bool false, .string ⟨#[]⟩] 33 (0, 0)) (by exact BK102.out)) : gb110 ≠ gb102)); have n13_ := Aside0.mk ((by rw [hg]; exact Nat.ne_of_lt (blk_lt (g := gb103) (o := .cells #[.string a0_0, .string a0_1, .string a0_2, .string a0_3, .bool a0_4, u104005, u104006, .bool a0_7, .bool a0_8, .string a0_9] 33 (0, 0)) (by exact BK103.out)) : gb103 ≠ gb110)); have n14_ := Aside0.mk ((by rw [hg]; exact Nat.ne_of_gt (blk_lt (g := gb103) (o := .cells #[.string a0_0, .string a0_1, .string a0_2, .string a0_3, .bool a0_4, u104005, u104006, .bool a0_7, .bool a0_8, .string a0_9] 33 (0, 0)) (by exact BK103.out)) : gb110 ≠ gb103)); clear HO_104005; clear HO_104006; clear BK101; clear BK102; clear BK103; clear HB; have HO_104005 := n0_; have HO_104006 := n1_; have BK101 := n2_; have BK102 := n3_; have BK103 := n4_; have HB := n5_; have BK110 := n6_; have GW110 := n7_; have GE110 := n8_; have NB101_110 := n9_; have NB110_101 := n10_; have NB102_110 := n11_; have NB110_102 := n12_; have NB103_110 := n13_; have NB110_103 := n14_; clear n0_ n1_ n2_ n3_ n4_ n5_ n6_ n7_ n8_ n9_ n10_ n11_ n12_ n13_ n14_; clear hb hbox hg; have hnb34 := NB110_101.out; have hnc34 := NB101_110.out; have hnb35 := NB110_102.out; have hnc35 := NB102_110.out; have hnb36 := NB110_103.out; have hnc36 := NB103_110.out; obtain ⟨hcz37_0, hcz37_1, hcz37_2, hfz37_0, hfz37_1, hfz37_2⟩ := cl3 BK110.out; have hnb38 := NB103_101.out; have hnc38 := NB101_103.out; have hnb39 := NB103_102.out; have hnc39 := NB102_103.out; obtain ⟨hcz40_0, hcz40_1, hcz40_2, hcz40_3, hcz40_4, hcz40_5, hcz40_6, hcz40_7, hcz40_8, hcz40_9, hfz40_0, hfz40_1, hfz40_2, hfz40_3, hfz40_4, hfz40_5, hfz40_6, hfz40_7, hfz40_8, hfz40_9⟩ := cl10 BK103.out) | ((with_reducible refine gate_builtin (b := .append) (xs := #[.tmp 51, .tmp 57]) rfl ?_); at_builtin; refine Kd.R_append k56 (w0 := w) w.heap.size rfl (.tmp 51) (.tmp 57) 29 56 (.agg #[(.int .i64 0), (.bool false), (.string ⟨#[]⟩)]) 32 rfl Tryz.underlying29 info56 rfl (by decide) (by omega) u104006 x104006_2 (⟨(rd_T112 l0_6 x46_2).f0, (⟨(rd_T112 l0_6 x46_2).f1.f0, (rd_T112 l0_6 x46_2).f1.f1⟩ : S31)⟩ : S56) [.int .i64 ((rd_T112 l0_6 x46_2).f0), .bool ((rd_T112 l0_6 x46_2).f1.f0), .string ((rd_T112 l0_6 x46_2).f1.f1)] (fun _ => True) (fun _ => False) rfl (by (go_simp; done)) ?aP (fun _ hk => hk.elim) ?aF ?aO ?aB ?aS ?aL ?_; (case aP => exact k56_mkM _ _ _ (⟨(rd_T112 l0_6 x46_2).f0, (⟨(rd_T112 l0_6 x46_2).f1.f0, (rd_T112 l0_6 x46_2).f1.f1⟩ : S31)⟩ : S56)); (case aB => exact (by (with_reducible refine below_set ?_ GE110.out; with_reducible refine below_set ?_ GE110.out; with_reducible refine below_set ?_ GE110.out; with_reducible exact HB.out))); (case aF => exact (fun _ _ => trivial)); (case aO => exact (by (with_reducible repeat (first | apply Kd.R_alloc | apply Kd.R_drewN | apply Kd.R_drew)); exact Kd.R_mono (farC (farC (farC (Kd.R_types HO_104006.out BK110.out (by decide))))) (fun _ hk => trivial))); (case aS => exact (below_size (by (with_reducible refine below_set ?_ GE110.out; with_reducible refine below_set ?_ GE110.out; with_reducible refine below_set ?_ GE110.out; with_reducible exact HB.out)))); (case aL => have := LMc32.out; omega); intro v112 w41 ho hb hg hat; rw [← Ny111.out] at ho; replace HO_104005 := Aside0.mk (Kd.R_over' (by (with_reducible repeat (first | apply Kd.R_alloc | apply Kd.R_drewN | apply Kd.R_drew)); exact (Kd.R_mono (farC (farC (farC (Kd.R_types HO_104005.out BK110.out (by decide))))) (fun _ h_ => h_.1))) (Kd.R_typed (by (with_reducible repeat (first | apply Kd.R_alloc | apply Kd.R_drewN | apply Kd.R_drew)); exact (Kd.R_mono (farC (farC (farC (Kd.R_types HO_104006.out BK110.out (by decide))))) (fun _ h_ => h_.1)))) (by decide) hg); replace BK101 := Aside0.mk (blk_grown (g := gb101) (o := .cells #[.string a0_0, .string a0_1, .string a0_2, .string a0_3, .bool a0_4, .slice A0_5 l0_5.length c0_5, .slice (some ad109) l0_6.length c0_6, .bool a0_7, .bool a0_8, .string a0_9] 87 (0, 0)) (by refine blk_far ?_ NB101_110.out _; refine blk_far ?_ NB101_110.out _; refine blk_far ?_ NB101_110.out _; exact BK101.out) hg (Kd.R_ne HO_104006.out BK101.out (by decide))); replace BK102 := Aside0.mk (blk_grown (g := gb102) (o := .cells #[.string ⟨#[]⟩, .string ⟨#[]⟩, .string ⟨#[]⟩, .string ⟨#[]⟩, .bool false, .slice none 0 0, .slice none 0 0, .bool false, .bool false, .string ⟨#[]⟩] 33 (0, 0)) (by refine blk_far ?_ NB102_110.out _; refine blk_far ?_ NB102_110.out _; refine blk_far ?_ NB102_110.out _; exact BK102.out) hg (Kd.R_ne HO_104006.out BK102.out (by decide))); replace BK103 := Aside0.mk (blk_grown (g := gb103) (o := .cells #[.string a0_0, .string a0_1, .string a0_2, .string a0_3, .bool a0_4, u104005, u104006, .bool a0_7, .bool a0_8, .string a0_9] 33 (0, 0)) (by refine blk_far ?_ NB103_110.out _; refine blk_far ?_ NB103_110.out _; refine blk_far ?_ NB103_110.out _; exact BK103.out) hg (Kd.R_ne HO_104006.out BK103.out (by decide))); replace BK110 := Aside0.mk (blk_grown (g := gb110) (o := .cells #[.int .i64 ((rd_T112 l0_6 x46_2).f0), .bool ((rd_T112 l0_6 x46_2).f1.f0), .string ((rd_T112 l0_6 x46_2).f1.f1)] 112 (0, 0)) (by refine blk_put (cs := #[.int .i64 ((rd_T112 l0_6 x46_2).f0), .bool ((rd_T112 l0_6 x46_2).f1.f0), .string ⟨#[]⟩]) ?_ 2 _ rfl; refine blk_put (cs := #[.int .i64 ((rd_T112 l0_6 x46_2).f0), .bool false, .string ⟨#[]⟩]) ?_ 1 _ rfl; refine blk_put (cs := #[.int .i64 0, .bool false, .string ⟨#[]⟩]) ?_ 0 _ rfl; exact BK110.out) hg (Kd.R_ne HO_104006.out BK110.out (by decide))); have HO113 := Aside0.mk ho; replace HB := Aside0.mk hb; clear HO_104006; clear ho hb hg hat; obtain ⟨Ao42, co42, eo42⟩ := Kd.R_slice HO113.out; subst eo42; obtain ⟨hcz43_0, hcz43_1, hcz43_2, hcz43_3, hcz43_4, hcz43_5, hcz43_6, hcz43_7, hcz43_8, hcz43_9, hfz43_0, hfz43_1, hfz43_2, hfz43_3, hfz43_4, hfz43_5, hfz43_6, hfz43_7, hfz43_8, hfz43_9⟩ := cl10 BK103.out))
          go_roundg k2
          case measure => have := HK1.out; have := HK2.out; omega
          case rel => exact ⟨(wrap64 (x46_2 + 1)), (y111), (.slice Ao42 y111.length co42), (by rfl), H', ⟨by have := HK1.out; have := HK2.out; omega⟩, ⟨by (with_reducible repeat (first | apply Kd.R_alloc | apply Kd.R_drewN | apply Kd.R_drew)); exact Kd.R_mono (farC (Kd.R_types HO_104005.out BK103.out (by decide))) (fun _ hk => trivial)⟩, ⟨by (with_reducible repeat (first | apply Kd.R_alloc | apply Kd.R_drewN | apply Kd.R_drew)); exact Kd.R_mono (farC (Kd.R_types HO113.out BK103.out (by decide))) (fun _ hk => trivial)⟩, ⟨by refine blk_far ?_ NB101_103.out _; exact BK101.out⟩, ⟨by refine blk_far ?_ NB102_103.out _; exact BK102.out⟩, ⟨by refine blk_put (cs := #[.string a0_0, .string a0_1, .string a0_2, .string a0_3, .bool a0_4, u104005, u104006, .bool a0_7, .bool a0_8, .string a0_9]) ?_ 6 _ rfl; exact BK103.out⟩, ⟨by (with_reducible refine below_set ?_ GE103.out; with_reducible exact HB.out)⟩⟩
         ·rw [if_neg c32] at H
          exact absurd H (by simp)
        ·rw [if_neg c31] at H
         exact absurd H (by simp)
       ·rw [if_neg c30] at H
        exact absurd H (by simp)
      ·rw [if_neg c29] at H
       have c29b0 : decide (x46_2 < (l0_6.length : Int)) = false := decide_eq_false c29
       clear c29
       simp only [Option.some.injEq, Prod.mk.injEq] at H
       obtain ⟨rfl, rfl, rfl, rfl, rfl, rfl, rfl, rfl, rfl, rfl⟩ := H
       have hnb44 := NB103_101.out
       have hnc44 := NB101_103.out
       have hnb45 := NB103_102.out
       have hnc45 := NB102_103.out
       obtain ⟨hcz46_0, hcz46_1, hcz46_2, hcz46_3, hcz46_4, hcz46_5, hcz46_6, hcz46_7, hcz46_8, hcz46_9, hfz46_0, hfz46_1, hfz46_2, hfz46_3, hfz46_4, hfz46_5, hfz46_6, hfz46_7, hfz46_8, hfz46_9⟩ := cl10 BK103.out
       have hnb47 := NB102_101.out
       have hnc47 := NB101_102.out
       obtain ⟨hcz48_0, hcz48_1, hcz48_2, hcz48_3, hcz48_4, hcz48_5, hcz48_6, hcz48_7, hcz48_8, hcz48_9, hfz48_0, hfz48_1, hfz48_2, hfz48_3, hfz48_4, hfz48_5, hfz48_6, hfz48_7, hfz48_8, hfz48_9⟩ := cl10 BK102.out
       obtain ⟨Ao49, co49, eo49⟩ := Kd.R_slice HO_104005.out
       subst eo49
       obtain ⟨Ao50, co50, eo50⟩ := Kd.R_slice HO_104006.out
       subst eo50
       go_wp2
       refine bodyPost_ret (results_cell_row rfl _ _ gb102 33 #[.string a0_0, .string a0_1, .string a0_2, .string a0_3, .bool a0_4, .slice Ao49 x104005_1.length co49, .slice Ao50 x104006_2.length co50, .bool a0_7, .bool a0_8, .string a0_9] (0, 0) _ rfl (by refine blk_put (cs := #[.string a0_0, .string a0_1, .string a0_2, .string a0_3, .bool a0_4, .slice Ao49 x104005_1.length co49, .slice Ao50 x104006_2.length co50, .bool a0_7, .bool a0_8, .string ⟨#[]⟩]) ?_ 9 _ rfl; refine blk_put (cs := #[.string a0_0, .string a0_1, .string a0_2, .string a0_3, .bool a0_4, .slice Ao49 x104005_1.length co49, .slice Ao50 x104006_2.length co50, .bool a0_7, .bool false, .string ⟨#[]⟩]) ?_ 8 _ rfl; refine blk_put (cs := #[.string a0_0, .string a0_1, .string a0_2, .string a0_3, .bool a0_4, .slice Ao49 x104005_1.length co49, .slice Ao50 x104006_2.length co50, .bool false, .bool false, .string ⟨#[]⟩]) ?_ 7 _ rfl; refine blk_put (cs := #[.string a0_0, .string a0_1, .string a0_2, .string a0_3, .bool a0_4, .slice Ao49 x104005_1.length co49, .slice none 0 0, .bool false, .bool false, .string ⟨#[]⟩]) ?_ 6 _ rfl; refine blk_put (cs := #[.string a0_0, .string a0_1, .string a0_2, .string a0_3, .bool a0_4, .slice none 0 0, .slice none 0 0, .bool false, .bool false, .string ⟨#[]⟩]) ?_ 5 _ rfl; refine blk_put (cs := #[.string a0_0, .string a0_1, .string a0_2, .string a0_3, .bool false, .slice none 0 0, .slice none 0 0, .bool false, .bool false, .string ⟨#[]⟩]) ?_ 4 _ rfl; refine blk_put (cs := #[.string a0_0, .string a0_1, .string a0_2, .string ⟨#[]⟩, .bool false, .slice none 0 0, .slice none 0 0, .bool false, .bool false, .string ⟨#[]⟩]) ?_ 3 _ rfl; refine blk_put (cs := #[.string a0_0, .string a0_1, .string ⟨#[]⟩, .string ⟨#[]⟩, .bool false, .slice none 0 0, .slice none 0 0, .bool false, .bool false, .string ⟨#[]⟩]) ?_ 2 _ rfl; refine blk_put (cs := #[.string a0_0, .string ⟨#[]⟩, .string ⟨#[]⟩, .string ⟨#[]⟩, .bool false, .slice none 0 0, .slice none 0 0, .bool false, .bool false, .string ⟨#[]⟩]) ?_ 1 _ rfl; refine blk_put (cs := #[.string ⟨#[]⟩, .string ⟨#[]⟩, .string ⟨#[]⟩, .string ⟨#[]⟩, .bool false, .slice none 0 0, .slice none 0 0, .bool false, .bool false, .string ⟨#[]⟩]) ?_ 0 _ rfl; exact BK102.out) Tryz.underlying33 rfl (by kernel_rfl)) rfl ?_
       exact ⟨_, _, by rfl, by (with_reducible repeat (first | apply Kd.R_alloc | apply Kd.R_drewN | apply Kd.R_drew)); exact Kd.R_mono (farC (farC (farC (farC (farC (farC (farC (farC (farC (farC (Kd.R_types HO_104005.out BK102.out (by decide)))))))))))) (fun _ hk => trivial), by (with_reducible repeat (first | apply Kd.R_alloc | apply Kd.R_drewN | apply Kd.R_drew)); exact Kd.R_mono (farC (farC (farC (farC (farC (farC (farC (farC (farC (farC (Kd.R_types HO_104006.out BK102.out (by decide)))))))))))) (fun _ hk => trivial), by repeat (first | (with_reducible first | exact HB.out | apply below_alloc | apply pw_below_drewN | apply below_drew1 | refine below_set ?_ GE101.out | refine below_set ?_ GE102.out | refine below_set ?_ GE103.out) | exact HB.out)⟩
end Go.Proofs.YtapaijpglfmfgaaGreatDoor.Q
end
section -- AU
namespace Go.Proofs.YtapaijpglfmfgaaGreatDoorG
open Go.RowKit Go.Proofs.YtapaijpglfmfgaaGreatDoorH Go.Proofs.YtapaijpglfmfgaaGreatDoorB Go.Proofs.YtapaijpglfmfgaaGreatDoorM Go.Proofs.YtapaijpglfmfgaaGreatDoorP Go.Proofs.YtapaijpglfmfgaaGreatDoor.Q Go.Proofs.YtapaijpglfmfgaaGreatDoorW.PrintWords Go.Proofs.YtapaijpglfmfgaaGreatDoorW.PrintLast
set_option linter.unusedVariables false
set_option linter.unusedSimpArgs false
def pNum (y : S110) : S52 := ⟨y.f0, ⟨y.f1.f0, y.f1.f1⟩, y.f2⟩
def pSuf (y : S112) : S56 := ⟨y.f0, ⟨y.f1.f0, y.f1.f1⟩⟩
theorem rd_at {α : Type} (z : α) (l : List α) (i : Nat) (h : i < l.length) : l.getD ((i : Int)).toNat z = l[i] := by
 rw [Int.toNat_natCast, List.getD_eq_getElem?_getD, List.getElem?_eq_getElem h]
 rfl
theorem plain_l1 (ss : List S112) (hs : ss.length ≤ 1000000) (o r l h : ByteArray) (i : Bool) (ys : List S52) (hb ng : Bool) (m : ByteArray) : ∀ (n k : Nat) (acc : List S56), ss.length - k = n → k ≤ ss.length → acc.length ≤ k →
  Ev (fun q => impl_plainAlpine.l1 q ss (ss.length : Int) (k : Int) o r l h i ys acc hb ng m) (o, r, l, h, i, ys, acc ++ (ss.drop k).map pSuf, hb, ng, m) := by
 intro n
 induction n with
 | zero =>
  intro k acc hn hk ha
  refine Ev.succ ?_
  simp only [impl_plainAlpine.l1]
  refine Ev.neg (fun _ => by first | omega | assumption | nofun) ?_
  refine Ev.eq (Ev.now _) ?_
  rw [List.drop_of_length_le (by omega), List.map_nil, List.append_nil]
 | succ n ih =>
  intro k acc hn hk ha
  have hlt : k < ss.length := by omega
  refine Ev.succ ?_
  simp only [impl_plainAlpine.l1]
  refine Ev.pos (fun _ => by first | omega | trivial | assumption) ?_
  refine Ev.pos (fun _ => by first | omega | trivial | assumption) ?_
  refine Ev.pos (fun _ => by first | omega | trivial | assumption) ?_
  refine Ev.pos (fun _ => by first | omega | trivial | assumption) ?_
  rw [w64 (by omega) (by omega)]
  refine Ev.eq (ih (k + 1) _ (by omega) (by omega) (by simp; omega)) ?_
  have e : rd_T112 ss (k : Int) = ss[k] := rd_at _ _ _ hlt
  rw [e, List.drop_eq_getElem_cons hlt, List.map_cons, List.append_assoc]
  rfl
theorem plain_l0 (ns : List S110) (ss : List S112) (hn1 : ns.length ≤ 1000000) (hs : ss.length ≤ 1000000) (o r l h : ByteArray) (i : Bool) (hb ng : Bool) (m : ByteArray) : ∀ (n k : Nat) (acc : List S52), ns.length - k = n → k ≤ ns.length → acc.length ≤ k →
  Ev (fun q => impl_plainAlpine.l0 q ns (ns.length : Int) (k : Int) o r l h i ns ss hb ng m o r l h i acc hb ng m) (o, r, l, h, i, acc ++ (ns.drop k).map pNum, ss.map pSuf, hb, ng, m) := by
 intro n
 induction n with
 | zero =>
  intro k acc hn hk ha
  refine Ev.succ ?_
  simp only [impl_plainAlpine.l0]
  refine Ev.neg (fun _ => by first | omega | assumption | nofun) ?_
  refine Ev.eq (plain_l1 ss hs o r l h i acc hb ng m _ 0 [] rfl (Nat.zero_le _) (Nat.le_refl _)) ?_
  rw [List.drop_zero, List.nil_append, show ns.drop k = [] from List.drop_of_length_le (by omega), List.map_nil, List.append_nil]
 | succ n ih =>
  intro k acc hn hk ha
  have hlt : k < ns.length := by omega
  refine Ev.succ ?_
  simp only [impl_plainAlpine.l0]
  refine Ev.pos (fun _ => by first | omega | trivial | assumption) ?_
  refine Ev.pos (fun _ => by first | omega | trivial | assumption) ?_
  refine Ev.pos (fun _ => by first | omega | trivial | assumption) ?_
  refine Ev.pos (fun _ => by first | omega | trivial | assumption) ?_
  rw [w64 (by omega) (by omega)]
  refine Ev.eq (ih (k + 1) _ (by omega) (by omega) (by simp; omega)) ?_
  have e : rd_T110 ns (k : Int) = ns[k] := rd_at _ _ _ hlt
  rw [e, List.drop_eq_getElem_cons hlt, List.map_cons, List.append_assoc]
  rfl
theorem plain_ev (ns : List S110) (ss : List S112) (hn1 : ns.length ≤ 1000000) (hs : ss.length ≤ 1000000) (o r l h : ByteArray) (i hb ng : Bool) (m : ByteArray) :
  Ev (fun q => impl_plainAlpine.f q o r l h i ns ss hb ng m) (o, r, l, h, i, ns.map pNum, ss.map pSuf, hb, ng, m) := by
 have h1 := plain_l0 ns ss hn1 hs o r l h i hb ng m _ 0 [] rfl (Nat.zero_le _) (Nat.le_refl _)
 simpa [impl_plainAlpine.f] using h1
def numsA (c : List (List Int)) : List S52 := c.zipIdx.map fun p => ⟨strOfNums p.1, ⟨false, magB (decL p.1)⟩, (p.2 : Int)⟩
def sufsA (s : List (List Int × List Int)) : List S56 := s.map fun x => ⟨(wgt x.1 : Int), ⟨false, magB (decL x.2)⟩⟩
def impl_AlpineParse.f (a0 : ByteArray) : Option (ByteArray × ByteArray × ByteArray × ByteArray × Bool × List S52 × List S56 × Bool × Bool × ByteArray × Bool) := if AOk a0 then
 some (a0, strOfNums (parseP (bytesOf a0)).r, strOfNums (parseP (bytesOf a0)).l, strOfNums (parseP (bytesOf a0)).h, (parseP (bytesOf a0)).i, numsA (parseP (bytesOf a0)).c, sufsA (parseP (bytesOf a0)).s, true, false, magB (decL (parseP (bytesOf a0)).b), true) else none
theorem nums_told {l : List Nm} {c : List (List Int)} (h : l.map (·.o) = c.map strOfNums) (hn : ∀ y ∈ l, y.n = dv y.o y.o.size) (hc : ∀ d ∈ c, ∀ x ∈ d, 0 ≤ x ∧ x ≤ 255) : (numsT l).map pNum = numsA c := by
  have e1 : ∀ (l : List Nm) (k : Nat), (∀ y ∈ l, y.n = dv y.o y.o.size) → (l.zipIdx k).map (fun p => pNum (tnN p.1 p.2)) = ((l.map (·.o)).zipIdx k).map (fun p => (⟨p.1, ⟨false, magB (dv p.1 p.1.size)⟩, (p.2 : Int)⟩ : S52)) := by
    intro l
    induction l with
    | nil => intro k _; rfl
    | cons y l ih =>
      intro k hy
      have e := hy y List.mem_cons_self
      simp only [List.map_cons, List.zipIdx_cons, List.map_cons]
      rw [ih (k + 1) (fun z hz => hy z (List.mem_cons_of_mem _ hz))]
      congr 1
      show pNum (tnN y k) = _
      unfold pNum tnN
      rw [e]
  have e2 : ∀ (c : List (List Int)) (k : Nat), (∀ d ∈ c, ∀ x ∈ d, 0 ≤ x ∧ x ≤ 255) → ((c.map strOfNums).zipIdx k).map (fun p => (⟨p.1, ⟨false, magB (dv p.1 p.1.size)⟩, (p.2 : Int)⟩ : S52)) = (c.zipIdx k).map (fun p => (⟨strOfNums p.1, ⟨false, magB (decL p.1)⟩, (p.2 : Int)⟩ : S52)) := by
    intro c
    induction c with
    | nil => intro k _; rfl
    | cons d c ih =>
      intro k hd
      simp only [List.map_cons, List.zipIdx_cons, List.map_cons]
      rw [ih (k + 1) (fun z hz => hd z (List.mem_cons_of_mem _ hz)), dv_str (hd d List.mem_cons_self)]
  unfold numsT numsA
  rw [List.map_map]
  have := e1 l 0 hn
  rw [h, e2 c 0 hc] at this
  exact this
theorem sufs_told2 {l : List Sx} {s : List (List Int × List Int)} (h : sxTold l = sxWant (s.map convS)) (hd : ∀ x ∈ s, (∀ c ∈ x.2, isD c = true) ∧ x.2.length ≤ 1000000) : (sufsT l).map pSuf = sufsA s := by
 have e1 : (sufsT l).map pSuf = (sxTold l).map (fun p => (⟨p.1, ⟨false, magB p.2⟩⟩ : S56)) := by
  unfold sufsT sxTold
  rw [List.map_map, List.map_map]
  rfl
 rw [e1, h]
 unfold sufsA sxWant
 rw [List.map_map, List.map_map]
 refine List.map_congr_left (fun x hx => ?_)
 have := (or0_good (hd x hx).1 (hd x hx).2).2.2
 show (⟨(convS x).1, ⟨false, magB (dv (convS x).2 (convS x).2.size)⟩⟩ : S56) = _
 unfold convS
 simp only
 rw [this]
theorem AVAt.lens {w : World} {v : Value} {x : AV} (h : AVAt w v x) : x.c.length ≤ 1000000 ∧ x.s.length ≤ 1000000 := by
 obtain ⟨cv, sv, a, _, h1, h2, _⟩ := h
 obtain ⟨_, _, _, k1, _⟩ := h1
 obtain ⟨_, _, _, k2, _⟩ := h2
 exact ⟨k1, k2⟩
set_option maxRecDepth 100000 in
set_option maxHeartbeats 4000000 in
theorem parseImpl_ (w : World) (s : ByteArray) (p : AP) (q : Nat) (hGL : GLe w) (h0 : parseA q s = some p) :
  Calls Tryz.prog 14 #[.string s] w fun e w' => ∃ (x : AV) (v5 v6 : Value), Told x p ∧ e = .returned (.tuple #[.agg #[.string x.o, .string x.r, .string x.l, .string x.h, .bool x.i, v5, v6, .bool true, .bool false, .string (magB x.b)], .bool true]) ∧
   Kd.R k52 52 w' w.heap.size (fun _ => True) v5 ((numsT x.c).map pNum) ∧ Kd.R k56 56 w' w.heap.size (fun _ => True) v6 ((sufsT x.s).map pSuf) ∧ Below w.heap.size w w' := by
 have HP := Aside0.mk (fun (W : World) (h : Below w.heap.size w W) => parse_ W s p q (hGL.lt h) h0)
 have HB := Aside0.mk (Below.refl w.heap.size w)
 have G0 := Aside0.mk (blk_new w (.cells #[.string ⟨#[]⟩, .string ⟨#[]⟩, .string ⟨#[]⟩, .string ⟨#[]⟩, .bool false, .slice none 0 0, .slice none 0 0, .bool false, .bool false, .string ⟨#[]⟩] 33))
 clear hGL h0
 go_enter Tryz.func14, Tryz.ntmps14
 go_wp2_with (first | (go_at_call 30; (with_reducible refine (HP.out _ (below_alloc HB.out _)).mono ?_); rintro e' w1 ⟨u, y, rfl, hy, hty, hb⟩; have HY := Aside0.mk hy; have HYL := Aside0.mk hy.lens; obtain ⟨p3, c3, p4, c4, a', e⟩ := hy.form; unfold AVv at e; subst e; have HTY := Aside0.mk hty; have B1 := Aside0.mk (below_step (below_alloc HB.out _) hb); have G1 := Aside0.mk (blk_below G0.out hb); have xx := fun j : Nat => blk_cell (blk_new w1 (.cells #[.string y.o, .bool y.i, .string y.r, .slice p3 y.c.length c3, .string y.l, .slice p4 y.s.length c4, .string y.h, .pointer (some ⟨a', 0, none⟩)] 71)) j; clear hy hty hb) | (go_at_call 37; (with_reducible refine (told_ _ _ y (HY.out.below (below_alloc (Below.refl _ _) _))).mono ?_); rintro e' w2 ⟨v5, v6, rfl, ho5, ho6, hb⟩; obtain ⟨A5, c5, rfl⟩ := Kd.R_slice ho5; obtain ⟨A6, c6, rfl⟩ := Kd.R_slice ho6; have O5 := Aside0.mk ho5; have O6 := Aside0.mk ho6; have B2 := Aside0.mk (below_step (below_alloc B1.out _) hb); have G2 := Aside0.mk (blk_below (blk_alloc G1.out _) hb); clear ho5 ho6 hb) | (go_at_call 36; obtain ⟨q2, hq2⟩ := plain_ev (numsT y.c) (sufsT y.s) (by rw [numsT_len]; exact HYL.out.1) (by unfold sufsT; rw [List.length_map]; exact HYL.out.2) y.o y.r y.l y.h y.i true false (magB y.b); (with_reducible refine (impl_plainAlpine.calls q2 y.o y.r y.l y.h y.i A5 c5 (numsT y.c) A6 c6 (sufsT y.s) true false (magB y.b) _ _ _ _ _ _ _ _ _ _ _ (Kd.R_reads' O5.out).2.2 (Kd.R_reads' O5.out).2.1 (Kd.R_reads' O6.out).2.2 (Kd.R_reads' O6.out).2.1 (hq2 q2 (Nat.le_refl _))).mono ?_); rintro e' w3 ⟨v7, v8, rfl, ho7, ho8, hb⟩; obtain ⟨A7, c7, rfl⟩ := Kd.R_slice ho7; obtain ⟨A8, c8, rfl⟩ := Kd.R_slice ho8; have B3 := Aside0.mk (below_step B2.out hb); have G3 := Aside0.mk (blk_below G2.out hb); have zF := fun j : Nat => blk_cell G3.out j; have zf := fun j : Nat => blk_frozen G3.out j; have O7 := Aside0.mk (Kd.R_lower ho7 B2.out.size); have O8 := Aside0.mk (Kd.R_lower ho8 B2.out.size); clear ho7 ho8 hb hq2))
 (try simp only [Exit.inBlock, Exit.then])
 have p0 := blk_put (cs' := #[.string y.o, .string ⟨#[]⟩, .string ⟨#[]⟩, .string ⟨#[]⟩, .bool false, .slice none 0 0, .slice none 0 0, .bool false, .bool false, .string ⟨#[]⟩]) G3.out 0 (.string y.o) rfl
 have p1 := blk_put (cs' := #[.string y.o, .string y.r, .string ⟨#[]⟩, .string ⟨#[]⟩, .bool false, .slice none 0 0, .slice none 0 0, .bool false, .bool false, .string ⟨#[]⟩]) p0 1 (.string y.r) rfl
 have p2 := blk_put (cs' := #[.string y.o, .string y.r, .string y.l, .string ⟨#[]⟩, .bool false, .slice none 0 0, .slice none 0 0, .bool false, .bool false, .string ⟨#[]⟩]) p1 2 (.string y.l) rfl
 have p3 := blk_put (cs' := #[.string y.o, .string y.r, .string y.l, .string y.h, .bool false, .slice none 0 0, .slice none 0 0, .bool false, .bool false, .string ⟨#[]⟩]) p2 3 (.string y.h) rfl
 have p4 := blk_put (cs' := #[.string y.o, .string y.r, .string y.l, .string y.h, .bool y.i, .slice none 0 0, .slice none 0 0, .bool false, .bool false, .string ⟨#[]⟩]) p3 4 (.bool y.i) rfl
 have p5 := blk_put (cs' := #[.string y.o, .string y.r, .string y.l, .string y.h, .bool y.i, .slice A7 (numsT y.c).length c7, .slice none 0 0, .bool false, .bool false, .string ⟨#[]⟩]) p4 5 (.slice A7 (numsT y.c).length c7) rfl
 have p6 := blk_put (cs' := #[.string y.o, .string y.r, .string y.l, .string y.h, .bool y.i, .slice A7 (numsT y.c).length c7, .slice A8 (sufsT y.s).length c8, .bool false, .bool false, .string ⟨#[]⟩]) p5 6 (.slice A8 (sufsT y.s).length c8) rfl
 have p7 := blk_put (cs' := #[.string y.o, .string y.r, .string y.l, .string y.h, .bool y.i, .slice A7 (numsT y.c).length c7, .slice A8 (sufsT y.s).length c8, .bool true, .bool false, .string ⟨#[]⟩]) p6 7 (.bool true) rfl
 have p8 := blk_put (cs' := #[.string y.o, .string y.r, .string y.l, .string y.h, .bool y.i, .slice A7 (numsT y.c).length c7, .slice A8 (sufsT y.s).length c8, .bool true, .bool false, .string ⟨#[]⟩]) p7 8 (.bool false) rfl
 have p9 := blk_put (cs' := #[.string y.o, .string y.r, .string y.l, .string y.h, .bool y.i, .slice A7 (numsT y.c).length c7, .slice A8 (sufsT y.s).length c8, .bool true, .bool false, .string (magB y.b)]) p8 9 (.string (magB y.b)) rfl
 have o7 := O7.out
 have o8 := O8.out
 rw [List.length_map] at o7 o8
 refine bodyPost_ret (results_cell_row2 rfl _ _ w.heap.size 33 #[.string y.o, .string y.r, .string y.l, .string y.h, .bool y.i, .slice A7 (numsT y.c).length c7, .slice A8 (sufsT y.s).length c8, .bool true, .bool false, .string (magB y.b)] (0, 0) _ rfl p9 Tryz.underlying33 rfl (by kernel_rfl)) rfl ?_
 have hk : ∀ (W : World), (∀ b, b ≠ w.heap.size → W.heap[b]? = w3.heap[b]?) → KeptT (butT 33) w3 W := fun W h b cs t fr hb ht => by
  refine h b (fun e => ?_)
  subst e; rw [G3.out] at hb; cases hb; exact absurd ht (by decide)
 have K := hk ((((((((((w3.setCell ⟨w.heap.size, 0, none⟩ (.string y.o)).setCell ⟨w.heap.size, 1, none⟩ (.string y.r)).setCell ⟨w.heap.size, 2, none⟩ (.string y.l)).setCell ⟨w.heap.size, 3, none⟩ (.string y.h)).setCell ⟨w.heap.size, 4, none⟩ (.bool y.i)).setCell ⟨w.heap.size, 5, none⟩ (.slice A7 (numsT y.c).length c7)).setCell ⟨w.heap.size, 6, none⟩ (.slice A8 (sufsT y.s).length c8)).setCell ⟨w.heap.size, 7, none⟩ (.bool true)).setCell ⟨w.heap.size, 8, none⟩ (.bool false)).setCell ⟨w.heap.size, 9, none⟩ (.string (magB y.b))) (fun b h1 => by repeat rw [Below.heap_setCell _ _ _ _ h1])
 refine ⟨y, _, _, HTY.out, rfl, R_keptT (p := butT 33) rfl (by decide) o7 K, R_keptT (p := butT 33) rfl (by decide) o8 K, ?_⟩
 have b5 := B3.out
 repeat (first | (with_reducible exact b5) | refine below_set ?_ (Nat.le_refl _))
theorem impl_AlpineParse.calls (a0 : ByteArray) (r1 r2 r3 r4 : ByteArray) (r5 : Bool) (r6 : List S52) (r7 : List S56) (r8 r9 : Bool) (r10 : ByteArray) (r11 : Bool) (w : World) (h : impl_AlpineParse.f a0 = some (r1, r2, r3, r4, r5, r6, r7, r8, r9, r10, r11)) (hG : GL w) :
  Calls Tryz.prog 14 #[.string a0] w fun e w' => ∃ v5_ v6_ : Value, e = .returned (.tuple #[.agg #[.string r1, .string r2, .string r3, .string r4, .bool r5, v5_, v6_, .bool r8, .bool r9, .string r10], .bool r11]) ∧ Kd.R k52 52 w' w.heap.size (fun _ => True) v5_ r6 ∧ Kd.R k56 56 w' w.heap.size (fun _ => True) v6_ r7 ∧ Below w.heap.size w w' := by
 unfold impl_AlpineParse.f at h
 by_cases hc : AOk a0
 ·rw [if_pos hc] at h
  simp only [Option.some.injEq, Prod.mk.injEq] at h
  obtain ⟨rfl, rfl, rfl, rfl, rfl, rfl, rfl, rfl, rfl, rfl, rfl⟩ := h
  obtain ⟨k1, h1⟩ := hc.ev
  refine (parseImpl_ w a0 _ k1 hG (h1 k1 (Nat.le_refl _))).mono ?_
  rintro e w' ⟨x, v5, v6, ⟨t1, t2, t3, t4, t5, t6, t7, t8, t9⟩, rfl, h5, h6, hb⟩
  have e1 : x.o = a0 := t1.trans (str_B a0)
  rw [nums_told t4 t5 (fun d hd => digs_asc (by
   obtain ⟨_, _, _, _, k⟩ := numsP_shape (bytesOf a0).length (bytesOf a0)
   exact (k d hd).2))] at h5
  rw [sufs_told2 t7 (fun y hy => by
   have k := sufsP_mem _ _ y hy
   refine ⟨k.2.2, ?_⟩
   have k2 := rest2_len (bytesOf a0)
   have k3 := hc.1
   rw [B_size] at k3
   omega)] at h6
  refine ⟨v5, v6, ?_, h5, h6, hb⟩
  rw [e1, t2, t3, t6, t8, t9]
  rfl
 ·rw [if_neg hc] at h
  cases h
end Go.Proofs.YtapaijpglfmfgaaGreatDoorG
end
