/- Proved here, for the row of the law FnAlpineOrder: contracts of the Go functions that it reaches, each as its theorem 'calls' says, and the words and plain laws that they need (A9, A10, A11, B, M, P, AQ, AR, AT, WEqStruct, Qx0, HC, Qx4, Qx5, Qx6, Qx21). -/
import Derived.Test.YtapaijpglfmfgaaDoorFnAlpineOrderB
import Derived.Below
import Derived.Deep.Draws
import Derived.Deep.AppendLies
import Derived.Maps.AppendAt
import Derived.OwnWalk
import Derived.Laws.BytesArg
import Derived.Laws.MakeOwn
import Derived.Laws.OwnMore
import Derived.Deep.OwnRows
import Derived.Tactics
import Derived.Lib.ConvBytes
import Derived.Laws.Slices
import Derived.WalkKit
import Derived.KernelRfl
import Derived.RowKit3
import Derived.Deep.LoopGhost
import Derived.Deep.QuietTactic
import Derived.BigQuiet
import Derived.WideLaws
import Derived.Deep.DeepCutAuto
import Derived.Deep.CutBlock
import Derived.Deep.RegionHeld3
import Derived.Laws.Rows
import Derived.Lib.AppendStr
import Derived.ArgAppend
import Derived.Laws.IdiomCopy
import Derived.RowKit
import Derived.Test.YtapaijpglfmfgaaDoorProg
import Derived.Laws.Runes
import Derived.Lib.Strings
import Derived.Lib.Bytealg
import Derived.OrdersHeld
import Derived.Laws.BitsLemmas
import Derived.Laws.ResultCell
import Derived.Laws.Strings
import Derived.Laws.StructEq
section -- A9
namespace Go.Proofs.YtapaijpglfmfgaaDoorG
open Go.RowKit Go.Proofs.YtapaijpglfmfgaaDoorH Go.Proofs.YtapaijpglfmfgaaDoor.S Go.Proofs.YtapaijpglfmfgaaDoorW.PrintWords Go.Proofs.YtapaijpglfmfgaaDoorW.PrintLast
set_option linter.unusedVariables false
set_option linter.unusedSimpArgs false
def sfCells (l : List Sx) : List (List Value) := l.map fun x => [.int .i64 x.wt, .pointer (some ⟨x.a, 0, none⟩)]
theorem sfCells_len (l : List Sx) : (sfCells l).length = l.length := by simp [sfCells]
theorem sfCells_snoc (l : List Sx) (x : Sx) : sfCells (l ++ [x]) = sfCells l ++ [[.int .i64 x.wt, .pointer (some ⟨x.a, 0, none⟩)]] := by simp [sfCells]
def SOwn (w : World) (base : Nat) (v : Value) (l : List Sx) : Prop := Kd.R (Kd.raw 2) 106 w base (fun _ => True) v (sfCells l) ∧ ∀ x ∈ l, BigAt w x.a x.n
theorem SOwn.srow {w : World} {base : Nat} {v : Value} {l : List Sx} (h : SOwn w base v l) (hl : l.length ≤ 1000000) : SRow w v l := by
 obtain ⟨hr, hx⟩ := h
 rcases Nat.eq_zero_or_pos l.length with h0 | h0
 ·obtain ⟨A, c, e, _⟩ := Kd.R_reads hr
  rw [sfCells_len] at e
  exact ⟨A, c, e, hl, fun i x hi => by rw [List.eq_nil_of_length_eq_zero h0] at hi; simp at hi⟩
 ·obtain ⟨g, cap, e, _⟩ := Kd.R_form hr (by rw [sfCells_len]; exact h0)
  subst e
  refine ⟨some ⟨g, 0, none⟩, cap, by rw [sfCells_len], hl, fun i x hi => ⟨g, rfl, ?_⟩⟩
  have hil : i < l.length := (List.getElem?_eq_some_iff.1 hi).1
  obtain ⟨c, hc1, hM, hcc, _⟩ := Kd.R_elem hr [] (i : Int) (by omega) (by rw [sfCells_len]; omega)
  have hgd : (sfCells l).getD (i : Int).toNat [] = [.int .i64 x.wt, .pointer (some ⟨x.a, 0, none⟩)] := by
   rw [List.getD_eq_getElem?_getD]
   unfold sfCells
   rw [List.getElem?_map, show ((i : Int).toNat) = i by omega, hi]
   rfl
  rw [hgd] at hM
  obtain ⟨rfl, _⟩ := hM
  exact ⟨hcc 0 _ rfl, hcc 1 _ rfl, hx x (List.mem_of_getElem? hi)⟩
def MRest (f : Nat → Nat) (A : Option Addr) (base : Nat) (xs : List (List ByteArray)) (i : Nat) (w : World) : Prop := ∀ j x, i ≤ j → xs[j]? = some x → ∃ g2 v, A = some ⟨g2, 0, none⟩ ∧ (∃ cells, w.heap[g2]? = some (.cells cells 42 (0, 0))) ∧ w.cell? ⟨g2, j, none⟩ = some v ∧ Kd.R Kd.string 9 w base (fun b => f b = j) v x
theorem MRest.move {f : Nat → Nat} {A : Option Addr} {base : Nat} {xs : List (List ByteArray)} {i i' : Nat} {w w' : World} (h : MRest f A base xs i w) (hi : i ≤ i') (k9 : ∀ (b : Nat) (cells : Array Value), w.heap[b]? = some (.cells cells 9 (0, 0)) → i' ≤ f b → w'.heap[b]? = w.heap[b]?) (k42 : ∀ (b : Nat) (cells : Array Value), w.heap[b]? = some (.cells cells 42 (0, 0)) → w'.heap[b]? = w.heap[b]?) : MRest f A base xs i' w' := by
 intro j x hj hx
 obtain ⟨g2, v, e, ⟨cells, h1⟩, h2, h3⟩ := h j x (Nat.le_trans hi hj) hx
 have hk := k42 g2 cells h1
 refine ⟨g2, v, e, ⟨cells, hk.trans h1⟩, (World.cell?_of_block hk).trans h2, ?_⟩
 refine Kd.R_mono (Kd.R_move (Kd.R_bound h3) (fun b hb => ?_)) (fun _ hk => hk.1)
 obtain ⟨e1, _, _, q, hq, cells2, hc⟩ := hb
 have : q = 9 := by simpa [Kd.string, Kd.scalar] using hq
 subst this
 exact k9 b cells2 hc (by omega)
theorem MRest.same {f : Nat → Nat} {A : Option Addr} {base : Nat} {xs : List (List ByteArray)} {i : Nat} {w w' : World} {p : TypeId → Bool} (h : MRest f A base xs i w) (k : KeptT p w w') (h9 : p 9 = true) (h42 : p 42 = true) : MRest f A base xs i w' :=
 h.move (Nat.le_refl _) (fun b cells hb _ => k b _ _ _ hb h9) (fun b cells hb => k b _ _ _ hb h42)
theorem MRest.first {A : Option Addr} {n c base : Nat} {xs : List (List ByteArray)} {w : World} {ok : Nat → Prop} (h : Kd.S (Kd.slice 9 Kd.string) 42 w base ok (.slice A n c) xs) : ∃ f, MRest f A base xs 0 w := by
 obtain ⟨f, hR⟩ := h
 refine ⟨f, fun j x _ hx => ?_⟩
 have hjl : j < xs.length := (List.getElem?_eq_some_iff.1 hx).1
 have hzl : xs.zipIdx.length = xs.length := List.length_zipIdx
 obtain ⟨g2, cap, e, _, _, ht⟩ := Kd.R_form hR (by omega)
 injection e with e1 e2 e3
 subst e1
 obtain ⟨c', hc1, hM, hcc, _⟩ := Kd.R_elem hR (([] : List ByteArray), 0) (j : Int) (by omega) (by rw [e2]; omega)
 have hgd : xs.zipIdx.getD (j : Int).toNat (([] : List ByteArray), 0) = (x, j) := by
  rw [List.getD_eq_getElem?_getD, show ((j : Int).toNat) = j by omega, Kd.zip_at hx]; rfl
 rw [hgd] at hM
 obtain ⟨v, rfl, hv⟩ := hM
 refine ⟨g2, v, rfl, ht, ?_, Kd.R_mono hv (fun _ hk => hk.2)⟩
 have := hcc 0 v rfl
 rw [show (j : Int).toNat * (Kd.tag f (Kd.slice 9 Kd.string)).sz + 0 = j by show (j : Int).toNat * 1 + 0 = j; omega] at this
 exact this
def notSuf (t : TypeId) : Bool := t != 106
theorem numT_notSuf (t : TypeId) (h : numT t = true) : notSuf t = true := by
 unfold numT at h
 unfold notSuf
 rcases Bool.or_eq_true_iff.mp h with h | h
 ·rw [of_decide_eq_true h]; decide
 ·rw [of_decide_eq_true h]; decide
def sufRun (k : Nat) : List (List ByteArray) → ByteArray → Option (List (Int × ByteArray) × ByteArray)
 | [], s => some ([], s)
 | [m0, wd, dg] :: ms, s => (semantic_weightAlpineSuffixString.f k wd).bind fun wt => (strings_TrimPrefix.f s m0).bind fun s' => if Plain (or0 dg) ∧ AllDig (or0 dg) then (sufRun k ms s').map (fun r => ((wt, or0 dg) :: r.1, r.2)) else none
 | _ :: _, _ => none
theorem sufRun_step {k : Nat} {m : List ByteArray} {ms : List (List ByteArray)} {s : ByteArray} {r : List (Int × ByteArray) × ByteArray} (h : sufRun k (m :: ms) s = some r) : ∃ m0 wd dg wt s' r', m = [m0, wd, dg] ∧ semantic_weightAlpineSuffixString.f k wd = some wt ∧ strings_TrimPrefix.f s m0 = some s' ∧ Plain (or0 dg) ∧ AllDig (or0 dg) ∧ sufRun k ms s' = some r' ∧ r = ((wt, or0 dg) :: r'.1, r'.2) := by
 match m, h with
 | [m0, wd, dg], h =>
  simp only [sufRun] at h
  obtain ⟨wt, h1, h⟩ := Option.bind_eq_some_iff.mp h
  obtain ⟨s', h2, h⟩ := Option.bind_eq_some_iff.mp h
  by_cases hc : Plain (or0 dg) ∧ AllDig (or0 dg)
  ·rw [if_pos hc] at h
   obtain ⟨r', h3, rfl⟩ := Option.map_eq_some_iff.mp h
   exact ⟨m0, wd, dg, wt, s', r', rfl, h1, h2, hc.1, hc.2, h3, rfl⟩
  ·rw [if_neg hc] at h
   cases h
 | [], h => simp [sufRun] at h
 | [_], h => simp [sufRun] at h
 | [_, _], h => simp [sufRun] at h
 | _ :: _ :: _ :: _ :: _, h => simp [sufRun] at h
def sxTold (l : List Sx) : List (Int × Nat) := l.map fun x => (x.wt, x.n)
def sxWant (l : List (Int × ByteArray)) : List (Int × Nat) := l.map fun x => (x.1, dv x.2 x.2.size)
structure SInv (w wr : World) (g : Nat) (o : ByteArray) (i : Bool) (r : ByteArray) (cv : Value) (l : ByteArray) (sv : Value) (h : ByteArray) (bv : Value) (f : Nat → Nat) (A : Option Addr) (xs : List (List ByteArray)) (k : Nat) (ns : List Sx) : Prop where
 len : ns.length = k
 blk : VBlk wr g o i r cv l sv h bv
 own : SOwn wr w.heap.size sv ns
 rest : MRest f A w.heap.size xs k wr
 gr : w.grownBy wr (some g)
structure SMid (w wr : World) (g : Nat) (o : ByteArray) (i : Bool) (r : ByteArray) (cv : Value) (l : ByteArray) (sv : Value) (h : ByteArray) (bv : Value) (f : Nat → Nat) (A : Option Addr) (xs : List (List ByteArray)) (k : Nat) (ns : List Sx) (b : Nat) (m0 wd : ByteArray) (a n : Nat) : Prop where
 len : ns.length = k
 blk : VBlk wr g o i r cv l sv h bv
 own : SOwn wr w.heap.size sv ns
 rest : MRest f A w.heap.size xs (k + 1) wr
 gr : w.grownBy wr (some g)
 ty : ∃ cells, wr.heap[b]? = some (.cells cells 9 (0, 0))
 c0 : wr.cell? ⟨b, 0, none⟩ = some (.string m0)
 c1 : wr.cell? ⟨b, 1, none⟩ = some (.string wd)
 num : BigAt wr a n
section
variable {w wr w' : World} {g : Nat} {o : ByteArray} {i : Bool} {r : ByteArray} {cv : Value} {l : ByteArray} {sv : Value} {h : ByteArray} {bv : Value} {f : Nat → Nat} {A : Option Addr} {xs : List (List ByteArray)} {k : Nat} {ns : List Sx} {b : Nat} {m0 wd : ByteArray} {a n : Nat}
theorem SOwn.below {base : Nat} (H : SOwn wr base sv ns) (hb : Below wr.heap.size wr w') : SOwn w' base sv ns := ⟨Kd.R_below H.1 hb, fun x hx => (H.2 x hx).below hb⟩
theorem SMid.below (H : SMid w wr g o i r cv l sv h bv f A xs k ns b m0 wd a n) (hb : Below wr.heap.size wr w') : SMid w w' g o i r cv l sv h bv f A xs k ns b m0 wd a n :=
 ⟨H.len, blk_below H.blk hb, H.own.below hb, H.rest.same (p := fun _ => true) (KeptT.below hb) rfl rfl, gr_below H.gr hb, by obtain ⟨cells, hc⟩ := H.ty; exact ⟨cells, blk_below hc hb⟩, cell_old hb H.c0, cell_old hb H.c1, H.num.below hb⟩
theorem SMid.drew (H : SMid w wr g o i r cv l sv h bv f A xs k ns b m0 wd a n) : SMid w wr.drew g o i r cv l sv h bv f A xs k ns b m0 wd a n := H.below (below_drew (Below.refl _ _))
theorem SInv.below (H : SInv w wr g o i r cv l sv h bv f A xs k ns) (hb : Below wr.heap.size wr w') : SInv w w' g o i r cv l sv h bv f A xs k ns :=
 ⟨H.len, blk_below H.blk hb, H.own.below hb, H.rest.same (p := fun _ => true) (KeptT.below hb) rfl rfl, gr_below H.gr hb⟩
theorem SInv.mid (H : SInv w wr g o i r cv l sv h bv f A xs k ns) (hb9 : ∃ cells, wr.heap[b]? = some (.cells cells 9 (0, 0))) (hfb : f b = k) (hbw : w.heap.size ≤ b) (h0 : wr.cell? ⟨b, 0, none⟩ = some (.string m0)) (h1 : wr.cell? ⟨b, 1, none⟩ = some (.string wd)) {W : World} (hW : W = wr ∨ W = wr.setCell ⟨b, 2, none⟩ (.string ⟨#[48]⟩)) (hb : Below W.heap.size W w') (hn : BigAt w' a n) : SMid w w' g o i r cv l sv h bv f A xs k ns b m0 wd a n := by
 have key : SMid w W g o i r cv l sv h bv f A xs k ns b m0 wd a n ∨ True := .inr trivial
 clear key
 obtain ⟨cells, hc⟩ := hb9
 rcases hW with rfl | rfl
 ·exact ⟨H.len, blk_below H.blk hb, H.own.below hb, (H.rest.move (Nat.le_succ k) (fun _ _ _ _ => rfl) (fun _ _ _ => rfl)).same (p := fun _ => true) (KeptT.below hb) rfl rfl, gr_below H.gr hb, ⟨cells, blk_below hc hb⟩, cell_old hb h0, cell_old hb h1, hn⟩
 ·have K : KeptT (fun t => t != 9) wr (wr.setCell ⟨b, 2, none⟩ (.string ⟨#[48]⟩)) := KeptT.set hc (by decide) 2 _
  have KN : KeptT numT wr (wr.setCell ⟨b, 2, none⟩ (.string ⟨#[48]⟩)) := KeptT.set hc (by decide) 2 _
  have hc' := blk_set hc 2 (.string ⟨#[48]⟩)
  have cell_ne : ∀ j, j ≠ 2 → (wr.setCell ⟨b, 2, none⟩ (.string ⟨#[48]⟩)).cell? ⟨b, j, none⟩ = wr.cell? ⟨b, j, none⟩ := fun j hj => by
   rw [blk_cell hc', blk_cell hc, Array.getElem?_setIfInBounds]
   rw [if_neg (by omega)]
  refine ⟨H.len, blk_below (K.blk H.blk (by decide)) hb, SOwn.below ⟨R_keptT (p := fun t => t != 9) rfl (by decide) H.own.1 K, fun x hx => (H.own.2 x hx).kept KN⟩ hb, (H.rest.move (Nat.le_succ k) (fun b' cells' hb' hf => ?_) (fun b' cells' hb' => ?_)).same (p := fun _ => true) (KeptT.below hb) rfl rfl, gr_below (gr_set H.gr (.inr hbw) 2 _) hb, ⟨_, blk_below hc' hb⟩, cell_old hb ((cell_ne 0 (by decide)).trans h0), cell_old hb ((cell_ne 1 (by decide)).trans h1), hn⟩
  ·exact Below.heap_setCell _ _ _ _ (fun e => by have e2 : b' = b := e; subst e2; omega)
  ·exact K b' _ _ _ hb' (by decide)
theorem SMid.step (H : SMid w wr g o i r cv l sv h bv f A xs k ns b m0 wd a n) {w7 : World} {v1 : Value} {wt : Int} (ho : Kd.R (Kd.raw 2) 106 w7 w.heap.size (fun _ => True) v1 (sfCells ns ++ [[.int .i64 wt, .pointer (some ⟨a, 0, none⟩)]])) (hg : wr.grownBy w7 sv.ownBlock) :
    SInv w (w7.setCell ⟨g, 5, none⟩ v1) g o i r cv l v1 h bv f A xs (k + 1) (ns ++ [⟨wt, a, n⟩]) ∧ (w7.setCell ⟨g, 5, none⟩ v1).cell? ⟨b, 0, none⟩ = some (.string m0) := by
  have K : KeptT notSuf wr w7 := KeptT.row (by decide) H.own.1 hg
  have B7 : VBlk w7 g o i r cv l sv h bv := K.blk H.blk (by decide)
  have KN2 : KeptT numT wr (w7.setCell ⟨g, 5, none⟩ v1) := (K.sub numT_notSuf).trans (KeptT.set B7 (by decide) 5 _)
  have KM : KeptT (fun t => t == 9 || t == 42) wr (w7.setCell ⟨g, 5, none⟩ v1) := (K.sub (fun t ht => by
    rcases Bool.or_eq_true_iff.mp ht with ht | ht
    · rw [of_decide_eq_true ht]; decide
    · rw [of_decide_eq_true ht]; decide)).trans (KeptT.set B7 (by decide) 5 _)
  refine ⟨⟨by rw [List.length_append, H.len]; rfl, blk_put B7 5 _ rfl, ⟨?_, fun x hx => ?_⟩, H.rest.same KM (by decide) (by decide), gr_set (gr_then H.gr hg (fun b hb => .inr (Kd.R_base H.own.1 b hb))) (.inl rfl) _ _⟩, ?_⟩
  · rw [sfCells_snoc]
    exact Kd.R_set ho B7 (by intro q hq; have : q = 106 := by simpa [Kd.raw] using hq
                             subst this; decide) 5 _
  · rcases List.mem_append.mp hx with hx | hx
    · exact (H.own.2 x hx).kept KN2
    · simp at hx; subst hx; exact H.num.kept KN2
  · obtain ⟨cells, hc⟩ := H.ty
    exact (World.cell?_of_block (KM b _ _ _ hc (by decide))).trans H.c0
end
set_option maxRecDepth 100000 in
set_option maxHeartbeats 8000000 in
theorem parseSufs_ (w : World) (g : Nat) (o : ByteArray) (i : Bool) (r : ByteArray) (cv : Value) (l h : ByteArray) (bv : Value) (s rest : ByteArray) (kq k2 : Nat) (xs : List (List ByteArray)) (L : List (Int × ByteArray)) (hv : VBlk w g o i r cv l (.slice none 0 0) h bv) (hGL : ∀ W, w.grownBy W (some g) → GLe W)
  (h1 : semantic_zzAlpineSuffixes.f k2 s = some xs) (hl : xs.length ≤ 1000000) (h2 : sufRun kq xs s = some (L, rest)) :
  Calls Tryd.prog 44 #[.pointer (some ⟨g, 0, none⟩), .string s] w fun e w' => ∃ sv ns, e = .returned (.tuple #[.string rest, .nilIface]) ∧ VBlk w' g o i r cv l sv h bv ∧ SOwn w' w.heap.size sv ns ∧ sxTold ns = sxWant L ∧ w.grownBy w' (some g) := by
 have HG := Aside0.mk hv
 have H1 := Aside0.mk h1
 have H2 : Aside0 (∃ L', sufRun kq (xs.drop 0) s = some (L', rest) ∧ sxTold [] ++ sxWant L' = sxWant L) := ⟨⟨L, by simpa using h2, rfl⟩⟩
 have HGL := Aside0.mk hGL
 have HL := Aside0.mk hl
 clear h1 h2 hv hGL hl
 go_enter Tryd.func44, Tryd.ntmps44
 go_wp2_with (first | (go_at_call 55; (with_reducible refine (semantic_zzAlpineSuffixes.calls k2 s xs _ H1.out).mono ?_); rintro e' w1 ⟨v0, rfl, hr, hb⟩; obtain ⟨A, cap, rfl⟩ := Kd.S_slice hr; have B1 := Aside0.mk hb; have R1 := Aside0.mk (MRest.first hr); clear hr hb))
 obtain ⟨f, hf⟩ := R1.out
 have I0 : Aside0 (SInv w w1 g o i r cv l (.slice none 0 0) h bv f A xs 0 []) := ⟨⟨rfl, blk_below HG.out B1.out, ⟨Kd.R_nil _ _ _ _ _, fun x hx => by simp at hx⟩, hf, gr_below (gr_refl w _) B1.out⟩⟩
 clear hf R1
 go_loopw [1, 13] (fun tv iv wr => ∃ (k : Nat) (ns : List Sx) (sv : Value) (t : ByteArray), k ≤ xs.length ∧ tv = .string t ∧ iv = .int .i64 k ∧ Aside0 (SInv w wr g o i r cv l sv h bv f A xs k ns) ∧ Aside0 (∃ L', sufRun kq (xs.drop k) t = some (L', rest) ∧ sxTold ns ++ sxWant L' = sxWant L)) (fun _ iv _ => xs.length - (intOf iv).toNat)
 case atStart => exact ⟨0, [], _, s, Nat.zero_le _, rfl, rfl, I0, H2⟩
 case round =>
  clear H2
  obtain ⟨k, ns, sv, t, hk, rfl, rfl, HI, HR⟩ := hrel
  by_cases hlt : k < xs.length
  ·have i3 : decide ((k : Int) < (xs.length : Int)) = true := decide_eq_true (by omega)
   have i4 : ((k : Int) < (xs.length : Int)) = True := eq_true (by omega)
   have i5 : (0 ≤ (k : Int)) = True := eq_true (by omega)
   have WR : wrap64 ((k : Int) + 1) = ((k + 1 : Nat) : Int) := by have := HL.out; unfold wrap64; omega
   have LT := Aside0.mk hlt
   have HNL : Aside0 (ns.length ≤ 1000000) := ⟨by have q1 := HI.out.len; have q2 := HL.out; omega⟩
   obtain ⟨L', hL1, hL2⟩ := HR.out
   rw [List.drop_eq_getElem_cons hlt] at hL1
   obtain ⟨m0, wd, dg, wt, t', r', hm, hw, ht, hp, hd, hrun, hr⟩ := sufRun_step hL1
   have HNX : ∀ a n, n = dv (or0 dg) (or0 dg).size → Aside0 (∃ L', sufRun kq (xs.drop (k + 1)) t' = some (L', rest) ∧ sxTold (ns ++ [⟨wt, a, n⟩]) ++ sxWant L' = sxWant L) := fun a n hn => ⟨⟨r'.1, by
    rw [hrun]
    have e := congrArg Prod.snd hr
    have e2 : rest = r'.2 := e
    rw [e2], by
    have e := congrArg Prod.fst hr
    have e2 : L' = (wt, or0 dg) :: r'.1 := e
    rw [← hL2, e2, hn]
    simp [sxTold, sxWant]⟩⟩
   have HW := Aside0.mk hw
   have HT := Aside0.mk ht
   have hx : xs[k]? = some [m0, wd, dg] := by rw [List.getElem?_eq_getElem hlt, hm]
   obtain ⟨g2, v, e, ⟨cells2, hg2⟩, hcell, hrow⟩ := HI.out.rest k _ (Nat.le_refl _) hx
   subst e
   obtain ⟨b, cap2, e, hb1, hb2, hb3⟩ := Kd.R_form hrow (by simp)
   subst e
   have hfb : f b = k := hrow.1 b rfl
   have el : ∀ j : Nat, j < 3 → wr.cell? ⟨b, j, none⟩ = some (.string ([m0, wd, dg].getD j ByteArray.empty)) ∧ wr.frozen? ⟨b, j, none⟩ = false := fun j hj => by
    obtain ⟨c, hc1, hM, hcc, hfr⟩ := Kd.R_elem hrow ByteArray.empty (j : Int) (by omega) (by simp; omega)
    have hM2 : c = [.string ([m0, wd, dg].getD (j : Int).toNat ByteArray.empty)] := hM
    have h3 := hcc 0 _ (by rw [hM2]; rfl)
    have h4 := hfr 0
    rw [show (j : Int).toNat * Kd.string.sz + 0 = j by show (j : Int).toNat * 1 + 0 = j; omega] at h3 h4
    rw [show (j : Int).toNat = j by omega] at h3
    exact ⟨h3, h4⟩
   have y0 : wr.cell? ⟨g2, k, none⟩ = some (.slice (some ⟨b, 0, none⟩) 3 cap2) := hcell
   have e0 : wr.cell? ⟨b, 0, none⟩ = some (.string m0) := (el 0 (by decide)).1
   have e1 : wr.cell? ⟨b, 1, none⟩ = some (.string wd) := (el 1 (by decide)).1
   have e2 : wr.cell? ⟨b, 2, none⟩ = some (.string dg) := (el 2 (by decide)).1
   have f2 : wr.frozen? ⟨b, 2, none⟩ = false := (el 2 (by decide)).2
   have HGE := Aside0.mk (HGL.out wr HI.out.gr)
   have HB3 := Aside0.mk hb3
   have HGE2 : Aside0 (GLe (wr.setCell ⟨b, 2, none⟩ (.string ⟨#[48]⟩))) := ⟨HGL.out _ (gr_set HI.out.gr (.inr hb1) _ _)⟩
   have HM : Aside0 (∀ (W w' : World) (a : Nat), (W = wr ∨ W = wr.setCell ⟨b, 2, none⟩ (.string ⟨#[48]⟩)) → Below W.heap.size W w' → BigAt w' a (dv (or0 dg) (or0 dg).size) → SMid w w' g o i r cv l sv h bv f (some ⟨g2, 0, none⟩) xs k ns b m0 wd a (dv (or0 dg) (or0 dg).size)) :=
    ⟨fun W w' a hW hb hn => HI.out.mid hb3 hfb hb1 e0 e1 hW hb hn⟩
   have HP := Aside0.mk (And.intro hp hd)
   clear hlt hk hL1 hL2 hm hw ht hp hd hrun hr hx hg2 hcell hrow hb1 hb2 hfb el e0 e1 hb3 HR I0 HI
   by_cases hde : dg.toList = []
   ·have c1 : (dg.toList == []) = true := by simpa using hde
    have c2 : (dg.toList != []) = false := by simpa using hde
    have c3 : dg.toList.isEmpty = true := by simpa using hde
    have eo : or0 dg = ⟨#[48]⟩ := if_pos hde
    rw [eo] at HM HP HNX
    have HV : Aside0 (∀ W, GLe W → Calls Tryd.prog 52 #[.string ⟨#[48]⟩] W fun e w' => ∃ a, e = .returned (.tuple #[.pointer (some ⟨a, 0, none⟩), .nilIface]) ∧ BigAt w' a (dv ⟨#[48]⟩ (⟨#[48]⟩ : ByteArray).size) ∧ Below W.heap.size W w') := ⟨fun W hW => conv_at W _ HP.out.1 hW HP.out.2⟩
    clear hde eo HP
    have y2 : (wr.setCell ⟨b, 2, none⟩ (.string ⟨#[48]⟩)).cell? ⟨b, 2, none⟩ = some (.string ⟨#[48]⟩) := by
     obtain ⟨cells, hc⟩ := HB3.out
     rw [blk_cell (blk_set hc 2 _), Array.getElem?_setIfInBounds]
     rw [blk_cell hc] at e2
     have := (Array.getElem?_eq_some_iff.1 e2).1
     simp [this]
    go_upto_region 9 with (first | (go_at_call 52; (with_reducible refine (HV.out _ HGE2.out).mono ?_); rintro e' w3 ⟨a, rfl, hA, hb⟩; have M3 := Aside0.mk (HM.out _ w3 a (.inr rfl) hb hA); have NX := HNX a _ rfl; clear hb hA HNX HB3))
    refine start_ (n := 16) (S := fun w' => w'.cell? ⟨g, 5, none⟩ = some sv ∧ w'.cell? ⟨b, 1, none⟩ = some (.string wd)) (ds := [12, 15]) #[false, false, false, false, false, false, false, false, false, false, false, false, false, false, false, false] (by kernel_rfl) rfl rfl ⟨(blk_cell M3.out.drew.blk 5).trans rfl, M3.out.drew.c1⟩ (fun hHeld => ?_)
    have M4 := Aside0.mk M3.out.drew
    clear M3 HM
    generalize w3.drew = w4 at M4 hHeld ⊢
    refine pure_ (i := 0) (N := some 33) (v := ?_) (a' := ?_) #[true, false, false, false, false, false, false, false, false, false, false, false, false, false, false, false] rfl rfl (by kernel_rfl) (fun _ _ _ h => h) (Or.inl ⟨by rfl, ?_⟩) ?_ ?_
    rotate_left
    ·intro w'
     go_simp
     with_reducible rfl
    rotate_left
    ·simp only [Act.put, List.setIfInBounds_toArray, List.set_cons_zero, List.set_cons_succ, i64_w, i32_w]
     rfl
    refine pure_ (i := 1) (N := some 34) (v := ?_) (a' := ?_) #[true, true, false, false, false, false, false, false, false, false, false, false, false, false, false, false] rfl rfl (by kernel_rfl) (fun _ _ _ h => h) (Or.inl ⟨by rfl, ?_⟩) ?_ ?_
    rotate_left
    ·intro w'
     go_simp
     with_reducible rfl
    rotate_left
    ·simp only [Act.put, List.setIfInBounds_toArray, List.set_cons_zero, List.set_cons_succ, i64_w, i32_w]
     rfl
    refine pure_ (i := 2) (N := some 35) (v := ?_) (a' := ?_) #[true, true, true, false, false, false, false, false, false, false, false, false, false, false, false, false] rfl rfl (by kernel_rfl) (fun _ _ _ h => h) (Or.inl ⟨by rfl, ?_⟩) ?_ ?_
    rotate_left
    ·intro w'
     go_simp
     with_reducible rfl
    rotate_left
    ·simp only [Act.put, List.setIfInBounds_toArray, List.set_cons_zero, List.set_cons_succ, i64_w, i32_w]
     rfl
    refine pure_ (i := 3) (N := some 36) (v := ?_) (a' := ?_) #[true, true, true, true, false, false, false, false, false, false, false, false, false, false, false, false] rfl rfl (by kernel_rfl) (fun _ _ _ h => h) (Or.inl ⟨by rfl, ?_⟩) ?_ ?_
    rotate_left
    ·intro w'
     go_simp
     with_reducible rfl
    rotate_left
    ·simp only [Act.put, List.setIfInBounds_toArray, List.set_cons_zero, List.set_cons_succ, i64_w, i32_w]
     rfl
    refine pure_ (i := 5) (N := some 38) (v := ?_) (a' := ?_) #[true, true, true, true, false, true, false, false, false, false, false, false, false, false, false, false] rfl rfl (by kernel_rfl) (fun _ _ _ h => h) (Or.inl ⟨by rfl, ?_⟩) ?_ ?_
    rotate_left
    ·intro w'
     go_simp
     with_reducible rfl
    rotate_left
    ·simp only [Act.put, List.setIfInBounds_toArray, List.set_cons_zero, List.set_cons_succ, i64_w, i32_w]
     rfl
    refine pure_ (i := 6) (N := some 39) (v := ?_) (a' := ?_) #[true, true, true, true, false, true, true, false, false, false, false, false, false, false, false, false] rfl rfl (by kernel_rfl) (fun _ _ _ h => h) (Or.inl ⟨by rfl, ?_⟩) ?_ ?_
    rotate_left
    ·intro w'
     go_simp
     with_reducible rfl
    rotate_left
    ·simp only [Act.put, List.setIfInBounds_toArray, List.set_cons_zero, List.set_cons_succ, i64_w, i32_w]
     rfl
    refine pure_ (i := 9) (N := some 42) (v := ?_) (a' := ?_) #[true, true, true, true, false, true, true, false, false, true, false, false, false, false, false, false] rfl rfl (by kernel_rfl) (fun _ _ _ h => h) (Or.inl ⟨by rfl, ?_⟩) ?_ ?_
    rotate_left
    ·intro w'
     go_simp
     with_reducible rfl
    rotate_left
    ·simp only [Act.put, List.setIfInBounds_toArray, List.set_cons_zero, List.set_cons_succ, i64_w, i32_w]
     rfl
    refine take_ (i := 4) (N := some 37) (v := ?_) (a' := ?_) #[true, true, true, true, true, true, true, false, false, true, false, false, false, false, false, false] rfl rfl (by kernel_rfl) (fun _ _ _ h => h) (Or.inl ⟨by rfl, ?_⟩) hHeld ?_ ?_
    rotate_left
    ·rintro w' ⟨s0, s1⟩
     go_simp
     with_reducible rfl
    rotate_left
    ·simp only [Act.put, List.setIfInBounds_toArray, List.set_cons_zero, List.set_cons_succ, i64_w, i32_w]
     rfl
    refine take_ (i := 7) (N := some 40) (v := ?_) (a' := ?_) #[true, true, true, true, true, true, true, true, false, true, false, false, false, false, false, false] rfl rfl (by kernel_rfl) (fun _ _ _ h => h) (Or.inl ⟨by rfl, ?_⟩) hHeld ?_ ?_
    rotate_left
    ·rintro w' ⟨s0, s1⟩
     go_simp
     with_reducible rfl
    rotate_left
    ·simp only [Act.put, List.setIfInBounds_toArray, List.set_cons_zero, List.set_cons_succ, i64_w, i32_w]
     rfl
    refine one_ (i := 8) (N := some 41) #[true, true, true, true, true, true, true, true, true, true, false, false, false, false, false, false] rfl rfl (by kernel_rfl) (by decide) (fun K hK => ?_)
    refine goes_ Tryd.func56 (by kernel_rfl) rfl #[.string wd] (by rfl) rfl rfl (by simp only [List.map_toArray, List.map_cons, List.map_nil]; rfl) ?_
    with_reducible refine (semantic_weightAlpineSuffixString.calls kq wd wt _ HW.out).mono ?_
    rintro e w5 ⟨rfl, hb⟩
    refine ⟨_, rfl, ?_⟩
    have M5 := Aside0.mk (M4.out.below hb)
    clear hb M4
    refine hK.out _ _ ⟨(blk_cell M5.out.blk 5).trans rfl, M5.out.c1⟩ (fun hHeld => ?_)
    clear hK K
    refine Go.Proofs.YtapaijpglfmfgaaDoorW.PrintLast.norm_ (a' := ?_) ?_ ?_
    rotate_left
    ·show Act.put _ (some 41) _ = _
     simp only [Act.put, List.setIfInBounds_toArray, List.set_cons_zero, List.set_cons_succ, i64_w, i32_w]
     rfl
    refine pure_ (i := 10) (N := some 43) (v := ?_) (a' := ?_) #[true, true, true, true, true, true, true, true, true, true, true, false, false, false, false, false] rfl rfl (by kernel_rfl) (fun _ _ _ h => h) (Or.inl ⟨by rfl, ?_⟩) ?_ ?_
    rotate_left
    ·intro w'
     go_simp
     with_reducible rfl
    rotate_left
    ·simp only [Act.put, List.setIfInBounds_toArray, List.set_cons_zero, List.set_cons_succ, i64_w, i32_w]
     rfl
    refine one_ (i := 11) (N := some 44) #[true, true, true, true, true, true, true, true, true, true, true, true, false, false, false, false] rfl rfl (by kernel_rfl) (by decide) (fun K hK => ?_)
    refine value_ (w1 := ?_) (v := ?_) (by rfl) rfl ?_ ?_
    rotate_left 2
    ·go_simp
     constructor
     ·rfl
     ·rfl
    refine hK.out _ _ ⟨(blk_cell (blk_alloc M5.out.blk _) 5).trans rfl, (cell_old (below_alloc (Below.refl _ _) _) M5.out.c1)⟩ (fun hHeld => ?_)
    clear hK K
    refine Go.Proofs.YtapaijpglfmfgaaDoorW.PrintLast.norm_ (a' := ?_) ?_ ?_
    rotate_left
    ·show Act.put _ (some 44) _ = _
     simp only [Act.put, List.setIfInBounds_toArray, List.set_cons_zero, List.set_cons_succ, i64_w, i32_w]
     rfl
    refine last_ (i := 12) (N := some 45) #[true, true, true, true, true, true, true, true, true, true, true, true, true, false, false, false] rfl rfl (by kernel_rfl) (by decide) (fun K hK => ?_)
    refine Kd.R_append_step (Kd.raw 2) (w0 := w5) w.heap.size (by rfl) (.tmp 37) (.tmp 44) 66 106 (.agg #[.int .i64 0, .pointer none]) 16 rfl Tryd.underlying66 infoSuf rfl (by decide) (by omega) sv (sfCells ns) [.int .i64 wt, .pointer (some ⟨a, 0, none⟩)] [.int .i64 wt, .pointer (some ⟨a, 0, none⟩)] (fun _ => True) (fun _ => False) rfl rfl ?aP (fun _ hk => hk.elim) (fun _ _ => trivial) M5.out.own.1 (Below.refl _ _) M5.out.gr.size ?aL ?_
    (case aP => exact ⟨rfl, rfl, by intro u hu; simp at hu; rcases hu with rfl | rfl <;> rfl⟩)
    (case aL => rw [sfCells_len]; have := HNL.out; omega)
    intro v1 w7 ho hb hg hat
    obtain ⟨A1, n1, cp1, rfl⟩ : ∃ A n c, v1 = .slice A n c := by
     obtain ⟨A, c, e⟩ := Kd.R_slice ho
     exact ⟨A, _, c, e⟩
    have B7 := Aside0.mk ((KeptT.row (p := notSuf) (by decide) M5.out.own.1 hg).blk M5.out.blk (by decide))
    have x7 := (blk_cell B7.out 5).trans rfl
    have f7 := blk_frozen B7.out 5
    have I7 := Aside0.mk (M5.out.step ho hg)
    clear ho hb hg hat
    refine hK.out _ _ ?_
    clear hK K
    refine Go.Proofs.YtapaijpglfmfgaaDoorW.PrintLast.norm_ (a' := ?_) ?_ ?_
    rotate_left
    ·show Act.put _ (some 45) _ = _
     simp only [Act.put, List.setIfInBounds_toArray, List.set_cons_zero, List.set_cons_succ, i64_w, i32_w]
     rfl
    refine pure_ (i := 13) (N := some 46) (v := ?_) (a' := ?_) #[true, true, true, true, true, true, true, true, true, true, true, true, true, true, false, false] rfl rfl (by kernel_rfl) (fun _ _ _ h => h) (Or.inl ⟨by rfl, ?_⟩) ?_ ?_
    rotate_left
    ·intro w'
     go_simp
     with_reducible rfl
    rotate_left
    ·simp only [Act.put, List.setIfInBounds_toArray, List.set_cons_zero, List.set_cons_succ, i64_w, i32_w]
     rfl
    refine pure_ (i := 14) (N := some 47) (v := ?_) (a' := ?_) #[true, true, true, true, true, true, true, true, true, true, true, true, true, true, true, false] rfl rfl (by kernel_rfl) (fun _ _ _ h => h) (Or.inl ⟨by rfl, ?_⟩) ?_ ?_
    rotate_left
    ·intro w'
     go_simp
     with_reducible rfl
    rotate_left
    ·simp only [Act.put, List.setIfInBounds_toArray, List.set_cons_zero, List.set_cons_succ, i64_w, i32_w]
     rfl
    refine last_ (i := 15) (N := none) #[true, true, true, true, true, true, true, true, true, true, true, true, true, true, true, true] rfl rfl (by kernel_rfl) (by decide) (fun K hK => ?_)
    refine skip_ (w1 := ?_) (by rfl) rfl ?_ ?_
    rotate_left
    ·go_simp
     rfl
    refine hK.out _ _ ?_
    clear hK K
    refine done_ (by kernel_rfl) ?_
    have x8 := I7.out.2
    go_wp2_with (first | (go_at_call 53; (with_reducible refine (strings_TrimPrefix.calls t m0 t' _ HT.out).mono ?_); rintro e' w' ⟨rfl, ⟨nd2, rfl⟩⟩))
    go_roundw
    all_goals first | exact ⟨k + 1, _, .slice A1 n1 cp1, t', LT.out, rfl, by first | rfl | go_num, ⟨I7.out.1.below (pw_below_drewN (Below.refl _ _) _)⟩, NX⟩ | exact meas_up0 _ k LT.out | exact meas_up1 _ k LT.out | exact meas_up2 _ k LT.out WR
   ·have c1 : (dg.toList == []) = false := by simpa using hde
    have c2 : (dg.toList != []) = true := by simpa using hde
    have c3 : dg.toList.isEmpty = false := by simpa using hde
    have eo : or0 dg = dg := if_neg hde
    rw [eo] at HM HP HNX
    have HV : Aside0 (∀ W, GLe W → Calls Tryd.prog 52 #[.string dg] W fun e w' => ∃ a, e = .returned (.tuple #[.pointer (some ⟨a, 0, none⟩), .nilIface]) ∧ BigAt w' a (dv dg dg.size) ∧ Below W.heap.size W w') := ⟨fun W hW => conv_at W _ HP.out.1 hW HP.out.2⟩
    clear hde eo HP
    go_upto_region 9 with (first | (go_at_call 52; (with_reducible refine (HV.out _ HGE.out).mono ?_); rintro e' w3 ⟨a, rfl, hA, hb⟩; have M3 := Aside0.mk (HM.out _ w3 a (.inl rfl) hb hA); have NX := HNX a _ rfl; clear hb hA HNX HB3))
    refine start_ (n := 16) (S := fun w' => w'.cell? ⟨g, 5, none⟩ = some sv ∧ w'.cell? ⟨b, 1, none⟩ = some (.string wd)) (ds := [12, 15]) #[false, false, false, false, false, false, false, false, false, false, false, false, false, false, false, false] (by kernel_rfl) rfl rfl ⟨(blk_cell M3.out.drew.blk 5).trans rfl, M3.out.drew.c1⟩ (fun hHeld => ?_)
    have M4 := Aside0.mk M3.out.drew
    clear M3 HM
    generalize w3.drew = w4 at M4 hHeld ⊢
    refine pure_ (i := 0) (N := some 33) (v := ?_) (a' := ?_) #[true, false, false, false, false, false, false, false, false, false, false, false, false, false, false, false] rfl rfl (by kernel_rfl) (fun _ _ _ h => h) (Or.inl ⟨by rfl, ?_⟩) ?_ ?_
    rotate_left
    ·intro w'
     go_simp
     with_reducible rfl
    rotate_left
    ·simp only [Act.put, List.setIfInBounds_toArray, List.set_cons_zero, List.set_cons_succ, i64_w, i32_w]
     rfl
    refine pure_ (i := 1) (N := some 34) (v := ?_) (a' := ?_) #[true, true, false, false, false, false, false, false, false, false, false, false, false, false, false, false] rfl rfl (by kernel_rfl) (fun _ _ _ h => h) (Or.inl ⟨by rfl, ?_⟩) ?_ ?_
    rotate_left
    ·intro w'
     go_simp
     with_reducible rfl
    rotate_left
    ·simp only [Act.put, List.setIfInBounds_toArray, List.set_cons_zero, List.set_cons_succ, i64_w, i32_w]
     rfl
    refine pure_ (i := 2) (N := some 35) (v := ?_) (a' := ?_) #[true, true, true, false, false, false, false, false, false, false, false, false, false, false, false, false] rfl rfl (by kernel_rfl) (fun _ _ _ h => h) (Or.inl ⟨by rfl, ?_⟩) ?_ ?_
    rotate_left
    ·intro w'
     go_simp
     with_reducible rfl
    rotate_left
    ·simp only [Act.put, List.setIfInBounds_toArray, List.set_cons_zero, List.set_cons_succ, i64_w, i32_w]
     rfl
    refine pure_ (i := 3) (N := some 36) (v := ?_) (a' := ?_) #[true, true, true, true, false, false, false, false, false, false, false, false, false, false, false, false] rfl rfl (by kernel_rfl) (fun _ _ _ h => h) (Or.inl ⟨by rfl, ?_⟩) ?_ ?_
    rotate_left
    ·intro w'
     go_simp
     with_reducible rfl
    rotate_left
    ·simp only [Act.put, List.setIfInBounds_toArray, List.set_cons_zero, List.set_cons_succ, i64_w, i32_w]
     rfl
    refine pure_ (i := 5) (N := some 38) (v := ?_) (a' := ?_) #[true, true, true, true, false, true, false, false, false, false, false, false, false, false, false, false] rfl rfl (by kernel_rfl) (fun _ _ _ h => h) (Or.inl ⟨by rfl, ?_⟩) ?_ ?_
    rotate_left
    ·intro w'
     go_simp
     with_reducible rfl
    rotate_left
    ·simp only [Act.put, List.setIfInBounds_toArray, List.set_cons_zero, List.set_cons_succ, i64_w, i32_w]
     rfl
    refine pure_ (i := 6) (N := some 39) (v := ?_) (a' := ?_) #[true, true, true, true, false, true, true, false, false, false, false, false, false, false, false, false] rfl rfl (by kernel_rfl) (fun _ _ _ h => h) (Or.inl ⟨by rfl, ?_⟩) ?_ ?_
    rotate_left
    ·intro w'
     go_simp
     with_reducible rfl
    rotate_left
    ·simp only [Act.put, List.setIfInBounds_toArray, List.set_cons_zero, List.set_cons_succ, i64_w, i32_w]
     rfl
    refine pure_ (i := 9) (N := some 42) (v := ?_) (a' := ?_) #[true, true, true, true, false, true, true, false, false, true, false, false, false, false, false, false] rfl rfl (by kernel_rfl) (fun _ _ _ h => h) (Or.inl ⟨by rfl, ?_⟩) ?_ ?_
    rotate_left
    ·intro w'
     go_simp
     with_reducible rfl
    rotate_left
    ·simp only [Act.put, List.setIfInBounds_toArray, List.set_cons_zero, List.set_cons_succ, i64_w, i32_w]
     rfl
    refine take_ (i := 4) (N := some 37) (v := ?_) (a' := ?_) #[true, true, true, true, true, true, true, false, false, true, false, false, false, false, false, false] rfl rfl (by kernel_rfl) (fun _ _ _ h => h) (Or.inl ⟨by rfl, ?_⟩) hHeld ?_ ?_
    rotate_left
    ·rintro w' ⟨s0, s1⟩
     go_simp
     with_reducible rfl
    rotate_left
    ·simp only [Act.put, List.setIfInBounds_toArray, List.set_cons_zero, List.set_cons_succ, i64_w, i32_w]
     rfl
    refine take_ (i := 7) (N := some 40) (v := ?_) (a' := ?_) #[true, true, true, true, true, true, true, true, false, true, false, false, false, false, false, false] rfl rfl (by kernel_rfl) (fun _ _ _ h => h) (Or.inl ⟨by rfl, ?_⟩) hHeld ?_ ?_
    rotate_left
    ·rintro w' ⟨s0, s1⟩
     go_simp
     with_reducible rfl
    rotate_left
    ·simp only [Act.put, List.setIfInBounds_toArray, List.set_cons_zero, List.set_cons_succ, i64_w, i32_w]
     rfl
    refine one_ (i := 8) (N := some 41) #[true, true, true, true, true, true, true, true, true, true, false, false, false, false, false, false] rfl rfl (by kernel_rfl) (by decide) (fun K hK => ?_)
    refine goes_ Tryd.func56 (by kernel_rfl) rfl #[.string wd] (by rfl) rfl rfl (by simp only [List.map_toArray, List.map_cons, List.map_nil]; rfl) ?_
    with_reducible refine (semantic_weightAlpineSuffixString.calls kq wd wt _ HW.out).mono ?_
    rintro e w5 ⟨rfl, hb⟩
    refine ⟨_, rfl, ?_⟩
    have M5 := Aside0.mk (M4.out.below hb)
    clear hb M4
    refine hK.out _ _ ⟨(blk_cell M5.out.blk 5).trans rfl, M5.out.c1⟩ (fun hHeld => ?_)
    clear hK K
    refine Go.Proofs.YtapaijpglfmfgaaDoorW.PrintLast.norm_ (a' := ?_) ?_ ?_
    rotate_left
    ·show Act.put _ (some 41) _ = _
     simp only [Act.put, List.setIfInBounds_toArray, List.set_cons_zero, List.set_cons_succ, i64_w, i32_w]
     rfl
    refine pure_ (i := 10) (N := some 43) (v := ?_) (a' := ?_) #[true, true, true, true, true, true, true, true, true, true, true, false, false, false, false, false] rfl rfl (by kernel_rfl) (fun _ _ _ h => h) (Or.inl ⟨by rfl, ?_⟩) ?_ ?_
    rotate_left
    ·intro w'
     go_simp
     with_reducible rfl
    rotate_left
    ·simp only [Act.put, List.setIfInBounds_toArray, List.set_cons_zero, List.set_cons_succ, i64_w, i32_w]
     rfl
    refine one_ (i := 11) (N := some 44) #[true, true, true, true, true, true, true, true, true, true, true, true, false, false, false, false] rfl rfl (by kernel_rfl) (by decide) (fun K hK => ?_)
    refine value_ (w1 := ?_) (v := ?_) (by rfl) rfl ?_ ?_
    rotate_left 2
    ·go_simp
     constructor
     ·rfl
     ·rfl
    refine hK.out _ _ ⟨(blk_cell (blk_alloc M5.out.blk _) 5).trans rfl, (cell_old (below_alloc (Below.refl _ _) _) M5.out.c1)⟩ (fun hHeld => ?_)
    clear hK K
    refine Go.Proofs.YtapaijpglfmfgaaDoorW.PrintLast.norm_ (a' := ?_) ?_ ?_
    rotate_left
    ·show Act.put _ (some 44) _ = _
     simp only [Act.put, List.setIfInBounds_toArray, List.set_cons_zero, List.set_cons_succ, i64_w, i32_w]
     rfl
    refine last_ (i := 12) (N := some 45) #[true, true, true, true, true, true, true, true, true, true, true, true, true, false, false, false] rfl rfl (by kernel_rfl) (by decide) (fun K hK => ?_)
    refine Kd.R_append_step (Kd.raw 2) (w0 := w5) w.heap.size (by rfl) (.tmp 37) (.tmp 44) 66 106 (.agg #[.int .i64 0, .pointer none]) 16 rfl Tryd.underlying66 infoSuf rfl (by decide) (by omega) sv (sfCells ns) [.int .i64 wt, .pointer (some ⟨a, 0, none⟩)] [.int .i64 wt, .pointer (some ⟨a, 0, none⟩)] (fun _ => True) (fun _ => False) rfl rfl ?aP (fun _ hk => hk.elim) (fun _ _ => trivial) M5.out.own.1 (Below.refl _ _) M5.out.gr.size ?aL ?_
    (case aP => exact ⟨rfl, rfl, by intro u hu; simp at hu; rcases hu with rfl | rfl <;> rfl⟩)
    (case aL => rw [sfCells_len]; have := HNL.out; omega)
    intro v1 w7 ho hb hg hat
    obtain ⟨A1, n1, cp1, rfl⟩ : ∃ A n c, v1 = .slice A n c := by
     obtain ⟨A, c, e⟩ := Kd.R_slice ho
     exact ⟨A, _, c, e⟩
    have B7 := Aside0.mk ((KeptT.row (p := notSuf) (by decide) M5.out.own.1 hg).blk M5.out.blk (by decide))
    have x7 := (blk_cell B7.out 5).trans rfl
    have f7 := blk_frozen B7.out 5
    have I7 := Aside0.mk (M5.out.step ho hg)
    clear ho hb hg hat
    refine hK.out _ _ ?_
    clear hK K
    refine Go.Proofs.YtapaijpglfmfgaaDoorW.PrintLast.norm_ (a' := ?_) ?_ ?_
    rotate_left
    ·show Act.put _ (some 45) _ = _
     simp only [Act.put, List.setIfInBounds_toArray, List.set_cons_zero, List.set_cons_succ, i64_w, i32_w]
     rfl
    refine pure_ (i := 13) (N := some 46) (v := ?_) (a' := ?_) #[true, true, true, true, true, true, true, true, true, true, true, true, true, true, false, false] rfl rfl (by kernel_rfl) (fun _ _ _ h => h) (Or.inl ⟨by rfl, ?_⟩) ?_ ?_
    rotate_left
    ·intro w'
     go_simp
     with_reducible rfl
    rotate_left
    ·simp only [Act.put, List.setIfInBounds_toArray, List.set_cons_zero, List.set_cons_succ, i64_w, i32_w]
     rfl
    refine pure_ (i := 14) (N := some 47) (v := ?_) (a' := ?_) #[true, true, true, true, true, true, true, true, true, true, true, true, true, true, true, false] rfl rfl (by kernel_rfl) (fun _ _ _ h => h) (Or.inl ⟨by rfl, ?_⟩) ?_ ?_
    rotate_left
    ·intro w'
     go_simp
     with_reducible rfl
    rotate_left
    ·simp only [Act.put, List.setIfInBounds_toArray, List.set_cons_zero, List.set_cons_succ, i64_w, i32_w]
     rfl
    refine last_ (i := 15) (N := none) #[true, true, true, true, true, true, true, true, true, true, true, true, true, true, true, true] rfl rfl (by kernel_rfl) (by decide) (fun K hK => ?_)
    refine skip_ (w1 := ?_) (by rfl) rfl ?_ ?_
    rotate_left
    ·go_simp
     rfl
    refine hK.out _ _ ?_
    clear hK K
    refine done_ (by kernel_rfl) ?_
    have x8 := I7.out.2
    go_wp2_with (first | (go_at_call 53; (with_reducible refine (strings_TrimPrefix.calls t m0 t' _ HT.out).mono ?_); rintro e' w' ⟨rfl, ⟨nd2, rfl⟩⟩))
    go_roundw
    all_goals first | exact ⟨k + 1, _, .slice A1 n1 cp1, t', LT.out, rfl, by first | rfl | go_num, ⟨I7.out.1.below (pw_below_drewN (Below.refl _ _) _)⟩, NX⟩ | exact meas_up0 _ k LT.out | exact meas_up1 _ k LT.out | exact meas_up2 _ k LT.out WR
  ·obtain rfl : k = xs.length := by omega
   have i3 : decide ((xs.length : Int) < (xs.length : Int)) = false := decide_eq_false (by omega)
   have i4 : ((xs.length : Int) < (xs.length : Int)) = False := eq_false (by omega)
   obtain ⟨L', hL1, hL2⟩ := HR.out
   rw [List.drop_length] at hL1
   obtain ⟨rfl, rfl⟩ : [] = L' ∧ t = rest := by simpa [sufRun] using hL1
   have HE := Aside0.mk hL2
   clear hlt hk hL1 hL2 HR
   go_wp2
   go_ret2
   exact ⟨sv, ns, rfl, HI.out.blk, HI.out.own, by rw [← HE.out]; simp [sxWant], HI.out.gr⟩
end Go.Proofs.YtapaijpglfmfgaaDoorG
end
section -- A10
namespace Go.Proofs.YtapaijpglfmfgaaDoorG
open Go.RowKit Go.Proofs.YtapaijpglfmfgaaDoorH Go.Proofs.YtapaijpglfmfgaaDoor.S Go.Proofs.YtapaijpglfmfgaaDoorW.PrintWords Go.Proofs.YtapaijpglfmfgaaDoorW.PrintLast
set_option linter.unusedVariables false
set_option linter.unusedSimpArgs false
def numsRun (k : Nat) (s : ByteArray) : Option (List ByteArray × ByteArray) := (semantic_zzAlpineNumbers.f k s).bind fun sub => if sub.toList = [] then some ([], s) else (semantic_zzSplit.f k sub ⟨#[46]⟩).bind fun parts =>
 if 0 < parts.length ∧ parts.length ≤ 1000000 ∧ ∀ d ∈ takeNe parts, Plain d ∧ AllDig d then (strings_TrimPrefix.f s sub).map fun rest => (takeNe parts, rest) else none
def letterRun (s : ByteArray) : Option (ByteArray × ByteArray) := (semantic_zzAlpineLower.f s).bind fun b => if b = true ∧ s.size = 0 then none else (strings_TrimPrefix.f s (if b then s.extract 0 1 else ⟨#[]⟩)).map fun rest => (if b then s.extract 0 1 else ⟨#[]⟩, rest)
def sufsRun (k : Nat) (s : ByteArray) : Option (List (Int × ByteArray) × ByteArray) := (semantic_zzAlpineSuffixes.f k s).bind fun xs => if xs.length ≤ 1000000 then sufRun k xs s else none
def hashRun (k : Nat) (s : ByteArray) : Option (ByteArray × ByteArray) := (semantic_zzAlpineHash.f k s).bind fun hs => (strings_TrimPrefix.f s hs).map fun rest => (hs, rest)
def buildRun (k : Nat) (s : ByteArray) : Option (Bool × Nat × ByteArray) := if s.toList = [] then some (false, 0, s) else (semantic_zzHas.f s 0 ⟨#[45, 114]⟩).bind fun t => if t = true then
  (semantic_zzDigits.f k s 2).bind fun n => if 2 ≤ n ∧ n ≤ (s.size : Int) ∧ Plain (or0 (s.extract 2 n.toNat)) ∧ AllDig (or0 (s.extract 2 n.toNat)) then (strings_TrimPrefix.f s (s.extract 0 n.toNat)).map fun rest => (false, dv (or0 (s.extract 2 n.toNat)) (or0 (s.extract 2 n.toNat)).size, rest) else none
 else some (true, 0, s)
theorem results_cell_row2 {P : Program} {fn : Func} {p u : Tmp} {ty : TypeId} (h : fn.results = #[.cell p ty, .tmp u]) (tmps : Array Value) (w : World) (g : Nat) (t : TypeId) (cs : Array Value) (fr : Nat × Nat) (d : TypeDesc)
    (hp : tmps.getD p undef = .pointer (some ⟨g, 0, none⟩)) (hg : w.heap[g]? = some (.cells cs t fr))
    (hu : P.underlying ty = some d) (hd : (match d with | .struct _ | .array _ _ => true | _ => false) = true) (hi : (P.info? ty).map (·.size) = some cs.size) :
    (results fn tmps).run P w = .ok (.tuple #[.agg cs, tmps.getD u undef]) w := by
  rw [results_cell_tmp h, hp]
  simp [asAddr, run_loadVar_row w g t ty cs fr d hg hu hd hi, Result.andThen]
theorem KeptT.gr {w w' : World} {g : Nat} {o : ByteArray} {i : Bool} {r : ByteArray} {cv : Value} {l : ByteArray} {sv : Value} {h : ByteArray} {bv : Value} (hv : VBlk w g o i r cv l sv h bv) (k : w.grownBy w' (some g)) : KeptT (fun t => t != 69) w w' := KeptT.grown hv (by decide) k
theorem numT_notV (t : TypeId) (h : numT t = true) : (t != 69) = true := by
 unfold numT at h
 rcases Bool.or_eq_true_iff.mp h with h | h
 ·rw [of_decide_eq_true h]; decide
 ·rw [of_decide_eq_true h]; decide
section
variable {w w' : World} {g : Nat} {o : ByteArray} {i : Bool} {r : ByteArray} {cv : Value} {l : ByteArray} {sv : Value} {h : ByteArray} {bv : Value}
theorem NOwn.gr {base : Nat} {v : Value} {ns : List Nm} (H : NOwn w base v ns) (hv : VBlk w g o i r cv l sv h bv) (k : w.grownBy w' (some g)) : NOwn w' base v ns :=
 ⟨R_keptT (p := fun t => t != 69) rfl (by decide) H.1 (KeptT.gr hv k), fun x hx => (H.2 x hx).kept ((KeptT.gr hv k).sub numT_notV)⟩
theorem SOwn.gr {base : Nat} {v : Value} {ns : List Sx} (H : SOwn w base v ns) (hv : VBlk w g o i r cv l sv h bv) (k : w.grownBy w' (some g)) : SOwn w' base v ns :=
 ⟨R_keptT (p := fun t => t != 69) rfl (by decide) H.1 (KeptT.gr hv k), fun x hx => (H.2 x hx).kept ((KeptT.gr hv k).sub numT_notV)⟩
theorem BigAt.gr {a n : Nat} (H : BigAt w a n) (hv : VBlk w g o i r cv l sv h bv) (k : w.grownBy w' (some g)) : BigAt w' a n := H.kept ((KeptT.gr hv k).sub numT_notV)
end
theorem nums_at (w : World) (g : Nat) (o : ByteArray) (i : Bool) (r : ByteArray) (sv : Value) (l h : ByteArray) (bv : Value) (s rest : ByteArray) (k : Nat) (ds : List ByteArray) (hv : VBlk w g o i r (.slice none 0 0) l sv h bv) (hGL : ∀ W, w.grownBy W (some g) → GLe W) (h1 : numsRun k s = some (ds, rest)) :
    Calls Tryd.prog 42 #[.pointer (some ⟨g, 0, none⟩), .string s] w fun e w' => ∃ cv ns base, e = .returned (.tuple #[.string rest, .nilIface]) ∧ VBlk w' g o i r cv l sv h bv ∧ NOwn w' base cv ns ∧ ns.map (·.o) = ds ∧ ns.length ≤ 1000000 ∧ w.grownBy w' (some g) := by
  unfold numsRun at h1
  obtain ⟨sub, h2, h1⟩ := Option.bind_eq_some_iff.mp h1
  by_cases h0 : sub.toList = []
  · rw [if_pos h0] at h1
    cases h1
    refine (parseNums_e w g s sub k h2 h0).mono ?_
    rintro e w' ⟨rfl, n, rfl⟩
    exact ⟨_, [], 0, rfl, blk_drewN hv _, ⟨Kd.R_nil _ _ _ _ _, fun x hx => by simp at hx⟩, rfl, by simp, gr_drewN (gr_refl w _) _⟩
  · rw [if_neg h0] at h1
    obtain ⟨parts, h3, h1⟩ := Option.bind_eq_some_iff.mp h1
    by_cases hc : 0 < parts.length ∧ parts.length ≤ 1000000 ∧ ∀ d ∈ takeNe parts, Plain d ∧ AllDig d
    · rw [if_pos hc] at h1
      obtain ⟨rest', h4, h5⟩ := Option.map_eq_some_iff.mp h1
      cases h5
      refine (parseNums_ w g o i r sv l h bv s sub rest k k parts hv hGL h2 h0 h3 hc.1 hc.2.1 hc.2.2 h4).mono ?_
      rintro e w' ⟨cv, ns, rfl, k1, k2, k3, k4⟩
      refine ⟨cv, ns, _, rfl, k1, k2, k3, ?_, k4⟩
      have q1 := congrArg List.length k3
      rw [List.length_map] at q1
      have q2 : (takeNe parts).length ≤ parts.length := by
        unfold takeNe
        exact (List.takeWhile_sublist _).length_le
      have q3 := hc.2.1
      omega
    · rw [if_neg hc] at h1
      cases h1
theorem letter_at (w : World) (g : Nat) (o : ByteArray) (i : Bool) (r : ByteArray) (cv sv : Value) (h : ByteArray) (bv : Value) (s L rest : ByteArray) (hv : VBlk w g o i r cv ⟨#[]⟩ sv h bv) (h1 : letterRun s = some (L, rest)) :
  Calls Tryd.prog 43 #[.pointer (some ⟨g, 0, none⟩), .string s] w fun e w' => e = .returned (.string rest) ∧ VBlk w' g o i r cv L sv h bv ∧ w.grownBy w' (some g) := by
 unfold letterRun at h1
 obtain ⟨b, h2, h1⟩ := Option.bind_eq_some_iff.mp h1
 by_cases hc : b = true ∧ s.size = 0
 ·rw [if_pos hc] at h1
  cases h1
 ·rw [if_neg hc] at h1
  obtain ⟨rest', h4, h5⟩ := Option.map_eq_some_iff.mp h1
  cases h5
  exact parseLetter_ w g o i r cv sv h bv s rest b hv h2 h4 (fun hb => by
   rcases Nat.eq_zero_or_pos s.size with h0 | h0
   ·exact absurd ⟨hb, h0⟩ hc
   ·exact h0)
theorem sufs_at (w : World) (g : Nat) (o : ByteArray) (i : Bool) (r : ByteArray) (cv : Value) (l h : ByteArray) (bv : Value) (s rest : ByteArray) (k : Nat) (L : List (Int × ByteArray)) (hv : VBlk w g o i r cv l (.slice none 0 0) h bv) (hGL : ∀ W, w.grownBy W (some g) → GLe W) (h1 : sufsRun k s = some (L, rest)) :
  Calls Tryd.prog 44 #[.pointer (some ⟨g, 0, none⟩), .string s] w fun e w' => ∃ sv ns base, e = .returned (.tuple #[.string rest, .nilIface]) ∧ VBlk w' g o i r cv l sv h bv ∧ SOwn w' base sv ns ∧ sxTold ns = sxWant L ∧ ns.length ≤ 1000000 ∧ w.grownBy w' (some g) := by
 unfold sufsRun at h1
 obtain ⟨xs, h2, h1⟩ := Option.bind_eq_some_iff.mp h1
 by_cases hc : xs.length ≤ 1000000
 ·rw [if_pos hc] at h1
  refine (parseSufs_ w g o i r cv l h bv s rest k k xs L hv hGL h2 hc h1).mono ?_
  rintro e w' ⟨sv, ns, rfl, k1, k2, k3, k4⟩
  refine ⟨sv, ns, _, rfl, k1, k2, k3, ?_, k4⟩
  have key : ∀ (xs : List (List ByteArray)) (s : ByteArray) (L : List (Int × ByteArray)) (rest : ByteArray), sufRun k xs s = some (L, rest) → L.length = xs.length := by
   intro xs
   induction xs with
   | nil => intro s L rest h; simp [sufRun] at h; rw [h.1]; rfl
   | cons m ms ih =>
    intro s L rest h
    obtain ⟨m0, wd, dg, wt, s', r', _, _, _, _, _, h6, h7⟩ := sufRun_step h
    have e1 := congrArg Prod.fst h7
    have e2 : L = (wt, or0 dg) :: r'.1 := e1
    rw [e2, List.length_cons, List.length_cons, ih s' r'.1 r'.2 h6]
  have q1 := congrArg List.length k3
  simp only [sxTold, sxWant, List.length_map] at q1
  rw [q1, key _ _ _ _ h1]
  exact hc
 ·rw [if_neg hc] at h1
  cases h1
theorem hash_at (w : World) (g : Nat) (o : ByteArray) (i : Bool) (r : ByteArray) (cv sv : Value) (l h : ByteArray) (bv : Value) (s hs rest : ByteArray) (k : Nat) (hv : VBlk w g o i r cv l sv h bv) (h1 : hashRun k s = some (hs, rest)) :
  Calls Tryd.prog 45 #[.pointer (some ⟨g, 0, none⟩), .string s] w fun e w' => e = .returned (.string rest) ∧ VBlk w' g o i r cv l sv hs bv ∧ w.grownBy w' (some g) := by
 unfold hashRun at h1
 obtain ⟨hs', h2, h1⟩ := Option.bind_eq_some_iff.mp h1
 obtain ⟨rest', h4, h5⟩ := Option.map_eq_some_iff.mp h1
 cases h5
 exact parseHash_ w g o i r cv sv l h bv s hs rest k hv h2 h4
theorem build_at (w : World) (g : Nat) (o : ByteArray) (r : ByteArray) (cv sv : Value) (l h : ByteArray) (a0 : Nat) (s rest : ByteArray) (inv : Bool) (n k : Nat) (hv : VBlk w g o false r cv l sv h (.pointer (some ⟨a0, 0, none⟩))) (hz : BigAt w a0 0) (hGL : GLe w) (h1 : buildRun k s = some (inv, n, rest)) :
  Calls Tryd.prog 46 #[.pointer (some ⟨g, 0, none⟩), .string s] w fun e w' => ∃ a, e = .returned (.tuple #[.string rest, .nilIface]) ∧ VBlk w' g o inv r cv l sv h (.pointer (some ⟨a, 0, none⟩)) ∧ BigAt w' a n ∧ w.grownBy w' (some g) := by
 unfold buildRun at h1
 by_cases h0 : s.toList = []
 ·rw [if_pos h0] at h1
  cases h1
  refine (parseBuild_e w g s h0).mono ?_
  rintro e w' ⟨rfl, rfl⟩
  exact ⟨a0, rfl, hv, hz, gr_refl _ _⟩
 ·rw [if_neg h0] at h1
  obtain ⟨t, h2, h1⟩ := Option.bind_eq_some_iff.mp h1
  cases t with
  | false =>
   rw [if_neg (by simp)] at h1
   cases h1
   refine (parseBuild_n w g o false r cv sv l h _ s hv h0 h2).mono ?_
   rintro e w' ⟨rfl, k1, k2⟩
   exact ⟨a0, rfl, k1, hz.gr hv k2, k2⟩
  | true =>
   rw [if_pos rfl] at h1
   obtain ⟨m, h3, h1⟩ := Option.bind_eq_some_iff.mp h1
   by_cases hc : 2 ≤ m ∧ m ≤ (s.size : Int) ∧ Plain (or0 (s.extract 2 m.toNat)) ∧ AllDig (or0 (s.extract 2 m.toNat))
   ·rw [if_pos hc] at h1
    obtain ⟨rest', h4, h5⟩ := Option.map_eq_some_iff.mp h1
    cases h5
    obtain ⟨m', rfl⟩ : ∃ m' : Nat, m = (m' : Int) := ⟨m.toNat, by omega⟩
    exact parseBuild_y w g o false r cv sv l h _ s rest k m' hv hGL h0 h2 h3 (by omega) (by omega) hc.2.2.1 hc.2.2.2 h4
   ·rw [if_neg hc] at h1
    cases h1
structure AP where
 o : ByteArray
 i : Bool
 r : ByteArray
 c : List ByteArray
 l : ByteArray
 s : List (Int × ByteArray)
 h : ByteArray
 b : Nat
def parseA (k : Nat) (s : ByteArray) : Option AP := (numsRun k s).bind fun a1 => (letterRun a1.2).bind fun a2 => (sufsRun k a2.2).bind fun a3 => (hashRun k a3.2).bind fun a4 => (buildRun k a4.2).bind fun a5 => some ⟨s, a5.1, a5.2.2, a1.1, a2.1, a3.1, a4.1, a5.2.1⟩
def Told (x : AV) (p : AP) : Prop := x.o = p.o ∧ x.i = p.i ∧ x.r = p.r ∧ x.c.map (·.o) = p.c ∧ (∀ y ∈ x.c, y.n = dv y.o y.o.size) ∧ x.l = p.l ∧ sxTold x.s = sxWant p.s ∧ x.h = p.h ∧ x.b = p.b
theorem parseA_inv {k : Nat} {s : ByteArray} {p : AP} (h : parseA k s = some p) : ∃ s1 s2 s3 s4, numsRun k s = some (p.c, s1) ∧ letterRun s1 = some (p.l, s2) ∧ sufsRun k s2 = some (p.s, s3) ∧ hashRun k s3 = some (p.h, s4) ∧ buildRun k s4 = some (p.i, p.b, p.r) ∧ p.o = s := by
 unfold parseA at h
 obtain ⟨⟨ds, s1⟩, h1, h⟩ := Option.bind_eq_some_iff.mp h
 obtain ⟨⟨L, s2⟩, h2, h⟩ := Option.bind_eq_some_iff.mp h
 obtain ⟨⟨sf, s3⟩, h3, h⟩ := Option.bind_eq_some_iff.mp h
 obtain ⟨⟨hs, s4⟩, h4, h⟩ := Option.bind_eq_some_iff.mp h
 obtain ⟨⟨inv, n, rest⟩, h5, h⟩ := Option.bind_eq_some_iff.mp h
 obtain rfl := Option.some.inj h
 exact ⟨s1, s2, s3, s4, h1, h2, h3, h4, h5, rfl⟩
set_option maxRecDepth 100000 in
set_option maxHeartbeats 4000000 in
theorem parse_ (w : World) (s : ByteArray) (p : AP) (k : Nat) (hGL : GLe w) (h0 : parseA k s = some p) :
  Calls Tryd.prog 29 #[.string s] w fun e w' => ∃ v x, e = .returned (.tuple #[v, .nilIface]) ∧ AVAt w' v x ∧ Told x p ∧ Below w.heap.size w w' := by
 obtain ⟨s1, s2, s3, s4, h1, h2, h3, h4, h5, h6⟩ := parseA_inv h0
 subst h6
 have HGL := Aside0.mk hGL
 have HB := Aside0.mk (Below.refl w.heap.size w)
 have H1 := Aside0.mk h1
 have H2 := Aside0.mk h2
 have H3 := Aside0.mk h3
 have H4 := Aside0.mk h4
 have H5 := Aside0.mk h5
 clear h0 h1 h2 h3 h4 h5 hGL
 obtain ⟨W0, hW0⟩ : ∃ W0, W0 = (((w.alloc (.cells #[.string ⟨#[]⟩, .bool false, .string ⟨#[]⟩, .slice none 0 0, .string ⟨#[]⟩, .slice none 0 0, .string ⟨#[]⟩, .pointer none] 69)).alloc (.cells #[.bool false, .slice none 0 0] 93)).alloc (.cells #[.string p.o, .bool false, .string ⟨#[]⟩, .slice none 0 0, .string ⟨#[]⟩, .slice none 0 0, .string ⟨#[]⟩, .pointer (some ⟨w.heap.size + 1, 0, none⟩)] 69)) := ⟨_, rfl⟩
 have b0 : Below w.heap.size w W0 := by rw [hW0]; exact below_alloc (below_alloc (below_alloc HB.out _) _) _
 have v0 : VBlk W0 (w.heap.size + 1 + 1) p.o false ⟨#[]⟩ (.slice none 0 0) ⟨#[]⟩ (.slice none 0 0) ⟨#[]⟩ (.pointer (some ⟨w.heap.size + 1, 0, none⟩)) := by
  unfold VBlk
  have h := blk_new ((w.alloc (.cells #[.string ⟨#[]⟩, .bool false, .string ⟨#[]⟩, .slice none 0 0, .string ⟨#[]⟩, .slice none 0 0, .string ⟨#[]⟩, .pointer none] 69)).alloc (.cells #[.bool false, .slice none 0 0] 93)) (.cells #[.string p.o, .bool false, .string ⟨#[]⟩, .slice none 0 0, .string ⟨#[]⟩, .slice none 0 0, .string ⟨#[]⟩, .pointer (some ⟨w.heap.size + 1, 0, none⟩)] 69)
  rw [alloc_size, alloc_size] at h
  rw [hW0]
  exact h
 have z0 : BigAt W0 (w.heap.size + 1) 0 := by
  have h := (big_zero (w.alloc (.cells #[.string ⟨#[]⟩, .bool false, .string ⟨#[]⟩, .slice none 0 0, .string ⟨#[]⟩, .slice none 0 0, .string ⟨#[]⟩, .pointer none] 69))).below (below_alloc (Below.refl _ _) (.cells #[.string p.o, .bool false, .string ⟨#[]⟩, .slice none 0 0, .string ⟨#[]⟩, .slice none 0 0, .string ⟨#[]⟩, .pointer (some ⟨w.heap.size + 1, 0, none⟩)] 69))
  rw [alloc_size] at h
  rw [hW0]
  exact h
 have r0 : W0.heap[w.heap.size]? = some (.cells #[.string ⟨#[]⟩, .bool false, .string ⟨#[]⟩, .slice none 0 0, .string ⟨#[]⟩, .slice none 0 0, .string ⟨#[]⟩, .pointer none] 69 (0, 0)) := by
  rw [hW0]
  exact blk_alloc (blk_alloc (blk_new w _) _) _
 have s0 : w.heap.size ≤ W0.heap.size := b0.size
 have HGA : Aside0 (∀ W, W0.grownBy W (some (w.heap.size + 1 + 1)) → GLe W) := ⟨fun W hW => HGL.out.lt (gr_from b0 s0 hW (by omega))⟩
 have HB0 := Aside0.mk b0
 have V0 := Aside0.mk v0
 have Z0 := Aside0.mk z0
 have R0 := Aside0.mk r0
 have HW0 := Aside0.mk hW0
 have C1 := Aside0.mk (nums_at W0 (w.heap.size + 1 + 1) p.o false ⟨#[]⟩ _ _ _ _ p.o s1 k p.c v0 HGA.out H1.out)
 rw [hW0] at C1
 clear b0 v0 z0 r0 s0 hW0 H1
 go_enter Tryd.func29, Tryd.ntmps29
 go_wp2_with (first | (go_at_call 42; (with_reducible refine C1.out.mono ?_); rintro e' w1 ⟨cv, ns, b1, rfl, v1, n1, t1, l1, g1⟩; obtain ⟨A1, cc1, rfl⟩ := Kd.R_slice n1.1; rw [← HW0.out] at g1; have V1 := Aside0.mk v1; have N1 := Aside0.mk n1; have T1 := Aside0.mk t1; have L1 := Aside0.mk l1; have GR1 := Aside0.mk g1; have Z1 := Aside0.mk (Z0.out.gr V0.out g1); clear v1 n1 t1 l1 g1 C1) | (go_at_call 43; (with_reducible refine (letter_at w1 _ p.o false ⟨#[]⟩ _ _ _ _ s1 p.l s2 V1.out H2.out).mono ?_); rintro e' w2 ⟨rfl, v2, g2⟩; have V2 := Aside0.mk v2; have N2 := Aside0.mk (N1.out.gr V1.out g2); have Z2 := Aside0.mk (Z1.out.gr V1.out g2); have GR2 := Aside0.mk (gr_gr GR1.out g2); clear v2 g2 N1 Z1) | (go_at_call 44; (with_reducible refine (sufs_at w2 _ p.o false ⟨#[]⟩ _ p.l _ _ s2 s3 k p.s V2.out (fun W hW => HGA.out W (gr_gr GR2.out hW)) H3.out).mono ?_); rintro e' w3 ⟨sv, ms, b2, rfl, v3, m3, t3, l3, g3⟩; obtain ⟨A3, cc3, rfl⟩ := Kd.R_slice m3.1; have V3 := Aside0.mk v3; have M3 := Aside0.mk m3; have T3 := Aside0.mk t3; have L3 := Aside0.mk l3; have N3 := Aside0.mk (N2.out.gr V2.out g3); have Z3 := Aside0.mk (Z2.out.gr V2.out g3); have GR3 := Aside0.mk (gr_gr GR2.out g3); clear v3 m3 t3 l3 g3 N2 Z2) | (go_at_call 45; (with_reducible refine (hash_at w3 _ p.o false ⟨#[]⟩ _ _ p.l _ _ s3 p.h s4 k V3.out H4.out).mono ?_); rintro e' w4 ⟨rfl, v4, g4⟩; have V4 := Aside0.mk v4; have M4 := Aside0.mk (M3.out.gr V3.out g4); have N4 := Aside0.mk (N3.out.gr V3.out g4); have Z4 := Aside0.mk (Z3.out.gr V3.out g4); have GR4 := Aside0.mk (gr_gr GR3.out g4); clear v4 g4 N3 M3 Z3) | (go_at_call 46; (with_reducible refine (build_at w4 _ p.o ⟨#[]⟩ _ _ p.l p.h _ s4 p.r p.i p.b k V4.out Z4.out (HGA.out w4 GR4.out) H5.out).mono ?_); rintro e' w5 ⟨a, rfl, v5, z5, g5⟩; have V5 := Aside0.mk v5; have M5 := Aside0.mk (M4.out.gr V4.out g5); have N5 := Aside0.mk (N4.out.gr V4.out g5); have Z5 := Aside0.mk z5; have GR5 := Aside0.mk (gr_gr GR4.out g5); have v6 := blk_put (cs' := #[.string p.o, .bool p.i, .string p.r, .slice A1 (nmCells ns).length cc1, .string p.l, .slice A3 (sfCells ms).length cc3, .string p.h, .pointer (some ⟨a, 0, none⟩)]) V5.out 2 (.string p.r) rfl; have x2 := (blk_cell V5.out 2).trans rfl; have f2 := blk_frozen V5.out 2; have x6 := fun j : Nat => blk_cell v6 j; have r5 := (GR5.out.block w.heap.size (blk_lt R0.out) (by intro e; have := Option.some.inj e; omega)).trans R0.out; have r6 := blk_far r5 (p := ⟨w.heap.size + 1 + 1, 2, none⟩) (by show w.heap.size ≠ w.heap.size + 1 + 1; omega) (.string p.r); have y6 := fun j : Nat => blk_cell r6 j; have q6 := fun j : Nat => blk_frozen r6 j; have V6 := Aside0.mk v6; have R6 := Aside0.mk r6; have R5 := Aside0.mk r5; clear v5 z5 g5 v6 r5 r6 N4 M4 Z4))
 (try simp only [Exit.inBlock, Exit.then])
 have hk : ∀ (W : World) (k : Nat), (∀ b, b ≠ w.heap.size + 1 + 1 → b ≠ w.heap.size → W.heap[b]? = w5.heap[b]?) → KeptT (fun t => t != 69) w5 W := fun W _ h b cs t fr hb ht => by
  refine h b (fun e => ?_) (fun e => ?_)
  ·subst e; have := V5.out; unfold VBlk at this; rw [this] at hb; cases hb; exact absurd ht (by decide)
  ·subst e; have := R5.out; rw [this] at hb; cases hb; exact absurd ht (by decide)
 refine bodyPost_ret (results_cell_row2 rfl _ _ w.heap.size 69 #[.string p.o, .bool p.i, .string p.r, .slice A1 (nmCells ns).length cc1, .string p.l, .slice A3 (sfCells ms).length cc3, .string p.h, .pointer (some ⟨a, 0, none⟩)] (0, 0) _ rfl (blk_put (cs' := #[.string p.o, .bool p.i, .string p.r, .slice A1 (nmCells ns).length cc1, .string p.l, .slice A3 (sfCells ms).length cc3, .string p.h, .pointer (some ⟨a, 0, none⟩)]) (blk_put (blk_put (blk_put (blk_put (blk_put (blk_put (blk_put R6.out 0 _ rfl) 1 _ rfl) 2 _ rfl) 3 _ rfl) 4 _ rfl) 5 _ rfl) 6 _ rfl) 7 _ rfl) Tryd.underlying69 rfl (by kernel_rfl)) rfl ?_
 have K := hk (((((((((w5.setCell ⟨w.heap.size + 1 + 1, 2, none⟩ (.string p.r)).setCell ⟨w.heap.size, 0, none⟩ (.string p.o)).setCell ⟨w.heap.size, 1, none⟩ (.bool p.i)).setCell ⟨w.heap.size, 2, none⟩ (.string p.r)).setCell ⟨w.heap.size, 3, none⟩ (.slice A1 (nmCells ns).length cc1)).setCell ⟨w.heap.size, 4, none⟩ (.string p.l)).setCell ⟨w.heap.size, 5, none⟩ (.slice A3 (sfCells ms).length cc3)).setCell ⟨w.heap.size, 6, none⟩ (.string p.h)).setCell ⟨w.heap.size, 7, none⟩ (.pointer (some ⟨a, 0, none⟩))) 0 (fun b h1 h2 => by repeat (first | rw [Below.heap_setCell _ _ _ _ h2] | rw [Below.heap_setCell _ _ _ _ h1]))
 refine ⟨_, ⟨p.o, p.i, p.r, ns, p.l, ms, p.h, p.b⟩, rfl, ⟨_, _, a, rfl, ?_, ?_, Z5.out.kept (K.sub numT_notV)⟩, ⟨rfl, rfl, rfl, T1.out, fun y hy => (N5.out.2 y hy).2.1, rfl, T3.out, rfl, rfl⟩, ?_⟩
 ·exact NOwn.crow (base := b1) ⟨R_keptT (p := fun t => t != 69) rfl (by decide) N5.out.1 K, fun x hx => (N5.out.2 x hx).kept (K.sub numT_notV)⟩ L1.out
 ·exact SOwn.srow (base := b2) ⟨R_keptT (p := fun t => t != 69) rfl (by decide) M5.out.1 K, fun x hx => (M5.out.2 x hx).kept (K.sub numT_notV)⟩ L3.out
 ·have b5 := gr_from HB0.out HB0.out.size GR5.out (show w.heap.size ≤ w.heap.size + 1 + 1 by omega)
  have b6 := b5.setCell (p := ⟨w.heap.size + 1 + 1, 2, none⟩) (by show w.heap.size ≤ w.heap.size + 1 + 1; omega) (.string p.r)
  repeat (first | (with_reducible exact b6) | refine below_set ?_ (Nat.le_refl _))
end Go.Proofs.YtapaijpglfmfgaaDoorG
end
section -- A11
namespace Go.Proofs.YtapaijpglfmfgaaDoorG
open Go.RowKit Go.Proofs.YtapaijpglfmfgaaDoorH Go.Proofs.YtapaijpglfmfgaaDoor.S Go.Proofs.YtapaijpglfmfgaaDoorW.PrintWords Go.Proofs.YtapaijpglfmfgaaDoorW.PrintLast
set_option linter.unusedVariables false
set_option linter.unusedSimpArgs false
def toNm (d : ByteArray) : Nm := ⟨d, 0, dv d d.size⟩
def toSx (x : Int × ByteArray) : Sx := ⟨x.1, 0, dv x.2 x.2.size⟩
def apC (p q : AP) : Int := if p.i = true ∧ q.i = true then strCmp p.o q.o else
 firstNe (compsC (p.c.map toNm) (q.c.map toNm)) (firstNe (lettersCmp p.l q.l) (firstNe (sufsC (p.s.map toSx) (q.s.map toSx)) (firstNe (cmpN p.b q.b) (firstNe (remCmp p.r q.r) 0))))
theorem nm_told {l : List Nm} {c : List ByteArray} (h : l.map (·.o) = c) (hn : ∀ y ∈ l, y.n = dv y.o y.o.size) (k : Nat) : nmO l k = nmO (c.map toNm) k ∧ nmN l k = nmN (c.map toNm) k ∧ nmI l k = nmI (c.map toNm) k := by
  subst h
  unfold nmO nmN nmI
  rw [List.map_map, List.getElem?_map]
  cases e : l[k]? with
  | none => exact ⟨rfl, rfl, rfl⟩
  | some x => exact ⟨rfl, hn x (List.mem_of_getElem? e), rfl⟩
theorem fromC_eq {d d' : Nat → Int} (h : ∀ k, d k = d' k) : ∀ n k, fromC d n k = fromC d' n k
 | 0, _ => rfl
 | n + 1, k => by simp only [fromC, h, fromC_eq h n]
theorem comps_told {l m : List Nm} {c d : List ByteArray} (h : l.map (·.o) = c) (hn : ∀ y ∈ l, y.n = dv y.o y.o.size) (h' : m.map (·.o) = d) (hn' : ∀ y ∈ m, y.n = dv y.o y.o.size) : compsC l m = compsC (c.map toNm) (d.map toNm) := by
  unfold compsC
  have e1 : l.length = (c.map toNm).length := by rw [← h]; simp
  have e2 : m.length = (d.map toNm).length := by rw [← h']; simp
  rw [e1, e2]
  refine fromC_eq (fun k => ?_) _ _
  obtain ⟨a1, a2, a3⟩ := nm_told h hn k
  obtain ⟨b1, b2, b3⟩ := nm_told h' hn' k
  unfold numD
  rw [a1, a2, a3, b1, b2, b3]
theorem sx_told {l : List Sx} {c : List (Int × ByteArray)} (h : sxTold l = sxWant c) (k : Nat) : sxW l k = sxW (c.map toSx) k ∧ sxN l k = sxN (c.map toSx) k := by
 have e : (sxTold l)[k]? = (sxWant c)[k]? := by rw [h]
 unfold sxTold sxWant at e
 rw [List.getElem?_map, List.getElem?_map] at e
 unfold sxW sxN
 rw [List.getElem?_map]
 cases e1 : l[k]? with
 | none =>
  cases e2 : c[k]? with
  | none => exact ⟨rfl, rfl⟩
  | some y => rw [e1, e2] at e; simp at e
 | some x =>
  cases e2 : c[k]? with
  | none => rw [e1, e2] at e; simp at e
  | some y =>
   rw [e1, e2] at e
   have e3 : (x.wt, x.n) = (y.1, dv y.2 y.2.size) := by simpa using e
   exact ⟨congrArg Prod.fst e3, congrArg Prod.snd e3⟩
theorem sufs_told {l m : List Sx} {c d : List (Int × ByteArray)} (h : sxTold l = sxWant c) (h' : sxTold m = sxWant d) : sufsC l m = sufsC (c.map toSx) (d.map toSx) := by
 unfold sufsC
 have e1 : l.length = (c.map toSx).length := by have := congrArg List.length h; simpa [sxTold, sxWant] using this
 have e2 : m.length = (d.map toSx).length := by have := congrArg List.length h'; simpa [sxTold, sxWant] using this
 rw [e1, e2]
 refine fromC_eq (fun k => ?_) _ _
 obtain ⟨a1, a2⟩ := sx_told h k
 obtain ⟨b1, b2⟩ := sx_told h' k
 unfold sufD
 rw [a1, a2, b1, b2]
theorem av_told {x y : AV} {p q : AP} (h : Told x p) (h' : Told y q) : avC x y = apC p q := by
 obtain ⟨a1, a2, a3, a4, a5, a6, a7, a8, a9⟩ := h
 obtain ⟨b1, b2, b3, b4, b5, b6, b7, b8, b9⟩ := h'
 unfold avC apC
 rw [a1, a2, a3, a6, a9, b1, b2, b3, b6, b9, comps_told a4 a5 b4 b5, sufs_told a7 b7]
theorem AVAt.form {w : World} {v : Value} {x : AV} (h : AVAt w v x) : ∃ p1 c1 p2 c2 a, v = AVv x.o x.i x.r (.slice p1 x.c.length c1) x.l (.slice p2 x.s.length c2) x.h (.pointer (some ⟨a, 0, none⟩)) := by
 obtain ⟨cv, sv, a, rfl, h1, h2, _⟩ := h
 obtain ⟨p1, c1, rfl⟩ := h1.len
 obtain ⟨p2, c2, rfl⟩ := h2.len
 exact ⟨p1, c1, p2, c2, a, rfl⟩
set_option maxRecDepth 100000 in
theorem compareStr_ (w : World) (v : Value) (x : AV) (b : ByteArray) (p q : AP) (k : Nat) (hv : AVAt w v x) (ht : Told x p) (hGL : GLe w) (h0 : parseA k b = some q) :
  Calls Tryd.prog 36 #[v, .string b] w fun e w' => e = .returned (.tuple #[.int .i64 (apC p q), .nilIface]) ∧ Below w.heap.size w w' := by
 have HV := Aside0.mk hv
 obtain ⟨p1, c1, p2, c2, a, e⟩ := hv.form
 unfold AVv at e
 subst e
 have HT := Aside0.mk ht
 have HP := Aside0.mk (fun (W : World) (h : Below w.heap.size w W) => parse_ W b q k (hGL.lt h) h0)
 have HB := Aside0.mk (Below.refl w.heap.size w)
 clear hv ht hGL h0
 go_enter Tryd.func36, Tryd.ntmps36
 go_wp2_with (first | (go_at_call 29; (with_reducible refine (HP.out _ (below_alloc HB.out _)).mono ?_); rintro e' w1 ⟨u, y, rfl, hy, hty, hb⟩; have HY := Aside0.mk hy; obtain ⟨p3, c3, p4, c4, a', e⟩ := hy.form; unfold AVv at e; subst e; have HTY := Aside0.mk hty; have B1 := Aside0.mk (below_step (below_alloc HB.out _) hb); have xx := fun j : Nat => blk_cell (blk_alloc (blk_below (blk_new w (.cells #[.string x.o, .bool x.i, .string x.r, .slice p1 x.c.length c1, .string x.l, .slice p2 x.s.length c2, .string x.h, .pointer (some ⟨a, 0, none⟩)] 69)) hb) (.cells #[.string y.o, .bool y.i, .string y.r, .slice p3 y.c.length c3, .string y.l, .slice p4 y.s.length c4, .string y.h, .pointer (some ⟨a', 0, none⟩)] 69)) j; clear hy hty hb) | (go_at_call 48; refine (compare_ _ _ _ x y (HV.out.below (below_alloc B1.out _)) (HY.out.below (below_alloc (Below.refl _ _) _))).mono ?_; rintro e' w2 ⟨rfl, hb⟩; have B2 := Aside0.mk (below_step (below_alloc B1.out _) hb); clear hb))
 go_ret2
 exact ⟨by rw [av_told HT.out HTY.out]; rfl, B2.out⟩
set_option maxRecDepth 100000 in
theorem compareText_ (w : World) (a b : ByteArray) (p q : AP) (k : Nat) (hGL : GLe w) (h1 : parseA k a = some p) (h2 : parseA k b = some q) :
  Calls Tryd.prog 18 #[.string a, .string b] w fun e w' => e = .returned (.tuple #[.int .i64 (apC p q), .bool true]) ∧ Below w.heap.size w w' := by
 have HP := Aside0.mk (parse_ w a p k hGL h1)
 have HS := Aside0.mk (fun (W : World) (v : Value) (x : AV) (h : Below w.heap.size w W) (hv : AVAt W v x) (ht : Told x p) => compareStr_ W v x b p q k hv ht (hGL.lt h) h2)
 have HB := Aside0.mk (Below.refl w.heap.size w)
 clear hGL h1 h2
 go_enter Tryd.func18, Tryd.ntmps18
 go_upto_region 5 with (first | (go_at_call 29; (with_reducible refine HP.out.mono ?_); rintro e' w1 ⟨u, y, rfl, hy, hty, hb⟩; have HY := Aside0.mk hy; obtain ⟨p3, c3, p4, c4, a', e⟩ := hy.form; unfold AVv at e; subst e; have HTY := Aside0.mk hty; have B1 := Aside0.mk hb; clear hy hty hb) | (go_at_call 36; refine (HS.out _ _ y (below_alloc B1.out _) (HY.out.below (below_alloc (Below.refl _ _) _)) HTY.out).mono ?_; rintro e' w2 ⟨rfl, hb⟩; have B2 := Aside0.mk (below_step (below_alloc B1.out _) hb); clear hb))
 go_region_with (fail)
 all_goals (try go_wp2)
 all_goals go_ret2
 all_goals exact ⟨rfl, below_drew1 B2.out⟩
end Go.Proofs.YtapaijpglfmfgaaDoorG
end
section -- B
namespace Go.Proofs.YtapaijpglfmfgaaDoorB
open Go.RowKit Go.Proofs.YtapaijpglfmfgaaDoorW.PrintWords
set_option linter.unusedVariables false
set_option linter.unusedSimpArgs false
section
variable {α β : Type} {g f : Nat → Option α} {r : α}
theorem Ev.succ (h : Ev (fun k => g (k + 1)) r) : Ev g r := Ev.step (fun _ => rfl) h
theorem Ev.pos {c : Nat → Prop} [∀ k, Decidable (c k)] (hc : ∀ k, c k) (h : Ev g r) : Ev (fun k => if c k then g k else f k) r := Ev.congr (fun k => if_pos (hc k)) h
theorem Ev.neg {c : Nat → Prop} [∀ k, Decidable (c k)] (hc : ∀ k, ¬ c k) (h : Ev f r) : Ev (fun k => if c k then g k else f k) r := Ev.congr (fun k => if_neg (hc k)) h
theorem Ev.bind0 {a : α} {q : β} {o : Option α} {F : Nat → α → Option β} (h : o = some a) (k : Ev (fun n => F n a) q) : Ev (fun n => o.bind (F n)) q := by
 subst h; exact k
theorem Ev.eq {r' : α} (h : Ev g r) (e : r = r') : Ev g r' := e ▸ h
end
theorem w64 {i : Int} (h0 : -9223372036854775808 ≤ i) (h1 : i ≤ 9223372036854775807) : wrap64 i = i := by unfold wrap64; omega
theorem w32 {i : Int} (h0 : -2147483648 ≤ i) (h1 : i ≤ 2147483647) : wrap32 i = i := by unfold wrap32; omega
theorem B_size (s : ByteArray) : s.size = (bytesOf s).length := (bytesOf_length s).symm
theorem bt_nat (s : ByteArray) (i : Nat) : bt s i = (bytesOf s).getD i 0 := by
 have h := rd_bytesOf s i
 simpa [rd] using h.symm
theorem bt_zero (s : ByteArray) : bt s 0 = (bytesOf s).getD 0 0 := bt_nat s 0
theorem B_append (s t : ByteArray) : bytesOf (s ++ t) = bytesOf s ++ bytesOf t := by
 simp [bytesOf, ByteArray.toList_data_append]
theorem B_extract (s : ByteArray) (a b : Nat) : bytesOf (s.extract a b) = ((bytesOf s).drop a).take (b - a) := by
 simp [bytesOf, Lib.extract_data, List.map_drop, List.map_take]
theorem B_drop (s : ByteArray) (a : Nat) : bytesOf (s.extract a s.size) = (bytesOf s).drop a := by
 rw [B_extract, B_size, List.take_of_length_le]
 simp
theorem B_take (s : ByteArray) (b : Nat) : bytesOf (s.extract 0 b) = (bytesOf s).take b := by
 rw [B_extract]; simp
theorem B_range (s : ByteArray) : ∀ x ∈ bytesOf s, 0 ≤ x ∧ x ≤ 255 := by
 intro x hx
 simp only [bytesOf, List.mem_map] at hx
 obtain ⟨b, _, rfl⟩ := hx
 have := b.toNat_lt
 omega
theorem B_inj {s t : ByteArray} (h : bytesOf s = bytesOf t) : s = t := by
 have h1 : s.data.toList = t.data.toList := by
  have hinj : ∀ (a b : List UInt8), a.map (fun b : UInt8 => (b.toNat : Int)) = b.map (fun b : UInt8 => (b.toNat : Int)) → a = b := by
   intro a
   induction a with
   | nil => intro b hb; cases b with
    | nil => rfl
    | cons => simp at hb
   | cons x a ih =>
    intro b hb
    cases b with
    | nil => simp at hb
    | cons y b =>
     simp only [List.map_cons, List.cons.injEq] at hb
     have : x = y := UInt8.toNat_inj.1 (by omega)
     rw [this, ih b hb.2]
  exact hinj _ _ h
 have h2 : s.data = t.data := Array.toList_inj.1 h1
 cases s; cases t; simp_all
theorem B_toList (s : ByteArray) : s.toList = s.data.toList := ByteArray.toList_eq s
theorem toList_eq_iff (s t : ByteArray) : s.toList = t.toList ↔ bytesOf s = bytesOf t := by
 rw [B_toList, B_toList]
 constructor
 ·intro h; simp [bytesOf, h]
 ·intro h; rw [B_inj h]
theorem toList_lit (s : ByteArray) (l : List UInt8) : s.toList = l ↔ bytesOf s = l.map (fun b => (b.toNat : Int)) := by
 have h := toList_eq_iff s ⟨l.toArray⟩
 have h2 : (⟨l.toArray⟩ : ByteArray).toList = l := by rw [B_toList]
 have h3 : bytesOf (⟨l.toArray⟩ : ByteArray) = l.map (fun b => (b.toNat : Int)) := by simp [bytesOf]
 rw [h2, h3] at h
 exact h
theorem toList_nil (s : ByteArray) : s.toList = [] ↔ bytesOf s = [] := by
 rw [toList_lit]; rfl
theorem size_nil (s : ByteArray) : s.size = 0 ↔ bytesOf s = [] := by
 rw [B_size, List.length_eq_zero_iff]
theorem B_str {l : List Int} (h : ∀ x ∈ l, 0 ≤ x ∧ x ≤ 255) : bytesOf (strOfNums l) = l := by
 have : ∀ (l : List Int), (∀ x ∈ l, 0 ≤ x ∧ x ≤ 255) → (l.map fun n => UInt8.ofNat n.toNat).map (fun b => (b.toNat : Int)) = l := by
  intro l
  induction l with
  | nil => intro _; rfl
  | cons a l ih =>
   intro h
   have ha := h a List.mem_cons_self
   rw [List.map_cons, List.map_cons, ih (fun x hx => h x (List.mem_cons_of_mem _ hx))]
   congr 1
   rw [UInt8.toNat_ofNat_of_lt' (by show a.toNat < 256; omega)]
   omega
 simpa [strOfNums, bytesOf] using this l h
theorem str_B (s : ByteArray) : strOfNums (bytesOf s) = s := B_inj (B_str (B_range s))
theorem B_encode {c : Int} (h0 : 0 ≤ c) (h1 : c < 128) : bytesOf (Utf8.encode c) = [c] := by
 unfold Utf8.encode
 have hv : Utf8.valid c = true := by
  simp [Utf8.valid]; omega
 simp only [hv, if_true]
 rw [if_pos (by omega)]
 simp only [bytesOf]
 have : (UInt8.ofNat c.toNat).toNat = c.toNat := UInt8.toNat_ofNat_of_lt' (by show c.toNat < 256; omega)
 simp [this]
 omega
def cmp_ : List Int → List Int → Int
 | [], [] => 0
 | [], _ :: _ => -1
 | _ :: _, [] => 1
 | a :: az, b :: bs => if a < b then -1 else if b < a then 1 else cmp_ az bs
theorem compare_B (s t : ByteArray) : Lib.compareBytes s.data.toList t.data.toList = cmp_ (bytesOf s) (bytesOf t) := by
 simp only [bytesOf]
 generalize s.data.toList = a
 generalize t.data.toList = b
 induction a generalizing b with
 | nil => cases b <;> simp [Lib.compareBytes, cmp_]
 | cons x a ih =>
  cases b with
  | nil => simp [Lib.compareBytes, cmp_]
  | cons y b =>
   simp only [Lib.compareBytes, cmp_, List.map_cons, ih b, UInt8.lt_iff_toNat_lt]
   have : ∀ a b : Nat, (a < b) = ((a : Int) < (b : Int)) := fun a b => by simp
   simp only [this]
theorem B_empty : bytesOf ByteArray.empty = [] := rfl
theorem rdOf_B (l : List ByteArray) (i : Nat) : bytesOf (rdOf ByteArray.empty l i) = (l.map bytesOf).getD i [] := by
 simp only [rdOf, Int.toNat_natCast, List.getD_eq_getElem?_getD, List.getElem?_map]
 cases l[i]? <;> simp [B_empty]
theorem drop_get (l : List Int) (i : Nat) (h : i < l.length) : l.drop i = l.getD i 0 :: l.drop (i + 1) := by
 rw [List.drop_eq_getElem_cons h]
 simp [List.getD_eq_getElem?_getD, h]
def isD (c : Int) : Bool := decide (48 ≤ c ∧ c ≤ 57)
def isL (c : Int) : Bool := decide (97 ≤ c ∧ c ≤ 122)
def run (p : Int → Bool) (l : List Int) : Nat := (l.takeWhile p).length
theorem run_nil (p : Int → Bool) : run p [] = 0 := rfl
theorem run_pos {p : Int → Bool} {c : Int} {l : List Int} (h : p c = true) : run p (c :: l) = run p l + 1 := by simp [run, h]
theorem run_neg {p : Int → Bool} {c : Int} {l : List Int} (h : p c = false) : run p (c :: l) = 0 := by simp [run, h]
theorem run_le (p : Int → Bool) (l : List Int) : run p l ≤ l.length := by
 unfold run
 exact List.IsPrefix.length_le (List.takeWhile_prefix p)
def glue (a : List Int) : List (List Int) → List (List Int)
 | [] => [a]
 | h :: t => (a ++ h) :: t
def splitP (p : Int → Bool) : List Int → List (List Int)
 | [] => [[]]
 | c :: r => if p c = true then [] :: splitP p r else glue [c] (splitP p r)
theorem glue_ne (a : List Int) (L : List (List Int)) : glue a L ≠ [] := by cases L <;> simp [glue]
theorem splitP_ne (p : Int → Bool) (l : List Int) : splitP p l ≠ [] := by
 cases l with
 | nil => simp [splitP]
 | cons c r =>
  simp only [splitP]
  split
  ·simp
  ·exact glue_ne _ _
theorem splitP_run (p : Int → Bool) : ∀ (l : List Int), splitP p l = if run (fun c => !p c) l < l.length then l.take (run (fun c => !p c) l) :: splitP p (l.drop (run (fun c => !p c) l + 1)) else [l] := by
 intro l
 induction l with
 | nil => rfl
 | cons c r ih =>
  simp only [splitP]
  cases h : p c
  ·rw [if_neg (by simp), run_pos (by simp [h])]
   have hle := run_le (fun c => !p c) r
   rw [ih]
   by_cases hlt : run (fun c => !p c) r < r.length
   ·rw [if_pos hlt, if_pos (by simp; omega)]
    simp [glue]
   ·rw [if_neg hlt, if_neg (by simp; omega)]
    rfl
  ·rw [if_pos rfl, run_neg (by simp [h]), if_pos (by simp)]
   simp
theorem splitP_length (p : Int → Bool) : ∀ (l : List Int), (splitP p l).length ≤ l.length + 1 := by
 intro l
 induction l with
 | nil => simp [splitP]
 | cons c r ih =>
  simp only [splitP]
  split
  ·simp; omega
  ·have : ∀ (a : List Int) (L : List (List Int)), L ≠ [] → (glue a L).length = L.length := by
    intro a L hL
    cases L with
    | nil => exact absurd rfl hL
    | cons x r => simp [glue]
   rw [this _ _ (splitP_ne p r)]
   simp; omega
end Go.Proofs.YtapaijpglfmfgaaDoorB
end
section -- M
namespace Go.Proofs.YtapaijpglfmfgaaDoorM
open Go.RowKit Go.Proofs.YtapaijpglfmfgaaDoorB Go.Proofs.YtapaijpglfmfgaaDoorW.PrintWords
set_option linter.unusedVariables false
set_option linter.unusedSimpArgs false
def val : List Int → Nat
 | [] => 0
 | x :: m => x.toNat + 256 * val m
def Byt (m : List Int) : Prop := ∀ x ∈ m, 0 ≤ x ∧ x ≤ 255
theorem Byt.cons {x : Int} {m : List Int} (h : Byt (x :: m)) : (0 ≤ x ∧ x ≤ 255) ∧ Byt m := ⟨h x List.mem_cons_self, fun y hy => h y (List.mem_cons_of_mem _ hy)⟩
theorem Byt.mk_cons {x : Int} {m : List Int} (h : 0 ≤ x ∧ x ≤ 255) (k : Byt m) : Byt (x :: m) := fun y hy => (List.mem_cons.1 hy).elim (fun e => e ▸ h) (k y)
theorem Byt.append {l m : List Int} (h : Byt l) (k : Byt m) : Byt (l ++ m) := fun x hx => (List.mem_append.1 hx).elim (h x) (k x)
theorem val_lt : ∀ {m : List Int}, Byt m → val m < 256 ^ m.length
 | [], _ => by simp [val]
 | x :: m, h => by
  have h1 := h.cons.1
  have h2 := val_lt h.cons.2
  simp only [val, List.length_cons, Nat.pow_succ]
  generalize 256 ^ m.length = p at h2 ⊢
  omega
theorem val_snoc : ∀ (m : List Int) (x : Int), val (m ++ [x]) = val m + 256 ^ m.length * x.toNat
 | [], x => by simp [val]
 | y :: m, x => by
  simp only [List.cons_append, val, val_snoc m x, List.length_cons, Nat.pow_succ]
  rw [Nat.mul_add, Nat.mul_right_comm, Nat.mul_comm _ 256, Nat.add_assoc]
theorem val_inj : ∀ {m m' : List Int}, Byt m → Byt m' → m.length = m'.length → val m = val m' → m = m'
 | [], [], _, _, _, _ => rfl
 | [], _ :: _, _, _, h, _ => by simp at h
 | _ :: _, [], _, _, h, _ => by simp at h
 | x :: m, y :: m', h, h', hl, hv => by
  have h1 := h.cons.1
  have h2 := h'.cons.1
  simp only [val] at hv
  have e : x = y := by omega
  have e2 : val m = val m' := by omega
  rw [e, val_inj h.cons.2 h'.cons.2 (by simpa using hl) e2]
structure Tight (m : List Int) (n : Nat) : Prop where
 byt : Byt m
 eq : val m = n
 low : m ≠ [] → 256 ^ m.length ≤ 256 * n
theorem Tight.lt_len {m m' : List Int} {n n' : Nat} (h : Tight m n) (h' : Tight m' n') (hl : m.length < m'.length) : n < n' := by
 have h1 := val_lt h.byt
 rw [h.eq] at h1
 have h2 := h'.low (by intro e; rw [e] at hl; simp at hl)
 have h3 : 256 ^ (m.length + 1) ≤ 256 ^ m'.length := Nat.pow_le_pow_right (by omega) (by omega)
 rw [Nat.pow_succ] at h3
 generalize 256 ^ m.length = p at h1 h3
 generalize 256 ^ m'.length = q at h2 h3
 omega
theorem Tight.unique {m m' : List Int} {n : Nat} (h : Tight m n) (h' : Tight m' n) : m = m' := by
 refine val_inj h.byt h'.byt ?_ (h.eq.trans h'.eq.symm)
 rcases Nat.lt_trichotomy m.length m'.length with hl | hl | hl
 ·exact absurd (h.lt_len h' hl) (Nat.lt_irrefl n)
 ·exact hl
 ·exact absurd (h'.lt_len h hl) (Nat.lt_irrefl n)
def leB : Nat → Nat → List Int
 | 0, _ => []
 | k + 1, n => if n = 0 then [] else ((n % 256 : Nat) : Int) :: leB k (n / 256)
theorem leB_tight : ∀ (k n : Nat), n ≤ k → Tight (leB k n) n
 | 0, n, h => by
  have : n = 0 := by omega
  subst this
  exact ⟨fun x hx => by simp [leB] at hx, rfl, fun h => absurd rfl h⟩
 | k + 1, n, h => by
  simp only [leB]
  by_cases h0 : n = 0
  ·rw [if_pos h0]
   subst h0
   exact ⟨fun x hx => by simp at hx, rfl, fun h => absurd rfl h⟩
  ·rw [if_neg h0]
   have ih := leB_tight k (n / 256) (by omega)
   refine ⟨Byt.mk_cons (by omega) ih.byt, ?_, fun _ => ?_⟩
   ·simp only [val, ih.eq]; omega
   ·by_cases he : leB k (n / 256) = []
    ·rw [he]; simp; omega
    ·have := ih.low he
     rw [List.length_cons, Nat.pow_succ]
     generalize 256 ^ (leB k (n / 256)).length = p at this ⊢
     omega
def magL (n : Nat) : List Int := (leB n n).reverse
def magB (n : Nat) : ByteArray := strOfNums (magL n)
theorem Tight.mag {m : List Int} {n : Nat} (h : Tight m n) : m.reverse = magL n := by
 unfold magL
 rw [h.unique (leB_tight n n (Nat.le_refl n))]
def mul10 : List Int → Nat → List Int × Nat
 | [], c => ([], c)
 | x :: m, c => ((((c + 10 * x.toNat) % 256 : Nat) : Int) :: (mul10 m ((c + 10 * x.toNat) / 256)).1, (mul10 m ((c + 10 * x.toNat) / 256)).2)
theorem mul10_len : ∀ (m : List Int) (c : Nat), (mul10 m c).1.length = m.length
 | [], _ => rfl
 | x :: m, c => by simp only [mul10, List.length_cons, mul10_len m]
theorem mul10_byt : ∀ (m : List Int) (c : Nat), Byt (mul10 m c).1
 | [], _ => fun x hx => by simp [mul10] at hx
 | x :: m, c => by
  simp only [mul10]
  exact Byt.mk_cons (by omega) (mul10_byt m _)
theorem mul10_carry : ∀ (m : List Int) (c : Nat), Byt m → c ≤ 9 → (mul10 m c).2 ≤ 9
 | [], c, _, h => h
 | x :: m, c, hb, h => by
  have := hb.cons.1
  simp only [mul10]
  exact mul10_carry m _ hb.cons.2 (by omega)
theorem mul10_val : ∀ (m : List Int) (c : Nat), val (mul10 m c).1 + 256 ^ m.length * (mul10 m c).2 = 10 * val m + c
 | [], c => by simp [mul10, val]
 | x :: m, c => by
  have ih := mul10_val m ((c + 10 * x.toNat) / 256)
  simp only [mul10, val, List.length_cons, Nat.pow_succ, Int.toNat_natCast]
  rw [Nat.mul_comm (256 ^ m.length) 256, Nat.mul_assoc]
  generalize 256 ^ m.length * (mul10 m ((c + 10 * x.toNat) / 256)).2 = p at ih ⊢
  omega
def pushD (m : List Int) (d : Nat) : List Int := if (mul10 m d).2 > 0 then (mul10 m d).1 ++ [((mul10 m d).2 : Int)] else (mul10 m d).1
theorem push_tight {m : List Int} {n d : Nat} (h : Tight m n) (hd : d ≤ 9) : Tight (pushD m d) (10 * n + d) := by
 have h1 := mul10_len m d
 have h2 := mul10_byt m d
 have h3 := mul10_carry m d h.byt hd
 have h4 := mul10_val m d
 rw [h.eq] at h4
 unfold pushD
 by_cases hc : (mul10 m d).2 > 0
 ·rw [if_pos hc]
  refine ⟨h2.append (fun x hx => ?_), ?_, fun _ => ?_⟩
  ·have : x = ((mul10 m d).2 : Int) := by simpa using hx
   omega
  ·rw [val_snoc, h1, Int.toNat_natCast]; exact h4
  ·rw [List.length_append, h1, List.length_cons, List.length_nil, Nat.pow_succ]
   have : 256 ^ m.length * 1 ≤ 256 ^ m.length * (mul10 m d).2 := Nat.mul_le_mul_left _ hc
   generalize 256 ^ m.length = p at this h4 ⊢
   omega
 ·rw [if_neg hc]
  have h0 : (mul10 m d).2 = 0 := by omega
  rw [h0] at h4
  refine ⟨h2, by simpa using h4, fun hne => ?_⟩
  have := h.low (fun e => hne (by subst e; rfl))
  rw [h1]
  omega
def decL (l : List Int) : Nat := l.foldl (fun n c => 10 * n + (c - 48).toNat) 0
theorem decL_snoc (l : List Int) (c : Int) : decL (l ++ [c]) = 10 * decL l + (c - 48).toNat := by simp [decL]
end Go.Proofs.YtapaijpglfmfgaaDoorM
end
section -- P
namespace Go.Proofs.YtapaijpglfmfgaaDoorP
open Go.RowKit Go.Proofs.YtapaijpglfmfgaaDoorB Go.Proofs.YtapaijpglfmfgaaDoorM Go.Proofs.YtapaijpglfmfgaaDoorW.PrintWords
set_option linter.unusedVariables false
set_option linter.unusedSimpArgs false
theorem run_mem {p : Int → Bool} : ∀ {l : List Int} {c : Int}, c ∈ l.take (run p l) → p c = true
 | [], c, h => by simp at h
 | x :: l, c, h => by
  cases hx : p x with
  | false => rw [run_neg hx] at h; simp at h
  | true =>
   rw [run_pos hx, List.take_succ_cons] at h
   rcases List.mem_cons.1 h with rfl | h
   ·exact hx
   ·exact run_mem h
theorem run_append {p : Int → Bool} : ∀ {a b : List Int}, (∀ c ∈ a, p c = true) → run p (a ++ b) = a.length + run p b
 | [], b, _ => by simp
 | x :: a, b, h => by
  rw [List.cons_append, run_pos (h x List.mem_cons_self), run_append (fun c hc => h c (List.mem_cons_of_mem _ hc))]
  simp; omega
theorem run_all {p : Int → Bool} {a : List Int} (h : ∀ c ∈ a, p c = true) : run p a = a.length := by
 have := run_append (b := []) h
 simpa [run_nil] using this
theorem run_stop_append {p : Int → Bool} {a b : List Int} (h : ∀ c ∈ a, p c = true) (hb : b = [] ∨ p (b.getD 0 0) = false) : run p (a ++ b) = a.length := by
 rw [run_append h]
 rcases hb with rfl | hb
 ·rfl
 ·cases b with
  | nil => rfl
  | cons x b => rw [run_neg (show p x = false from hb)]; rfl
def isPt (c : Int) : Bool := decide (c = 46)
theorem splitP_pt (a b : List Int) : splitP isPt (a ++ 46 :: b) = splitP isPt a ++ splitP isPt b := by
 induction a with
 | nil => rfl
 | cons c a ih =>
  simp only [List.cons_append, splitP]
  split
  ·rw [ih]; rfl
  ·rw [ih]
   cases hs : splitP isPt a with
   | nil => exact absurd hs (splitP_ne _ a)
   | cons x L => rfl
theorem splitP_one {l : List Int} (h : ∀ c ∈ l, c ≠ 46) : splitP isPt l = [l] := by
 induction l with
 | nil => rfl
 | cons c l ih =>
  simp only [splitP]
  rw [if_neg (by have := h c List.mem_cons_self; simp [isPt, this]), ih (fun x hx => h x (List.mem_cons_of_mem _ hx))]
  rfl
theorem getD_head {l : List Int} {c : Int} (h : l.getD 0 0 = c) (hc : c ≠ 0) : l = c :: l.drop 1 := by
 cases l with
 | nil => exact absurd h.symm hc
 | cons x l => have : x = c := h; subst this; rfl
def numsP : Nat → List Int → List (List Int) × List Int
 | 0, l => ([], l)
 | n + 1, l => if run isD l = 0 then ([], l) else
  if (l.drop (run isD l)).getD 0 0 = 46 then (l.take (run isD l) :: (numsP n (l.drop (run isD l + 1))).1, (numsP n (l.drop (run isD l + 1))).2)
  else ([l.take (run isD l)], l.drop (run isD l))
theorem numsP_none {l : List Int} (h : run isD l = 0) : ∀ n, numsP n l = ([], l)
 | 0 => rfl
 | n + 1 => by simp only [numsP, h, if_true]
theorem take_run_ne {p : Int → Bool} {l : List Int} (h : run p l ≠ 0) : l.take (run p l) ≠ [] := by
 intro e
 have := congrArg List.length e
 have h1 := run_le p l
 rw [List.length_take, List.length_nil] at this
 omega
theorem isD_pt {c : Int} (h : isD c = true) : c ≠ 46 := by
 unfold isD at h
 have := of_decide_eq_true h
 omega
theorem numsP_shape : ∀ (n : Nat) (l : List Int), ∃ sub, l = sub ++ (numsP n l).2 ∧ (splitP isPt sub).takeWhile (fun d => decide (d ≠ [])) = (numsP n l).1 ∧ ((numsP n l).1 = [] → sub = []) ∧ (∀ d ∈ (numsP n l).1, d ≠ [] ∧ ∀ c ∈ d, isD c = true)
 | 0, l => ⟨[], rfl, rfl, fun _ => rfl, fun d hd => by simp [numsP] at hd⟩
 | n + 1, l => by
  simp only [numsP]
  by_cases h0 : run isD l = 0
  ·rw [if_pos h0]
   exact ⟨[], rfl, rfl, fun _ => rfl, fun d hd => by simp at hd⟩
  ·rw [if_neg h0]
   have hne := take_run_ne h0
   have hdig : ∀ c ∈ l.take (run isD l), isD c = true := fun c hc => run_mem hc
   by_cases h1 : (l.drop (run isD l)).getD 0 0 = 46
   ·rw [if_pos h1]
    obtain ⟨sub, e1, e2, e3, e4⟩ := numsP_shape n (l.drop (run isD l + 1))
    have e := getD_head h1 (by omega)
    rw [List.drop_drop] at e
    refine ⟨l.take (run isD l) ++ 46 :: sub, ?_, ?_, fun h => by simp at h, fun d hd => ?_⟩
    ·show l = l.take (run isD l) ++ 46 :: sub ++ (numsP n (l.drop (run isD l + 1))).2
     rw [List.append_assoc, List.cons_append, ← e1, ← e, List.take_append_drop]
    ·rw [splitP_pt, splitP_one (fun c hc => isD_pt (hdig c hc))]
     show (l.take (run isD l) :: splitP isPt sub).takeWhile _ = _
     rw [List.takeWhile_cons_of_pos (by simpa using hne), e2]
    ·rcases List.mem_cons.1 hd with rfl | hd
     ·exact ⟨hne, hdig⟩
     ·exact e4 d hd
   ·rw [if_neg h1]
    refine ⟨l.take (run isD l), (List.take_append_drop _ _).symm, ?_, fun h => by simp at h, fun d hd => ?_⟩
    ·rw [splitP_one (fun c hc => isD_pt (hdig c hc)), List.takeWhile_cons_of_pos (by simpa using hne)]
     rfl
    ·have : d = l.take (run isD l) := by simpa using hd
     subst this
     exact ⟨hne, hdig⟩
theorem numsP_len (n : Nat) (l : List Int) : (numsP n l).2.length ≤ l.length := by
 obtain ⟨sub, e, _⟩ := numsP_shape n l
 have := congrArg List.length e
 rw [List.length_append] at this
 omega
theorem numsP_part : ∀ (n : Nat) (l : List Int), ∀ d ∈ (numsP n l).1, d.length ≤ l.length
 | 0, l, d, h => by simp [numsP] at h
 | n + 1, l, d, h => by
  simp only [numsP] at h
  by_cases h0 : run isD l = 0
  ·rw [if_pos h0] at h; simp at h
  ·rw [if_neg h0] at h
   by_cases h1 : (l.drop (run isD l)).getD 0 0 = 46
   ·rw [if_pos h1] at h
    rcases List.mem_cons.1 h with rfl | h
    ·rw [List.length_take]; omega
    ·have := numsP_part n _ d h
     rw [List.length_drop] at this
     omega
   ·rw [if_neg h1] at h
    have : d = l.take (run isD l) := by simpa using h
    subst this
    rw [List.length_take]; omega
def letterP (l : List Int) : List Int × List Int := if isL (l.getD 0 0) = true then (l.take 1, l.drop 1) else ([], l)
def sufWords : List (List Int) := [[97, 108, 112, 104, 97], [98, 101, 116, 97], [112, 114, 101], [114, 99], [99, 118, 115], [115, 118, 110], [103, 105, 116], [104, 103], [112]]
def wgtWords : List (List Int) := [[97, 108, 112, 104, 97], [98, 101, 116, 97], [112, 114, 101], [114, 99], [], [99, 118, 115], [115, 118, 110], [103, 105, 116], [104, 103]]
def wgt (w : List Int) : Nat := wgtWords.idxOf w
def pre (w l : List Int) : Bool := decide (l.take w.length = w)
def wordAt (l : List Int) : Option (List Int) := if l.getD 0 0 = 95 then sufWords.find? (fun w => pre w (l.drop 1)) else none
def sufsP : Nat → List Int → List (List Int × List Int) × List Int
 | 0, l => ([], l)
 | n + 1, l => match wordAt l with
  | none => ([], l)
  | some w => ((w, (l.drop (1 + w.length)).take (run isD (l.drop (1 + w.length)))) :: (sufsP n ((l.drop (1 + w.length)).drop (run isD (l.drop (1 + w.length))))).1, (sufsP n ((l.drop (1 + w.length)).drop (run isD (l.drop (1 + w.length))))).2)
theorem sufsP_none {l : List Int} (h : wordAt l = none) : ∀ n, sufsP n l = ([], l)
 | 0 => rfl
 | n + 1 => by simp only [sufsP, h]
theorem sufsP_some {l w : List Int} (h : wordAt l = some w) (n : Nat) : sufsP (n + 1) l = ((w, (l.drop (1 + w.length)).take (run isD (l.drop (1 + w.length)))) :: (sufsP n ((l.drop (1 + w.length)).drop (run isD (l.drop (1 + w.length))))).1, (sufsP n ((l.drop (1 + w.length)).drop (run isD (l.drop (1 + w.length))))).2) := by simp only [sufsP, h]
theorem wordAt_some {l w : List Int} (h : wordAt l = some w) : w ∈ sufWords ∧ l = 95 :: (w ++ l.drop (1 + w.length)) := by
 unfold wordAt at h
 by_cases h0 : l.getD 0 0 = 95
 ·rw [if_pos h0] at h
  have h1 := List.mem_of_find?_eq_some h
  have h2 := List.find?_some h
  unfold pre at h2
  have h3 : (l.drop 1).take w.length = w := of_decide_eq_true h2
  refine ⟨h1, ?_⟩
  have e := getD_head h0 (by omega)
  have e2 : l.drop 1 = w ++ (l.drop 1).drop w.length := by
   have := List.take_append_drop w.length (l.drop 1)
   rw [h3] at this
   exact this.symm
  rw [List.drop_drop] at e2
  rw [← e2]
  exact e
 ·rw [if_neg h0] at h; cases h
theorem sufWords_len {w : List Int} (h : w ∈ sufWords) : 1 ≤ w.length ∧ w.length ≤ 5 := by
 have : ∀ w ∈ sufWords, 1 ≤ w.length ∧ w.length ≤ 5 := by decide
 exact this w h
theorem sufWords_asc {w : List Int} (h : w ∈ sufWords) : ∀ c ∈ w, 97 ≤ c ∧ c ≤ 122 := by
 have : ∀ w ∈ sufWords, ∀ c ∈ w, 97 ≤ c ∧ c ≤ 122 := by decide
 exact this w h
theorem sufsP_len : ∀ (n : Nat) (l : List Int), (sufsP n l).2.length ≤ l.length
 | 0, l => Nat.le_refl _
 | n + 1, l => by
  cases h : wordAt l with
  | none => rw [sufsP_none h]; exact Nat.le_refl _
  | some w =>
   rw [sufsP_some h]
   have := sufsP_len n ((l.drop (1 + w.length)).drop (run isD (l.drop (1 + w.length))))
   rw [List.length_drop, List.length_drop] at this
   simp only
   omega
theorem sufsP_count : ∀ (n : Nat) (l : List Int), (sufsP n l).1.length ≤ l.length
 | 0, l => Nat.zero_le _
 | n + 1, l => by
  cases h : wordAt l with
  | none => rw [sufsP_none h]; exact Nat.zero_le _
  | some w =>
   rw [sufsP_some h]
   have := sufsP_count n ((l.drop (1 + w.length)).drop (run isD (l.drop (1 + w.length))))
   rw [List.length_drop, List.length_drop] at this
   have h1 := (wordAt_some h).2
   have h2 := congrArg List.length h1
   simp only [List.length_cons, List.length_append, List.length_drop] at h2 ⊢
   omega
def isX (c : Int) : Bool := isD c || decide (97 ≤ c ∧ c ≤ 102)
def hashP (l : List Int) : List Int × List Int := if l.getD 0 0 = 126 ∧ run isX (l.drop 1) ≠ 0 then (l.take (1 + run isX (l.drop 1)), l.drop (1 + run isX (l.drop 1))) else ([], l)
def buildP (l : List Int) : Bool × List Int × List Int := if l = [] then (false, [], []) else
 if l.take 2 = [45, 114] then (false, (l.drop 2).take (run isD (l.drop 2)), (l.drop 2).drop (run isD (l.drop 2))) else (true, [], l)
structure PV where
 o : List Int
 c : List (List Int)
 l : List Int
 s : List (List Int × List Int)
 h : List Int
 i : Bool
 b : List Int
 r : List Int
def rest1 (l : List Int) : List Int := (numsP l.length l).2
def rest2 (l : List Int) : List Int := (letterP (rest1 l)).2
def rest3 (l : List Int) : List Int := (sufsP (rest2 l).length (rest2 l)).2
def rest4 (l : List Int) : List Int := (hashP (rest3 l)).2
def parseP (l : List Int) : PV := ⟨l, (numsP l.length l).1, (letterP (rest1 l)).1, (sufsP (rest2 l).length (rest2 l)).1, (hashP (rest3 l)).1, (buildP (rest4 l)).1, (buildP (rest4 l)).2.1, (buildP (rest4 l)).2.2⟩
def Clear (l : List Int) : Prop := ∀ j, wordAt (l.drop j) = none
theorem rest1_len (l : List Int) : (rest1 l).length ≤ l.length := numsP_len _ l
theorem rest2_len (l : List Int) : (rest2 l).length ≤ l.length := by
 unfold rest2 letterP
 have := rest1_len l
 split
 ·simp only [List.length_drop]; omega
 ·exact this
theorem rest3_len (l : List Int) : (rest3 l).length ≤ l.length := Nat.le_trans (sufsP_len _ _) (rest2_len l)
theorem rest4_len (l : List Int) : (rest4 l).length ≤ l.length := by
 unfold rest4 hashP
 have := rest3_len l
 split
 ·simp only [List.length_drop]; omega
 ·exact this
theorem Clear.drop {l : List Int} (h : Clear l) (i : Nat) : Clear (l.drop i) := fun j => by rw [List.drop_drop]; exact h (i + j)
end Go.Proofs.YtapaijpglfmfgaaDoorP
end
section -- AQ
namespace Go.Proofs.YtapaijpglfmfgaaDoorP
open Go.RowKit Go.Proofs.YtapaijpglfmfgaaDoorG Go.Proofs.YtapaijpglfmfgaaDoorH Go.Proofs.YtapaijpglfmfgaaDoorB Go.Proofs.YtapaijpglfmfgaaDoorM Go.Proofs.YtapaijpglfmfgaaDoor.S Go.Proofs.YtapaijpglfmfgaaDoorW.PrintWords Go.Proofs.YtapaijpglfmfgaaDoorW.PrintLast
set_option linter.unusedVariables false
set_option linter.unusedSimpArgs false
theorem run_drop {p : Int → Bool} : ∀ (l : List Int), run p (l.drop (run p l)) = 0
 | [] => rfl
 | x :: l => by
  cases hx : p x with
  | false => rw [run_neg hx, List.drop_zero, run_neg hx]
  | true => rw [run_pos hx, List.drop_succ_cons]; exact run_drop l
theorem zzDigit_eq (c : Int) : semantic_zzDigit.f c = some (isD c) := by
 unfold semantic_zzDigit.f isD
 by_cases h : c ≥ 48
 ·rw [if_pos h]; simp; omega
 ·rw [if_neg h]; simp; omega
theorem digits_from (s : ByteArray) (hs : s.size ≤ 2000000) : ∀ (n i : Nat), s.size - i = n → i ≤ s.size →
  Ev (fun k => semantic_zzDigits.l0 k s (i : Int)) ((i + run isD ((bytesOf s).drop i) : Nat) : Int) := by
 intro n
 induction n with
 | zero =>
  intro i hn hi
  refine Ev.succ ?_
  simp only [semantic_zzDigits.l0]
  refine Ev.neg (fun _ => by first | omega | assumption | nofun) ?_
  refine Ev.eq (Ev.now _) ?_
  rw [List.drop_of_length_le (by rw [bytesOf_length]; omega), run_nil]
  rfl
 | succ n ih =>
  intro i hn hi
  have hl : i < (bytesOf s).length := by rw [bytesOf_length]; omega
  refine Ev.succ ?_
  simp only [semantic_zzDigits.l0, bt_nat, zzDigit_eq, Option.bind_some]
  refine Ev.pos (fun _ => by first | omega | trivial | assumption) ?_
  refine Ev.pos (fun _ => by first | omega | trivial | assumption) ?_
  rw [drop_get _ _ hl]
  cases hd : isD ((bytesOf s).getD i 0)
  ·refine Ev.neg (fun _ => Bool.false_ne_true) ?_
   refine Ev.eq (Ev.now _) ?_
   rw [run_neg hd]
   rfl
  ·refine Ev.pos (fun _ => rfl) ?_
   rw [w64 (by omega) (by omega), run_pos hd]
   refine Ev.eq (ih (i + 1) (by omega) (by omega)) ?_
   have : i + 1 + run isD ((bytesOf s).drop (i + 1)) = i + (run isD ((bytesOf s).drop (i + 1)) + 1) := by omega
   rw [this]
theorem digits_ev (s : ByteArray) (hs : s.size ≤ 2000000) (i : Nat) (hi : i ≤ s.size) : Ev (fun k => semantic_zzDigits.f k s (i : Int)) ((i + run isD ((bytesOf s).drop i) : Nat) : Int) := digits_from s hs _ i rfl hi
theorem numbers_stop (s : ByteArray) (hs : s.size ≤ 2000000) (i : Nat) (hi : i ≤ s.size) (h : run isD ((bytesOf s).drop i) = 0) : Ev (fun k => semantic_zzAlpineNumbers.l0 k s (i : Int)) (s.extract 0 i) := by
 refine Ev.succ ?_
 simp only [semantic_zzAlpineNumbers.l0]
 refine Ev.bind (digits_ev s hs i hi) ?_
 rw [h, Nat.add_zero]
 refine Ev.pos (fun _ => rfl) ?_
 refine Ev.pos (fun _ => by first | omega | trivial | assumption) ?_
 refine Ev.pos (fun _ => by first | omega | trivial | assumption) ?_
 exact Ev.eq (Ev.now _) (by simp)
theorem numbers_from (s : ByteArray) (hs : s.size ≤ 2000000) : ∀ (n i : Nat), s.size - i ≤ n → i ≤ s.size →
  Ev (fun k => semantic_zzAlpineNumbers.l0 k s (i : Int)) (s.extract 0 (s.size - (numsP n ((bytesOf s).drop i)).2.length)) := by
 intro n
 induction n with
 | zero =>
  intro i hn hi
  have e : (bytesOf s).drop i = [] := List.drop_of_length_le (by rw [bytesOf_length]; omega)
  have := numbers_stop s hs i hi (by rw [e]; rfl)
  rw [e]
  have e2 : s.size - (numsP 0 []).2.length = i := by simp [numsP]; omega
  rw [e2]
  exact this
 | succ n ih =>
  intro i hn hi
  by_cases h0 : run isD ((bytesOf s).drop i) = 0
  ·rw [numsP_none h0]
   have e2 : s.size - ((([] : List (List Int)), (bytesOf s).drop i)).2.length = i := by simp only [List.length_drop, bytesOf_length]; omega
   rw [e2]
   exact numbers_stop s hs i hi h0
  ·have hr := run_le isD ((bytesOf s).drop i)
   rw [List.length_drop, bytesOf_length] at hr
   have hdd : ((bytesOf s).drop i).drop (run isD ((bytesOf s).drop i)) = (bytesOf s).drop (i + run isD ((bytesOf s).drop i)) := by rw [List.drop_drop]
   have hdd1 : ((bytesOf s).drop i).drop (run isD ((bytesOf s).drop i) + 1) = (bytesOf s).drop (i + run isD ((bytesOf s).drop i) + 1) := by rw [List.drop_drop, Nat.add_assoc]
   have hz : run isD ((bytesOf s).drop (i + run isD ((bytesOf s).drop i))) = 0 := by rw [← hdd]; exact run_drop _
   have hgt : (((bytesOf s).drop i).drop (run isD ((bytesOf s).drop i))).getD 0 0 = (bytesOf s).getD (i + run isD ((bytesOf s).drop i)) 0 := by
    rw [hdd]; simp [List.getD_eq_getElem?_getD]
   simp only [numsP]
   rw [if_neg h0, hgt, hdd, hdd1]
   have D := digits_ev s hs i hi
   generalize run isD ((bytesOf s).drop i) = r at D hr hz h0 ⊢
   refine Ev.succ ?_
   simp only [semantic_zzAlpineNumbers.l0]
   refine Ev.bind D ?_
   refine Ev.neg (fun _ => by omega) ?_
   by_cases hlt : i + r < s.size
   ·refine Ev.pos (fun _ => by omega) ?_
    refine Ev.pos (fun _ => by omega) ?_
    rw [bt_nat]
    by_cases h46 : (bytesOf s).getD (i + r) 0 = 46
    ·rw [if_pos h46]
     refine Ev.pos (fun _ => h46) ?_
     rw [w64 (by omega) (by omega)]
     exact ih (i + r + 1) (by omega) (by omega)
    ·rw [if_neg h46]
     refine Ev.neg (fun _ => h46) ?_
     have e2 : s.size - ([((bytesOf s).drop i).take r], (bytesOf s).drop (i + r)).2.length = i + r := by simp only [List.length_drop, bytesOf_length]; omega
     rw [e2]
     exact numbers_stop s hs (i + r) (by omega) hz
   ·refine Ev.neg (fun _ => by omega) ?_
    have e3 : (bytesOf s).drop (i + r) = [] := List.drop_of_length_le (by rw [bytesOf_length]; omega)
    have h46 : (bytesOf s).getD (i + r) 0 ≠ 46 := by
     rw [List.getD_eq_getElem?_getD, List.getElem?_eq_none (by rw [bytesOf_length]; omega)]
     simp
    rw [if_neg h46]
    have e2 : s.size - ([((bytesOf s).drop i).take r], (bytesOf s).drop (i + r)).2.length = i + r := by simp only [List.length_drop, bytesOf_length]; omega
    rw [e2]
    exact numbers_stop s hs (i + r) (by omega) hz
def nPt (c : Int) : Bool := !isPt c
theorem index_from (s : ByteArray) (hs : s.size ≤ 1000000) : ∀ (n i : Nat), s.size - i = n → i ≤ s.size →
  Ev (fun k => semantic_zzIndex.l0 k s (⟨#[46]⟩ : ByteArray) i) (if i + run nPt ((bytesOf s).drop i) < s.size then ((i + run nPt ((bytesOf s).drop i) : Nat) : Int) else -1) := by
 have e1 : ((⟨#[46]⟩ : ByteArray).size : Int) = 1 := rfl
 intro n
 induction n with
 | zero =>
  intro i hn hi
  refine Ev.succ ?_
  simp only [semantic_zzIndex.l0]
  rw [e1, w64 (by omega) (by omega)]
  refine Ev.neg (fun _ => by first | omega | assumption | nofun) ?_
  refine Ev.eq (Ev.now _) ?_
  rw [if_neg (by omega)]
 | succ n ih =>
  intro i hn hi
  have hl : i < (bytesOf s).length := by rw [bytesOf_length]; omega
  have hg := drop_get _ _ hl
  have hone : bytesOf (s.extract i (i + 1)) = [(bytesOf s).getD i 0] := by rw [B_extract, hg]; simp
  refine Ev.succ ?_
  simp only [semantic_zzIndex.l0]
  rw [e1, w64 (by omega) (by omega)]
  have e2 : ((i : Int) + 1).toNat = i + 1 := by omega
  rw [e2, Int.toNat_natCast]
  refine Ev.pos (fun _ => by first | omega | trivial | assumption) ?_
  refine Ev.pos (fun _ => by first | omega | trivial | assumption) ?_
  refine Ev.pos (fun _ => by first | omega | trivial | assumption) ?_
  cases hp : isPt ((bytesOf s).getD i 0)
  ·refine Ev.neg (fun _ h => ?_) ?_
   ·rw [toList_eq_iff, hone] at h
    have h2 : [(bytesOf s).getD i 0] = [46] := h
    injection h2 with h2 _
    rw [h2] at hp
    cases hp
   ·refine Ev.eq (ih (i + 1) (by omega) (by omega)) ?_
    rw [hg, run_pos (show nPt ((bytesOf s).getD i 0) = true by unfold nPt; rw [hp]; rfl)]
    have e3 : i + 1 + run nPt ((bytesOf s).drop (i + 1)) = i + (run nPt ((bytesOf s).drop (i + 1)) + 1) := by omega
    rw [e3]
  ·refine Ev.pos (fun _ => ?_) ?_
   ·rw [toList_eq_iff, hone]
    have : (bytesOf s).getD i 0 = 46 := by simpa [isPt] using hp
    rw [this]
    rfl
   ·refine Ev.eq (Ev.now _) ?_
    rw [hg, run_neg (show nPt ((bytesOf s).getD i 0) = false by unfold nPt; rw [hp]; rfl), if_pos (by omega)]
    rfl
theorem split_from : ∀ (n : Nat) (s : ByteArray) (out : List ByteArray), s.size ≤ n → n ≤ 1000000 → out.length + n ≤ 2000000 →
  ∃ r, Ev (fun k => semantic_zzSplit.l1 k s (⟨#[46]⟩ : ByteArray) out) r ∧ r.map bytesOf = out.map bytesOf ++ splitP isPt (bytesOf s) := by
 have e1 : ((⟨#[46]⟩ : ByteArray).size : Int) = 1 := rfl
 intro n
 induction n using Nat.strongRecOn with
 | _ n ih =>
  intro s out hs hn ho
  have hix := index_from s (by omega) _ 0 rfl (by omega)
  have hix2 : Ev (fun k => semantic_zzIndex.f k s (⟨#[46]⟩ : ByteArray)) (if run nPt (bytesOf s) < s.size then ((run nPt (bytesOf s) : Nat) : Int) else -1) := by simpa [semantic_zzIndex.f] using hix
  have hsp := splitP_run isPt (bytesOf s)
  rw [bytesOf_length] at hsp
  have hrun : run (fun c => !isPt c) (bytesOf s) = run nPt (bytesOf s) := rfl
  rw [hrun] at hsp
  by_cases hlt : run nPt (bytesOf s) < s.size
  ·rw [if_pos hlt] at hix2 hsp
   obtain ⟨m, hm⟩ : ∃ m, m = run nPt (bytesOf s) := ⟨_, rfl⟩
   rw [← hm] at hix2 hsp hlt
   have hb : bytesOf (s.extract (m + 1) s.size) = (bytesOf s).drop (m + 1) := B_drop _ _
   have hsz : (s.extract (m + 1) s.size).size = s.size - (m + 1) := by rw [B_size, hb, List.length_drop, bytesOf_length]
   obtain ⟨r, hr, h1⟩ := ih (s.size - (m + 1)) (by omega) (s.extract (m + 1) s.size) (out ++ [s.extract 0 m]) (by omega) (by omega) (by simp; omega)
   refine ⟨r, Ev.succ ?_, ?_⟩
   ·simp only [semantic_zzSplit.l1]
    refine Ev.bind hix2 ?_
    rw [e1, w64 (i := (m : Int) + 1) (by omega) (by omega)]
    have e2 : ((m : Int) + 1).toNat = m + 1 := by omega
    rw [e2, Int.toNat_natCast]
    refine Ev.neg (fun _ => by first | omega | assumption | nofun) ?_
    refine Ev.pos (fun _ => by first | omega | trivial | assumption) ?_
    refine Ev.pos (fun _ => by first | omega | trivial | assumption) ?_
    refine Ev.pos (fun _ => by first | omega | trivial | assumption) ?_
    refine Ev.pos (fun _ => by first | omega | trivial | assumption) ?_
    refine Ev.pos (fun _ => by first | omega | trivial | assumption) ?_
    exact hr
   ·rw [h1, hb, hsp, List.map_append, List.map_cons, List.map_nil, B_take]
    simp
  ·rw [if_neg hlt] at hix2 hsp
   refine ⟨out ++ [s], Ev.succ ?_, ?_⟩
   ·simp only [semantic_zzSplit.l1]
    refine Ev.bind hix2 ?_
    refine Ev.pos (fun _ => by first | omega | trivial | assumption) ?_
    refine Ev.pos (fun _ => by first | omega | trivial | assumption) ?_
    exact Ev.now _
   ·rw [hsp]; simp
theorem split_ev (s : ByteArray) (hs : s.size ≤ 1000000) : ∃ r, Ev (fun k => semantic_zzSplit.f k s (⟨#[46]⟩ : ByteArray)) r ∧ r.map bytesOf = splitP isPt (bytesOf s) := by
 obtain ⟨r, h, h1⟩ := split_from s.size s [] (Nat.le_refl _) hs (by simp; omega)
 refine ⟨r, ?_, by simpa using h1⟩
 simp only [semantic_zzSplit.f]
 refine Ev.neg (fun _ h => by cases h) ?_
 exact h
theorem allDig_str {m : List Int} (h0 : m ≠ []) (h : ∀ c ∈ m, isD c = true) : AllDig (strOfNums m) ∧ bytesOf (strOfNums m) = m := by
 have hb : bytesOf (strOfNums m) = m := B_str (fun c hc => by have := h c hc; unfold isD at this; have := of_decide_eq_true this; omega)
 refine ⟨⟨by rw [B_size, hb]; exact List.length_pos_iff.2 h0, fun j hj => ?_⟩, hb⟩
 rw [bt_nat, hb]
 rw [B_size, hb] at hj
 have hm : m.getD j 0 ∈ m := by rw [List.getD_eq_getElem?_getD, List.getElem?_eq_getElem hj]; exact List.getElem_mem hj
 have := h _ hm
 unfold isD at this
 exact of_decide_eq_true this
theorem plain_dig {d : ByteArray} (h : AllDig d) (hs : d.size ≤ 1000000) : Plain d := by
 have := h.2 0 h.1
 unfold Dig at this
 have e : bt d ((0 : Nat) : Int) = bt d 0 := rfl
 rw [e] at this
 exact ⟨hs, by omega, by omega⟩
theorem dv_decL (s : ByteArray) : ∀ k, k ≤ s.size → dv s k = decL ((bytesOf s).take k)
 | 0, _ => rfl
 | k + 1, h => by
  have hl : k < (bytesOf s).length := by rw [bytesOf_length]; omega
  have e : (bytesOf s).take (k + 1) = (bytesOf s).take k ++ [(bytesOf s).getD k 0] := by
   rw [List.take_add_one, List.getElem?_eq_getElem hl, List.getD_eq_getElem?_getD, List.getElem?_eq_getElem hl]
   rfl
  rw [e, decL_snoc, ← dv_decL s k (by omega)]
  show dv s k * 10 + (bt s (k : Int) - 48).toNat = _
  rw [bt_nat]
  omega
theorem dv_all (s : ByteArray) : dv s s.size = decL (bytesOf s) := by
 rw [dv_decL s s.size (Nat.le_refl _), List.take_of_length_le (by rw [bytesOf_length]; exact Nat.le_refl _)]
theorem trim_pre (s p : ByteArray) (r : List Int) (h : bytesOf s = bytesOf p ++ r) (hs : s.size ≤ 2000000) : ∃ t, strings_TrimPrefix.f s p = some t ∧ bytesOf t = r := by
 have hl : p.size ≤ s.size := by rw [B_size, B_size, h, List.length_append]; omega
 unfold strings_TrimPrefix.f stringslite_TrimPrefix.f stringslite_HasPrefix.f
 rw [if_pos (by omega), if_pos (by omega), if_pos (by omega)]
 have e : ((s.extract 0 ((p.size : Int)).toNat).toList == p.toList) = true := by
  rw [beq_iff_eq, toList_eq_iff, B_take, Int.toNat_natCast, h, B_size, List.take_left]
 rw [e]
 simp only [Option.bind_some]
 rw [if_pos True.intro, if_pos (by omega), if_pos (by omega)]
 simp only [Option.bind_some]
 refine ⟨_, rfl, ?_⟩
 rw [B_drop, Int.toNat_natCast, h, B_size, List.drop_left]
theorem takeNe_map {l : List ByteArray} : (takeNe l).map bytesOf = (l.map bytesOf).takeWhile (fun d => decide (d ≠ [])) := by
 induction l with
 | nil => rfl
 | cons a l ih =>
  unfold takeNe at ih ⊢
  rw [List.map_cons]
  by_cases h : a.toList = []
  ·have h2 : bytesOf a = [] := (toList_nil a).1 h
   rw [List.takeWhile_cons_of_neg (by simpa using h), List.takeWhile_cons_of_neg (by simpa using h2)]
   rfl
  ·have h2 : bytesOf a ≠ [] := fun e => h ((toList_nil a).2 e)
   rw [List.takeWhile_cons_of_pos (by simpa using h), List.takeWhile_cons_of_pos (by simpa using h2), List.map_cons, ih]
theorem nums_ev (s : ByteArray) (hs : s.size ≤ 100000) : ∃ rest, Ev (fun k => numsRun k s) ((numsP (bytesOf s).length (bytesOf s)).1.map strOfNums, rest) ∧ bytesOf rest = rest1 (bytesOf s) := by
 obtain ⟨sub, e1, e2, e3, e4⟩ := numsP_shape (bytesOf s).length (bytesOf s)
 have hN := numbers_from s (by omega) (bytesOf s).length 0 (by rw [bytesOf_length]; omega) (Nat.zero_le _)
 rw [List.drop_zero] at hN
 have hsub : bytesOf (s.extract 0 (s.size - (numsP (bytesOf s).length (bytesOf s)).2.length)) = sub := by
  rw [B_take, B_size]
  have : (bytesOf s).length - (numsP (bytesOf s).length (bytesOf s)).2.length = sub.length := by
   have := congrArg List.length e1
   rw [List.length_append] at this
   omega
  rw [this]
  conv => lhs; rw [e1]
  exact List.take_left
 obtain ⟨S, hS⟩ : ∃ S, S = s.extract 0 (s.size - (numsP (bytesOf s).length (bytesOf s)).2.length) := ⟨_, rfl⟩
 rw [← hS] at hN hsub
 have hSs : S.size ≤ 1000000 := by
  have hz := hs
  have := congrArg List.length e1
  rw [List.length_append] at this
  rw [B_size, hsub]
  rw [B_size] at hs
  omega
 unfold numsRun
 by_cases h0 : sub = []
 ·have hn : (numsP (bytesOf s).length (bytesOf s)).1 = [] := by
   rw [← e2, h0]; rfl
  refine ⟨s, ?_, ?_⟩
  ·refine Ev.bind hN ?_
   refine Ev.pos (fun _ => (toList_nil S).2 (hsub.trans h0)) ?_
   rw [hn]
   exact Ev.now _
  ·unfold rest1
   conv => lhs; rw [e1, h0]
   rfl
 ·obtain ⟨parts, hp, hpb⟩ := split_ev S hSs
  obtain ⟨t, ht, htb⟩ := trim_pre s S _ (by rw [hsub]; exact e1) (by omega)
  have hpt : (takeNe parts).map bytesOf = (numsP (bytesOf s).length (bytesOf s)).1 := by rw [takeNe_map, hpb, hsub, e2]
  have hpt2 : takeNe parts = (numsP (bytesOf s).length (bytesOf s)).1.map strOfNums := by
   rw [← hpt, List.map_map]
   have : (strOfNums ∘ bytesOf) = id := by funext s; exact str_B s
   rw [this, List.map_id]
  refine ⟨t, ?_, htb⟩
  refine Ev.bind hN ?_
  refine Ev.neg (fun _ h => h0 (hsub.symm.trans ((toList_nil S).1 h))) ?_
  refine Ev.bind hp ?_
  have hlen : parts.length = (splitP isPt sub).length := by rw [← hsub, ← hpb, List.length_map]
  have hl2 := splitP_length isPt sub
  have hl3 : sub.length ≤ 1000000 - 0 := by rw [← hsub, ← B_size]; exact hSs
  have hl4 : sub.length ≤ (bytesOf s).length := by
   have := congrArg List.length e1
   rw [List.length_append] at this
   omega
  have hne : 0 < (splitP isPt sub).length := List.length_pos_iff.2 (splitP_ne _ _)
  have hle : parts.length ≤ 1000000 := by
   have hz := hs
   rw [B_size] at hz
   omega
  have hgood : ∀ d ∈ takeNe parts, Plain d ∧ AllDig d := by
   intro d hd
   rw [hpt2] at hd
   obtain ⟨m, hm, rfl⟩ := List.mem_map.1 hd
   obtain ⟨k1, k2⟩ := e4 m hm
   obtain ⟨k3, k4⟩ := allDig_str k1 k2
   refine ⟨plain_dig k3 ?_, k3⟩
   rw [B_size, k4]
   have := numsP_part (bytesOf s).length (bytesOf s) m hm
   rw [B_size] at hs
   omega
  refine Ev.pos (fun _ => ⟨by omega, hle, hgood⟩) ?_
  rw [ht, hpt2]
  exact Ev.now _
theorem letter_ev (s : ByteArray) (hs : s.size ≤ 100000) : ∃ rest, letterRun s = some (strOfNums (letterP (bytesOf s)).1, rest) ∧ bytesOf rest = (letterP (bytesOf s)).2 := by
 have hE : semantic_zzAlpineLower.f s = some (isL ((bytesOf s).getD 0 0)) := by
  unfold semantic_zzAlpineLower.f
  by_cases h0 : bytesOf s = []
  ·rw [if_pos ((toList_nil s).2 h0), h0]; rfl
  ·have hpos : 0 < s.size := by rw [B_size]; exact List.length_pos_iff.2 h0
   rw [if_neg (fun h => h0 ((toList_nil s).1 h)), if_pos (by omega), bt_zero]
   unfold isL
   by_cases h1 : (bytesOf s).getD 0 0 ≥ 97
   ·rw [if_pos h1]
    congr 1
    rw [decide_eq_decide]
    omega
   ·rw [if_neg h1]
    congr 1
    symm
    rw [decide_eq_false_iff_not]
    omega
 unfold letterRun letterP
 rw [hE]
 simp only [Option.bind_some]
 cases hc : isL ((bytesOf s).getD 0 0)
 ·obtain ⟨t, ht, htb⟩ := trim_pre s ⟨#[]⟩ (bytesOf s) (by rfl) (by omega)
  refine ⟨t, ?_, ?_⟩
  ·rw [if_neg (by rintro ⟨h, _⟩; cases h)]
   simp only [Bool.false_eq_true, if_false]
   rw [ht]
   rfl
  ·simpa using htb
 ·have hne : bytesOf s ≠ [] := by intro e; rw [e] at hc; exact absurd hc (by decide)
  have hpos : s.size ≠ 0 := fun h => hne ((size_nil s).1 h)
  obtain ⟨t, ht, htb⟩ := trim_pre s (s.extract 0 1) ((bytesOf s).drop 1) (by rw [B_take]; exact (List.take_append_drop 1 _).symm) (by omega)
  refine ⟨t, ?_, ?_⟩
  ·rw [if_neg (by rintro ⟨_, h⟩; exact hpos h)]
   simp only [if_true]
   rw [ht]
   have : s.extract 0 1 = strOfNums ((bytesOf s).take 1) := by rw [← B_take, str_B]
   rw [this]
   rfl
  ·simpa using htb
theorem has_ev (s w : ByteArray) (i : Nat) (hi : i ≤ s.size) (hs : s.size ≤ 2000000) (hw : w.size ≤ 100) : semantic_zzHas.f s (i : Int) w = some (pre (bytesOf w) ((bytesOf s).drop i)) := by
 unfold semantic_zzHas.f pre
 rw [w64 (by omega) (by omega), w64 (by omega) (by omega)]
 have e1 : ((i : Int) + (w.size : Int)).toNat = i + w.size := by omega
 by_cases h : ((s.size : Int) - i) ≥ w.size
 ·rw [if_pos h, if_pos (by omega), if_pos (by omega), if_pos (by omega), e1, Int.toNat_natCast]
  congr 1
  rw [Bool.eq_iff_iff, beq_iff_eq, toList_eq_iff, decide_eq_true_iff, B_extract, Nat.add_sub_cancel_left, B_size]
 ·rw [if_neg h]
  congr 1
  symm
  rw [decide_eq_false_iff_not]
  intro e
  have := congrArg List.length e
  rw [List.length_take, List.length_drop, bytesOf_length, ← B_size] at this
  omega
def pick (L : List Int) : List ByteArray → ByteArray → ByteArray
 | [], w => w
 | x :: xs, w => if w.toList = [] then (if pre (bytesOf x) L = true then pick L xs x else pick L xs w) else pick L xs w
theorem pick_done {L : List Int} : ∀ (xs : List ByteArray) {w : ByteArray}, w.toList ≠ [] → pick L xs w = w
 | [], _, _ => rfl
 | x :: xs, w, h => by simp only [pick]; rw [if_neg h]; exact pick_done xs h
theorem pick_find {L : List Int} : ∀ (xs : List ByteArray), (∀ x ∈ xs, x.toList ≠ []) → bytesOf (pick L xs ⟨#[]⟩) = (((xs.map bytesOf).find? (fun w => pre w L)).getD [])
 | [], _ => rfl
 | x :: xs, h => by
  simp only [pick]
  rw [if_pos (show (⟨#[]⟩ : ByteArray).toList = [] by rw [B_toList])]
  simp only [List.map_cons, List.find?_cons]
  by_cases hp : pre (bytesOf x) L = true
  ·rw [if_pos hp, hp, pick_done xs (h x List.mem_cons_self)]
   rfl
  ·rw [if_neg hp, Bool.eq_false_iff.2 hp]
   exact pick_find xs (fun y hy => h y (List.mem_cons_of_mem _ hy))
theorem words_walk (s : ByteArray) (out : List (List ByteArray)) (i : Nat) (hi : i + 1 ≤ s.size) (hs : s.size ≤ 2000000) (ws : List ByteArray) (hw : ∀ w ∈ ws, w.size ≤ 100) (hl : ws.length ≤ 100) {r : List (List ByteArray)} : ∀ (m j : Nat) (word : ByteArray), ws.length - j = m → j ≤ ws.length →
  Ev (fun k => semantic_zzAlpineSuffixes.l1 k s out (i : Int) (pick ((bytesOf s).drop (i + 1)) (ws.drop j) word) ws (ws.length : Int) (ws.length : Int)) r → Ev (fun k => semantic_zzAlpineSuffixes.l1 k s out (i : Int) word ws (ws.length : Int) (j : Int)) r := by
 intro m
 induction m with
 | zero =>
  intro j word hm hj h
  obtain rfl : j = ws.length := by omega
  rw [List.drop_length] at h
  exact h
 | succ m ih =>
  intro j word hm hj h
  have hlt : j < ws.length := by omega
  have hd : ws.drop j = ws[j] :: ws.drop (j + 1) := List.drop_eq_getElem_cons hlt
  have hrd : rdOf ByteArray.empty ws (j : Int) = ws[j] := by
   simp only [rdOf, Int.toNat_natCast, List.getD_eq_getElem?_getD, List.getElem?_eq_getElem hlt, Option.getD_some]
  rw [hd] at h
  simp only [pick] at h
  refine Ev.succ ?_
  simp only [semantic_zzAlpineSuffixes.l1]
  refine Ev.pos (fun _ => by first | omega | trivial | assumption) ?_
  refine Ev.pos (fun _ => by first | omega | trivial | assumption) ?_
  refine Ev.pos (fun _ => by first | omega | trivial | assumption) ?_
  rw [hrd, w64 (i := (j : Int) + 1) (by omega) (by omega)]
  by_cases hne : word.toList = []
  ·rw [if_pos hne] at h
   refine Ev.pos (fun _ => hne) ?_
   rw [w64 (i := (i : Int) + 1) (by omega) (by omega)]
   refine Ev.bind0 (has_ev s ws[j] (i + 1) hi hs (hw _ (List.getElem_mem hlt))) ?_
   by_cases hp : pre (bytesOf ws[j]) ((bytesOf s).drop (i + 1)) = true
   ·rw [if_pos hp] at h
    refine Ev.pos (fun _ => hp) ?_
    exact ih (j + 1) _ (by omega) (by omega) h
   ·rw [if_neg hp] at h
    refine Ev.neg (fun _ => hp) ?_
    exact ih (j + 1) _ (by omega) (by omega) h
  ·rw [if_neg hne] at h
   refine Ev.neg (fun _ => hne) ?_
   exact ih (j + 1) _ (by omega) (by omega) h
def sufBs : List ByteArray := [(⟨#[97, 108, 112, 104, 97]⟩ : ByteArray), (⟨#[98, 101, 116, 97]⟩ : ByteArray), (⟨#[112, 114, 101]⟩ : ByteArray), (⟨#[114, 99]⟩ : ByteArray), (⟨#[99, 118, 115]⟩ : ByteArray), (⟨#[115, 118, 110]⟩ : ByteArray), (⟨#[103, 105, 116]⟩ : ByteArray), (⟨#[104, 103]⟩ : ByteArray), (⟨#[112]⟩ : ByteArray)]
theorem sufBs_B : sufBs.map bytesOf = sufWords := by decide
theorem sufBs_ne : ∀ x ∈ sufBs, x.toList ≠ [] := by
 intro x hx e
 have h1 : bytesOf x ∈ sufWords := by rw [← sufBs_B]; exact List.mem_map_of_mem hx
 have h2 := sufWords_len h1
 rw [(toList_nil x).1 e] at h2
 simp at h2
theorem sufBs_size : ∀ x ∈ sufBs, x.size ≤ 100 := by
 intro x hx
 have h1 : bytesOf x ∈ sufWords := by rw [← sufBs_B]; exact List.mem_map_of_mem hx
 have h2 := sufWords_len h1
 rw [← B_size] at h2
 omega
def toM (x : List Int × List Int) : List ByteArray := [strOfNums (95 :: (x.1 ++ x.2)), strOfNums x.1, strOfNums x.2]
theorem suf_round (s : ByteArray) (out : List (List ByteArray)) (i : Nat) (hi : i < s.size) (hs : s.size ≤ 2000000) (ho : out.length ≤ 2000000) {r : List (List ByteArray)}
  (h : match wordAt ((bytesOf s).drop i) with
   | none => Ev (fun k => semantic_zzAlpineSuffixes.l0 k s out ((i + 1 : Nat) : Int)) r
   | some w => Ev (fun k => semantic_zzAlpineSuffixes.l0 k s (out ++ [toM (w, (((bytesOf s).drop i).drop (1 + w.length)).take (run isD (((bytesOf s).drop i).drop (1 + w.length))))]) ((i + 1 + w.length + run isD (((bytesOf s).drop i).drop (1 + w.length)) : Nat) : Int)) r) :
  Ev (fun k => semantic_zzAlpineSuffixes.l0 k s out (i : Int)) r := by
 have hl : i < (bytesOf s).length := by rw [bytesOf_length]; exact hi
 have hg : ((bytesOf s).drop i).getD 0 0 = (bytesOf s).getD i 0 := by simp [List.getD_eq_getElem?_getD]
 refine Ev.succ ?_
 simp only [semantic_zzAlpineSuffixes.l0, bt_nat]
 refine Ev.pos (fun _ => by first | omega | trivial | assumption) ?_
 refine Ev.pos (fun _ => by first | omega | trivial | assumption) ?_
 by_cases h95 : (bytesOf s).getD i 0 = 95
 ·refine Ev.pos (fun _ => h95) ?_
  refine Ev.bind0 rfl ?_
  show Ev (fun k => semantic_zzAlpineSuffixes.l1 k s out (i : Int) ⟨#[]⟩ sufBs (sufBs.length : Int) ((0 : Nat) : Int)) r
  refine words_walk s out i (by omega) hs sufBs sufBs_size (by decide) 9 0 _ rfl (by decide) ?_
  rw [List.drop_zero]
  have hp := pick_find (L := (bytesOf s).drop (i + 1)) sufBs sufBs_ne
  rw [sufBs_B] at hp
  have hw : wordAt ((bytesOf s).drop i) = sufWords.find? (fun w => pre w ((bytesOf s).drop (i + 1))) := by
   unfold wordAt
   rw [if_pos (hg.trans h95), List.drop_drop]
  rw [hw] at h
  have hws := fun w (hq : sufWords.find? (fun w => pre w ((bytesOf s).drop (i + 1))) = some w) => wordAt_some (hw.trans hq)
  obtain ⟨W, hW⟩ : ∃ W, W = pick ((bytesOf s).drop (i + 1)) sufBs ⟨#[]⟩ := ⟨_, rfl⟩
  rw [← hW] at hp ⊢
  refine Ev.succ ?_
  simp only [semantic_zzAlpineSuffixes.l1]
  refine Ev.neg (fun _ => by first | omega | assumption | nofun) ?_
  cases hq : sufWords.find? (fun w => pre w ((bytesOf s).drop (i + 1))) with
  | none =>
   rw [hq] at h hp
   refine Ev.pos (fun _ => (toList_nil W).2 hp) ?_
   rw [w64 (i := (i : Int) + 1) (by omega) (by omega)]
   exact h
  | some w =>
   rw [hq] at h hp
   obtain ⟨k1, k2⟩ := hws w hq
   have hpw : bytesOf W = w := hp
   have hlen := sufWords_len k1
   have hWs : W.size = w.length := by rw [B_size, hpw]
   have htot := congrArg List.length k2
   simp only [List.length_cons, List.length_append, List.length_drop, bytesOf_length] at htot
   refine Ev.neg (fun _ e => by have := (toList_nil W).1 e; rw [hpw] at this; rw [this] at hlen; simp at hlen) ?_
   rw [w64 (i := (i : Int) + 1) (by omega) (by omega), w64 (i := (i : Int) + 1 + (W.size : Int)) (by omega) (by omega), hWs]
   have hdd : ((bytesOf s).drop i).drop (1 + w.length) = (bytesOf s).drop (i + 1 + w.length) := by rw [List.drop_drop, Nat.add_assoc]
   simp only [hdd] at h
   have hr := run_le isD ((bytesOf s).drop (i + 1 + w.length))
   rw [List.length_drop, bytesOf_length] at hr
   have D := digits_ev s hs (i + 1 + w.length) (by omega)
   obtain ⟨n, hn⟩ : ∃ n, n = run isD ((bytesOf s).drop (i + 1 + w.length)) := ⟨_, rfl⟩
   rw [← hn] at D h hr
   have e1 : ((i : Int) + 1 + (w.length : Int)) = ((i + 1 + w.length : Nat) : Int) := by omega
   rw [e1]
   refine Ev.bind D ?_
   refine Ev.pos (fun _ => by omega) ?_
   refine Ev.pos (fun _ => by omega) ?_
   refine Ev.pos (fun _ => by omega) ?_
   refine Ev.pos (fun _ => by omega) ?_
   refine Ev.pos (fun _ => by omega) ?_
   refine Ev.pos (fun _ => by omega) ?_
   refine Ev.eq (g := _) ?_ rfl
   have m0 : s.extract i (i + 1 + w.length + n) = strOfNums (95 :: (w ++ ((bytesOf s).drop (i + 1 + w.length)).take n)) := by
    rw [← str_B (s.extract i (i + 1 + w.length + n)), B_extract]
    congr 1
    rw [show i + 1 + w.length + n - i = (w.length + n) + 1 by omega]
    rw [k2]
    rw [List.take_succ_cons, hdd]
    congr 1
    rw [List.take_append, List.take_of_length_le (by omega), Nat.add_sub_cancel_left]
   have m2 : s.extract (i + 1 + w.length) (i + 1 + w.length + n) = strOfNums (((bytesOf s).drop (i + 1 + w.length)).take n) := by
    rw [← str_B (s.extract (i + 1 + w.length) (i + 1 + w.length + n)), B_extract]
    rw [Nat.add_sub_cancel_left]
   have m1 : W = strOfNums w := by rw [← hpw, str_B]
   simp only [Int.toNat_natCast]
   rw [m0, m2, m1]
   exact h
 ·refine Ev.neg (fun _ => h95) ?_
  rw [w64 (i := (i : Int) + 1) (by omega) (by omega)]
  have hw : wordAt ((bytesOf s).drop i) = none := by
   unfold wordAt
   rw [if_neg (fun e => h95 (hg.symm.trans e))]
  rw [hw] at h
  exact h
theorem sufs_none (s : ByteArray) (hs : s.size ≤ 2000000) (out : List (List ByteArray)) (ho : out.length ≤ 2000000) : ∀ (n i : Nat), s.size - i = n → i ≤ s.size → Clear ((bytesOf s).drop i) →
  Ev (fun k => semantic_zzAlpineSuffixes.l0 k s out (i : Int)) out := by
 intro n
 induction n with
 | zero =>
  intro i hn hi hc
  refine Ev.succ ?_
  simp only [semantic_zzAlpineSuffixes.l0]
  refine Ev.neg (fun _ => by first | omega | assumption | nofun) ?_
  exact Ev.now _
 | succ n ih =>
  intro i hn hi hc
  refine suf_round s out i (by omega) hs ho ?_
  have h0 : wordAt ((bytesOf s).drop i) = none := hc 0
  rw [h0]
  refine ih (i + 1) (by omega) (by omega) ?_
  have := hc.drop 1
  rw [List.drop_drop] at this
  exact this
theorem sufs_from (s : ByteArray) (hs : s.size ≤ 1000000) : ∀ (n i : Nat) (out : List (List ByteArray)), s.size - i ≤ n → i ≤ s.size → out.length ≤ i → Clear (sufsP n ((bytesOf s).drop i)).2 →
  Ev (fun k => semantic_zzAlpineSuffixes.l0 k s out (i : Int)) (out ++ (sufsP n ((bytesOf s).drop i)).1.map toM) := by
 intro n
 induction n with
 | zero =>
  intro i out hn hi ho hc
  refine Ev.eq (sufs_none s (by omega) out (by omega) _ i rfl hi hc) ?_
  simp [sufsP]
 | succ n ih =>
  intro i out hn hi ho hc
  cases hq : wordAt ((bytesOf s).drop i) with
  | none =>
   rw [sufsP_none hq] at hc ⊢
   refine Ev.eq (sufs_none s (by omega) out (by omega) _ i rfl hi hc) ?_
   simp
  | some w =>
   obtain ⟨k1, k2⟩ := wordAt_some hq
   have hlen := sufWords_len k1
   have htot := congrArg List.length k2
   simp only [List.length_cons, List.length_append, List.length_drop, bytesOf_length] at htot
   have hdd : ((bytesOf s).drop i).drop (1 + w.length) = (bytesOf s).drop (i + 1 + w.length) := by rw [List.drop_drop, Nat.add_assoc]
   have hr := run_le isD ((bytesOf s).drop (i + 1 + w.length))
   rw [List.length_drop, bytesOf_length] at hr
   rw [sufsP_some hq] at hc ⊢
   rw [hdd, List.drop_drop] at hc ⊢
   refine suf_round s out i (by omega) (by omega) (by omega) ?_
   rw [hq]
   simp only
   rw [hdd]
   have := ih (i + 1 + w.length + run isD ((bytesOf s).drop (i + 1 + w.length))) (out ++ [toM (w, ((bytesOf s).drop (i + 1 + w.length)).take (run isD ((bytesOf s).drop (i + 1 + w.length))))]) (by omega) (by omega) (by rw [List.length_append]; simp; omega) hc
   refine Ev.eq this ?_
   rw [List.append_assoc]
   rfl
end Go.Proofs.YtapaijpglfmfgaaDoorP
end
section -- AR
namespace Go.Proofs.YtapaijpglfmfgaaDoorP
open Go.RowKit Go.Proofs.YtapaijpglfmfgaaDoorG Go.Proofs.YtapaijpglfmfgaaDoorH Go.Proofs.YtapaijpglfmfgaaDoorB Go.Proofs.YtapaijpglfmfgaaDoorM Go.Proofs.YtapaijpglfmfgaaDoor.S Go.Proofs.YtapaijpglfmfgaaDoorW.PrintWords Go.Proofs.YtapaijpglfmfgaaDoorW.PrintLast
set_option linter.unusedVariables false
set_option linter.unusedSimpArgs false
theorem Ev.map {α β : Type} {g : Nat → Option α} {a : α} {F : α → β} (h : Ev g a) : Ev (fun k => (g k).map F) (F a) := by
 obtain ⟨k0, hk⟩ := h
 exact ⟨k0, fun k h => by show Option.map F (g k) = _; rw [hk k h]; rfl⟩
def wgtBs : List ByteArray := [(⟨#[97, 108, 112, 104, 97]⟩ : ByteArray), (⟨#[98, 101, 116, 97]⟩ : ByteArray), (⟨#[112, 114, 101]⟩ : ByteArray), (⟨#[114, 99]⟩ : ByteArray), (⟨#[]⟩ : ByteArray), (⟨#[99, 118, 115]⟩ : ByteArray), (⟨#[115, 118, 110]⟩ : ByteArray), (⟨#[103, 105, 116]⟩ : ByteArray), (⟨#[104, 103]⟩ : ByteArray)]
theorem wgtBs_B : wgtBs.map bytesOf = wgtWords := by decide
theorem weight_from (x : ByteArray) (ws : List ByteArray) (hl : ws.length ≤ 100) : ∀ (m j : Nat), ws.length - j = m → j ≤ ws.length →
  Ev (fun k => semantic_weightAlpineSuffixString.l0 k x ws ws (ws.length : Int) (j : Int)) ((j + ((ws.drop j).map bytesOf).idxOf (bytesOf x) : Nat) : Int) := by
 intro m
 induction m with
 | zero =>
  intro j hm hj
  obtain rfl : j = ws.length := by omega
  refine Ev.succ ?_
  simp only [semantic_weightAlpineSuffixString.l0]
  refine Ev.neg (fun _ => by first | omega | assumption | nofun) ?_
  refine Ev.eq (Ev.now _) ?_
  rw [List.drop_length]
  rfl
 | succ m ih =>
  intro j hm hj
  have hlt : j < ws.length := by omega
  have hd : ws.drop j = ws[j] :: ws.drop (j + 1) := List.drop_eq_getElem_cons hlt
  have hrd : rdOf ByteArray.empty ws (j : Int) = ws[j] := by
   simp only [rdOf, Int.toNat_natCast, List.getD_eq_getElem?_getD, List.getElem?_eq_getElem hlt, Option.getD_some]
  refine Ev.succ ?_
  simp only [semantic_weightAlpineSuffixString.l0]
  refine Ev.pos (fun _ => by first | omega | trivial | assumption) ?_
  refine Ev.pos (fun _ => by first | omega | trivial | assumption) ?_
  refine Ev.pos (fun _ => by first | omega | trivial | assumption) ?_
  rw [hrd, hd, List.map_cons, List.idxOf_cons]
  by_cases h : bytesOf x = bytesOf ws[j]
  ·refine Ev.pos (fun _ => (toList_eq_iff _ _).2 h) ?_
   refine Ev.eq (Ev.now _) ?_
   have : (bytesOf ws[j] == bytesOf x) = true := by rw [beq_iff_eq]; exact h.symm
   rw [this]
   rfl
  ·refine Ev.neg (fun _ e => h ((toList_eq_iff _ _).1 e)) ?_
   rw [w64 (i := (j : Int) + 1) (by omega) (by omega)]
   refine Ev.eq (ih (j + 1) (by omega) (by omega)) ?_
   have : (bytesOf ws[j] == bytesOf x) = false := by rw [beq_eq_false_iff_ne]; exact fun e => h e.symm
   rw [this]
   simp only [cond_false]
   omega
theorem weight_ev (x : ByteArray) : Ev (fun k => semantic_weightAlpineSuffixString.f k x) (wgt (bytesOf x) : Int) := by
 simp only [semantic_weightAlpineSuffixString.f]
 refine Ev.bind0 rfl ?_
 have h := weight_from x wgtBs (by decide) 9 0 rfl (by decide)
 rw [List.drop_zero, wgtBs_B] at h
 refine Ev.eq h ?_
 unfold wgt
 rw [Nat.zero_add]
def convS (x : List Int × List Int) : Int × ByteArray := ((wgt x.1 : Int), or0 (strOfNums x.2))
theorem digs_asc {d : List Int} (h : ∀ c ∈ d, isD c = true) : ∀ c ∈ d, 0 ≤ c ∧ c ≤ 255 := fun c hc => by
 have := h c hc
 unfold isD at this
 have := of_decide_eq_true this
 omega
theorem or0_good {d : List Int} (h : ∀ c ∈ d, isD c = true) (hl : d.length ≤ 1000000) : Plain (or0 (strOfNums d)) ∧ AllDig (or0 (strOfNums d)) ∧ dv (or0 (strOfNums d)) (or0 (strOfNums d)).size = decL d := by
 have hb := B_str (digs_asc h)
 unfold or0
 by_cases h0 : d = []
 ·subst h0
  rw [if_pos ((toList_nil _).2 hb)]
  refine ⟨by decide, ?_, by decide⟩
  have := (allDig_str (m := [48]) (by simp) (by decide)).1
  exact this
 ·rw [if_neg (fun e => h0 (hb.symm.trans ((toList_nil _).1 e)))]
  obtain ⟨k1, k2⟩ := allDig_str h0 h
  refine ⟨plain_dig k1 (by rw [B_size, hb]; exact hl), k1, ?_⟩
  rw [dv_all, hb]
theorem sufRun_ev : ∀ (n : Nat) (s : ByteArray), s.size ≤ 100000 → ∃ rest, Ev (fun k => sufRun k ((sufsP n (bytesOf s)).1.map toM) s) ((sufsP n (bytesOf s)).1.map convS, rest) ∧ bytesOf rest = (sufsP n (bytesOf s)).2 := by
 intro n
 induction n with
 | zero => intro s hs; exact ⟨s, Ev.now _, rfl⟩
 | succ n ih =>
  intro s hs
  cases hq : wordAt (bytesOf s) with
  | none =>
   rw [sufsP_none hq]
   exact ⟨s, Ev.now _, rfl⟩
  | some w =>
   obtain ⟨k1, k2⟩ := wordAt_some hq
   rw [sufsP_some hq]
   obtain ⟨D, hD⟩ : ∃ D, D = (bytesOf s).drop (1 + w.length) := ⟨_, rfl⟩
   rw [← hD] at k2 ⊢
   have hdig : ∀ c ∈ D.take (run isD D), isD c = true := fun c hc => run_mem hc
   have hDl : D.length ≤ 100000 := by rw [hD, List.length_drop, bytesOf_length]; omega
   have hm0 : bytesOf (strOfNums (95 :: (w ++ D.take (run isD D)))) = 95 :: (w ++ D.take (run isD D)) := B_str (fun c hc => by
    rcases List.mem_cons.1 hc with rfl | hc
    ·omega
    ·rcases List.mem_append.1 hc with hc | hc
     ·have := sufWords_asc k1 c hc; omega
     ·exact digs_asc hdig c hc)
   have hw : bytesOf (strOfNums w) = w := B_str (fun c hc => by have := sufWords_asc k1 c hc; omega)
   obtain ⟨t, ht, htb⟩ := trim_pre s (strOfNums (95 :: (w ++ D.take (run isD D)))) (D.drop (run isD D)) (by
    rw [hm0, k2]
    simp only [List.cons_append, List.append_assoc, List.take_append_drop]) (by omega)
   have hts : t.size ≤ 100000 := by rw [B_size, htb, List.length_drop]; omega
   obtain ⟨rest, hr, hrb⟩ := ih t hts
   rw [htb] at hr hrb
   refine ⟨rest, ?_, hrb⟩
   simp only [List.map_cons, toM, sufRun]
   have hwe := weight_ev (strOfNums w)
   rw [hw] at hwe
   refine Ev.bind hwe ?_
   refine Ev.bind0 ht ?_
   obtain ⟨g1, g2, _⟩ := or0_good hdig (by rw [List.length_take]; omega)
   refine Ev.pos (fun _ => ⟨g1, g2⟩) ?_
   exact Ev.map hr
theorem sufs_ev (s : ByteArray) (hs : s.size ≤ 100000) (hc : Clear (sufsP (bytesOf s).length (bytesOf s)).2) : ∃ rest, Ev (fun k => sufsRun k s) ((sufsP (bytesOf s).length (bytesOf s)).1.map convS, rest) ∧ bytesOf rest = (sufsP (bytesOf s).length (bytesOf s)).2 := by
 obtain ⟨rest, hr, hrb⟩ := sufRun_ev (bytesOf s).length s hs
 refine ⟨rest, ?_, hrb⟩
 have h := sufs_from s (by omega) (bytesOf s).length 0 [] (by rw [bytesOf_length]; omega) (Nat.zero_le _) (Nat.zero_le _) (by rw [List.drop_zero]; exact hc)
 rw [List.drop_zero, List.nil_append] at h
 unfold sufsRun
 refine Ev.bind h ?_
 refine Ev.pos (fun _ => ?_) hr
 rw [List.length_map]
 have := sufsP_count (bytesOf s).length (bytesOf s)
 rw [B_size] at hs
 omega
theorem hash_from (s : ByteArray) (hs : s.size ≤ 2000000) : ∀ (m i : Nat), s.size - i = m → 1 ≤ i → i ≤ s.size →
  Ev (fun k => semantic_zzAlpineHash.l0 k s (i : Int)) (if i + run isX ((bytesOf s).drop i) = 1 then ⟨#[]⟩ else s.extract 0 (i + run isX ((bytesOf s).drop i))) := by
 intro m
 induction m with
 | zero =>
  intro i hm h1 hi
  refine Ev.succ ?_
  simp only [semantic_zzAlpineHash.l0]
  refine Ev.neg (fun _ => by first | omega | assumption | nofun) ?_
  rw [List.drop_of_length_le (by rw [bytesOf_length]; omega), run_nil, Nat.add_zero]
  by_cases h : i = 1
  ·rw [if_pos h]
   refine Ev.pos (fun _ => by omega) ?_
   exact Ev.now _
  ·rw [if_neg h]
   refine Ev.neg (fun _ => by omega) ?_
   refine Ev.pos (fun _ => by first | omega | trivial | assumption) ?_
   refine Ev.pos (fun _ => by first | omega | trivial | assumption) ?_
   exact Ev.eq (Ev.now _) (by simp)
 | succ m ih =>
  intro i hm h1 hi
  have hl : i < (bytesOf s).length := by rw [bytesOf_length]; omega
  have next := ih (i + 1) (by omega) (by omega) (by omega)
  refine Ev.succ ?_
  simp only [semantic_zzAlpineHash.l0, bt_nat, zzDigit_eq, Option.bind_some]
  refine Ev.pos (fun _ => by first | omega | trivial | assumption) ?_
  refine Ev.pos (fun _ => by first | omega | trivial | assumption) ?_
  rw [w64 (i := (i : Int) + 1) (by omega) (by omega), drop_get _ _ hl]
  obtain ⟨c, hcc⟩ : ∃ c, c = (bytesOf s).getD i 0 := ⟨_, rfl⟩
  rw [← hcc]
  cases hx : isX c with
  | true =>
   rw [run_pos hx]
   have e : i + (run isX ((bytesOf s).drop (i + 1)) + 1) = i + 1 + run isX ((bytesOf s).drop (i + 1)) := by omega
   rw [e]
   cases hd : isD c with
   | true => exact Ev.pos (fun _ => rfl) next
   | false =>
    unfold isX at hx
    rw [hd, Bool.false_or] at hx
    have hx2 := of_decide_eq_true hx
    refine Ev.neg (fun _ => Bool.false_ne_true) ?_
    refine Ev.pos (fun _ => by omega) ?_
    exact Ev.pos (fun _ => by omega) next
  | false =>
   rw [run_neg hx, Nat.add_zero]
   unfold isX at hx
   have hx1 := (Bool.or_eq_false_iff.1 hx).1
   have hx2 := of_decide_eq_false (Bool.or_eq_false_iff.1 hx).2
   rw [hx1]
   refine Ev.neg (fun _ => Bool.false_ne_true) ?_
   have fin : ∀ {g : Nat → Option ByteArray}, Ev g (if i = 1 then ⟨#[]⟩ else s.extract 0 i) → Ev g (if i = 1 then ⟨#[]⟩ else s.extract 0 i) := fun h => h
   have stop : Ev (fun k : Nat => if (i : Int) = 1 then some (⟨#[]⟩ : ByteArray) else if (i : Int) ≤ (s.size : Int) then some (s.extract 0 ((i : Int)).toNat) else none) (if i = 1 then ⟨#[]⟩ else s.extract 0 i) := by
    by_cases h : i = 1
    ·rw [if_pos h]
     refine Ev.pos (fun _ => by omega) ?_
     exact Ev.now _
    ·rw [if_neg h]
     refine Ev.neg (fun _ => by omega) ?_
     refine Ev.pos (fun _ => by first | omega | trivial | assumption) ?_
     exact Ev.eq (Ev.now _) (by simp)
   by_cases h97 : c ≥ 97
   ·refine Ev.pos (fun _ => h97) ?_
    refine Ev.neg (fun _ => by omega) ?_
    exact stop
   ·refine Ev.neg (fun _ => h97) ?_
    exact stop
theorem hash_ev (s : ByteArray) (hs : s.size ≤ 100000) : ∃ rest, Ev (fun k => hashRun k s) (strOfNums (hashP (bytesOf s)).1, rest) ∧ bytesOf rest = (hashP (bytesOf s)).2 := by
 have hE : Ev (fun k => semantic_zzAlpineHash.f k s) (strOfNums (hashP (bytesOf s)).1) := by
  simp only [semantic_zzAlpineHash.f]
  by_cases h0 : bytesOf s = []
  ·refine Ev.pos (fun _ => (toList_nil s).2 h0) ?_
   refine Ev.succ ?_
   simp only [semantic_zzAlpineHash.j0]
   rw [h0]
   exact Ev.now _
  ·have hpos : 0 < s.size := by rw [B_size]; exact List.length_pos_iff.2 h0
   refine Ev.neg (fun _ e => h0 ((toList_nil s).1 e)) ?_
   refine Ev.pos (fun _ => by omega) ?_
   refine Ev.succ ?_
   simp only [semantic_zzAlpineHash.j0, bt_zero]
   by_cases h1 : (bytesOf s).getD 0 0 = 126
   ·refine Ev.neg (fun _ => by rw [h1]; decide) ?_
    have h := hash_from s (by omega) _ 1 rfl (Nat.le_refl 1) (by omega)
    refine Ev.eq h ?_
    unfold hashP
    by_cases h2 : run isX ((bytesOf s).drop 1) = 0
    ·rw [if_pos (by omega), if_neg (fun h => h.2 h2)]
     rfl
    ·rw [if_neg (by omega), if_pos ⟨h1, h2⟩, ← B_take, str_B]
   ·refine Ev.pos (fun _ => by rw [bne_iff_ne]; exact h1) ?_
    refine Ev.eq (Ev.now _) ?_
    unfold hashP
    rw [if_neg (fun h => h1 h.1)]
    rfl
 have hsplit : bytesOf s = (hashP (bytesOf s)).1 ++ (hashP (bytesOf s)).2 := by
  unfold hashP
  split
  ·exact (List.take_append_drop _ _).symm
  ·rfl
 have hb : bytesOf (strOfNums (hashP (bytesOf s)).1) = (hashP (bytesOf s)).1 := B_str (fun c hc => B_range s c (by rw [hsplit]; exact List.mem_append_left _ hc))
 obtain ⟨t, ht, htb⟩ := trim_pre s (strOfNums (hashP (bytesOf s)).1) (hashP (bytesOf s)).2 (by rw [hb]; exact hsplit) (by omega)
 refine ⟨t, ?_, htb⟩
 unfold hashRun
 refine Ev.bind hE ?_
 rw [ht]
 exact Ev.now _
theorem build_ev (s : ByteArray) (hs : s.size ≤ 100000) : ∃ rest, Ev (fun k => buildRun k s) ((buildP (bytesOf s)).1, decL (buildP (bytesOf s)).2.1, rest) ∧ bytesOf rest = (buildP (bytesOf s)).2.2 := by
 unfold buildRun buildP
 by_cases h0 : bytesOf s = []
 ·refine ⟨s, ?_, ?_⟩
  ·refine Ev.pos (fun _ => (toList_nil s).2 h0) ?_
   rw [if_pos h0]
   exact Ev.now _
  ·rw [if_pos h0]; exact h0
 ·rw [if_neg h0]
  have hh := has_ev s ⟨#[45, 114]⟩ 0 (Nat.zero_le _) (by omega) (by decide)
  rw [List.drop_zero] at hh
  have hh2 : semantic_zzHas.f s 0 ⟨#[45, 114]⟩ = some (pre [45, 114] (bytesOf s)) := hh
  by_cases h1 : (bytesOf s).take 2 = [45, 114]
  ·rw [if_pos h1]
   have hp : pre [45, 114] (bytesOf s) = true := decide_eq_true h1
   rw [hp] at hh2
   have hl2 : 2 ≤ s.size := by
    have := congrArg List.length h1
    rw [List.length_take, bytesOf_length] at this
    simp at this
    omega
   have D := digits_ev s (by omega) 2 hl2
   have hr := run_le isD ((bytesOf s).drop 2)
   rw [List.length_drop, bytesOf_length] at hr
   have hdig : ∀ c ∈ ((bytesOf s).drop 2).take (run isD ((bytesOf s).drop 2)), isD c = true := fun c hc => run_mem hc
   obtain ⟨n, hn⟩ : ∃ n, n = run isD ((bytesOf s).drop 2) := ⟨_, rfl⟩
   rw [← hn] at D hr hdig ⊢
   have e2 : s.extract 2 (2 + n) = strOfNums (((bytesOf s).drop 2).take n) := by
    rw [← str_B (s.extract 2 (2 + n)), B_extract, Nat.add_sub_cancel_left]
   have e0 : bytesOf (s.extract 0 (2 + n)) = (bytesOf s).take (2 + n) := B_take _ _
   obtain ⟨g1, g2, g3⟩ := or0_good hdig (by rw [List.length_take]; omega)
   obtain ⟨t, ht, htb⟩ := trim_pre s (s.extract 0 (2 + n)) (((bytesOf s).drop 2).drop n) (by rw [e0, List.drop_drop]; exact (List.take_append_drop _ _).symm) (by omega)
   refine ⟨t, ?_, htb⟩
   refine Ev.neg (fun _ e => h0 ((toList_nil s).1 e)) ?_
   refine Ev.bind0 hh2 ?_
   refine Ev.pos (fun _ => rfl) ?_
   refine Ev.bind D ?_
   rw [Int.toNat_natCast, e2]
   refine Ev.pos (fun _ => ⟨by omega, by omega, g1, g2⟩) ?_
   rw [ht, g3]
   exact Ev.now _
  ·rw [if_neg h1]
   have hp : pre [45, 114] (bytesOf s) = false := decide_eq_false h1
   rw [hp] at hh2
   refine ⟨s, ?_, rfl⟩
   refine Ev.neg (fun _ e => h0 ((toList_nil s).1 e)) ?_
   refine Ev.bind0 hh2 ?_
   refine Ev.neg (fun _ => Bool.false_ne_true) ?_
   exact Ev.now _
def apOf (p : PV) : AP := ⟨strOfNums p.o, p.i, strOfNums p.r, p.c.map strOfNums, strOfNums p.l, p.s.map convS, strOfNums p.h, decL p.b⟩
theorem parseA_ev (s : ByteArray) (hs : s.size ≤ 100000) (hc : Clear (rest3 (bytesOf s))) : Ev (fun k => parseA k s) (apOf (parseP (bytesOf s))) := by
 obtain ⟨s1, h1, b1⟩ := nums_ev s hs
 have z1 : s1.size ≤ 100000 := by rw [B_size, b1]; have := rest1_len (bytesOf s); rw [B_size] at hs; omega
 obtain ⟨s2, h2, b2⟩ := letter_ev s1 z1
 rw [b1] at h2 b2
 have b2' : bytesOf s2 = rest2 (bytesOf s) := b2
 have z2 : s2.size ≤ 100000 := by rw [B_size, b2']; have := rest2_len (bytesOf s); rw [B_size] at hs; omega
 obtain ⟨s3, h3, b3⟩ := sufs_ev s2 z2 (by rw [b2']; exact hc)
 rw [b2'] at h3 b3
 have b3' : bytesOf s3 = rest3 (bytesOf s) := b3
 have z3 : s3.size ≤ 100000 := by rw [B_size, b3']; have := rest3_len (bytesOf s); rw [B_size] at hs; omega
 obtain ⟨s4, h4, b4⟩ := hash_ev s3 z3
 rw [b3'] at h4 b4
 have b4' : bytesOf s4 = rest4 (bytesOf s) := b4
 have z4 : s4.size ≤ 100000 := by rw [B_size, b4']; have := rest4_len (bytesOf s); rw [B_size] at hs; omega
 obtain ⟨s5, h5, b5⟩ := build_ev s4 z4
 rw [b4'] at h5 b5
 unfold parseA
 refine Ev.bind h1 ?_
 refine Ev.bind0 h2 ?_
 refine Ev.bind h3 ?_
 refine Ev.bind h4 ?_
 refine Ev.bind h5 ?_
 refine Ev.eq (Ev.now _) ?_
 have e0 : s = strOfNums (bytesOf s) := (str_B s).symm
 have e5 : s5 = strOfNums (buildP (rest4 (bytesOf s))).2.2 := by rw [← b5, str_B]
 unfold apOf parseP
 simp only
 rw [← e5, ← e0]
end Go.Proofs.YtapaijpglfmfgaaDoorP
end
section -- AT
namespace Go.Proofs.YtapaijpglfmfgaaDoorG
open Go.RowKit Go.Proofs.YtapaijpglfmfgaaDoorP Go.Proofs.YtapaijpglfmfgaaDoorB Go.Proofs.YtapaijpglfmfgaaDoorW.PrintWords Go.Proofs.YtapaijpglfmfgaaDoorW.PrintLast
def GL (w : World) : Prop := GLe w
theorem GL.at {w w' : World} (h : GL w) (hb : Below w.heap.size w w') : GL w' := GLe.below h hb (Nat.le_refl _)
def clearB : List Int → Bool
 | [] => true
 | x :: l => (wordAt (x :: l)).isNone && clearB l
theorem clearB_iff : ∀ (l : List Int), clearB l = true ↔ Clear l
 | [] => ⟨fun _ j => by rw [List.drop_nil]; rfl, fun _ => rfl⟩
 | x :: l => by
  simp only [clearB, Bool.and_eq_true, clearB_iff l]
  constructor
  ·rintro ⟨h1, h2⟩ j
   cases j with
   | zero => exact Option.isNone_iff_eq_none.1 h1
   | succ j => exact h2 j
  ·intro h
   exact ⟨Option.isNone_iff_eq_none.2 (h 0), fun j => h (j + 1)⟩
def AOk (s : ByteArray) : Prop := s.size ≤ 100000 ∧ clearB (rest3 (bytesOf s)) = true
instance (s : ByteArray) : Decidable (AOk s) := inferInstanceAs (Decidable (_ ∧ _))
theorem AOk.ev {s : ByteArray} (h : AOk s) : Ev (fun k => parseA k s) (apOf (parseP (bytesOf s))) := parseA_ev s h.1 ((clearB_iff _).1 h.2)
def impl_AlpineCompareText.f (a0 a1 : ByteArray) : Option (Int × Bool) := if AOk a0 ∧ AOk a1 then some (apC (apOf (parseP (bytesOf a0))) (apOf (parseP (bytesOf a1))), true) else none
theorem impl_AlpineCompareText.calls (a0 a1 : ByteArray) (r1 : Int) (r2 : Bool) (w : World) (h : impl_AlpineCompareText.f a0 a1 = some (r1, r2)) (hG : GL w) :
  Calls Tryd.prog 18 #[.string a0, .string a1] w fun e w' => e = .returned (.tuple #[.int .i64 r1, .bool r2]) ∧ Below w.heap.size w w' := by
 unfold impl_AlpineCompareText.f at h
 by_cases hc : AOk a0 ∧ AOk a1
 ·rw [if_pos hc] at h
  have h2 := Option.some.inj h
  injection h2 with e1 e2
  subst e1
  subst e2
  obtain ⟨k1, h1⟩ := hc.1.ev
  obtain ⟨k2, h2⟩ := hc.2.ev
  exact compareText_ w a0 a1 _ _ (max k1 k2) hG (h1 _ (Nat.le_max_left _ _)) (h2 _ (Nat.le_max_right _ _))
 ·rw [if_neg hc] at h
  cases h
end Go.Proofs.YtapaijpglfmfgaaDoorG
end
section -- WEqStruct
namespace Go.Proofs.YtapaijpglfmfgaaDoorW.PrintWords
open Go.RowKit
section
variable {P : Program} {d : Nat} {xs ys : Array Value} {f : Field} {fs : List Field} {a b : Value} {r s : Bool} {w : World}
theorem eqf_last (hn : (f.name == "_") = false) (ha : (part f.type xs f.offset).run P w = .ok a w) (hb : (part f.type ys f.offset).run P w = .ok b w) (he : (Op.equalIn d f.type a b).run P w = .ok r w) : (Op.eqFields d xs ys [f]).run P w = .ok r w := by
 have hn' : f.name ≠ "_" := by simpa using hn
 simp only [Op.eqFields, if_pos hn', Sem.run_bind, ha, hb, he, Result.andThen_ok]
 cases r <;> simp
theorem eqf_cons (hn : (f.name == "_") = false) (ha : (part f.type xs f.offset).run P w = .ok a w) (hb : (part f.type ys f.offset).run P w = .ok b w) (he : (Op.equalIn d f.type a b).run P w = .ok r w) (hr : (Op.eqFields d xs ys fs).run P w = .ok s w) : (Op.eqFields d xs ys (f :: fs)).run P w = .ok (r && s) w := by
 have hn' : f.name ≠ "_" := by simpa using hn
 rw [Op.eqFields]
 simp only [if_pos hn', Sem.run_bind, ha, hb, he, Result.andThen_ok]
 cases r
 ·simp
 ·simpa using hr
theorem eqA_of {t : TypeId} {fs : Array Field} (hu : P.underlying t = some (.struct fs)) (hp : P.stoodInHeld t = false) (h : (Op.eqFields d xs ys fs.toList).run P w = .ok r w) : (Op.equalIn (d + 1) t (.agg xs) (.agg ys)).run P w = .ok r w := by
 have hf : P.fieldsOf t = fs := by simp [Program.fieldsOf, hu]
 rw [run_equalIn_struct (P := P) w d t xs ys (by rw [hf]; exact hu) hp, hf]
 exact h
end
end Go.Proofs.YtapaijpglfmfgaaDoorW.PrintWords
end
section -- Qx0
namespace Go.Proofs.YtapaijpglfmfgaaDoor.Q
open Go.RowKit Go.Proofs.YtapaijpglfmfgaaDoorH Go.Proofs.YtapaijpglfmfgaaDoorG Go.Proofs.YtapaijpglfmfgaaDoorW.PrintWords Go.Proofs.YtapaijpglfmfgaaDoorW.PrintLast Go.Proofs.YtapaijpglfmfgaaDoorW.PrintMore
attribute [local go_sem] max2_int min2_int max_two min_two max_three min_three max_four min_four
set_option linter.unusedVariables false
set_option linter.unusedSimpArgs false
def errW : Option Int → Value
 | none => .nilIface
 | some c => .iface 0 (.int .i64 c)
theorem errW_none : errW none = .nilIface := rfl
theorem errW_some (c : Int) : errW (some c) = .iface 0 (.int .i64 c) := rfl
theorem info5 : (Tryd.prog.info? 5).map (fun i => (i.zero, i.size, i.bytes)) = some (some (.int .u8 0), 1, 1) := by kernel_rfl
theorem info54 : (Tryd.prog.info? 54).map (fun i => (i.zero, i.size, i.bytes)) = some (some (.agg #[(.string ⟨#[]⟩), (.bool false), (.string ⟨#[]⟩), (.int .i64 0)]), 4, 48) := by kernel_rfl
theorem info58 : (Tryd.prog.info? 58).map (fun i => (i.zero, i.size, i.bytes)) = some (some (.agg #[(.int .i64 0), (.bool false), (.string ⟨#[]⟩)]), 3, 32) := by kernel_rfl
structure S77 where
 f0 : Bool
 f1 : ByteArray
def z77 : S77 := ⟨false, (⟨#[]⟩ : ByteArray)⟩
structure S99 where
 f0 : ByteArray
 f1 : S77
 f2 : Int
def z99 : S99 := ⟨(⟨#[]⟩ : ByteArray), z77, (0 : Int)⟩
def rd_T99 (xs : List S99) (i : Int) : S99 := xs.getD i.toNat z99
structure S101 where
 f0 : Int
 f1 : S77
def z101 : S101 := ⟨(0 : Int), z77⟩
def rd_T101 (xs : List S101) (i : Int) : S101 := xs.getD i.toNat z101
structure S31 where
 f0 : Bool
 f1 : ByteArray
def z31 : S31 := ⟨false, (⟨#[]⟩ : ByteArray)⟩
def k31 : Kd S31 := Kd.iso (Kd.pair Kd.bool Kd.string) (fun x : S31 => (x.f0, x.f1))
theorem k31_open {w : World} {x : S31} {cs : List Value} (h : k31.K w x cs) : cs = [.bool x.f0, .string x.f1] := by
 obtain ⟨_, _, rfl, rfl, rfl⟩ := h
 exact rfl
theorem k31_mkM (w : World) (base : Nat) (ok : Nat → Prop) (x : S31)  : k31.M w base ok x [.bool x.f0, .string x.f1] := ⟨[.bool x.f0], [.string x.f1], rfl, rfl, rfl⟩
structure S54 where
 f0 : ByteArray
 f1 : S31
 f2 : Int
def z54 : S54 := ⟨(⟨#[]⟩ : ByteArray), z31, (0 : Int)⟩
def k54 : Kd S54 := Kd.iso (Kd.pair Kd.string (Kd.pair k31 (Kd.int .i64))) (fun x : S54 => (x.f0, x.f1, x.f2))
theorem k54_open {w : World} {x : S54} {cs : List Value} (h : k54.K w x cs) : cs = [.string x.f0, .bool x.f1.f0, .string x.f1.f1, .int .i64 x.f2] := by
 obtain ⟨_, _, rfl, rfl, ⟨_, _, rfl, s1, rfl⟩⟩ := h
 obtain rfl := k31_open s1
 exact rfl
theorem k54_mkM (w : World) (base : Nat) (ok : Nat → Prop) (x : S54)  : k54.M w base ok x [.string x.f0, .bool x.f1.f0, .string x.f1.f1, .int .i64 x.f2] := ⟨[.string x.f0], [.bool x.f1.f0, .string x.f1.f1, .int .i64 x.f2], rfl, rfl, ⟨[.bool x.f1.f0, .string x.f1.f1], [.int .i64 x.f2], rfl, (k31_mkM w base ok x.f1 ), rfl⟩⟩
def rd_T54 (xs : List S54) (i : Int) : S54 := xs.getD i.toNat z54
theorem at_T54 {w : World} {A : Option Addr} {n : Nat} {xs : List S54} (h : Kd.C k54 w A n xs) (i : Int) (h0 : 0 ≤ i) (h1 : i < n) : ∃ ad , A = some ad ∧ w.cell? (ad.add (i.toNat * 4)) = some (.string (rd_T54 xs i).f0) ∧ w.cell? ⟨(ad.add (i.toNat * 4)).block, (ad.add (i.toNat * 4)).off + 1, none⟩ = some (.bool (rd_T54 xs i).f1.f0) ∧ w.cell? ⟨(ad.add (i.toNat * 4)).block, (ad.add (i.toNat * 4)).off + 2, none⟩ = some (.string (rd_T54 xs i).f1.f1) ∧ w.cell? ⟨(ad.add (i.toNat * 4)).block, (ad.add (i.toNat * 4)).off + 3, none⟩ = some (.int .i64 (rd_T54 xs i).f2) := by
 obtain ⟨ad, c, e, _, hK, hc0⟩ := Kd.C_get h z54 i h0 h1
 have hc : ∀ j u, c[j]? = some u → w.cell? (ad.add (i.toNat * 4 + j)) = some u := hc0
 obtain rfl := k54_open hK
 exact ⟨ad, e, hc 0 _ rfl, by rw [← add_field _ _ 1 (by omega)]; exact hc 1 _ rfl, by rw [← add_field _ _ 2 (by omega)]; exact hc 2 _ rfl, by rw [← add_field _ _ 3 (by omega)]; exact hc 3 _ rfl⟩
structure S58 where
 f0 : Int
 f1 : S31
def z58 : S58 := ⟨(0 : Int), z31⟩
def k58 : Kd S58 := Kd.iso (Kd.pair (Kd.int .i64) k31) (fun x : S58 => (x.f0, x.f1))
theorem k58_open {w : World} {x : S58} {cs : List Value} (h : k58.K w x cs) : cs = [.int .i64 x.f0, .bool x.f1.f0, .string x.f1.f1] := by
 obtain ⟨_, _, rfl, rfl, s1⟩ := h
 obtain rfl := k31_open s1
 exact rfl
theorem k58_mkM (w : World) (base : Nat) (ok : Nat → Prop) (x : S58)  : k58.M w base ok x [.int .i64 x.f0, .bool x.f1.f0, .string x.f1.f1] := ⟨[.int .i64 x.f0], [.bool x.f1.f0, .string x.f1.f1], rfl, rfl, (k31_mkM w base ok x.f1 )⟩
def rd_T58 (xs : List S58) (i : Int) : S58 := xs.getD i.toNat z58
theorem at_T58 {w : World} {A : Option Addr} {n : Nat} {xs : List S58} (h : Kd.C k58 w A n xs) (i : Int) (h0 : 0 ≤ i) (h1 : i < n) : ∃ ad , A = some ad ∧ w.cell? (ad.add (i.toNat * 3)) = some (.int .i64 (rd_T58 xs i).f0) ∧ w.cell? ⟨(ad.add (i.toNat * 3)).block, (ad.add (i.toNat * 3)).off + 1, none⟩ = some (.bool (rd_T58 xs i).f1.f0) ∧ w.cell? ⟨(ad.add (i.toNat * 3)).block, (ad.add (i.toNat * 3)).off + 2, none⟩ = some (.string (rd_T58 xs i).f1.f1) := by
 obtain ⟨ad, c, e, _, hK, hc0⟩ := Kd.C_get h z58 i h0 h1
 have hc : ∀ j u, c[j]? = some u → w.cell? (ad.add (i.toNat * 3 + j)) = some u := hc0
 obtain rfl := k58_open hK
 exact ⟨ad, e, hc 0 _ rfl, by rw [← add_field _ _ 1 (by omega)]; exact hc 1 _ rfl, by rw [← add_field _ _ 2 (by omega)]; exact hc 2 _ rfl⟩
end Go.Proofs.YtapaijpglfmfgaaDoor.Q
end
section -- HC
namespace Go.Proofs.YtapaijpglfmfgaaDoorC
open Go.RowKit Go.Proofs.YtapaijpglfmfgaaDoorW.PrintWords
set_option linter.unusedVariables false
theorem cl2 {w : World} {g : Nat} {t : TypeId} {a0 a1 : Value} (h : w.heap[g]? = some (.cells #[a0, a1] t (0, 0))) : w.cell? ⟨g, 0, none⟩ = some a0 ∧ w.cell? ⟨g, 1, none⟩ = some a1 ∧ w.frozen? ⟨g, 0, none⟩ = false ∧ w.frozen? ⟨g, 1, none⟩ = false :=
 ⟨(blk_cell h 0).trans rfl, (blk_cell h 1).trans rfl, blk_frozen h 0, blk_frozen h 1⟩
theorem cl3 {w : World} {g : Nat} {t : TypeId} {a0 a1 a2 : Value} (h : w.heap[g]? = some (.cells #[a0, a1, a2] t (0, 0))) : w.cell? ⟨g, 0, none⟩ = some a0 ∧ w.cell? ⟨g, 1, none⟩ = some a1 ∧ w.cell? ⟨g, 2, none⟩ = some a2 ∧ w.frozen? ⟨g, 0, none⟩ = false ∧ w.frozen? ⟨g, 1, none⟩ = false ∧ w.frozen? ⟨g, 2, none⟩ = false :=
 ⟨(blk_cell h 0).trans rfl, (blk_cell h 1).trans rfl, (blk_cell h 2).trans rfl, blk_frozen h 0, blk_frozen h 1, blk_frozen h 2⟩
theorem cl4 {w : World} {g : Nat} {t : TypeId} {a0 a1 a2 a3 : Value} (h : w.heap[g]? = some (.cells #[a0, a1, a2, a3] t (0, 0))) : w.cell? ⟨g, 0, none⟩ = some a0 ∧ w.cell? ⟨g, 1, none⟩ = some a1 ∧ w.cell? ⟨g, 2, none⟩ = some a2 ∧ w.cell? ⟨g, 3, none⟩ = some a3 ∧ w.frozen? ⟨g, 0, none⟩ = false ∧ w.frozen? ⟨g, 1, none⟩ = false ∧ w.frozen? ⟨g, 2, none⟩ = false ∧ w.frozen? ⟨g, 3, none⟩ = false :=
 ⟨(blk_cell h 0).trans rfl, (blk_cell h 1).trans rfl, (blk_cell h 2).trans rfl, (blk_cell h 3).trans rfl, blk_frozen h 0, blk_frozen h 1, blk_frozen h 2, blk_frozen h 3⟩
theorem cl7 {w : World} {g : Nat} {t : TypeId} {a0 a1 a2 a3 a4 a5 a6 : Value} (h : w.heap[g]? = some (.cells #[a0, a1, a2, a3, a4, a5, a6] t (0, 0))) : w.cell? ⟨g, 0, none⟩ = some a0 ∧ w.cell? ⟨g, 1, none⟩ = some a1 ∧ w.cell? ⟨g, 2, none⟩ = some a2 ∧ w.cell? ⟨g, 3, none⟩ = some a3 ∧ w.cell? ⟨g, 4, none⟩ = some a4 ∧ w.cell? ⟨g, 5, none⟩ = some a5 ∧ w.cell? ⟨g, 6, none⟩ = some a6 ∧ w.frozen? ⟨g, 0, none⟩ = false ∧ w.frozen? ⟨g, 1, none⟩ = false ∧ w.frozen? ⟨g, 2, none⟩ = false ∧ w.frozen? ⟨g, 3, none⟩ = false ∧ w.frozen? ⟨g, 4, none⟩ = false ∧ w.frozen? ⟨g, 5, none⟩ = false ∧ w.frozen? ⟨g, 6, none⟩ = false :=
 ⟨(blk_cell h 0).trans rfl, (blk_cell h 1).trans rfl, (blk_cell h 2).trans rfl, (blk_cell h 3).trans rfl, (blk_cell h 4).trans rfl, (blk_cell h 5).trans rfl, (blk_cell h 6).trans rfl, blk_frozen h 0, blk_frozen h 1, blk_frozen h 2, blk_frozen h 3, blk_frozen h 4, blk_frozen h 5, blk_frozen h 6⟩
theorem cl10 {w : World} {g : Nat} {t : TypeId} {a0 a1 a2 a3 a4 a5 a6 a7 a8 a9 : Value} (h : w.heap[g]? = some (.cells #[a0, a1, a2, a3, a4, a5, a6, a7, a8, a9] t (0, 0))) : w.cell? ⟨g, 0, none⟩ = some a0 ∧ w.cell? ⟨g, 1, none⟩ = some a1 ∧ w.cell? ⟨g, 2, none⟩ = some a2 ∧ w.cell? ⟨g, 3, none⟩ = some a3 ∧ w.cell? ⟨g, 4, none⟩ = some a4 ∧ w.cell? ⟨g, 5, none⟩ = some a5 ∧ w.cell? ⟨g, 6, none⟩ = some a6 ∧ w.cell? ⟨g, 7, none⟩ = some a7 ∧ w.cell? ⟨g, 8, none⟩ = some a8 ∧ w.cell? ⟨g, 9, none⟩ = some a9 ∧ w.frozen? ⟨g, 0, none⟩ = false ∧ w.frozen? ⟨g, 1, none⟩ = false ∧ w.frozen? ⟨g, 2, none⟩ = false ∧ w.frozen? ⟨g, 3, none⟩ = false ∧ w.frozen? ⟨g, 4, none⟩ = false ∧ w.frozen? ⟨g, 5, none⟩ = false ∧ w.frozen? ⟨g, 6, none⟩ = false ∧ w.frozen? ⟨g, 7, none⟩ = false ∧ w.frozen? ⟨g, 8, none⟩ = false ∧ w.frozen? ⟨g, 9, none⟩ = false :=
 ⟨(blk_cell h 0).trans rfl, (blk_cell h 1).trans rfl, (blk_cell h 2).trans rfl, (blk_cell h 3).trans rfl, (blk_cell h 4).trans rfl, (blk_cell h 5).trans rfl, (blk_cell h 6).trans rfl, (blk_cell h 7).trans rfl, (blk_cell h 8).trans rfl, (blk_cell h 9).trans rfl, blk_frozen h 0, blk_frozen h 1, blk_frozen h 2, blk_frozen h 3, blk_frozen h 4, blk_frozen h 5, blk_frozen h 6, blk_frozen h 7, blk_frozen h 8, blk_frozen h 9⟩
theorem farC {α : Type} {d : Kd α} {e : TypeId} {w : World} {base : Nat} {ok : Nat → Prop} {v : Value} {xs : List α} {g i : Nat} {u : Value} (h : d.R e w base (fun k => ok k ∧ k ≠ g) v xs) : d.R e (w.setCell ⟨g, i, none⟩ u) base (fun k => ok k ∧ k ≠ g) v xs :=
 Kd.R_far (p := ⟨g, i, none⟩) h (fun _ hk => hk.2) u
end Go.Proofs.YtapaijpglfmfgaaDoorC
end
section -- Qx4
namespace Go.Proofs.YtapaijpglfmfgaaDoor.Q
open Go.RowKit Go.Proofs.YtapaijpglfmfgaaDoorH Go.Proofs.YtapaijpglfmfgaaDoorG Go.Proofs.YtapaijpglfmfgaaDoorW.PrintWords Go.Proofs.YtapaijpglfmfgaaDoorW.PrintLast Go.Proofs.YtapaijpglfmfgaaDoorW.PrintMore Go.Proofs.YtapaijpglfmfgaaDoorC
attribute [local go_sem] max2_int min2_int max_two min_two max_three min_three max_four min_four
set_option linter.unusedVariables false
set_option linter.unusedSimpArgs false
mutual
def impl_plainAlpine.l0 : Nat → List (S99) → Int → Int → ByteArray → ByteArray → ByteArray → ByteArray → Bool → List (S99) → List (S101) → Bool → Bool → ByteArray → ByteArray → ByteArray → ByteArray → ByteArray → Bool → List (S54) → Bool → Bool → ByteArray → Option (ByteArray × ByteArray × ByteArray × ByteArray × Bool × (List (S54)) × (List (S58)) × Bool × Bool × ByteArray)
 | 0, _, _, _, _, _, _, _, _, _, _, _, _, _, _, _, _, _, _, _, _, _, _ => none
 | k + 1, x24, x25, x26, x102000, x102001, x102002, x102003, x102004, x102005, x102006, x102007, x102008, x102009, x104000, x104001, x104002, x104003, x104004, x104005, x104007, x104008, x104009 => if x26 < x25 then (if 0 ≤ x26 then (if x26 < (x24.length : Int) then (if x104005.length < 2932031007402 then (impl_plainAlpine.l0 k x24 x25 (wrap64 (x26 + 1)) x102000 x102001 x102002 x102003 x102004 x102005 x102006 x102007 x102008 x102009 x104000 x104001 x104002 x104003 x104004 (x104005 ++ [(⟨(rd_T99 x24 x26).f0, (⟨(rd_T99 x24 x26).f1.f0, (rd_T99 x24 x26).f1.f1⟩ : S31), (rd_T99 x24 x26).f2⟩ : S54)]) x104007 x104008 x104009) else (none)) else (none)) else (none)) else (impl_plainAlpine.l1 k x102006 (x102006.length : Int) 0 x104000 x104001 x104002 x104003 x104004 x104005 ([] : List (S58)) x104007 x104008 x104009)
def impl_plainAlpine.l1 : Nat → List (S101) → Int → Int → ByteArray → ByteArray → ByteArray → ByteArray → Bool → List (S54) → List (S58) → Bool → Bool → ByteArray → Option (ByteArray × ByteArray × ByteArray × ByteArray × Bool × (List (S54)) × (List (S58)) × Bool × Bool × ByteArray)
 | 0, _, _, _, _, _, _, _, _, _, _, _, _, _ => none
 | k + 1, x44, x45, x46, x104000, x104001, x104002, x104003, x104004, x104005, x104006, x104007, x104008, x104009 => if x46 < x45 then (if 0 ≤ x46 then (if x46 < (x44.length : Int) then (if x104006.length < 4398046511104 then (impl_plainAlpine.l1 k x44 x45 (wrap64 (x46 + 1)) x104000 x104001 x104002 x104003 x104004 x104005 (x104006 ++ [(⟨(rd_T101 x44 x46).f0, (⟨(rd_T101 x44 x46).f1.f0, (rd_T101 x44 x46).f1.f1⟩ : S31)⟩ : S58)]) x104007 x104008 x104009) else (none)) else (none)) else (none)) else (some (x104000, x104001, x104002, x104003, x104004, x104005, x104006, x104007, x104008, x104009))
end
def impl_plainAlpine.f (k : Nat) (a0_0 : ByteArray) (a0_1 : ByteArray) (a0_2 : ByteArray) (a0_3 : ByteArray) (a0_4 : Bool) (l0_5 : List (S99)) (l0_6 : List (S101)) (a0_7 : Bool) (a0_8 : Bool) (a0_9 : ByteArray) : Option (ByteArray × ByteArray × ByteArray × ByteArray × Bool × (List (S54)) × (List (S58)) × Bool × Bool × ByteArray) := impl_plainAlpine.l0 k l0_5 (l0_5.length : Int) 0 a0_0 a0_1 a0_2 a0_3 a0_4 l0_5 l0_6 a0_7 a0_8 a0_9 a0_0 a0_1 a0_2 a0_3 a0_4 ([] : List (S54)) a0_7 a0_8 a0_9
def laws_suffixes.f  : Option (List ByteArray) := some (([(⟨#[97, 108, 112, 104, 97]⟩ : ByteArray), (⟨#[98, 101, 116, 97]⟩ : ByteArray), (⟨#[112, 114, 101]⟩ : ByteArray), (⟨#[114, 99]⟩ : ByteArray), (⟨#[99, 118, 115]⟩ : ByteArray), (⟨#[115, 118, 110]⟩ : ByteArray), (⟨#[103, 105, 116]⟩ : ByteArray), (⟨#[104, 103]⟩ : ByteArray), (⟨#[112]⟩ : ByteArray)] : List ByteArray))
set_option maxHeartbeats 8000000 in
set_option maxRecDepth 100000 in
theorem laws_suffixes.calls  (r : List ByteArray) (w : World) (h : laws_suffixes.f  = some r) :
  Calls Tryd.prog 17 #[] w fun e w' => ∃ v0_ : Value, e = .returned (v0_) ∧ Kd.R Kd.string 9 w' w.heap.size (fun _ => True) v0_ r ∧ Below w.heap.size w w' := by
 have HB := Aside0.mk (Below.refl w.heap.size w)
 have H : (some (([(⟨#[97, 108, 112, 104, 97]⟩ : ByteArray), (⟨#[98, 101, 116, 97]⟩ : ByteArray), (⟨#[112, 114, 101]⟩ : ByteArray), (⟨#[114, 99]⟩ : ByteArray), (⟨#[99, 118, 115]⟩ : ByteArray), (⟨#[115, 118, 110]⟩ : ByteArray), (⟨#[103, 105, 116]⟩ : ByteArray), (⟨#[104, 103]⟩ : ByteArray), (⟨#[112]⟩ : ByteArray)] : List ByteArray))) = some r := h
 clear h
 obtain ⟨y114, hy114⟩ : ∃ y_ : List ByteArray, y_ = (([(⟨#[97, 108, 112, 104, 97]⟩ : ByteArray), (⟨#[98, 101, 116, 97]⟩ : ByteArray), (⟨#[112, 114, 101]⟩ : ByteArray), (⟨#[114, 99]⟩ : ByteArray), (⟨#[99, 118, 115]⟩ : ByteArray), (⟨#[115, 118, 110]⟩ : ByteArray), (⟨#[103, 105, 116]⟩ : ByteArray), (⟨#[104, 103]⟩ : ByteArray), (⟨#[112]⟩ : ByteArray)] : List ByteArray)) := ⟨_, rfl⟩
 replace H : (some y114) = some r := by (rw [hy114]; with_reducible exact H)
 have Ny114 := Aside0.mk hy114
 clear hy114
 obtain rfl := Option.some.inj H
 go_enter Tryd.func17, Tryd.ntmps17
 go_wp2_with (((with_reducible refine gate_dst (N := 1) rfl ?_); refine Kd.R_lit Kd.string _ 9 ?hg (N := 1) ?hd (xs := ([(⟨#[97, 108, 112, 104, 97]⟩ : ByteArray), (⟨#[98, 101, 116, 97]⟩ : ByteArray), (⟨#[112, 114, 101]⟩ : ByteArray), (⟨#[114, 99]⟩ : ByteArray), (⟨#[99, 118, 115]⟩ : ByteArray), (⟨#[115, 118, 110]⟩ : ByteArray), (⟨#[103, 105, 116]⟩ : ByteArray), (⟨#[104, 103]⟩ : ByteArray), (⟨#[112]⟩ : ByteArray)] : List ByteArray)) (inner := [.string (⟨#[97, 108, 112, 104, 97]⟩ : ByteArray), .string (⟨#[98, 101, 116, 97]⟩ : ByteArray), .string (⟨#[112, 114, 101]⟩ : ByteArray), .string (⟨#[114, 99]⟩ : ByteArray), .string (⟨#[99, 118, 115]⟩ : ByteArray), .string (⟨#[115, 118, 110]⟩ : ByteArray), .string (⟨#[103, 105, 116]⟩ : ByteArray), .string (⟨#[104, 103]⟩ : ByteArray), .string (⟨#[112]⟩ : ByteArray)]) (ok := fun _ => True) (okp := fun _ => True) ?hr ?hp (fun _ hk => hk) trivial (Below.refl _ _) (Nat.le_refl _) (by simp) ?_; (case hd => rfl); (case hg => rfl); (case hr => first | (go_simp; done) | (go_simp; rfl)); (case hp => exact (Reps.one (show Kd.M Kd.string _ _ _ (⟨#[97, 108, 112, 104, 97]⟩ : ByteArray) [.string (⟨#[97, 108, 112, 104, 97]⟩ : ByteArray)] from rfl) (Reps.one (show Kd.M Kd.string _ _ _ (⟨#[98, 101, 116, 97]⟩ : ByteArray) [.string (⟨#[98, 101, 116, 97]⟩ : ByteArray)] from rfl) (Reps.one (show Kd.M Kd.string _ _ _ (⟨#[112, 114, 101]⟩ : ByteArray) [.string (⟨#[112, 114, 101]⟩ : ByteArray)] from rfl) (Reps.one (show Kd.M Kd.string _ _ _ (⟨#[114, 99]⟩ : ByteArray) [.string (⟨#[114, 99]⟩ : ByteArray)] from rfl) (Reps.one (show Kd.M Kd.string _ _ _ (⟨#[99, 118, 115]⟩ : ByteArray) [.string (⟨#[99, 118, 115]⟩ : ByteArray)] from rfl) (Reps.one (show Kd.M Kd.string _ _ _ (⟨#[115, 118, 110]⟩ : ByteArray) [.string (⟨#[115, 118, 110]⟩ : ByteArray)] from rfl) (Reps.one (show Kd.M Kd.string _ _ _ (⟨#[103, 105, 116]⟩ : ByteArray) [.string (⟨#[103, 105, 116]⟩ : ByteArray)] from rfl) (Reps.one (show Kd.M Kd.string _ _ _ (⟨#[104, 103]⟩ : ByteArray) [.string (⟨#[104, 103]⟩ : ByteArray)] from rfl) (Reps.one (show Kd.M Kd.string _ _ _ (⟨#[112]⟩ : ByteArray) [.string (⟨#[112]⟩ : ByteArray)] from rfl) (Reps.none _ _))))))))))); intro v115 w1 ho2 hb hg_ hnew_; clear hg_ hnew_; (first | rw [← Ny114.out] at ho2 | (simp only [Int.reduceToNat] at ho2; rw [← Ny114.out] at ho2)); have HO116 := Aside0.mk (Kd.R_lower ho2 (below_size (by (with_reducible exact HB.out)))); replace HB := Aside0.mk (below_step (by (with_reducible exact HB.out)) hb); clear hb ho2))
 go_ret
 exact ⟨_, by rfl, by (with_reducible repeat (first | apply Kd.R_alloc | apply Kd.R_drewN | apply Kd.R_drew)); exact HO116.out, by (with_reducible exact HB.out)⟩
def laws_decimal.l0 : Nat → Int → ByteArray → Option (ByteArray)
 | 0, _, _ => none
 | k + 1, x0, x3 => if (Utf8.encode (wrap32 (IntKind.u16.wrap (48 + (Int.tmod x0 10))))).size + x3.size ≤ 9223372036854775807 then (if (IntKind.u16.wrap (Int.tdiv x0 10)) = 0 then (some ((Utf8.encode (wrap32 (IntKind.u16.wrap (48 + (Int.tmod x0 10))))) ++ x3)) else (laws_decimal.l0 k (IntKind.u16.wrap (Int.tdiv x0 10)) ((Utf8.encode (wrap32 (IntKind.u16.wrap (48 + (Int.tmod x0 10))))) ++ x3))) else (none)
def laws_decimal.f (k : Nat) (a0 : Int) : Option (ByteArray) := laws_decimal.l0 k a0 (⟨#[]⟩ : ByteArray)
set_option maxHeartbeats 8000000 in
set_option maxRecDepth 100000 in
theorem laws_decimal.calls (k : Nat) (a0 : Int) (r : ByteArray) (w : World) (h : laws_decimal.f k a0 = some r) :
  Calls Tryd.prog 19 #[.int .u16 a0] w fun e w' => e = .returned (.string r) ∧ Drawn0 w w' := by
 have H : (laws_decimal.l0 k a0 (⟨#[]⟩ : ByteArray)) = some r := h
 clear h
 have H' := Aside0.mk H
 clear H
 go_enter Tryd.func19, Tryd.ntmps19
 go_wp2
 (try simp only [Act.put, List.setIfInBounds_toArray, List.set_cons_zero, List.set_cons_succ])
 go_loopg [0, 3] k (fun kq v0 v3 w' => ∃ (x0_1 : Int) (x3_1 : ByteArray), v0 = .int .u16 x0_1 ∧ v3 = .string x3_1 ∧ Aside0 (laws_decimal.l0 kq x0_1 x3_1 = some r) ∧ Aside0 (kq ≤ k) ∧ Drawn0 w w')
 case atStart => exact ⟨(a0), ((⟨#[]⟩ : ByteArray)), (by rfl), (by rfl), H', ⟨Nat.le_refl _⟩, by repeat (first | exact Drawn0.refl _ | apply Drawn0.step)⟩
 case round =>
  clear H'
  obtain ⟨x0_1, x3_1, rfl, rfl, HA, HK1, ⟨m1, rfl⟩⟩ := hrel
  cases gk with
  | zero => exact absurd HA.out (by simp [laws_decimal.l0])
  | succ k1 =>
   have H := HA.out
   clear HA
   simp only [laws_decimal.l0] at H
   by_cases c2 : (Utf8.encode (wrap32 (IntKind.u16.wrap (48 + (Int.tmod x0_1 10))))).size + x3_1.size ≤ 9223372036854775807
   ·rw [if_pos c2] at H
    have c2b0 := eq_true c2
    have c2b1 : decide ((Utf8.encode (wrap32 (IntKind.u16.wrap (48 + (Int.tmod x0_1 10))))).size + x3_1.size ≤ 9223372036854775807) = true := decide_eq_true c2
    try have c2b2 : (9223372036854775807 < (Utf8.encode (wrap32 (IntKind.u16.wrap (48 + (Int.tmod x0_1 10))))).size + x3_1.size) = False := eq_false (Nat.not_lt.2 c2)
    by_cases c3 : (IntKind.u16.wrap (Int.tdiv x0_1 10)) = 0
    ·rw [if_pos c3] at H
     have c3b0 : ((IntKind.u16.wrap (Int.tdiv x0_1 10)) == 0) = true := beq_iff_eq.mpr c3
     have c3b1 : ((IntKind.u16.wrap (Int.tdiv x0_1 10)) != 0) = false := bne_eq_false_iff_eq.mpr c3
     clear c3
     obtain rfl := Option.some.inj H
     have hcv4 := fun (W_ : World) => run_convert_int_string (P := Tryd.prog) W_ 21 9 .i32 (wrap32 (IntKind.u16.wrap (48 + (Int.tmod x0_1 10)))) (by rw [Tryd.underlying21]; rfl) Tryd.underlying9
     go_wp2
     go_ret
     exact ⟨by rfl, by repeat (first | exact Drawn0.refl _ | apply Drawn0.step)⟩
    ·rw [if_neg c3] at H
     have c3b0 : ((IntKind.u16.wrap (Int.tdiv x0_1 10)) == 0) = false := beq_eq_false_iff_ne.mpr c3
     have c3b1 : ((IntKind.u16.wrap (Int.tdiv x0_1 10)) != 0) = true := bne_iff_ne.mpr c3
     have H' := Aside0.mk H
     clear H
     have hcv5 := fun (W_ : World) => run_convert_int_string (P := Tryd.prog) W_ 21 9 .i32 (wrap32 (IntKind.u16.wrap (48 + (Int.tmod x0_1 10)))) (by rw [Tryd.underlying21]; rfl) Tryd.underlying9
     go_wp2
     go_roundg k1
     case measure => have := HK1.out; omega
     case rel => exact ⟨(IntKind.u16.wrap (Int.tdiv x0_1 10)), ((Utf8.encode (wrap32 (IntKind.u16.wrap (48 + (Int.tmod x0_1 10))))) ++ x3_1), (by rfl), (by rfl), H', ⟨by have := HK1.out; omega⟩, by repeat (first | exact Drawn0.refl _ | apply Drawn0.step)⟩
   ·rw [if_neg c2] at H
    exact absurd H (by simp)
end Go.Proofs.YtapaijpglfmfgaaDoor.Q
end
section -- Qx5
namespace Go.Proofs.YtapaijpglfmfgaaDoor.Q
open Go.RowKit Go.Proofs.YtapaijpglfmfgaaDoorH Go.Proofs.YtapaijpglfmfgaaDoorG Go.Proofs.YtapaijpglfmfgaaDoorW.PrintWords Go.Proofs.YtapaijpglfmfgaaDoorW.PrintLast Go.Proofs.YtapaijpglfmfgaaDoorW.PrintMore Go.Proofs.YtapaijpglfmfgaaDoorC
attribute [local go_sem] max2_int min2_int max_two min_two max_three min_three max_four min_four
set_option linter.unusedVariables false
set_option linter.unusedSimpArgs false
mutual
def spec_intOf.l0 : Nat → ByteArray → List Int → Int → Option (Bool × ByteArray)
 | 0, _, _, _ => none
 | k + 1, x0, x3, x4 => if x4 < (x0.size : Int) then (if 0 ≤ x4 then (spec_intOf.l1 k x0 x3 x4 (((bt x0 x4) - 48) % 256) 0) else (none)) else (if 0 ≤ (x3.length : Int) then (if ((x3.length : Int) : Int).toNat ≤ 281474976710656 then (spec_intOf.l2 k x3 (List.replicate ((x3.length : Int) : Int).toNat 0) 0) else (none)) else (none))
def spec_intOf.l1 : Nat → ByteArray → List Int → Int → Int → Int → Option (Bool × ByteArray)
 | 0, _, _, _, _, _ => none
 | k + 1, x0, x3, x4, x5, x6 => if x6 < (x3.length : Int) then (if 0 ≤ x6 then (spec_intOf.l1 k x0 (x3.set (x6 : Int).toNat ((Int.tmod (wrap64 (x5 + (wrap64 (10 * (wrap64 (rd x3 x6)))))) 256) % 256)) x4 (wrap64 (Int.tdiv (wrap64 (x5 + (wrap64 (10 * (wrap64 (rd x3 x6)))))) 256)) (wrap64 (x6 + 1))) else (none)) else (if x5 > 0 then (if x3.length < 140737488355328 then (spec_intOf.l0 k x0 (x3 ++ [(x5) % 256]) (wrap64 (x4 + 1))) else (none)) else (spec_intOf.l0 k x0 x3 (wrap64 (x4 + 1))))
def spec_intOf.l2 : Nat → List Int → List Int → Int → Option (Bool × ByteArray)
 | 0, _, _, _ => none
 | k + 1, x3, x7, x8 => if x8 < (x3.length : Int) then (if 0 ≤ x8 then (if 0 ≤ (wrap64 ((wrap64 ((x3.length : Int) - 1)) - x8)) then (if (wrap64 ((wrap64 ((x3.length : Int) - 1)) - x8)) < (x7.length : Int) then (spec_intOf.l2 k x3 (x7.set ((wrap64 ((wrap64 ((x3.length : Int) - 1)) - x8)) : Int).toNat (rd x3 x8)) (wrap64 (x8 + 1))) else (none)) else (none)) else (none)) else (some (false, strOfNums x7))
end
def spec_intOf.f (k : Nat) (a0 : ByteArray) : Option (Bool × ByteArray) := spec_intOf.l0 k a0 ([] : List Int) 0
set_option maxHeartbeats 8000000 in
set_option maxRecDepth 100000 in
theorem spec_intOf.calls (k : Nat) (a0 : ByteArray) (r1 : Bool) (r2 : ByteArray) (w : World) (h : spec_intOf.f k a0 = some (r1, r2)) :
  Calls Tryd.prog 35 #[.string a0] w fun e w' => e = .returned (.agg #[.bool r1, .string r2]) ∧ Below w.heap.size w w' := by
 have hu31 := Tryd.underlying31
 have HB := Aside0.mk (Below.refl w.heap.size w)
 have H : (spec_intOf.l0 k a0 ([] : List Int) 0) = some (r1, r2) := h
 clear h
 have H' := Aside0.mk H
 clear H
 go_enter Tryd.func35, Tryd.ntmps35
 go_wp2_with (((with_reducible refine gate_dst (N := 2) rfl ?_); refine box_event ?hg (N := 2) ?hd (cs := #[.bool false, .string ⟨#[]⟩]) (t := 31) ?hr ?_; (case hd => rfl); (case hg => rfl); (case hr => first | (go_simp; done) | (go_simp; rfl)); intro gb117 hg w2 hbox hb; have BK117 := Aside0.mk hbox; have GW117 := Aside0.mk ((by rw [hg]; exact (below_size (by (with_reducible exact HB.out))) : w.heap.size ≤ gb117)); have GE117 := Aside0.mk ((by rw [hg]; exact (below_size (by (with_reducible exact HB.out))) : w.heap.size ≤ gb117)); replace HB := Aside0.mk (below_step (by (with_reducible exact HB.out)) hb); clear hb hbox hg))
 (try simp only [Act.put, List.setIfInBounds_toArray, List.set_cons_zero, List.set_cons_succ])
 go_loopg [3, 4] k (fun kq v3 v4 w' => ∃ (x3_1 : List Int) (x4_1 : Int), v4 = .int .i64 x4_1 ∧ Aside0 (spec_intOf.l0 kq a0 x3_1 x4_1 = some (r1, r2)) ∧ Aside0 (kq ≤ k) ∧ Aside0 (Kd.R (Kd.int .u8) 5 w' w.heap.size (fun _ => True) v3 x3_1) ∧ Aside0 (w'.heap[gb117]? = some (.cells #[.bool false, .string ⟨#[]⟩] 31 (0, 0))) ∧ Aside0 (Below w.heap.size w w'))
 case atStart => exact ⟨(([] : List Int)), (0), (by rfl), H', ⟨Nat.le_refl _⟩, ⟨by exact Kd.R_nil _ _ _ _ _⟩, ⟨by exact BK117.out⟩, ⟨by (with_reducible exact HB.out)⟩⟩
 case round =>
  clear H'
  obtain ⟨x3_1, x4_1, rfl, HA, HK1, HO_3, BK117, HB⟩ := hrel
  cases gk with
  | zero => exact absurd HA.out (by simp [spec_intOf.l0])
  | succ k1 =>
   have H := HA.out
   clear HA
   simp only [spec_intOf.l0] at H
   by_cases c3 : x4_1 < (a0.size : Int)
   ·rw [if_pos c3] at H
    have c3b0 : decide (x4_1 < (a0.size : Int)) = true := decide_eq_true c3
    clear c3
    by_cases c4 : 0 ≤ x4_1
    ·rw [if_pos c4] at H
     have c4b0 : decide (0 ≤ x4_1) = true := decide_eq_true c4
     clear c4
     have H' := Aside0.mk H
     clear H
     have p5 : 0 ≤ (x4_1 : Int) := of_decide_eq_true (by (with_reducible assumption))
     have q5 : x4_1 < (a0.size : Int) := of_decide_eq_true (by (with_reducible assumption))
     have hx5 := bt_at a0 x4_1
     replace p5 := eq_true p5
     replace q5 := eq_true q5
     go_wp2
     (try simp only [Act.put, List.setIfInBounds_toArray, List.set_cons_zero, List.set_cons_succ])
     go_loopg [5, 6] k1 (fun kq v5 v6 w' => ∃ (x3_2 : List Int) (x5_2 : Int) (x6_2 : Int), v5 = .int .i64 x5_2 ∧ v6 = .int .i64 x6_2 ∧ Aside0 (spec_intOf.l1 kq a0 x3_2 x4_1 x5_2 x6_2 = some (r1, r2)) ∧ Aside0 (kq ≤ k1) ∧ Aside0 (Kd.R (Kd.int .u8) 5 w' w.heap.size (fun _ => True) u3 x3_2) ∧ Aside0 (w'.heap[gb117]? = some (.cells #[.bool false, .string ⟨#[]⟩] 31 (0, 0))) ∧ Aside0 (Below w.heap.size w w'))
     case atStart => exact ⟨(x3_1), (((bt a0 x4_1) - 48) % 256), (0), (by rfl), (by rfl), H', ⟨Nat.le_refl _⟩, ⟨by (with_reducible repeat (first | apply Kd.R_alloc | apply Kd.R_drewN | apply Kd.R_drew)); exact HO_3.out⟩, ⟨by exact BK117.out⟩, ⟨by (with_reducible exact HB.out)⟩⟩
     case round =>
      clear H'
      clear c3b0 c4b0 p5 q5 hx5
      obtain ⟨x3_2, x5_2, x6_2, rfl, rfl, HA, HK2, HO_3, BK117, HB⟩ := hrel
      cases gk with
      | zero => exact absurd HA.out (by simp [spec_intOf.l1])
      | succ k2 =>
       have H := HA.out
       clear HA
       simp only [spec_intOf.l1] at H
       by_cases c6 : x6_2 < (x3_2.length : Int)
       ·rw [if_pos c6] at H
        have c6b0 : decide (x6_2 < (x3_2.length : Int)) = true := decide_eq_true c6
        clear c6
        by_cases c7 : 0 ≤ x6_2
        ·rw [if_pos c7] at H
         have c7b0 : decide (0 ≤ x6_2) = true := decide_eq_true c7
         clear c7
         obtain ⟨y119, hy119⟩ : ∃ y_ : List Int, y_ = (x3_2.set (x6_2 : Int).toNat ((Int.tmod (wrap64 (x5_2 + (wrap64 (10 * (wrap64 (rd x3_2 x6_2)))))) 256) % 256)) := ⟨_, rfl⟩
         replace H : (spec_intOf.l1 k2 a0 y119 x4_1 (wrap64 (Int.tdiv (wrap64 (x5_2 + (wrap64 (10 * (wrap64 (rd x3_2 x6_2)))))) 256)) (wrap64 (x6_2 + 1))) = some (r1, r2) := by (rw [hy119]; with_reducible exact H)
         have Ny119 := Aside0.mk hy119
         clear hy119
         have H' := Aside0.mk H
         clear H
         obtain ⟨Ao9, co9, eo9⟩ := Kd.R_slice HO_3.out
         subst eo9
         have p118 : 0 ≤ (x6_2 : Int) := of_decide_eq_true (by (with_reducible assumption))
         have q118 : x6_2 < (x3_2.length : Int) := of_decide_eq_true (by (with_reducible assumption))
         obtain ⟨ad118, e118, hx118_0⟩ := Kd.at_int (Kd.R_reads' HO_3.out).2.2 x6_2 p118 q118
         cases e118
         replace p118 := eq_true p118
         replace q118 := eq_true q118
         have p8 : 0 ≤ (x6_2 : Int) := of_decide_eq_true (by (with_reducible assumption))
         have q8 : (x6_2 : Int) < ((x3_2.length : Int) : Int) := of_decide_eq_true (by (with_reducible assumption))
         obtain ⟨go8, co8, eo8, gb8, gl8, cl8, HG8⟩ := Kd.R_form HO_3.out (by omega)
         (first | cases eo8 | (injection eo8 with ea_ en_ ec_; (first | subst ea_ | (injection ea_ with ea_; subst ea_)); subst ec_; clear en_))
         have GB8 := Aside0.mk gb8
         have GG8 := Aside0.mk HG8
         clear gb8 gl8 HG8
         (first | simp only [add_plain] at hx118_0 | skip)
         obtain ⟨hx8_0, hf8_0⟩ := Kd.R_celln 0 HO_3.out (x6_2 : Int) p8 q8
         replace p8 := eq_true p8
         replace q8 := eq_true q8
         have HP10 := Kd.R_putg HO_3.out (x6_2 : Int) ((Int.tmod (wrap64 (x5_2 + (wrap64 (10 * (wrap64 (rd x3_2 x6_2)))))) 256) % 256)
         go_wp2_with (((with_reducible refine gate_store (t := 5) (p := 39) rfl ?_); refine store_event (t := 5) (p := 39) (v := ?vo_w11) (w1 := (wr.setCell ⟨go8, (x6_2 : Int).toNat, none⟩ (.int .u8 ((Int.tmod (wrap64 (x5_2 + (wrap64 (10 * (wrap64 (rd x3_2 x6_2)))))) 256) % 256)))) ?hg ?ho ?hn ?hr ?_; (case ho => rfl); (case hg => rfl); (case hn => rfl); (case hr => first | (go_simp; done) | (go_simp; rfl)); intro w11 hw; have hg : wr.grownBy w11 (some go8) := (by rw [hw]; exact HP10.2); have hp_ : Kd.R (Kd.int .u8) 5 w11 w.heap.size (fun _ => True) (.slice (some ⟨go8, 0, none⟩) x3_2.length co9) y119 := (by rw [hw, Ny119.out]; exact HP10.1); clear HP10; have n0_ := Aside0.mk hp_; have n1_ := Aside0.mk (blk_grown (g := gb117) (o := .cells #[.bool false, .string ⟨#[]⟩] 31 (0, 0)) (by exact BK117.out) hg (Kd.R_ne HO_3.out BK117.out (by decide))); have n2_ := Aside0.mk ((by rw [hw]; exact below_set (HB.out) GB8.out : Below w.heap.size w w11)); clear HO_3; clear BK117; clear HB; have HO_3 := n0_; have BK117 := n1_; have HB := n2_; clear n0_ n1_ n2_; clear hg hw hp_))
         go_roundg k2
         case measure => have := HK1.out; have := HK2.out; omega
         case rel => exact ⟨(y119), (wrap64 (Int.tdiv (wrap64 (x5_2 + (wrap64 (10 * (wrap64 (rd x3_2 x6_2)))))) 256)), (wrap64 (x6_2 + 1)), (by rfl), (by rfl), H', ⟨by have := HK1.out; have := HK2.out; omega⟩, ⟨by (with_reducible repeat (first | apply Kd.R_alloc | apply Kd.R_drewN | apply Kd.R_drew)); exact HO_3.out⟩, ⟨by exact BK117.out⟩, ⟨by (with_reducible exact HB.out)⟩⟩
        ·rw [if_neg c7] at H
         exact absurd H (by simp)
       ·rw [if_neg c6] at H
        have c6b0 : decide (x6_2 < (x3_2.length : Int)) = false := decide_eq_false c6
        clear c6
        by_cases c12 : x5_2 > 0
        ·rw [if_pos c12] at H
         have c12b0 : decide (0 < x5_2) = true := decide_eq_true c12
         clear c12
         by_cases c13 : x3_2.length < 140737488355328
         ·rw [if_pos c13] at H
          have LMc13 := Aside0.mk c13
          clear c13
          obtain ⟨y120, hy120⟩ : ∃ y_ : List Int, y_ = (x3_2 ++ [(x5_2) % 256]) := ⟨_, rfl⟩
          replace H : (spec_intOf.l0 k2 a0 y120 (wrap64 (x4_1 + 1))) = some (r1, r2) := by (rw [hy120]; with_reducible exact H)
          have Ny120 := Aside0.mk hy120
          clear hy120
          have H' := Aside0.mk H
          clear H
          obtain ⟨Ao14, co14, eo14⟩ := Kd.R_slice HO_3.out
          subst eo14
          go_wp2_with (((with_reducible refine gate_builtin (b := .append) (xs := #[.tmp 44, .tmp 47]) rfl ?_); at_builtin; refine Kd.R_append (Kd.int .u8) (w0 := w) w.heap.size rfl (.tmp 44) (.tmp 47) 23 5 (.int .u8 0) 1 rfl Tryd.underlying23 info5 rfl (by decide) (by omega) (.slice Ao14 x3_2.length co14) x3_2 ((x5_2) % 256) [.int .u8 ((x5_2) % 256)] (fun _ => True) (fun _ => False) rfl rfl ?aP (fun _ hk => hk.elim) ?aF ?aO ?aB ?aS ?aL ?_; (case aP => exact rfl); (case aB => exact (by (with_reducible exact HB.out))); (case aF => exact (fun _ _ => trivial)); (case aO => exact (by (with_reducible repeat (first | apply Kd.R_alloc | apply Kd.R_drewN | apply Kd.R_drew)); exact HO_3.out)); (case aS => exact (below_size (by (with_reducible exact HB.out)))); (case aL => have := LMc13.out; omega); intro v121 w15 ho hb hg hat; rw [← Ny120.out] at ho; replace BK117 := Aside0.mk (blk_grown (g := gb117) (o := .cells #[.bool false, .string ⟨#[]⟩] 31 (0, 0)) (by exact BK117.out) hg (Kd.R_ne HO_3.out BK117.out (by decide))); have HO122 := Aside0.mk ho; replace HB := Aside0.mk hb; clear HO_3; clear ho hb hg hat))
          go_roundg k2
          case measure => have := HK1.out; have := HK2.out; omega
          case rel => exact ⟨(y120), (wrap64 (x4_1 + 1)), (by rfl), H', ⟨by have := HK1.out; have := HK2.out; omega⟩, ⟨by (with_reducible repeat (first | apply Kd.R_alloc | apply Kd.R_drewN | apply Kd.R_drew)); exact HO122.out⟩, ⟨by exact BK117.out⟩, ⟨by (with_reducible exact HB.out)⟩⟩
         ·rw [if_neg c13] at H
          exact absurd H (by simp)
        ·rw [if_neg c12] at H
         have c12b0 : decide (0 < x5_2) = false := decide_eq_false c12
         clear c12
         have H' := Aside0.mk H
         clear H
         obtain ⟨Ao16, co16, eo16⟩ := Kd.R_slice HO_3.out
         subst eo16
         go_wp2
         go_roundg k2
         case measure => have := HK1.out; have := HK2.out; omega
         case rel => exact ⟨(x3_2), (wrap64 (x4_1 + 1)), (by rfl), H', ⟨by have := HK1.out; have := HK2.out; omega⟩, ⟨by (with_reducible repeat (first | apply Kd.R_alloc | apply Kd.R_drewN | apply Kd.R_drew)); exact HO_3.out⟩, ⟨by exact BK117.out⟩, ⟨by (with_reducible exact HB.out)⟩⟩
    ·rw [if_neg c4] at H
     exact absurd H (by simp)
   ·rw [if_neg c3] at H
    have c3b0 : decide (x4_1 < (a0.size : Int)) = false := decide_eq_false c3
    clear c3
    by_cases c17 : 0 ≤ (x3_1.length : Int)
    ·rw [if_pos c17] at H
     have c17b0 := eq_true c17
     have c17b1 : decide (0 ≤ (x3_1.length : Int)) = true := decide_eq_true c17
     clear c17
     by_cases c18 : ((x3_1.length : Int) : Int).toNat ≤ 281474976710656
     ·rw [if_pos c18] at H
      have c18b0 := eq_true c18
      have c18b1 : decide (((x3_1.length : Int) : Int).toNat ≤ 281474976710656) = true := decide_eq_true c18
      clear c18
      obtain ⟨y123, hy123⟩ : ∃ y_ : List Int, y_ = (List.replicate ((x3_1.length : Int) : Int).toNat 0) := ⟨_, rfl⟩
      replace H : (spec_intOf.l2 k1 x3_1 y123 0) = some (r1, r2) := by (rw [hy123]; with_reducible exact H)
      have Ny123 := Aside0.mk hy123
      clear hy123
      have H' := Aside0.mk H
      clear H
      obtain ⟨Ao19, co19, eo19⟩ := Kd.R_slice HO_3.out
      subst eo19
      go_wp2_with (((with_reducible refine gate_dst (N := 51) rfl ?_); refine Kd.R_make (Kd.int .u8) _ 5 rfl (N := 51) rfl 23 _ _ rfl (x3_1.length : Int) rfl rfl Tryd.underlying23 (.int .u8 0) 1 info5 rfl (by decide) (by omega) 0 (ok := fun _ => True) (okp := fun _ => True) rfl (fun _ hk => hk) trivial (of_decide_eq_true (by (with_reducible assumption))) (Nat.le_trans (Nat.mul_le_mul_right _ (of_decide_eq_true (by (with_reducible assumption)) : (x3_1.length : Int).toNat ≤ 281474976710656)) (by omega)) (Below.refl _ _) (Nat.le_refl _) ?_; intro v124 w20 ho21 hb hg_ hnew_; clear hg_ hnew_; (first | rw [← Ny123.out] at ho21 | (simp only [Int.reduceToNat] at ho21; rw [← Ny123.out] at ho21)); have n0_ := Aside0.mk (Kd.R_elder' (by (with_reducible repeat (first | apply Kd.R_alloc | apply Kd.R_drewN | apply Kd.R_drew)); exact HO_3.out) (Kd.R_base ho21) hb); have n1_ := Aside0.mk (Kd.R_lower (Kd.R_new' ho21 (Kd.R_lt (by (with_reducible repeat (first | apply Kd.R_alloc | apply Kd.R_drewN | apply Kd.R_drew)); exact HO_3.out))) (below_size (by (with_reducible exact HB.out)))); have n2_ := Aside0.mk (blk_below (g := gb117) (o := .cells #[.bool false, .string ⟨#[]⟩] 31 (0, 0)) (by exact BK117.out) hb); have n3_ := Aside0.mk (below_step (by (with_reducible exact HB.out)) hb); clear HO_3; clear BK117; clear HB; have HO_3 := n0_; have HO125 := n1_; have BK117 := n2_; have HB := n3_; clear n0_ n1_ n2_ n3_; clear hb ho21))
      (try simp only [Act.put, List.setIfInBounds_toArray, List.set_cons_zero, List.set_cons_succ])
      go_loopg [8] k1 (fun kq v8 w' => ∃ (x7_2 : List Int) (x8_2 : Int), v8 = .int .i64 x8_2 ∧ Aside0 (spec_intOf.l2 kq x3_1 x7_2 x8_2 = some (r1, r2)) ∧ Aside0 (kq ≤ k1) ∧ Aside0 (Kd.R (Kd.int .u8) 5 w' w.heap.size (fun k_ => some k_ ≠ (v124 : Value).ownBlock) (.slice Ao19 x3_1.length co19) x3_1) ∧ Aside0 (Kd.R (Kd.int .u8) 5 w' w.heap.size (fun k_ => some k_ ≠ ((.slice Ao19 x3_1.length co19) : Value).ownBlock) v124 x7_2) ∧ Aside0 (w'.heap[gb117]? = some (.cells #[.bool false, .string ⟨#[]⟩] 31 (0, 0))) ∧ Aside0 (Below w.heap.size w w'))
      case atStart => exact ⟨(y123), (0), (by rfl), H', ⟨Nat.le_refl _⟩, ⟨by (with_reducible repeat (first | apply Kd.R_alloc | apply Kd.R_drewN | apply Kd.R_drew)); exact Kd.R_mono HO_3.out (fun _ hk => hk.2)⟩, ⟨by (with_reducible repeat (first | apply Kd.R_alloc | apply Kd.R_drewN | apply Kd.R_drew)); exact Kd.R_mono HO125.out (fun _ hk => hk.2)⟩, ⟨by exact BK117.out⟩, ⟨by (with_reducible exact HB.out)⟩⟩
      case round =>
       clear H'
       clear c3b0 c17b0 c17b1 c18b0 c18b1
       obtain ⟨x7_2, x8_2, rfl, HA, HK2, HO_3, HO_7, BK117, HB⟩ := hrel
       cases gk with
       | zero => exact absurd HA.out (by simp [spec_intOf.l2])
       | succ k2 =>
        have H := HA.out
        clear HA
        simp only [spec_intOf.l2] at H
        by_cases c22 : x8_2 < (x3_1.length : Int)
        ·rw [if_pos c22] at H
         have c22b0 : decide (x8_2 < (x3_1.length : Int)) = true := decide_eq_true c22
         clear c22
         by_cases c23 : 0 ≤ x8_2
         ·rw [if_pos c23] at H
          have c23b0 : decide (0 ≤ x8_2) = true := decide_eq_true c23
          clear c23
          obtain ⟨ji24, hji24⟩ : ∃ j_ : Int, (wrap64 ((wrap64 ((x3_1.length : Int) - 1)) - x8_2)) = j_ := ⟨_, rfl⟩
          replace H : (if 0 ≤ (ji24) then (if (ji24) < (x7_2.length : Int) then (spec_intOf.l2 k2 x3_1 (x7_2.set ((ji24) : Int).toNat (rd x3_1 x8_2)) (wrap64 (x8_2 + 1))) else (none)) else (none)) = some (r1, r2) := by (rw [hji24] at H; exact H)
          have hji24w : (IntKind.i64.wrap ((wrap64 ((x3_1.length : Int) - 1)) - x8_2)) = ji24 := (i64_w _).trans hji24
          by_cases c25 : 0 ≤ (ji24)
          ·rw [if_pos c25] at H
           have c25b0 : decide (0 ≤ (ji24)) = true := decide_eq_true c25
           clear c25
           by_cases c26 : (ji24) < (x7_2.length : Int)
           ·rw [if_pos c26] at H
            have c26b0 : decide ((ji24) < (x7_2.length : Int)) = true := decide_eq_true c26
            clear c26
            obtain ⟨y127, hy127⟩ : ∃ y_ : List Int, y_ = (x7_2.set ((ji24) : Int).toNat (rd x3_1 x8_2)) := ⟨_, rfl⟩
            replace H : (spec_intOf.l2 k2 x3_1 y127 (wrap64 (x8_2 + 1))) = some (r1, r2) := by (rw [hy127]; with_reducible exact H)
            have Ny127 := Aside0.mk hy127
            clear hy127
            have H' := Aside0.mk H
            clear H
            have p126 : 0 ≤ (x8_2 : Int) := of_decide_eq_true (by (with_reducible assumption))
            have q126 : x8_2 < (x3_1.length : Int) := of_decide_eq_true (by (with_reducible assumption))
            obtain ⟨ad126, e126, hx126_0⟩ := Kd.at_int (Kd.R_reads' HO_3.out).2.2 x8_2 p126 q126
            cases e126
            replace p126 := eq_true p126
            replace q126 := eq_true q126
            have p27 : 0 ≤ ((ji24) : Int) := of_decide_eq_true (by (with_reducible assumption))
            have q27 : ((ji24) : Int) < ((x7_2.length : Int) : Int) := of_decide_eq_true (by (with_reducible assumption))
            obtain ⟨go27, co27, eo27, gb27, gl27, cl27, HG27⟩ := Kd.R_form HO_7.out (by omega)
            (first | cases eo27 | (injection eo27 with ea_ en_ ec_; (first | subst ea_ | (injection ea_ with ea_; subst ea_)); subst ec_; clear en_))
            have GB27 := Aside0.mk gb27
            have GG27 := Aside0.mk HG27
            clear gb27 gl27 HG27
            obtain ⟨hx27_0, hf27_0⟩ := Kd.R_celln 0 HO_7.out ((ji24) : Int) p27 q27
            replace p27 := eq_true p27
            replace q27 := eq_true q27
            have HP28 := Kd.R_putg HO_7.out ((ji24) : Int) (rd x3_1 x8_2)
            go_wp2_with (((with_reducible refine gate_store (t := 5) (p := 68) rfl ?_); refine store_event (t := 5) (p := 68) (v := ?vo_w29) (w1 := (wr.setCell ⟨go27, ((ji24) : Int).toNat, none⟩ (.int .u8 (rd x3_1 x8_2)))) ?hg ?ho ?hn ?hr ?_; (case ho => rfl); (case hg => rfl); (case hn => rfl); (case hr => first | (go_simp; done) | (go_simp; rfl)); intro w29 hw; have hg : wr.grownBy w29 (some go27) := (by rw [hw]; exact HP28.2); have hp_ : Kd.R (Kd.int .u8) 5 w29 w.heap.size (fun k_ => some k_ ≠ (.slice (some ad126) x3_1.length co19 : Value).ownBlock) (.slice (some ⟨go27, 0, none⟩) x7_2.length co27) y127 := (by rw [hw, Ny127.out]; exact HP28.1); clear HP28; have n0_ := Aside0.mk (Kd.R_after (v := (.slice (some ⟨go27, 0, none⟩) x7_2.length co27)) (v1 := (.slice (some ⟨go27, 0, none⟩) x7_2.length co27)) (ok := (fun _ => True)) (by (with_reducible repeat (first | apply Kd.R_alloc | apply Kd.R_drewN | apply Kd.R_drew)); exact Kd.R_mono HO_3.out (fun _ hk => ⟨trivial, hk⟩)) hg (.inl rfl)); have n1_ := Aside0.mk hp_; have n2_ := Aside0.mk (blk_grown (g := gb117) (o := .cells #[.bool false, .string ⟨#[]⟩] 31 (0, 0)) (by exact BK117.out) hg (Kd.R_ne HO_7.out BK117.out (by decide))); have n3_ := Aside0.mk ((by rw [hw]; exact below_set (HB.out) GB27.out : Below w.heap.size w w29)); clear HO_3; clear HO_7; clear BK117; clear HB; have HO_3 := n0_; have HO_7 := n1_; have BK117 := n2_; have HB := n3_; clear n0_ n1_ n2_ n3_; clear hg hw hp_))
            go_roundg k2
            case measure => have := HK1.out; have := HK2.out; omega
            case rel => exact ⟨(y127), (wrap64 (x8_2 + 1)), (by rfl), H', ⟨by have := HK1.out; have := HK2.out; omega⟩, ⟨by (with_reducible repeat (first | apply Kd.R_alloc | apply Kd.R_drewN | apply Kd.R_drew)); exact Kd.R_mono HO_3.out (fun _ hk => hk.2)⟩, ⟨by (with_reducible repeat (first | apply Kd.R_alloc | apply Kd.R_drewN | apply Kd.R_drew)); exact HO_7.out⟩, ⟨by exact BK117.out⟩, ⟨by (with_reducible exact HB.out)⟩⟩
           ·rw [if_neg c26] at H
            exact absurd H (by simp)
          ·rw [if_neg c25] at H
           exact absurd H (by simp)
         ·rw [if_neg c23] at H
          exact absurd H (by simp)
        ·rw [if_neg c22] at H
         have c22b0 : decide (x8_2 < (x3_1.length : Int)) = false := decide_eq_false c22
         clear c22
         simp only [Option.some.injEq, Prod.mk.injEq] at H
         obtain ⟨rfl, rfl⟩ := H
         have hcv30 := own_string (P := Tryd.prog) Tryd.underlying23 Tryd.underlying5 Tryd.underlying9 (Kd.own_of_R HO_7.out)
         obtain ⟨hcz31_0, hcz31_1, hfz31_0, hfz31_1⟩ := cl2 BK117.out
         go_wp2
         refine bodyPost_ret (results_cell_row rfl _ _ gb117 31 #[.bool false, .string (strOfNums x7_2)] (0, 0) _ rfl (by refine blk_put (cs := #[.bool false, .string ⟨#[]⟩]) ?_ 1 _ rfl; refine blk_put (cs := #[.bool false, .string ⟨#[]⟩]) ?_ 0 _ rfl; exact BK117.out) Tryd.underlying31 rfl (by kernel_rfl)) rfl ?_
         exact ⟨by rfl, by (with_reducible refine below_set ?_ GE117.out; with_reducible refine below_set ?_ GE117.out; with_reducible exact HB.out)⟩
     ·rw [if_neg c18] at H
      exact absurd H (by simp)
    ·rw [if_neg c17] at H
     exact absurd H (by simp)
def spec_isDigit.f (a0 : Int) : Option (Bool) := if a0 ≥ 48 then (some (decide (a0 ≤ 57))) else (some false)
set_option maxHeartbeats 8000000 in
set_option maxRecDepth 100000 in
theorem spec_isDigit.calls (a0 : Int) (r : Bool) (w : World) (h : spec_isDigit.f a0 = some r) :
  Calls Tryd.prog 34 #[.int .u8 a0] w fun e w' => e = .returned (.bool r) ∧ Drawn0 w w' := by
 have H : (if a0 ≥ 48 then (some (decide (a0 ≤ 57))) else (some false)) = some r := h
 clear h
 by_cases c2 : a0 ≥ 48
 ·rw [if_pos c2] at H
  have c2b0 : decide (48 ≤ a0) = true := decide_eq_true c2
  clear c2
  obtain rfl := Option.some.inj H
  go_enter Tryd.func34, Tryd.ntmps34
  go_wp2
  go_ret
  exact ⟨by rfl, by repeat (first | exact Drawn0.refl _ | apply Drawn0.step)⟩
 ·rw [if_neg c2] at H
  have c2b0 : decide (48 ≤ a0) = false := decide_eq_false c2
  clear c2
  obtain rfl := Option.some.inj H
  go_enter Tryd.func34, Tryd.ntmps34
  go_wp2
  go_ret
  exact ⟨by rfl, by repeat (first | exact Drawn0.refl _ | apply Drawn0.step)⟩
def spec_allDigits.l0 : Nat → ByteArray → Int → Option (Bool)
 | 0, _, _ => none
 | k + 1, x0, x3 => if x3 < (x0.size : Int) then (if 0 ≤ x3 then ((spec_isDigit.f (bt x0 x3)).bind fun t128 => (if t128 = true then (spec_allDigits.l0 k x0 (wrap64 (x3 + 1))) else (some false))) else (none)) else (some (decide ((x0.size : Int) > 0)))
def spec_allDigits.f (k : Nat) (a0 : ByteArray) : Option (Bool) := spec_allDigits.l0 k a0 0
set_option maxHeartbeats 8000000 in
set_option maxRecDepth 100000 in
theorem spec_allDigits.calls (k : Nat) (a0 : ByteArray) (r : Bool) (w : World) (h : spec_allDigits.f k a0 = some r) :
  Calls Tryd.prog 67 #[.string a0] w fun e w' => e = .returned (.bool r) ∧ Drawn0 w w' := by
 have H : (spec_allDigits.l0 k a0 0) = some r := h
 clear h
 have H' := Aside0.mk H
 clear H
 go_enter Tryd.func67, Tryd.ntmps67
 go_wp2
 (try simp only [Act.put, List.setIfInBounds_toArray, List.set_cons_zero, List.set_cons_succ])
 go_loopg [3] k (fun kq v3 w' => ∃ (x3_1 : Int), v3 = .int .i64 x3_1 ∧ Aside0 (spec_allDigits.l0 kq a0 x3_1 = some r) ∧ Aside0 (kq ≤ k) ∧ Drawn0 w w')
 case atStart => exact ⟨(0), (by rfl), H', ⟨Nat.le_refl _⟩, by repeat (first | exact Drawn0.refl _ | apply Drawn0.step)⟩
 case round =>
  clear H'
  obtain ⟨x3_1, rfl, HA, HK1, ⟨m1, rfl⟩⟩ := hrel
  cases gk with
  | zero => exact absurd HA.out (by simp [spec_allDigits.l0])
  | succ k1 =>
   have H := HA.out
   clear HA
   simp only [spec_allDigits.l0] at H
   by_cases c2 : x3_1 < (a0.size : Int)
   ·rw [if_pos c2] at H
    have c2b0 : decide (x3_1 < (a0.size : Int)) = true := decide_eq_true c2
    clear c2
    by_cases c3 : 0 ≤ x3_1
    ·rw [if_pos c3] at H
     have c3b0 : decide (0 ≤ x3_1) = true := decide_eq_true c3
     clear c3
     replace H := Option.bind_eq_some_iff.mp H
     obtain ⟨t128, A50, H⟩ := H
     replace H : (if t128 = true then (spec_allDigits.l0 k1 a0 (wrap64 (x3_1 + 1))) else (some false)) = some r := H
     have A5 := Aside0.mk A50
     clear A50
     by_cases c6 : t128 = true
     ·subst c6
      have H1 : (spec_allDigits.l0 k1 a0 (wrap64 (x3_1 + 1))) = some r := by rw [if_pos rfl] at H; exact H
      clear H
      have H := H1
      clear H1
      have H' := Aside0.mk H
      clear H
      have p4 : 0 ≤ (x3_1 : Int) := of_decide_eq_true (by (with_reducible assumption))
      have q4 : x3_1 < (a0.size : Int) := of_decide_eq_true (by (with_reducible assumption))
      have hx4 := bt_at a0 x3_1
      replace p4 := eq_true p4
      replace q4 := eq_true q4
      go_wp2_with (((with_reducible refine gate_callee (f := 34) rfl ?_); refine goesL_ (some 13) rfl rfl Tryd.func34 (by kernel_rfl) rfl #[.int .u8 (bt a0 x3_1)] rfl (by (try simp only [List.map_toArray, List.map_cons, List.map_nil]); first | done | rfl | (simp only [List.length_drop, List.length_take]; rfl)) ?_; (with_reducible refine (spec_isDigit.calls (bt a0 x3_1) true _ A5.out).mono ?_); rintro e w' ⟨rfl, ⟨nd, rfl⟩⟩; refine ⟨_, rfl, ?_⟩))
      go_roundg k1
      case measure => have := HK1.out; omega
      case rel => exact ⟨(wrap64 (x3_1 + 1)), (by rfl), H', ⟨by have := HK1.out; omega⟩, by repeat (first | exact Drawn0.refl _ | apply Drawn0.step)⟩
     ·replace c6 := Bool.eq_false_iff.mpr c6
      subst c6
      have H1 : (some false) = some r := by rw [if_neg (show ¬ (false = true) by decide)] at H; exact H
      clear H
      have H := H1
      clear H1
      obtain rfl := Option.some.inj H
      have p4 : 0 ≤ (x3_1 : Int) := of_decide_eq_true (by (with_reducible assumption))
      have q4 : x3_1 < (a0.size : Int) := of_decide_eq_true (by (with_reducible assumption))
      have hx4 := bt_at a0 x3_1
      replace p4 := eq_true p4
      replace q4 := eq_true q4
      go_wp2_with (((with_reducible refine gate_callee (f := 34) rfl ?_); refine goesL_ (some 13) rfl rfl Tryd.func34 (by kernel_rfl) rfl #[.int .u8 (bt a0 x3_1)] rfl (by (try simp only [List.map_toArray, List.map_cons, List.map_nil]); first | done | rfl | (simp only [List.length_drop, List.length_take]; rfl)) ?_; (with_reducible refine (spec_isDigit.calls (bt a0 x3_1) false _ A5.out).mono ?_); rintro e w' ⟨rfl, ⟨nd, rfl⟩⟩; refine ⟨_, rfl, ?_⟩))
      go_ret
      exact ⟨by rfl, by repeat (first | exact Drawn0.refl _ | apply Drawn0.step)⟩
    ·rw [if_neg c3] at H
     exact absurd H (by simp)
   ·rw [if_neg c2] at H
    have c2b0 : decide (x3_1 < (a0.size : Int)) = false := decide_eq_false c2
    clear c2
    obtain rfl := Option.some.inj H
    go_wp2
    go_ret
    exact ⟨by rfl, by repeat (first | exact Drawn0.refl _ | apply Drawn0.step)⟩
mutual
def spec_Number.j0 : Nat → ByteArray → Bool → Bool → Option (Bool × ByteArray × Bool)
 | 0, _, _, _ => none
 | k + 1, x0, x4, x17 => if x17 = true then (if 0 < (x0.size : Int) then (if 1 ≤ (x0.size : Int) then (spec_Number.j1 k (x0.extract 1 x0.size) ((bt x0 0) == 45)) else (none)) else (none)) else (spec_Number.j1 k x0 x4)
def spec_Number.j1 : Nat → ByteArray → Bool → Option (Bool × ByteArray × Bool)
 | 0, _, _ => none
 | k + 1, x0, x4 => (spec_allDigits.f k x0).bind fun t130 => (if t130 = true then ((spec_intOf.f k x0).bind fun bt131 => (if x4 = true then (some ((bt131.2.toList != ([] : List UInt8)), bt131.2, true)) else (some (false, bt131.2, true)))) else (some (false, (⟨#[]⟩ : ByteArray), false)))
end
def spec_Number.f (k : Nat) (a0 : ByteArray) : Option (Bool × ByteArray × Bool) := if (a0.size : Int) > 0 then (if 0 < (a0.size : Int) then (if (bt a0 0) = 43 then (spec_Number.j0 k a0 false true) else (spec_Number.j0 k a0 false ((bt a0 0) == 45))) else (none)) else (spec_Number.j0 k a0 false false)
set_option maxHeartbeats 8000000 in
set_option maxRecDepth 100000 in
theorem spec_Number.calls (k : Nat) (a0 : ByteArray) (r1 : Bool) (r2 : ByteArray) (r3 : Bool) (w : World) (h : spec_Number.f k a0 = some (r1, r2, r3)) :
  Calls Tryd.prog 49 #[.string a0] w fun e w' => e = .returned (.tuple #[.agg #[.bool r1, .string r2], .bool r3]) ∧ Below w.heap.size w w' := by
 have hu31 := Tryd.underlying31
 have HB := Aside0.mk (Below.refl w.heap.size w)
 have H : (if (a0.size : Int) > 0 then (if 0 < (a0.size : Int) then (if (bt a0 0) = 43 then (spec_Number.j0 k a0 false true) else (spec_Number.j0 k a0 false ((bt a0 0) == 45))) else (none)) else (spec_Number.j0 k a0 false false)) = some (r1, r2, r3) := h
 clear h
 have HC2 := Aside0.mk H
 clear H
 go_enter Tryd.func49, Tryd.ntmps49
 go_upto_region 2 with (((with_reducible refine gate_dst (N := 2) rfl ?_); refine box_event ?hg (N := 2) ?hd (cs := #[.bool false, .string ⟨#[]⟩]) (t := 31) ?hr ?_; (case hd => rfl); (case hg => rfl); (case hr => first | (go_simp; done) | (go_simp; rfl)); intro gb129 hg w3 hbox hb; have BK129 := Aside0.mk hbox; have GW129 := Aside0.mk ((by rw [hg]; exact (below_size (by (with_reducible exact HB.out))) : w.heap.size ≤ gb129)); have GE129 := Aside0.mk ((by rw [hg]; exact (below_size (by (with_reducible exact HB.out))) : w.heap.size ≤ gb129)); replace HB := Aside0.mk (below_step (by (with_reducible exact HB.out)) hb); clear hb hbox hg))
 repeat (go_quiet (fail); go_upto_region 2 with (fail))
 (try simp only [Act.put, List.setIfInBounds_toArray, List.set_cons_zero, List.set_cons_succ])
 go_cut [17] (fun v17 wc => ∃ (kq : Nat) (x17_1 : Bool), v17 = .bool x17_1 ∧ Aside0 (spec_Number.j0 kq a0 false x17_1 = some (r1, r2, r3)) ∧ Aside0 (kq ≤ k) ∧ Aside0 (wc.heap[gb129]? = some (.cells #[.bool false, .string ⟨#[]⟩] 31 (0, 0))) ∧ Aside0 (Below w.heap.size w wc))
 case first =>
  have H := HC2.out
  clear HC2
  by_cases c4 : (a0.size : Int) > 0
  ·rw [if_pos c4] at H
   have c4b0 : decide (0 < (a0.size : Int)) = true := decide_eq_true c4
   have c4b1 : decide (0 < a0.size) = true := decide_eq_true (by omega)
   clear c4
   (first | rw [c4b0] | (simp only [i64_w, i32_w]; rw [c4b0]) | skip)
   by_cases c5 : 0 < (a0.size : Int)
   ·rw [if_pos c5] at H
    have c5b0 : decide (0 < (a0.size : Int)) = true := decide_eq_true c5
    have c5b1 : decide (0 < a0.size) = true := decide_eq_true (by omega)
    clear c5
    by_cases c7 : (bt a0 0) = 43
    ·rw [if_pos c7] at H
     have c7b0 : ((bt a0 0) == 43) = true := beq_iff_eq.mpr c7
     have c7b1 : ((bt a0 0) != 43) = false := bne_eq_false_iff_eq.mpr c7
     clear c7
     have H' := Aside0.mk H
     clear H
     have p6 : 0 ≤ (0 : Int) := (by omega)
     have q6 : 0 < a0.size := (by have : (0 : Int) < (a0.size : Int) := of_decide_eq_true (by (with_reducible assumption)); omega)
     have hx6 : ∀ h : 0 < a0.size, ((a0[0]'h).toNat : Int) = bt a0 0 := bt_at a0 0
     clear p6
     have qi6 : (0 < (a0.size : Int)) = True := eq_true (of_decide_eq_true (by (with_reducible assumption)))
     replace q6 := eq_true q6
     go_wp2
     repeat (go_quiet (fail); try go_wp2)
     go_meet
     case rel => exact ⟨_, (true), (by rfl), H', ⟨by omega⟩, ⟨by exact BK129.out⟩, ⟨by (with_reducible exact HB.out)⟩⟩
    ·rw [if_neg c7] at H
     have c7b0 : ((bt a0 0) == 43) = false := beq_eq_false_iff_ne.mpr c7
     have c7b1 : ((bt a0 0) != 43) = true := bne_iff_ne.mpr c7
     have H' := Aside0.mk H
     clear H
     have p6 : 0 ≤ (0 : Int) := (by omega)
     have q6 : 0 < a0.size := (by have : (0 : Int) < (a0.size : Int) := of_decide_eq_true (by (with_reducible assumption)); omega)
     have hx6 : ∀ h : 0 < a0.size, ((a0[0]'h).toNat : Int) = bt a0 0 := bt_at a0 0
     clear p6
     have qi6 : (0 < (a0.size : Int)) = True := eq_true (of_decide_eq_true (by (with_reducible assumption)))
     replace q6 := eq_true q6
     have p8 : 0 ≤ (0 : Int) := (by omega)
     have q8 : 0 < a0.size := (by have : (0 : Int) < (a0.size : Int) := of_decide_eq_true (by (with_reducible assumption)); omega)
     have hx8 : ∀ h : 0 < a0.size, ((a0[0]'h).toNat : Int) = bt a0 0 := bt_at a0 0
     clear p8
     have qi8 : (0 < (a0.size : Int)) = True := eq_true (of_decide_eq_true (by (with_reducible assumption)))
     replace q8 := eq_true q8
     go_wp2
     repeat (go_quiet (fail); try go_wp2)
     go_meet
     case rel => exact ⟨_, (((bt a0 0) == 45)), (by rfl), H', ⟨by omega⟩, ⟨by exact BK129.out⟩, ⟨by (with_reducible exact HB.out)⟩⟩
   ·rw [if_neg c5] at H
    exact absurd H (by simp)
  ·rw [if_neg c4] at H
   have c4b0 : decide (0 < (a0.size : Int)) = false := decide_eq_false c4
   have c4b1 : decide (0 < a0.size) = false := decide_eq_false (by omega)
   clear c4
   (first | rw [c4b0] | (simp only [i64_w, i32_w]; rw [c4b0]) | skip)
   have H' := Aside0.mk H
   clear H
   go_wp2
   repeat (go_quiet (fail); try go_wp2)
   go_meet
   case rel => exact ⟨_, (false), (by rfl), H', ⟨by omega⟩, ⟨by exact BK129.out⟩, ⟨by (with_reducible exact HB.out)⟩⟩
 case rest =>
  clear HC2
  obtain ⟨kq, x17_1, rfl, HA, HJ1, BK129, HB⟩ := hcut
  cases kq with
  | zero => exact absurd HA.out (by simp [spec_Number.j0])
  | succ kj1 =>
   have H := HA.out
   clear HA
   simp only [spec_Number.j0] at H
   have HC9 := Aside0.mk H
   clear H
   go_upto_if 17 with (fail)
   repeat (go_quiet (fail); go_upto_if 17 with (fail))
   go_cut [0, 4, 17] (fun v0 v4 v17 wc => ∃ (kq : Nat) (x0_8 : ByteArray) (x4_8 : Bool), v0 = .string x0_8 ∧ v4 = .bool x4_8 ∧ Aside0 (spec_Number.j1 kq x0_8 x4_8 = some (r1, r2, r3)) ∧ Aside0 (kq ≤ kj1) ∧ Aside0 (wc.heap[gb129]? = some (.cells #[.bool false, .string ⟨#[]⟩] 31 (0, 0))) ∧ Aside0 (Below w.heap.size w wc))
   case first =>
    have H := HC9.out
    clear HC9
    by_cases c10 : x17_1 = true
    ·subst c10
     have H1 : (if 0 < (a0.size : Int) then (if 1 ≤ (a0.size : Int) then (spec_Number.j1 kj1 (a0.extract 1 a0.size) ((bt a0 0) == 45)) else (none)) else (none)) = some (r1, r2, r3) := by rw [if_pos rfl] at H; exact H
     clear H
     have H := H1
     clear H1
     by_cases c11 : 0 < (a0.size : Int)
     ·rw [if_pos c11] at H
      have c11b0 : decide (0 < (a0.size : Int)) = true := decide_eq_true c11
      have c11b1 : decide (0 < a0.size) = true := decide_eq_true (by omega)
      clear c11
      (first | rw [c11b0] | (simp only [i64_w, i32_w]; rw [c11b0]) | skip)
      by_cases c13 : 1 ≤ (a0.size : Int)
      ·rw [if_pos c13] at H
       have c13b0 := eq_true c13
       have c13b1 : decide (1 ≤ (a0.size : Int)) = true := decide_eq_true c13
       clear c13
       have H' := Aside0.mk H
       clear H
       have p12 : 0 ≤ (0 : Int) := (by omega)
       have q12 : 0 < a0.size := (by have : (0 : Int) < (a0.size : Int) := of_decide_eq_true (by (with_reducible assumption)); omega)
       have hx12 : ∀ h : 0 < a0.size, ((a0[0]'h).toNat : Int) = bt a0 0 := bt_at a0 0
       clear p12
       have qi12 : (0 < (a0.size : Int)) = True := eq_true (of_decide_eq_true (by (with_reducible assumption)))
       replace q12 := eq_true q12
       go_wp2
       repeat (go_quiet (fail); try go_wp2)
       go_meet
       case rel => exact ⟨_, (a0.extract 1 a0.size), (((bt a0 0) == 45)), (by rfl), (by rfl), (by exact H'), ⟨by have := HJ1.out; first | omega | exact Nat.le_refl _⟩, ⟨by (with_reducible (refine blk_drewN ?_ _)); exact BK129.out⟩, ⟨by (with_reducible apply pw_below_drewN; with_reducible exact HB.out)⟩⟩
      ·rw [if_neg c13] at H
       exact absurd H (by simp)
     ·rw [if_neg c11] at H
      exact absurd H (by simp)
    ·replace c10 := Bool.eq_false_iff.mpr c10
     subst c10
     have H1 : (spec_Number.j1 kj1 a0 false) = some (r1, r2, r3) := by rw [if_neg (show ¬ (false = true) by decide)] at H; exact H
     clear H
     have H := H1
     clear H1
     have H' := Aside0.mk H
     clear H
     go_wp2
     repeat (go_quiet (fail); try go_wp2)
     go_meet
     case rel => exact ⟨_, (a0), (false), (by rfl), (by rfl), (by exact H'), ⟨by have := HJ1.out; first | omega | exact Nat.le_refl _⟩, ⟨by exact BK129.out⟩, ⟨by (with_reducible exact HB.out)⟩⟩
   case rest =>
    clear HC9
    obtain ⟨kq, x0_8, x4_8, rfl, rfl, HA, HJ8, BK129, HB⟩ := hcut
    cases kq with
    | zero => exact absurd HA.out (by simp [spec_Number.j1])
    | succ kj8 =>
     have H := HA.out
     clear HA
     simp only [spec_Number.j1] at H
     replace H := Option.bind_eq_some_iff.mp H
     obtain ⟨t130, A140, H⟩ := H
     replace H : (if t130 = true then ((spec_intOf.f kj8 x0_8).bind fun bt131 => (if x4_8 = true then (some ((bt131.2.toList != ([] : List UInt8)), bt131.2, true)) else (some (false, bt131.2, true)))) else (some (false, (⟨#[]⟩ : ByteArray), false))) = some (r1, r2, r3) := H
     have A14 := Aside0.mk A140
     clear A140
     by_cases c15 : t130 = true
     ·subst c15
      have H1 : ((spec_intOf.f kj8 x0_8).bind fun bt131 => (if x4_8 = true then (some ((bt131.2.toList != ([] : List UInt8)), bt131.2, true)) else (some (false, bt131.2, true)))) = some (r1, r2, r3) := by rw [if_pos rfl] at H; exact H
      clear H
      have H := H1
      clear H1
      replace H := Option.bind_eq_some_iff.mp H
      obtain ⟨⟨t131, t132⟩, A160, H⟩ := H
      replace H : (if x4_8 = true then (some ((t132.toList != ([] : List UInt8)), t132, true)) else (some (false, t132, true))) = some (r1, r2, r3) := H
      have A16 := Aside0.mk A160
      clear A160
      by_cases c17 : x4_8 = true
      ·subst c17
       have H1 : (some ((t132.toList != ([] : List UInt8)), t132, true)) = some (r1, r2, r3) := by rw [if_pos rfl] at H; exact H
       clear H
       have H := H1
       clear H1
       simp only [Option.some.injEq, Prod.mk.injEq] at H
       obtain ⟨rfl, rfl, rfl⟩ := H
       go_wp2_with (first | (go_at_call 67; (with_reducible refine (spec_allDigits.calls kj8 x0_8 true _ A14.out).mono ?_); rintro e w' ⟨rfl, ⟨nd, rfl⟩⟩; (try first | exact ⟨rfl, _, World.drewN_drewN _ _ _⟩ | exact ⟨rfl, _, Eq.trans (World.drewN_drewN _ _ _) (congrArg (World.drewN _) (Nat.add_assoc _ _ _))⟩)) | (go_at_call 35; (with_reducible refine (spec_intOf.calls kj8 x0_8 t131 t132 _ A16.out).mono ?_); rintro e w18 ⟨rfl, hb⟩; replace BK129 := Aside0.mk (blk_below (g := gb129) (o := .cells #[.bool false, .string ⟨#[]⟩] 31 (0, 0)) (by (with_reducible (refine blk_drewN ?_ _)); exact BK129.out) hb); replace HB := Aside0.mk (below_step (by (with_reducible apply pw_below_drewN; with_reducible exact HB.out)) hb); (try clear hb); (try clear hb2); (try clear hk); (try clear hi); obtain ⟨hcz19_0, hcz19_1, hfz19_0, hfz19_1⟩ := cl2 BK129.out))
       repeat (go_quiet (fail); try go_wp2_with (fail))
       refine bodyPost_ret (results_ct rfl _ _ gb129 31 #[.bool (t132.toList != ([] : List UInt8)), .string t132] (0, 0) _ rfl (by refine blk_put (cs := #[.bool (t132.toList != ([] : List UInt8)), .string t132]) ?_ 1 _ (by rfl); refine blk_put (cs := #[.bool (t132.toList != ([] : List UInt8)), .string t132]) ?_ 0 _ (by (simp [bne_nil_hyb]; done)); refine blk_put (cs := #[.bool t131, .string t132]) ?_ 0 _ (by (simp [bne_nil_hyb]; done)); refine blk_put (cs := #[.bool t131, .string ⟨#[]⟩]) ?_ 1 _ (by rfl); refine blk_put (cs := #[.bool false, .string ⟨#[]⟩]) ?_ 0 _ (by rfl); exact BK129.out) Tryd.underlying31 rfl (by kernel_rfl)) rfl ?_
       exact ⟨by rfl, by repeat (first | (with_reducible first | exact HB.out | apply below_alloc | apply pw_below_drewN | apply below_drew1 | refine below_set ?_ GE129.out) | exact HB.out)⟩
      ·replace c17 := Bool.eq_false_iff.mpr c17
       subst c17
       have H1 : (some (false, t132, true)) = some (r1, r2, r3) := by rw [if_neg (show ¬ (false = true) by decide)] at H; exact H
       clear H
       have H := H1
       clear H1
       simp only [Option.some.injEq, Prod.mk.injEq] at H
       obtain ⟨rfl, rfl, rfl⟩ := H
       go_wp2_with (first | (go_at_call 67; (with_reducible refine (spec_allDigits.calls kj8 x0_8 true _ A14.out).mono ?_); rintro e w' ⟨rfl, ⟨nd, rfl⟩⟩; (try first | exact ⟨rfl, _, World.drewN_drewN _ _ _⟩ | exact ⟨rfl, _, Eq.trans (World.drewN_drewN _ _ _) (congrArg (World.drewN _) (Nat.add_assoc _ _ _))⟩)) | (go_at_call 35; (with_reducible refine (spec_intOf.calls kj8 x0_8 t131 t132 _ A16.out).mono ?_); rintro e w20 ⟨rfl, hb⟩; replace BK129 := Aside0.mk (blk_below (g := gb129) (o := .cells #[.bool false, .string ⟨#[]⟩] 31 (0, 0)) (by (with_reducible (refine blk_drewN ?_ _)); exact BK129.out) hb); replace HB := Aside0.mk (below_step (by (with_reducible apply pw_below_drewN; with_reducible exact HB.out)) hb); (try clear hb); (try clear hb2); (try clear hk); (try clear hi); obtain ⟨hcz21_0, hcz21_1, hfz21_0, hfz21_1⟩ := cl2 BK129.out))
       repeat (go_quiet (fail); try go_wp2_with (fail))
       refine bodyPost_ret (results_ct rfl _ _ gb129 31 #[.bool false, .string t132] (0, 0) _ rfl (by refine blk_put (cs := #[.bool false, .string t132]) ?_ 1 _ rfl; refine blk_put (cs := #[.bool false, .string t132]) ?_ 0 _ rfl; refine blk_put (cs := #[.bool t131, .string t132]) ?_ 0 _ rfl; refine blk_put (cs := #[.bool t131, .string ⟨#[]⟩]) ?_ 1 _ rfl; refine blk_put (cs := #[.bool false, .string ⟨#[]⟩]) ?_ 0 _ rfl; exact BK129.out) Tryd.underlying31 rfl (by kernel_rfl)) rfl ?_
       exact ⟨by rfl, by repeat (first | (with_reducible first | exact HB.out | apply below_alloc | apply pw_below_drewN | apply below_drew1 | refine below_set ?_ GE129.out) | exact HB.out)⟩
     ·replace c15 := Bool.eq_false_iff.mpr c15
      subst c15
      have H1 : (some (false, (⟨#[]⟩ : ByteArray), false)) = some (r1, r2, r3) := by rw [if_neg (show ¬ (false = true) by decide)] at H; exact H
      clear H
      have H := H1
      clear H1
      simp only [Option.some.injEq, Prod.mk.injEq] at H
      obtain ⟨rfl, rfl, rfl⟩ := H
      go_wp2_with ((go_at_call 67; (with_reducible refine (spec_allDigits.calls kj8 x0_8 false _ A14.out).mono ?_); rintro e w' ⟨rfl, ⟨nd, rfl⟩⟩; (try first | exact ⟨rfl, _, World.drewN_drewN _ _ _⟩ | exact ⟨rfl, _, Eq.trans (World.drewN_drewN _ _ _) (congrArg (World.drewN _) (Nat.add_assoc _ _ _))⟩); obtain ⟨hcz22_0, hcz22_1, hfz22_0, hfz22_1⟩ := cl2 BK129.out))
      repeat (go_quiet (fail); try go_wp2_with (fail))
      refine bodyPost_ret (results_ct rfl _ _ gb129 31 #[.bool false, .string ⟨#[]⟩] (0, 0) _ rfl (by refine blk_put (cs := #[.bool false, .string ⟨#[]⟩]) ?_ 1 _ rfl; refine blk_put (cs := #[.bool false, .string ⟨#[]⟩]) ?_ 0 _ rfl; (with_reducible (refine blk_drewN ?_ _)); exact BK129.out) Tryd.underlying31 rfl (by kernel_rfl)) rfl ?_
      exact ⟨by rfl, by (with_reducible refine below_set ?_ GE129.out; with_reducible refine below_set ?_ GE129.out; with_reducible apply pw_below_drewN; with_reducible exact HB.out)⟩
def spec_NumberOf.f (k : Nat) (a0 : ByteArray) : Option (Bool × ByteArray × Bool) := (spec_Number.f k a0).bind fun bt134 => (some (bt134.1, bt134.2.1, bt134.2.2))
set_option maxHeartbeats 8000000 in
set_option maxRecDepth 100000 in
theorem spec_NumberOf.calls (k : Nat) (a0 : ByteArray) (r1 : Bool) (r2 : ByteArray) (r3 : Bool) (w : World) (h : spec_NumberOf.f k a0 = some (r1, r2, r3)) :
  Calls Tryd.prog 39 #[.string a0] w fun e w' => e = .returned (.tuple #[.agg #[.bool r1, .string r2], .bool r3]) ∧ Below w.heap.size w w' := by
 have hu31 := Tryd.underlying31
 have HB := Aside0.mk (Below.refl w.heap.size w)
 have H : ((spec_Number.f k a0).bind fun bt134 => (some (bt134.1, bt134.2.1, bt134.2.2))) = some (r1, r2, r3) := h
 clear h
 replace H := Option.bind_eq_some_iff.mp H
 obtain ⟨⟨t134, t135, t136⟩, A20, H⟩ := H
 replace H : (some (t134, t135, t136)) = some (r1, r2, r3) := H
 have A2 := Aside0.mk A20
 clear A20
 simp only [Option.some.injEq, Prod.mk.injEq] at H
 obtain ⟨rfl, rfl, rfl⟩ := H
 go_enter Tryd.func39, Tryd.ntmps39
 go_wp2_with (first | ((with_reducible refine gate_dst (N := 2) rfl ?_); refine box_event ?hg (N := 2) ?hd (cs := #[.bool false, .string ⟨#[]⟩]) (t := 31) ?hr ?_; (case hd => rfl); (case hg => rfl); (case hr => first | (go_simp; done) | (go_simp; rfl)); intro gb133 hg w3 hbox hb; have BK133 := Aside0.mk hbox; have GW133 := Aside0.mk ((by rw [hg]; exact (below_size (by (with_reducible exact HB.out))) : w.heap.size ≤ gb133)); have GE133 := Aside0.mk ((by rw [hg]; exact (below_size (by (with_reducible exact HB.out))) : w.heap.size ≤ gb133)); replace HB := Aside0.mk (below_step (by (with_reducible exact HB.out)) hb); clear hb hbox hg) | ((with_reducible refine gate_callee (f := 49) rfl ?_); refine goesL_ (some 5) rfl rfl Tryd.func49 (by kernel_rfl) rfl #[.string a0] rfl (by (try simp only [List.map_toArray, List.map_cons, List.map_nil]); first | done | rfl | (simp only [List.length_drop, List.length_take]; rfl)) ?_; (with_reducible refine (spec_Number.calls k a0 t134 t135 t136 _ A2.out).mono ?_); rintro e w4 ⟨rfl, hb⟩; refine ⟨_, rfl, ?_⟩; replace BK133 := Aside0.mk (blk_below (g := gb133) (o := .cells #[.bool false, .string ⟨#[]⟩] 31 (0, 0)) (by exact BK133.out) hb); replace HB := Aside0.mk (below_step (by (with_reducible exact HB.out)) hb); (try clear hb); (try clear hb2); (try clear hk); (try clear hi); obtain ⟨hcz5_0, hcz5_1, hfz5_0, hfz5_1⟩ := cl2 BK133.out))
 refine bodyPost_ret (results_ct rfl _ _ gb133 31 #[.bool t134, .string t135] (0, 0) _ rfl (by refine blk_put (cs := #[.bool t134, .string ⟨#[]⟩]) ?_ 1 _ rfl; refine blk_put (cs := #[.bool false, .string ⟨#[]⟩]) ?_ 0 _ rfl; exact BK133.out) Tryd.underlying31 rfl (by kernel_rfl)) rfl ?_
 exact ⟨by rfl, by (with_reducible refine below_set ?_ GE133.out; with_reducible refine below_set ?_ GE133.out; with_reducible exact HB.out)⟩
end Go.Proofs.YtapaijpglfmfgaaDoor.Q
end
section -- Qx6
namespace Go.Proofs.YtapaijpglfmfgaaDoor.Q
open Go.RowKit Go.Proofs.YtapaijpglfmfgaaDoorH Go.Proofs.YtapaijpglfmfgaaDoorG Go.Proofs.YtapaijpglfmfgaaDoorW.PrintWords Go.Proofs.YtapaijpglfmfgaaDoorW.PrintLast Go.Proofs.YtapaijpglfmfgaaDoorW.PrintMore
attribute [local go_sem] max2_int min2_int max_two min_two max_three min_three max_four min_four
set_option linter.unusedVariables false
set_option linter.unusedSimpArgs false
def laws_number.f (k : Nat) (a0 : ByteArray) : Option (Bool × ByteArray) := (spec_NumberOf.f k a0).bind fun bt138 => (some (bt138.1, bt138.2.1))
set_option maxHeartbeats 8000000 in
set_option maxRecDepth 100000 in
theorem laws_number.calls (k : Nat) (a0 : ByteArray) (r1 : Bool) (r2 : ByteArray) (w : World) (h : laws_number.f k a0 = some (r1, r2)) :
  Calls Tryd.prog 23 #[.string a0] w fun e w' => e = .returned (.agg #[.bool r1, .string r2]) ∧ Below w.heap.size w w' := by
 have hu31 := Tryd.underlying31
 have HB := Aside0.mk (Below.refl w.heap.size w)
 have H : ((spec_NumberOf.f k a0).bind fun bt138 => (some (bt138.1, bt138.2.1))) = some (r1, r2) := h
 clear h
 replace H := Option.bind_eq_some_iff.mp H
 obtain ⟨⟨t138, t139, t140⟩, A20, H⟩ := H
 replace H : (some (t138, t139)) = some (r1, r2) := H
 have A2 := Aside0.mk A20
 clear A20
 simp only [Option.some.injEq, Prod.mk.injEq] at H
 obtain ⟨rfl, rfl⟩ := H
 go_enter Tryd.func23, Tryd.ntmps23
 go_wp2_with (first | ((with_reducible refine gate_dst (N := 2) rfl ?_); refine box_event ?hg (N := 2) ?hd (cs := #[.bool false, .string (⟨#[]⟩ : ByteArray)]) (t := 31) ?hr ?_; (case hd => rfl); (case hg => rfl); (case hr => first | (go_simp; done) | (go_simp; rfl)); intro gb137 hg w3 hbox hb; have n0_ := Aside0.mk (below_step (by repeat (first | (with_reducible first | exact HB.out | apply below_alloc | apply pw_below_drewN | apply below_drew1) | exact HB.out)) hb); have n1_ := Aside0.mk (hbox); have n2_ := Aside0.mk ((by rw [hg]; exact (below_size (by repeat (first | (with_reducible first | exact HB.out | apply below_alloc | apply pw_below_drewN | apply below_drew1) | exact HB.out))) : w.heap.size ≤ gb137)); have n3_ := Aside0.mk ((by rw [hg]; exact (below_size (by repeat (first | (with_reducible first | exact HB.out | apply below_alloc | apply pw_below_drewN | apply below_drew1) | exact HB.out))) : w.heap.size ≤ gb137)); clear HB; have HB := n0_; have BK137 := n1_; have GW137 := n2_; have GE137 := n3_; clear n0_ n1_ n2_ n3_; clear hb hbox hg) | ((with_reducible refine gate_callee (f := 39) rfl ?_); refine goesL_ (some 7) rfl rfl Tryd.func39 (by kernel_rfl) rfl #[.string a0] rfl (by (try simp only [List.map_toArray, List.map_cons, List.map_nil]); first | done | rfl | (simp only [List.length_drop, List.length_take]; rfl)) ?_; (with_reducible refine (spec_NumberOf.calls k a0 t138 t139 t140 _ A2.out).mono ?_); rintro e w4 ⟨rfl, hb⟩; refine ⟨_, rfl, ?_⟩; have n0_ := Aside0.mk (blk_below (g := gb137) (o := .cells #[.bool false, .string (⟨#[]⟩ : ByteArray)] 31 (0, 0)) (by (with_reducible repeat (first | refine blk_drewN ?_ _ | refine blk_drew ?_ | refine blk_alloc ?_ _)); exact BK137.out) hb); have n1_ := Aside0.mk (below_step (by repeat (first | (with_reducible first | exact HB.out | apply below_alloc | apply pw_below_drewN | apply below_drew1 | refine below_set ?_ GE137.out) | exact HB.out)) hb); clear BK137; clear HB; have BK137 := n0_; have HB := n1_; clear n0_ n1_; (try clear hb); (try clear hb2); (try clear hk); (try clear hi)) | ((with_reducible refine gate_dst (N := 3) rfl ?_); refine box_event ?hg (N := 3) ?hd (cs := #[.bool false, .string (⟨#[]⟩ : ByteArray)]) (t := 31) ?hr ?_; (case hd => rfl); (case hg => rfl); (case hr => first | (go_simp; done) | (go_simp; rfl)); intro gb141 hg w5 hbox hb; have n0_ := Aside0.mk (blk_below (g := gb137) (o := .cells #[.bool false, .string (⟨#[]⟩ : ByteArray)] 31 (0, 0)) (by (with_reducible repeat (first | refine blk_drewN ?_ _ | refine blk_drew ?_ | refine blk_alloc ?_ _)); exact BK137.out) hb); have n1_ := Aside0.mk (below_step (by repeat (first | (with_reducible first | exact HB.out | apply below_alloc | apply pw_below_drewN | apply below_drew1 | refine below_set ?_ GE137.out) | exact HB.out)) hb); have n2_ := Aside0.mk (hbox); have n3_ := Aside0.mk ((by rw [hg]; exact (below_size (by repeat (first | (with_reducible first | exact HB.out | apply below_alloc | apply pw_below_drewN | apply below_drew1 | refine below_set ?_ GE137.out) | exact HB.out))) : w.heap.size ≤ gb141)); have n4_ := Aside0.mk ((by rw [hg]; exact (below_size (by repeat (first | (with_reducible first | exact HB.out | apply below_alloc | apply pw_below_drewN | apply below_drew1 | refine below_set ?_ GE137.out) | exact HB.out))) : w.heap.size ≤ gb141)); have n5_ := Aside0.mk ((by rw [hg]; exact Nat.ne_of_lt (blk_lt (g := gb137) (o := .cells #[.bool false, .string (⟨#[]⟩ : ByteArray)] 31 (0, 0)) (by (with_reducible repeat (first | refine blk_drewN ?_ _ | refine blk_drew ?_ | refine blk_alloc ?_ _)); exact BK137.out)) : gb137 ≠ gb141)); have n6_ := Aside0.mk ((by rw [hg]; exact Nat.ne_of_gt (blk_lt (g := gb137) (o := .cells #[.bool false, .string (⟨#[]⟩ : ByteArray)] 31 (0, 0)) (by (with_reducible repeat (first | refine blk_drewN ?_ _ | refine blk_drew ?_ | refine blk_alloc ?_ _)); exact BK137.out)) : gb141 ≠ gb137)); clear BK137; clear HB; have BK137 := n0_; have HB := n1_; have BK141 := n2_; have GW141 := n3_; have GE141 := n4_; have NB137_141 := n5_; have NB141_137 := n6_; clear n0_ n1_ n2_ n3_ n4_ n5_ n6_; clear hb hbox hg; have hnb6 := NB141_137.out; have hnc6 := NB137_141.out; have hcz7_0 : w5.cell? ⟨gb141, 0, none⟩ = some (.bool false) := (blk_cell BK141.out 0).trans rfl; have hcz7_1 : w5.cell? ⟨gb141, 1, none⟩ = some (.string (⟨#[]⟩ : ByteArray)) := (blk_cell BK141.out 1).trans rfl; have hfz7_0 := blk_frozen BK141.out 0; have hfz7_1 := blk_frozen BK141.out 1; have hcz8_0 : w5.cell? ⟨gb137, 0, none⟩ = some (.bool false) := (blk_cell BK137.out 0).trans rfl; have hcz8_1 : w5.cell? ⟨gb137, 1, none⟩ = some (.string (⟨#[]⟩ : ByteArray)) := (blk_cell BK137.out 1).trans rfl; have hfz8_0 := blk_frozen BK137.out 0; have hfz8_1 := blk_frozen BK137.out 1))
 refine bodyPost_ret (results_cell_row rfl _ _ gb137 31 #[.bool t138, .string t139] (0, 0) _ rfl (by (with_reducible repeat (first | refine blk_drewN ?_ _ | refine blk_drew ?_ | refine blk_alloc ?_ _)); refine blk_put (cs := #[.bool t138, .string (⟨#[]⟩ : ByteArray)]) ?_ 1 _ rfl; (with_reducible repeat (first | refine blk_drewN ?_ _ | refine blk_drew ?_ | refine blk_alloc ?_ _)); refine blk_put (cs := #[.bool false, .string (⟨#[]⟩ : ByteArray)]) ?_ 0 _ rfl; (with_reducible repeat (first | refine blk_drewN ?_ _ | refine blk_drew ?_ | refine blk_alloc ?_ _)); refine blk_far ?_ NB137_141.out _; (with_reducible repeat (first | refine blk_drewN ?_ _ | refine blk_drew ?_ | refine blk_alloc ?_ _)); refine blk_far ?_ NB137_141.out _; (with_reducible repeat (first | refine blk_drewN ?_ _ | refine blk_drew ?_ | refine blk_alloc ?_ _)); exact BK137.out) Tryd.underlying31 rfl (by kernel_rfl)) rfl ?_
 exact ⟨by first | rfl | (simp [errW_none, errW_some] <;> rfl) | (simp [*, errW_none, errW_some] <;> rfl) | (simp [bne_nil_hyb]; done), by repeat (first | (with_reducible first | exact HB.out | apply below_alloc | apply pw_below_drewN | apply below_drew1 | refine below_set ?_ GE137.out | refine below_set ?_ GE141.out) | exact HB.out)⟩
def laws_weights.f  : Option (List Int) := some (([0, 1, 2, 3, 5, 6, 7, 8, 9] : List Int))
set_option maxHeartbeats 8000000 in
set_option maxRecDepth 100000 in
theorem laws_weights.calls  (r : List Int) (w : World) (h : laws_weights.f  = some r) :
  Calls Tryd.prog 24 #[] w fun e w' => ∃ v0_ : Value, e = .returned (v0_) ∧ Kd.R (Kd.int .i64) 3 w' w.heap.size (fun _ => True) v0_ r ∧ Below w.heap.size w w' := by
 have HB := Aside0.mk (Below.refl w.heap.size w)
 have H : (some (([0, 1, 2, 3, 5, 6, 7, 8, 9] : List Int))) = some r := h
 clear h
 obtain ⟨y142, hy142⟩ : ∃ y_ : List Int, y_ = (([0, 1, 2, 3, 5, 6, 7, 8, 9] : List Int)) := ⟨_, rfl⟩
 replace H : (some y142) = some r := by first | (rw [hy142]; with_reducible exact H) | (have H2_ := (Option.bind_some _ _).symm.trans H; rw [hy142]; with_reducible exact H2_) | (have H2_ := (Option.bind_some _ _).symm.trans H; with_reducible exact H2_) | with_reducible exact H | (rw [hy142]; exact H) | exact H
 have Ny142 := Aside0.mk hy142
 clear hy142
 obtain rfl := Option.some.inj H
 go_enter Tryd.func24, Tryd.ntmps24
 go_wp2_with (first | ((with_reducible refine gate_dst (N := 1) rfl ?_); refine Kd.R_lit (Kd.int .i64) _ 3 ?hg (N := 1) ?hd (xs := ([0, 1, 2, 3, 5, 6, 7, 8, 9] : List Int)) (inner := [.int .i64 0, .int .i64 1, .int .i64 2, .int .i64 3, .int .i64 5, .int .i64 6, .int .i64 7, .int .i64 8, .int .i64 9]) (ok := fun _ => True) (okp := fun _ => True) ?hr ?hp (fun _ hk => hk) trivial (Below.refl _ _) (Nat.le_refl _) (by simp) ?_; (case hd => rfl); (case hg => rfl); (case hr => first | (go_simp; done) | (go_simp; rfl)); (case hp => exact (Reps.one (show Kd.M (Kd.int .i64) _ _ _ 0 [.int .i64 0] from rfl) (Reps.one (show Kd.M (Kd.int .i64) _ _ _ 1 [.int .i64 1] from rfl) (Reps.one (show Kd.M (Kd.int .i64) _ _ _ 2 [.int .i64 2] from rfl) (Reps.one (show Kd.M (Kd.int .i64) _ _ _ 3 [.int .i64 3] from rfl) (Reps.one (show Kd.M (Kd.int .i64) _ _ _ 5 [.int .i64 5] from rfl) (Reps.one (show Kd.M (Kd.int .i64) _ _ _ 6 [.int .i64 6] from rfl) (Reps.one (show Kd.M (Kd.int .i64) _ _ _ 7 [.int .i64 7] from rfl) (Reps.one (show Kd.M (Kd.int .i64) _ _ _ 8 [.int .i64 8] from rfl) (Reps.one (show Kd.M (Kd.int .i64) _ _ _ 9 [.int .i64 9] from rfl) (Reps.none _ _))))))))))); intro v143 w1 ho2 hb hg_ hnew_; clear hg_ hnew_; (first | rw [← Ny142.out] at ho2 | (simp only [Int.reduceToNat] at ho2; rw [← Ny142.out] at ho2)); have n0_ := Aside0.mk (Kd.R_lower ho2 (below_size (by repeat (first | (with_reducible first | exact HB.out | apply below_alloc | apply pw_below_drewN | apply below_drew1) | exact HB.out)))); have n1_ := Aside0.mk (below_step (by repeat (first | (with_reducible first | exact HB.out | apply below_alloc | apply pw_below_drewN | apply below_drew1) | exact HB.out)) hb); clear HB; have HO144 := n0_; have HB := n1_; clear n0_ n1_; clear hb ho2))
 go_ret
 exact ⟨_, by first | rfl | (simp [errW_none, errW_some] <;> rfl) | (simp [*, errW_none, errW_some] <;> rfl) | (simp [bne_nil_hyb]; done), by (with_reducible repeat (first | apply Kd.R_alloc | apply Kd.R_drewN | apply Kd.R_drew)); exact HO144.out, by repeat (first | (with_reducible first | exact HB.out | apply below_alloc | apply pw_below_drewN | apply below_drew1) | exact HB.out)⟩
end Go.Proofs.YtapaijpglfmfgaaDoor.Q
end
section -- Qx21
namespace Go.Proofs.YtapaijpglfmfgaaDoor.Q
open Go.RowKit Go.Proofs.YtapaijpglfmfgaaDoorH Go.Proofs.YtapaijpglfmfgaaDoorG Go.Proofs.YtapaijpglfmfgaaDoorW.PrintWords Go.Proofs.YtapaijpglfmfgaaDoorW.PrintLast Go.Proofs.YtapaijpglfmfgaaDoorW.PrintMore
attribute [local go_sem] max2_int min2_int max_two min_two max_three min_three max_four min_four
set_option linter.unusedVariables false
set_option linter.unusedSimpArgs false
mutual
def laws_Package_text.j0 : Nat → Bool → List Int → Int → List Int → List Int → ByteArray → Bool → Int → Option (ByteArray × ByteArray × ByteArray × ByteArray × ByteArray × Bool × (List (S54)) × (List (S58)) × Bool × Bool × ByteArray × Bool)
 | 0, _, _, _, _, _, _, _, _ => none
 | k + 1, x36, x146000, x146001, x146002, x146003, x146004, x146005, x146006 => if x36 = true then (some ((⟨#[]⟩ : ByteArray), (⟨#[]⟩ : ByteArray), (⟨#[]⟩ : ByteArray), (⟨#[]⟩ : ByteArray), (⟨#[]⟩ : ByteArray), false, ([] : List (S54)), ([] : List (S58)), false, false, (⟨#[]⟩ : ByteArray), false)) else (laws_Package_text.l0 k (⟨#[]⟩ : ByteArray) x146000 (x146000.length : Int) 0 x146000 x146001 x146002 x146003 x146004 x146005 x146006 (⟨#[]⟩ : ByteArray) (⟨#[]⟩ : ByteArray) (⟨#[]⟩ : ByteArray) (⟨#[]⟩ : ByteArray) false ([] : List (S54)) false false (⟨#[]⟩ : ByteArray))
def laws_Package_text.l0 : Nat → ByteArray → List Int → Int → Int → List Int → Int → List Int → List Int → ByteArray → Bool → Int → ByteArray → ByteArray → ByteArray → ByteArray → Bool → List (S54) → Bool → Bool → ByteArray → Option (ByteArray × ByteArray × ByteArray × ByteArray × ByteArray × Bool × (List (S54)) × (List (S58)) × Bool × Bool × ByteArray × Bool)
 | 0, _, _, _, _, _, _, _, _, _, _, _, _, _, _, _, _, _, _, _, _ => none
 | k + 1, x6, x40, x41, x42, x146000, x146001, x146002, x146003, x146004, x146005, x146006, x148000, x148001, x148002, x148003, x148004, x148005, x148007, x148008, x148009 => if x42 < x41 then (if 0 ≤ x42 then (if x42 < (x40.length : Int) then (if x42 > 0 then (if x6.size + 1 ≤ 9223372036854775807 then (laws_Package_text.j2 k (x6 ++ (⟨#[46]⟩ : ByteArray)) x42 (rd x40 x42) x40 x41 x42 x146000 x146001 x146002 x146003 x146004 x146005 x146006 x148000 x148001 x148002 x148003 x148004 x148005 x148007 x148008 x148009) else (none)) else (laws_Package_text.j2 k x6 x42 (rd x40 x42) x40 x41 x42 x146000 x146001 x146002 x146003 x146004 x146005 x146006 x148000 x148001 x148002 x148003 x148004 x148005 x148007 x148008 x148009)) else (none)) else (none)) else (if (Int.tmod x146001 27) > 0 then (if x6.size + (Utf8.encode ((97 + (Int.tmod x146001 27) - 1) % 256)).size ≤ 9223372036854775807 then (laws_Package_text.j3 k (x6 ++ (Utf8.encode ((97 + (Int.tmod x146001 27) - 1) % 256))) x146000 x146001 x146002 x146003 x146004 x146005 x146006 x148000 x148001 (Utf8.encode ((97 + (Int.tmod x146001 27) - 1) % 256)) x148003 x148004 x148005 x148007 x148008 x148009) else (none)) else (laws_Package_text.j3 k x6 x146000 x146001 x146002 x146003 x146004 x146005 x146006 x148000 x148001 x148002 x148003 x148004 x148005 x148007 x148008 x148009))
def laws_Package_text.j2 : Nat → ByteArray → Int → Int → List Int → Int → Int → List Int → Int → List Int → List Int → ByteArray → Bool → Int → ByteArray → ByteArray → ByteArray → ByteArray → Bool → List (S54) → Bool → Bool → ByteArray → Option (ByteArray × ByteArray × ByteArray × ByteArray × ByteArray × Bool × (List (S54)) × (List (S58)) × Bool × Bool × ByteArray × Bool)
 | 0, _, _, _, _, _, _, _, _, _, _, _, _, _, _, _, _, _, _, _, _, _, _ => none
 | k + 1, x6, x7, x8, x40, x41, x42, x146000, x146001, x146002, x146003, x146004, x146005, x146006, x148000, x148001, x148002, x148003, x148004, x148005, x148007, x148008, x148009 => (laws_decimal.f k x8).bind fun t149 => (if x6.size + t149.size ≤ 9223372036854775807 then ((laws_decimal.f k x8).bind fun t150 => ((laws_decimal.f k x8).bind fun t151 => ((laws_number.f k t151).bind fun bt152 => (if x148005.length < 2932031007402 then (laws_Package_text.l0 k (x6 ++ t149) x40 x41 (wrap64 (x42 + 1)) x146000 x146001 x146002 x146003 x146004 x146005 x146006 x148000 x148001 x148002 x148003 x148004 (x148005 ++ [(⟨t150, (⟨bt152.1, bt152.2⟩ : S31), x7⟩ : S54)]) x148007 x148008 x148009) else (none))))) else (none))
def laws_Package_text.j3 : Nat → ByteArray → List Int → Int → List Int → List Int → ByteArray → Bool → Int → ByteArray → ByteArray → ByteArray → ByteArray → Bool → List (S54) → Bool → Bool → ByteArray → Option (ByteArray × ByteArray × ByteArray × ByteArray × ByteArray × Bool × (List (S54)) × (List (S58)) × Bool × Bool × ByteArray × Bool)
 | 0, _, _, _, _, _, _, _, _, _, _, _, _, _, _, _, _, _ => none
 | k + 1, x6, x146000, x146001, x146002, x146003, x146004, x146005, x146006, x148000, x148001, x148002, x148003, x148004, x148005, x148007, x148008, x148009 => laws_Package_text.l1 k x6 x146002 (x146002.length : Int) 0 x146000 x146001 x146002 x146003 x146004 x146005 x146006 x148000 x148001 x148002 x148003 x148004 x148005 ([] : List (S58)) x148007 x148008 x148009
def laws_Package_text.l1 : Nat → ByteArray → List Int → Int → Int → List Int → Int → List Int → List Int → ByteArray → Bool → Int → ByteArray → ByteArray → ByteArray → ByteArray → Bool → List (S54) → List (S58) → Bool → Bool → ByteArray → Option (ByteArray × ByteArray × ByteArray × ByteArray × ByteArray × Bool × (List (S54)) × (List (S58)) × Bool × Bool × ByteArray × Bool)
 | 0, _, _, _, _, _, _, _, _, _, _, _, _, _, _, _, _, _, _, _, _, _ => none
 | k + 1, x6, x84, x85, x86, x146000, x146001, x146002, x146003, x146004, x146005, x146006, x148000, x148001, x148002, x148003, x148004, x148005, x148006, x148007, x148008, x148009 => if x86 < x85 then (if 0 ≤ x86 then (if x86 < (x84.length : Int) then ((laws_weights.f).bind fun t158 => (if 0 ≤ (Int.tmod (rd x84 x86) 9) then (if (Int.tmod (rd x84 x86) 9) < (t158.length : Int) then ((laws_suffixes.f).bind fun t163 => (if (Int.tmod (rd x84 x86) 9) < (t163.length : Int) then (if 1 + (rdOf ByteArray.empty t163 (Int.tmod (rd x84 x86) 9)).size ≤ 9223372036854775807 then (if x6.size + ((⟨#[95]⟩ : ByteArray) ++ (rdOf ByteArray.empty t163 (Int.tmod (rd x84 x86) 9))).size ≤ 9223372036854775807 then (if x86 < (x146003.length : Int) then (laws_Package_text.j5 k (x6 ++ ((⟨#[95]⟩ : ByteArray) ++ (rdOf ByteArray.empty t163 (Int.tmod (rd x84 x86) 9)))) x86 x84 x85 x86 (decide ((rd x146003 x86) > 0)) x146000 x146001 x146002 x146003 x146004 x146005 x146006 x148000 x148001 x148002 x148003 x148004 x148005 x148006 x148007 x148008 x148009 (rd t158 (Int.tmod (rd x84 x86) 9)) false (⟨#[]⟩ : ByteArray)) else (laws_Package_text.j5 k (x6 ++ ((⟨#[95]⟩ : ByteArray) ++ (rdOf ByteArray.empty t163 (Int.tmod (rd x84 x86) 9)))) x86 x84 x85 x86 false x146000 x146001 x146002 x146003 x146004 x146005 x146006 x148000 x148001 x148002 x148003 x148004 x148005 x148006 x148007 x148008 x148009 (rd t158 (Int.tmod (rd x84 x86) 9)) false (⟨#[]⟩ : ByteArray))) else (none)) else (none)) else (none))) else (none)) else (none))) else (none)) else (none)) else (laws_Package_text.l2 k x6 0 x146000 x146001 x146002 x146003 x146004 x146005 x146006 x148000 x148001 x148002 x148003 x148004 x148005 x148006 x148007 x148008 x148009)
def laws_Package_text.j5 : Nat → ByteArray → Int → List Int → Int → Int → Bool → List Int → Int → List Int → List Int → ByteArray → Bool → Int → ByteArray → ByteArray → ByteArray → ByteArray → Bool → List (S54) → List (S58) → Bool → Bool → ByteArray → Int → Bool → ByteArray → Option (ByteArray × ByteArray × ByteArray × ByteArray × ByteArray × Bool × (List (S54)) × (List (S58)) × Bool × Bool × ByteArray × Bool)
 | 0, _, _, _, _, _, _, _, _, _, _, _, _, _, _, _, _, _, _, _, _, _, _, _, _, _, _ => none
 | k + 1, x6, x10, x84, x85, x86, x117, x146000, x146001, x146002, x146003, x146004, x146005, x146006, x148000, x148001, x148002, x148003, x148004, x148005, x148006, x148007, x148008, x148009, x163000, x163001, x163002 => if x117 = true then (if 0 ≤ x10 then (if x10 < (x146003.length : Int) then ((laws_decimal.f k (rd x146003 x10)).bind fun t169 => ((laws_number.f k t169).bind fun bt170 => ((laws_decimal.f k (rd x146003 x10)).bind fun t173 => (if x6.size + t173.size ≤ 9223372036854775807 then (if x148006.length < 4398046511104 then (laws_Package_text.l1 k (x6 ++ t173) x84 x85 (wrap64 (x86 + 1)) x146000 x146001 x146002 x146003 x146004 x146005 x146006 x148000 x148001 x148002 x148003 x148004 x148005 (x148006 ++ [(⟨x163000, (⟨bt170.1, bt170.2⟩ : S31)⟩ : S58)]) x148007 x148008 x148009) else (none)) else (none))))) else (none)) else (none)) else (if x148006.length < 4398046511104 then (laws_Package_text.l1 k x6 x84 x85 (wrap64 (x86 + 1)) x146000 x146001 x146002 x146003 x146004 x146005 x146006 x148000 x148001 x148002 x148003 x148004 x148005 (x148006 ++ [(⟨x163000, (⟨x163001, x163002⟩ : S31)⟩ : S58)]) x148007 x148008 x148009) else (none))
def laws_Package_text.l2 : Nat → ByteArray → Int → List Int → Int → List Int → List Int → ByteArray → Bool → Int → ByteArray → ByteArray → ByteArray → ByteArray → Bool → List (S54) → List (S58) → Bool → Bool → ByteArray → Option (ByteArray × ByteArray × ByteArray × ByteArray × ByteArray × Bool × (List (S54)) × (List (S58)) × Bool × Bool × ByteArray × Bool)
 | 0, _, _, _, _, _, _, _, _, _, _, _, _, _, _, _, _, _, _, _ => none
 | k + 1, x6, x13, x146000, x146001, x146002, x146003, x146004, x146005, x146006, x148000, x148001, x148002, x148003, x148004, x148005, x148006, x148007, x148008, x148009 => if x13 < (x146004.size : Int) then (if 0 ≤ x13 then (if (bt x146004 x13) ≥ 48 then (if (bt x146004 x13) ≤ 57 then (laws_Package_text.l2 k x6 (wrap64 (x13 + 1)) x146000 x146001 x146002 x146003 x146004 x146005 x146006 x148000 x148001 x148002 x148003 x148004 x148005 x148006 x148007 x148008 x148009) else (if (bt x146004 x13) ≥ 97 then (if ((bt x146004 x13) ≤ 102) then (laws_Package_text.l2 k x6 (wrap64 (x13 + 1)) x146000 x146001 x146002 x146003 x146004 x146005 x146006 x148000 x148001 x148002 x148003 x148004 x148005 x148006 x148007 x148008 x148009) else (some ((⟨#[]⟩ : ByteArray), (⟨#[]⟩ : ByteArray), (⟨#[]⟩ : ByteArray), (⟨#[]⟩ : ByteArray), (⟨#[]⟩ : ByteArray), false, ([] : List (S54)), ([] : List (S58)), false, false, (⟨#[]⟩ : ByteArray), false))) else (some ((⟨#[]⟩ : ByteArray), (⟨#[]⟩ : ByteArray), (⟨#[]⟩ : ByteArray), (⟨#[]⟩ : ByteArray), (⟨#[]⟩ : ByteArray), false, ([] : List (S54)), ([] : List (S58)), false, false, (⟨#[]⟩ : ByteArray), false)))) else (if (bt x146004 x13) ≥ 97 then (if ((bt x146004 x13) ≤ 102) then (laws_Package_text.l2 k x6 (wrap64 (x13 + 1)) x146000 x146001 x146002 x146003 x146004 x146005 x146006 x148000 x148001 x148002 x148003 x148004 x148005 x148006 x148007 x148008 x148009) else (some ((⟨#[]⟩ : ByteArray), (⟨#[]⟩ : ByteArray), (⟨#[]⟩ : ByteArray), (⟨#[]⟩ : ByteArray), (⟨#[]⟩ : ByteArray), false, ([] : List (S54)), ([] : List (S58)), false, false, (⟨#[]⟩ : ByteArray), false))) else (some ((⟨#[]⟩ : ByteArray), (⟨#[]⟩ : ByteArray), (⟨#[]⟩ : ByteArray), (⟨#[]⟩ : ByteArray), (⟨#[]⟩ : ByteArray), false, ([] : List (S54)), ([] : List (S58)), false, false, (⟨#[]⟩ : ByteArray), false)))) else (none)) else (if x146004.toList = ([] : List UInt8) then (laws_Package_text.j7 k x6 x146000 x146001 x146002 x146003 x146004 x146005 x146006 x148000 x148001 x148002 x148003 x148004 x148005 x148006 x148007 x148008 x148009) else (if 1 + x146004.size ≤ 9223372036854775807 then (if x6.size + ((⟨#[126]⟩ : ByteArray) ++ x146004).size ≤ 9223372036854775807 then (laws_Package_text.j7 k (x6 ++ ((⟨#[126]⟩ : ByteArray) ++ x146004)) x146000 x146001 x146002 x146003 x146004 x146005 x146006 x148000 x148001 x148002 ((⟨#[126]⟩ : ByteArray) ++ x146004) x148004 x148005 x148006 x148007 x148008 x148009) else (none)) else (none)))
def laws_Package_text.j7 : Nat → ByteArray → List Int → Int → List Int → List Int → ByteArray → Bool → Int → ByteArray → ByteArray → ByteArray → ByteArray → Bool → List (S54) → List (S58) → Bool → Bool → ByteArray → Option (ByteArray × ByteArray × ByteArray × ByteArray × ByteArray × Bool × (List (S54)) × (List (S58)) × Bool × Bool × ByteArray × Bool)
 | 0, _, _, _, _, _, _, _, _, _, _, _, _, _, _, _, _, _, _ => none
 | k + 1, x6, x146000, x146001, x146002, x146003, x146004, x146005, x146006, x148000, x148001, x148002, x148003, x148004, x148005, x148006, x148007, x148008, x148009 => if x146005 = true then ((laws_decimal.f k x146006).bind fun t180 => ((laws_number.f k t180).bind fun bt181 => ((laws_decimal.f k x146006).bind fun t183 => (if 2 + t183.size ≤ 9223372036854775807 then (if x6.size + ((⟨#[45, 114]⟩ : ByteArray) ++ t183).size ≤ 9223372036854775807 then (some (x6 ++ ((⟨#[45, 114]⟩ : ByteArray) ++ t183), x6 ++ ((⟨#[45, 114]⟩ : ByteArray) ++ t183), x148001, x148002, x148003, x148004, x148005, x148006, true, bt181.1, bt181.2, true)) else (none)) else (none))))) else (some (x6, x6, x148001, x148002, x148003, x148004, x148005, x148006, true, x148008, x148009, true))
end
def laws_Package_text.f (k : Nat) (l0_0 : List Int) (a0_1 : Int) (l0_2 : List Int) (l0_3 : List Int) (a0_4 : ByteArray) (a0_5 : Bool) (a0_6 : Int) : Option (ByteArray × ByteArray × ByteArray × ByteArray × ByteArray × Bool × (List (S54)) × (List (S58)) × Bool × Bool × ByteArray × Bool) := if (l0_0.length : Int) = 0 then (laws_Package_text.j0 k true l0_0 a0_1 l0_2 l0_3 a0_4 a0_5 a0_6) else (if (l0_0.length : Int) > 60 then (laws_Package_text.j0 k true l0_0 a0_1 l0_2 l0_3 a0_4 a0_5 a0_6) else (if (l0_2.length : Int) > 60 then (laws_Package_text.j0 k true l0_0 a0_1 l0_2 l0_3 a0_4 a0_5 a0_6) else (laws_Package_text.j0 k (decide ((a0_4.size : Int) > 1200)) l0_0 a0_1 l0_2 l0_3 a0_4 a0_5 a0_6)))
def laws_Package_text.T11 : Bool × List (List Nat × List Nat) := (true, [([], []), ([0], [0]), ([], []), ([2], [2]), ([], []), ([4, 3], [4]), ([5, 5], [5]), ([], []), ([3, 6, 7], [3, 6, 7]), ([8], [8]), ([1, 9, 6], [1, 9]), ([0, 1, 2, 3, 4, 5, 6, 7, 8, 9, 10], []), ([11, 10, 10, 0, 1, 2, 3, 4, 5, 6, 7, 8, 9, 10], [10, 11])])
def laws_Package_text.B11 : List Nat := [0, 1, 0, 4, 0, 28, 60, 0, 252, 508, 1023, 2047, 4095]
theorem laws_Package_text.tab11 : rtab .any (opsOf Tryd.f10 11) = laws_Package_text.T11 := by kernel_rfl
theorem laws_Package_text.bits11 : waitsOk laws_Package_text.T11.2 laws_Package_text.B11 = true := by kernel_rfl
end Go.Proofs.YtapaijpglfmfgaaDoor.Q
end
