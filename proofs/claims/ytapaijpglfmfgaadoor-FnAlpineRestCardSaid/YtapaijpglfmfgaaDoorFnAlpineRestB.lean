/- Proved here, for the row of the law FnAlpineRest: contracts of the Go functions that it reaches, each as its theorem 'calls' says, and the words and plain laws that they need (WTab, WApart, WFoot, WShare, WN, WRepsOne, WGuard, WMore, Sx0, Sx1, Sx2, Sx3, A6, B, M, A13, A7, A8, A9, A10, A11, E1x0, E1x1, E2x0). -/
import Derived.Test.YtapaijpglfmfgaaDoorFnAlpineRestA
import Derived.Below
import Derived.Deep.Draws
import Derived.Deep.AppendLies
import Derived.Maps.AppendAt
import Derived.OwnWalk
import Derived.Laws.BytesArg
import Derived.Laws.MakeOwn
import Derived.Laws.OwnMore
import Derived.Deep.OwnRows
import Derived.Tactics
import Derived.Lib.ConvBytes
import Derived.Laws.Slices
import Derived.WalkKit
import Derived.KernelRfl
import Derived.RowKit3
import Derived.Deep.LoopGhost
import Derived.Deep.QuietTactic
import Derived.BigQuiet
import Derived.WideLaws
import Derived.Deep.DeepCutAuto
import Derived.Deep.CutBlock
import Derived.Deep.RegionHeld3
import Derived.Laws.Rows
import Derived.Lib.AppendStr
import Derived.ArgAppend
import Derived.Laws.IdiomCopy
import Derived.RowKit
import Derived.Test.YtapaijpglfmfgaaDoorProg
import Derived.Laws.Runes
import Derived.Lib.Strings
import Derived.Lib.Bytealg
import Derived.OrdersHeld
import Derived.Laws.BitsLemmas
import Derived.Laws.Strings
import Derived.Laws.ResultCell
set_option linter.unusedVariables false
set_option linter.unusedSimpArgs false
set_option maxHeartbeats 8000000
set_option maxRecDepth 100000
section
namespace Go.Proofs.YtapaijpglfmfgaaDoorW.PrintLast
open Go.Proofs.YtapaijpglfmfgaaDoorW.PrintWords (za)
def needsOf (md : Region.Mode) (o : Oper) : List Nat := (o.after.toList.filter (fun e => Region.binds md e)).map (fun e => e.on)
def clashOf (md : Region.Mode) (ops : Array Oper) (i : Nat) (oi : Oper) : List Nat := (List.range ops.size).filter fun j => !(j == i) && match ops[j]? with
 | some oj => !(oj.after.any (fun e => Region.binds md e && e.on == i) || oi.apart ops oj)
 | none => false
def rtab (md : Region.Mode) (ops : Array Oper) : Bool × List (List Nat × List Nat) := (Region.noSelect ops, (List.range ops.size).map fun i => match ops[i]? with
 | some o => (needsOf md o, clashOf md ops i o)
 | none => ([], []))
def zsg (T : List (List Nat × List Nat)) (l : List Bool) (i : Nat) : Bool := !l.getD i true && match T[i]? with
 | some r => r.1.all (fun j => l.getD j false)
 | none => false
def readyT (T : List (List Nat × List Nat)) (l : List Bool) : List Nat := (List.range T.length).filter (zsg T l)
def freeT (T : List (List Nat × List Nat)) (l : List Bool) (i : Nat) : Bool := match T[i]? with
 | some r => r.2.all (fun j => l.getD j true)
 | none => false
def closedT (T : List (List Nat × List Nat)) (l : List Bool) : Bool := (List.range T.length).all fun j => !l.getD j false || match T[j]? with
 | some r => r.1.all (fun k => l.getD k false)
 | none => true
def reachT (T : List (List Nat × List Nat)) (i : Nat) : Nat → Nat → Bool
 | 0, _ => false
 | fuel + 1, d => match T[d]? with
  | some r => r.1.any fun j => j == i || reachT T i fuel j
  | none => false
def lastT (T : List (List Nat × List Nat)) (l : List Bool) (ds : List Nat) (i : Nat) : Bool := ds.all fun d => l.getD d true || reachT T i T.length d
section
variable {md : Region.Mode} {ops : Array Oper} {T : Bool × List (List Nat × List Nat)} {l l' li lj lk : Array Bool} {ds : List Nat} {i j k : Nat}
theorem gd (l : Array Bool) (j : Nat) (b : Bool) : l.getD j b = l.toList.getD j b := by simp [Array.getD_eq_getD_getElem?, List.getD_eq_getElem?_getD]
theorem needs_all (o : Oper) (p : Nat → Bool) : o.after.all (fun e => !Region.binds md e || p e.on) = (needsOf md o).all p := by
 unfold needsOf
 rw [← Array.all_toList]
 induction o.after.toList with
 | nil => rfl
 | cons e r ih =>
  rw [List.all_cons, ih, List.filter_cons]
  cases h : Region.binds md e <;> simp
theorem needs_any (o : Oper) (p : Nat → Bool) : o.after.any (fun e => Region.binds md e && p e.on) = (needsOf md o).any p := by
 unfold needsOf
 rw [← Array.any_toList]
 induction o.after.toList with
 | nil => rfl
 | cons e r ih =>
  rw [List.any_cons, ih, List.filter_cons]
  cases h : Region.binds md e <;> simp
theorem zng : (rtab md ops).2.length = ops.size := by simp [rtab]
theorem zth {o : Oper} (h : ops[i]? = some o) : (rtab md ops).2[i]? = some (needsOf md o, clashOf md ops i o) := by
 have hi := (Array.getElem?_eq_some_iff.1 h).1
 unfold rtab
 rw [List.getElem?_map, List.getElem?_range hi, Option.map_some, h]
theorem zoh (h : ops[i]? = none) : (rtab md ops).2[i]? = none := by
 have hi : ops.size ≤ i := Array.getElem?_eq_none_iff.1 h
 exact List.getElem?_eq_none (by rw [zng]; exact hi)
theorem readyAt_eq : zsg (rtab md ops).2 l.toList i = (!l.getD i true && ((ops[i]?).map (·.after.all fun e => !Region.binds md e || l.getD e.on false)).getD false) := by
  unfold zsg
  rw [gd]
  cases h : ops[i]? with
  | none => rw [zoh h]; rfl
  | some o =>
    rw [zth h]
    simp only [Option.map_some, Option.getD_some]
    rw [← needs_all]
    simp only [gd]
theorem ready_eq : Region.ready md ops l = readyT (rtab md ops).2 l.toList := by
 unfold Region.ready readyT
 rw [zng]
 refine List.filter_congr (fun i _ => ?_)
 rw [readyAt_eq]
theorem free_eq : Region.free md ops l i = freeT (rtab md ops).2 l.toList i := by
 unfold Region.free freeT
 cases h : ops[i]? with
 | none => rw [zoh h]
 | some oi =>
  rw [zth h]
  simp only [clashOf]
  rw [List.all_filter]
  congr 1
  funext j
  rw [gd]
  cases hj : ops[j]? with
  | none => cases (j == i) <;> cases (l.toList.getD j true) <;> simp
  | some oj =>
   cases (j == i) <;> cases (l.toList.getD j true) <;> cases (oj.after.any (fun e => Region.binds md e && e.on == i) || oi.apart ops oj) <;> simp_all
theorem closed_eq : Region.closedB md ops l = closedT (rtab md ops).2 l.toList := by
 unfold Region.closedB closedT
 rw [zng]
 congr 1
 funext j
 rw [gd]
 cases h : ops[j]? with
 | none => rw [zoh h]
 | some o =>
  rw [zth h]
  simp only
  rw [← needs_all]
  simp only [gd]
theorem reach_eq : ∀ (fuel d : Nat), Region.reachB md ops i fuel d = reachT (rtab md ops).2 i fuel d
 | 0, _ => rfl
 | fuel + 1, d => by
  unfold Region.reachB reachT
  cases h : ops[d]? with
  | none => rw [zoh h]
  | some o =>
   rw [zth h]
   simp only
   rw [← needs_any]
   congr 1
   funext e
   rw [reach_eq fuel]
theorem last_eq : Region.lastB md ops l ds i = lastT (rtab md ops).2 l.toList ds i := by
 unfold Region.lastB lastT
 rw [zng]
 congr 1
 funext d
 rw [gd, reach_eq]
theorem readyAt_mem (h : zsg T.2 l.toList i = true) (hT : rtab md ops = T) : (Region.ready md ops l).contains i = true := by
 subst hT
 rw [ready_eq]
 unfold readyT
 rw [List.contains_iff_mem, List.mem_filter, List.mem_range]
 refine ⟨?_, h⟩
 unfold zsg at h
 rw [Bool.and_eq_true] at h
 cases hq : (rtab md ops).2[i]? with
 | none => rw [hq] at h; simp at h
 | some r => exact (List.getElem?_eq_some_iff.1 hq).1
theorem set_of (h : (l.toList.set i true == l'.toList) = true) : (l.setIfInBounds i true == l') = true := by
 rw [beq_iff_eq] at h ⊢
 apply Array.ext'
 rw [Array.toList_setIfInBounds]
 exact h
def anyT (T : Bool × List (List Nat × List Nat)) (l l' : List Bool) (i : Nat) : Bool := T.1 && freeT T.2 l i && zsg T.2 l i && (l.set i true == l')
theorem zpb (hT : rtab md ops = T) (h : anyT T l.toList l'.toList i = true) : anyB md ops l l' i = true := by
 simp only [anyT, Bool.and_eq_true] at h
 obtain ⟨⟨⟨h1, h2⟩, h3⟩, h4⟩ := h
 have h5 := readyAt_mem h3 hT
 have h6 := set_of h4
 subst hT
 simp only [anyB, Bool.and_eq_true]
 exact ⟨⟨⟨h1, by rw [free_eq]; exact h2⟩, h5⟩, h6⟩
def takeT (T : Bool × List (List Nat × List Nat)) (ds : List Nat) (l l' : List Bool) (i : Nat) : Bool := T.1 && freeT T.2 l i && zsg T.2 l i && closedT T.2 l && lastT T.2 l ds i && (l.set i true == l')
theorem take_of (hT : rtab md ops = T) (h : takeT T ds l.toList l'.toList i = true) : takeB md ops ds l l' i = true := by
 simp only [takeT, Bool.and_eq_true] at h
 obtain ⟨⟨⟨⟨⟨h1, h2⟩, h3⟩, h4⟩, h5⟩, h6⟩ := h
 have h7 := readyAt_mem h3 hT
 have h8 := set_of h6
 subst hT
 simp only [takeB, Bool.and_eq_true]
 exact ⟨⟨⟨⟨⟨h1, by rw [free_eq]; exact h2⟩, h7⟩, by rw [closed_eq]; exact h4⟩, by rw [last_eq]; exact h5⟩, h8⟩
theorem zpd (hT : rtab md ops = T) (h : (readyT T.2 l.toList == [i] && l.toList.set i true == l'.toList) = true) : readyB md ops l l' i = true := by
 simp only [Bool.and_eq_true] at h
 obtain ⟨h1, h2⟩ := h
 subst hT
 simp only [readyB, Bool.and_eq_true]
 exact ⟨by rw [ready_eq]; exact h1, set_of h2⟩
theorem ztg (hT : rtab md ops = T) (h : (readyT T.2 l.toList == []) = true) : (Region.ready md ops l == []) = true := by
 subst hT
 rw [ready_eq]
 exact h
def upM (B : List Nat) (d : Nat) : List Nat → Nat
 | [] => 0
 | n :: r => (2 ^ n ||| (if n < d then B.getD n 0 else 0)) ||| upM B d r
def zfg (T : List (List Nat × List Nat)) (B : List Nat) : Bool := (List.range T.length).all fun d => match T[d]? with
 | some r => (B.getD d 0 ||| upM B d r.1) == upM B d r.1
 | none => false
theorem upM_bit {B : List Nat} {d i : Nat} : ∀ {ns : List Nat}, (upM B d ns).testBit i = true → ∃ n ∈ ns, n = i ∨ (n < d ∧ (B.getD n 0).testBit i = true)
 | [], h => by simp [upM] at h
 | n :: r, h => by
  unfold upM at h
  rw [Nat.testBit_or, Nat.testBit_or, Bool.or_eq_true, Bool.or_eq_true] at h
  rcases h with (h | h) | h
  ·rw [Nat.testBit_two_pow] at h
   exact ⟨n, List.mem_cons_self, .inl (by simpa using h)⟩
  ·by_cases hn : n < d
   ·rw [if_pos hn] at h
    exact ⟨n, List.mem_cons_self, .inr ⟨hn, h⟩⟩
   ·rw [if_neg hn] at h
    simp at h
  ·obtain ⟨m, hm, h2⟩ := upM_bit h
   exact ⟨m, List.mem_cons_of_mem _ hm, h2⟩
theorem reach_bit {T : List (List Nat × List Nat)} {B : List Nat} (hB : zfg T B = true) : ∀ (fuel d : Nat), d < fuel → d < T.length → (B.getD d 0).testBit i = true → reachT T i fuel d = true
 | 0, d, h, _, _ => by omega
 | fuel + 1, d, h, hd, hb => by
  have h1 := List.all_eq_true.1 hB d (List.mem_range.2 hd)
  cases hr : T[d]? with
  | none => rw [hr] at h1; simp at h1
  | some r =>
   rw [hr] at h1
   simp only [beq_iff_eq] at h1
   have h2 : (upM B d r.1).testBit i = true := by rw [← h1, Nat.testBit_or, hb, Bool.true_or]
   obtain ⟨n, hn, h3⟩ := upM_bit h2
   unfold reachT
   rw [hr]
   simp only
   rw [List.any_eq_true]
   refine ⟨n, hn, ?_⟩
   rcases h3 with rfl | ⟨h4, h5⟩
   ·simp
   ·rw [reach_bit hB fuel n (by omega) (by omega) h5, Bool.or_true]
def lastW (T : List (List Nat × List Nat)) (B : List Nat) (l : List Bool) (ds : List Nat) (i : Nat) : Bool := ds.all fun d => l.getD d true || (decide (d < T.length) && (B.getD d 0).testBit i)
def takeW (T : Bool × List (List Nat × List Nat)) (B : List Nat) (ds : List Nat) (l l' : List Bool) (i : Nat) : Bool := T.1 && freeT T.2 l i && zsg T.2 l i && closedT T.2 l && lastW T.2 B l ds i && (l.set i true == l')
theorem take_ofW {B : List Nat} (hT : rtab md ops = T) (hB : zfg T.2 B = true) (h : takeW T B ds l.toList l'.toList i = true) : takeB md ops ds l l' i = true := by
 refine take_of hT ?_
 simp only [takeW, takeT, Bool.and_eq_true] at h ⊢
 obtain ⟨⟨⟨⟨⟨h1, h2⟩, h3⟩, h4⟩, h5⟩, h6⟩ := h
 refine ⟨⟨⟨⟨⟨h1, h2⟩, h3⟩, h4⟩, ?_⟩, h6⟩
 unfold lastW at h5
 unfold lastT
 rw [List.all_eq_true] at h5 ⊢
 intro d hd
 have h7 := h5 d hd
 rw [Bool.or_eq_true, Bool.and_eq_true, decide_eq_true_eq] at h7
 rcases h7 with h7 | ⟨h8, h9⟩
 ·rw [h7, Bool.true_or]
 ·rw [reach_bit hB _ d h8 h8 h9, Bool.or_true]
theorem zhf {P : Program} {Q : Exit → Act → World → Prop} {S : World → Prop} {n : Nat} {a : Act} {w : World} {B : List Nat} (hT : rtab md ops = T) (hB : zfg T.2 B = true) (h : za (rtab md ops = T) → za (zfg T.2 B = true) → zcc P md ops Q S ds n l a w) : zcc P md ops Q S ds n l a w := h ⟨hT⟩ ⟨hB⟩
end
def opsIn : Code → Nat → Option (Array Oper)
 | .region id ops _, k => if id == k then some ops else none
 | .seq a b, k => match opsIn a k with
  | some o => some o
  | none => opsIn b k
 | .cond _ a b, k => match opsIn a k with
  | some o => some o
  | none => opsIn b k
 | .block _ c, k => opsIn c k
 | .loop c, k => opsIn c k
 | .scope c, k => opsIn c k
 | .rangeFunc _ _ a b, k => match opsIn a k with
  | some o => some o
  | none => opsIn b k
 | _, _ => none
def opsOf (f : Func) (k : Nat) : Array Oper := ((f.body.bind fun c => opsIn c k)).getD #[]
end Go.Proofs.YtapaijpglfmfgaaDoorW.PrintLast
end
section
namespace Go.Proofs.YtapaijpglfmfgaaDoorW.PrintWords
open Go.RowKit
namespace Kd
def tag {α : Type} (f : Nat → Nat) (d : Kd α) : Kd (α × Nat) where
 sz := d.sz
 E := d.E
 K := fun w x cs => d.K w x.1 cs
 M := fun w base ok x cs => d.M w base (fun k => ok k ∧ f k = x.2) x.1 cs
 K_len := fun h => d.K_len h
 K_one := fun h => d.K_one h
 K_below := fun hb h => d.K_below hb h
 K_of_M := fun h => d.K_of_M h
 M_mono := fun hok h => d.M_mono (fun k hk => ⟨hok k hk.1, hk.2⟩) h
 M_bound := fun h => d.M_mono (fun _ hk => ⟨⟨hk.1.1, hk.2⟩, hk.1.2⟩) (d.M_bound h)
 M_move := fun hm h => d.M_move (fun k hk => hm k hk.1) h
 M_lower := fun hb h => d.M_lower hb h
def raw (sz : Nat) : Kd (List Value) where
 sz := sz
 E := []
 K := fun _ x cs => cs = x ∧ cs.length = sz ∧ ∀ u ∈ cs, u.oneCell' = true
 M := fun _ _ _ x cs => cs = x ∧ cs.length = sz ∧ ∀ u ∈ cs, u.oneCell' = true
 K_len := fun h => h.2.1
 K_one := fun h => h.2.2
 K_below := fun _ h => h
 K_of_M := fun h => h
 M_mono := fun _ h => h
 M_bound := fun h => h
 M_move := fun _ h => h
 M_lower := fun _ h => h
def S {α : Type} (d : Kd α) (e : Nat) (w : World) (base : Nat) (ok : Nat → Prop) (v : Value) (xs : List α) : Prop := ∃ f, (tag f d).R e w base ok v xs.zipIdx
section
variable {α β : Type} {d : Kd α} {d' : Kd β} {e e' : Nat} {w w1 W : World} {base b : Nat} {ok ok' okv oku : Nat → Prop} {u v : Value} {xs : List α} {ys : List β}
theorem zip_at {xs : List α} {j : Nat} {p : α} (h : xs[j]? = some p) : xs.zipIdx[j]? = some (p, j) := by rw [List.getElem?_zipIdx, h, Nat.zero_add]; rfl
theorem S_R (h : S d e w base ok v xs) : d.R e w base ok v xs := by
 obtain ⟨f, h0, inner, ho, hr⟩ := h
 rw [List.length_zipIdx] at ho
 exact ⟨h0, inner, ho, by have := hr.1; rw [List.length_zipIdx] at this; exact this, fun j p hj => d.M_mono (fun _ hk => hk.1) (hr.2 j (p, j) (zip_at hj))⟩
theorem R_tight (hE : d.E = []) (h : d.R e w base ok v xs) : d.R e w base (fun k => some k = v.ownBlock) v xs := by
 obtain ⟨h0, inner, ho, hr⟩ := h
 refine ⟨fun k hk => hk.symm, inner, ho, hr.imp_ (fun p c hp => d.M_mono (fun k hk => ?_) (d.M_bound hp))⟩
 obtain ⟨_, _, _, q, hq, _⟩ := hk
 rw [hE] at hq
 cases hq
theorem S_nil (d : Kd α) (e : Nat) (w : World) (base : Nat) (ok : Nat → Prop) : S d e w base ok (.slice none 0 0) [] := ⟨fun _ => 0, R_nil _ _ _ _ _⟩
theorem S_mono (h : S d e w base ok v xs) (hok : ∀ k, ok k → ok' k) : S d e w base ok' v xs := by
 obtain ⟨f, h⟩ := h
 exact ⟨f, R_mono h hok⟩
theorem S_bound (h : S d e w base ok v xs) : S d e w base (fun k => ok k ∧ base ≤ k ∧ k < w.heap.size ∧ ∃ q, q ∈ e :: d.E ∧ ∃ cells, w.heap[k]? = some (.cells cells q (0, 0))) v xs := by
 obtain ⟨f, h⟩ := h
 exact ⟨f, R_bound h⟩
theorem S_move (h : S d e w base ok v xs) (hm : ∀ k, ok k → w1.heap[k]? = w.heap[k]?) : S d e w1 base ok v xs := by
 obtain ⟨f, h⟩ := h
 exact ⟨f, R_move h hm⟩
theorem S_step (h : S d e w base ok v xs) (hm : ∀ k, ok k → k < w.heap.size → w1.heap[k]? = w.heap[k]?) : S d e w1 base ok v xs :=
 S_mono (S_move (S_bound h) (fun k hk => hm k hk.1 hk.2.2.1)) (fun _ hk => hk.1)
theorem S_below (h : S d e w base ok v xs) (hb : Below w.heap.size w w1) : S d e w1 base ok v xs := S_step h (fun k _ hk => hb.block k hk)
theorem S_drew (h : S d e w base ok v xs) : S d e w.drew base ok v xs := S_below h (zdd (Below.refl _ _))
theorem S_drewN (h : S d e w base ok v xs) (m : Nat) : S d e (w.drewN m) base ok v xs := S_below h (ze (Below.refl _ _) m)
theorem S_typed (h : S d e w base ok v xs) : ∀ k, v.ownBlock = some k → ∃ cells, w.heap[k]? = some (.cells cells e (0, 0)) := R_typed (S_R h)
theorem S_elder' (h : S d e W base ok u xs) (hbase : ∀ k, v.ownBlock = some k → W.heap.size ≤ k) (hb : Below W.heap.size W w1) : S d e w1 base (fun k => ok k ∧ some k ≠ v.ownBlock) u xs := by
 obtain ⟨f, h⟩ := h
 exact ⟨f, R_elder' h hbase hb⟩
theorem R_tag {f f' : Nat → Nat} {zs : List (α × Nat)} (h : (tag f d).R e w base ok v zs) (hf : ∀ k, ok k → k < w.heap.size → f' k = f k) : (tag f' d).R e w base ok v zs := by
 obtain ⟨h0, inner, ho, hr⟩ := R_bound h
 exact ⟨fun k hk => (h0 k hk).1, inner, ho, hr.1, fun j p hj => d.M_mono (fun k hk => ⟨⟨hk.1.1.1, hk.1.2⟩, (hf k hk.1.1.1 hk.1.1.2.2.1).trans hk.2⟩) (hr.2 j p hj)⟩
end
section
variable {α β : Type} {d : Kd α} {d' : Kd β} {e e' g : Nat} {w w1 W : World} {base b : Nat} {ok ok' okv oku : Nat → Prop} {u v : Value} {xs : List α} {ys : List β}
theorem S_slice (h : S d e w base ok v xs) : ∃ A c, v = .slice A xs.length c := R_slice (S_R h)
theorem zip_snoc (xs : List α) (p : α) : (xs ++ [p]).zipIdx = xs.zipIdx ++ [(p, xs.length)] := by rw [List.zipIdx_append]; simp
end
section
open Classical in
theorem S_tag {α : Type} {d : Kd α} {e base : Nat} {okv : Nat → Prop} {w : World} {v : Value} {xs : List α} (h : S d e w base okv v xs) (m : Nat) (okp : Nat → Prop) (hap : ∀ k, okp k → ¬ okv k) : ∃ f, (∀ k, okp k → f k = m) ∧ (tag f d).R e w base okv v xs.zipIdx := by
 obtain ⟨f, h⟩ := h
 exact ⟨fun k => if okp k then m else f k, fun k hk => if_pos hk, R_tag h (fun k hk _ => if_neg (fun h2 => hap k h2 hk))⟩
variable {P : Program} {ops : Array Oper} {rest : List Oper} {o : Oper} {a : Act} {Q : Exit → Act → World → Prop} {Kc : Act → World → Prop} {α : Type}
theorem S_append_step (d : Kd α) {w0 W : World} (base : Nat) (hw : Region.wanted o (yielded ops a.tmps) = true) (s x : Operand) (t e : TypeId) (z : Value) (bytes : Nat)
  (ho : o.op = .call { callee := .builtin .append, args := #[s, x], argTypes := #[t, t] })
  (ht : P.underlying t = some (.slice e)) (hinfo : (P.info? e).map (fun i => (i.zero, i.size, i.bytes)) = some (some z, d.sz, bytes)) (hz : z.cells.size = d.sz) (hs0 : 0 < d.sz) (hb0 : 0 < bytes)
  (v : Value) (xs : List α) (p : α) (cs : List Value) (ok okp : Nat → Prop) (hs : a.eval s = v) (hx : a.eval x = .slice (some ⟨W.heap.size, 0, none⟩) 1 1) (hp : d.M W base okp p cs) (hokp : ∀ k, okp k → ok k ∧ some k ≠ v.ownBlock) (hfresh : ∀ k, W.heap.size ≤ k → ok k)
  (HO : S d e W base (fun k => ok k ∧ ¬ okp k) v xs) (HB : Below base w0 W) (hbase : base ≤ W.heap.size) (hl : (xs.length + 1) * bytes ≤ 140737488355328)
  (h : ∀ v1 w1, S d e w1 base ok v1 (xs ++ [p]) → Below base w0 w1 → W.grownBy w1 v.ownBlock → (v1.ownBlock = v.ownBlock ∨ ∃ b, v1.ownBlock = some b ∧ W.heap.size ≤ b) → Kc (a.put o.dst v1) w1) :
  if Region.wanted o (yielded ops a.tmps) = true then Oper.wp P o a (W.alloc (.cells cs.toArray e)) Kc Q else Kc (a.put o.dst undef) (W.alloc (.cells cs.toArray e)) := by
 obtain ⟨f, hf, hR⟩ := S_tag HO xs.length okp (fun _ hk h2 => h2.2 hk)
 refine R_append_step (tag f d) base hw s x t e z bytes ho ht hinfo hz hs0 hb0 v xs.zipIdx (p, xs.length) cs ok okp hs hx (d.M_mono (fun k hk => ⟨hk, hf k hk⟩) hp) hokp hfresh (R_mono hR (fun _ hk => hk.1)) HB hbase (by rw [List.length_zipIdx]; exact hl) ?_
 intro v1 w1 hr
 rw [← zip_snoc] at hr
 exact h v1 w1 ⟨f, hr⟩
end
section
variable {α β : Type} {d : Kd α} {e e' g n cap : Nat} {w w1 W : World} {base : Nat} {ok ok' oki okp : Nat → Prop} {u v : Value} {xs : List α} {i : Int} {c : List Value}
end
section
variable {P : Program} {ops : Array Oper} {rest : List Oper} {o : Oper} {a : Act} {Q : Exit → Act → World → Prop} {α : Type}
end
end Kd
end Go.Proofs.YtapaijpglfmfgaaDoorW.PrintWords
end
section
namespace Go.Proofs.YtapaijpglfmfgaaDoorW.PrintWords
open Go.RowKit
namespace Kd
structure Heap {α : Type} (d : Kd α) : Prop where
 K : ∀ {w w1 : World} {x : α} {cs : List Value}, (∀ k, k < w.heap.size → w1.heap[k]? = w.heap[k]?) → d.K w x cs → d.K w1 x cs
theorem cell_heap {w w1 : World} (hb : ∀ k, k < w.heap.size → w1.heap[k]? = w.heap[k]?) {a : Addr} {v : Value} (h : w.cell? a = some v) : w1.cell? a = some v := by
 have := hb a.block (World.block_lt_of_cell? w a h)
 simpa [World.cell?, this] using h
theorem Heap.C {α : Type} {d : Kd α} (hd : Heap d) {w w1 : World} {A : Option Addr} {n : Nat} {xs : List α} (hb : ∀ k, k < w.heap.size → w1.heap[k]? = w.heap[k]?) (h : d.C w A n xs) : d.C w1 A n xs :=
 ⟨h.1, h.2.1, fun hn => by
  obtain ⟨ad, e, hc⟩ := h.2.2 hn
  refine ⟨ad, e, fun j p hj => ?_⟩
  obtain ⟨c, hs, hr, hcell⟩ := hc j p hj
  exact ⟨c, hs, hd.K hb hr, fun i u hu => cell_heap hb (hcell i u hu)⟩⟩
section
variable {α : Type} {d : Kd α} {e base g n c : Nat} {ok : Nat → Prop} {w w0 W : World} {A : Option Addr} {xs : List α}
end
end Kd
end Go.Proofs.YtapaijpglfmfgaaDoorW.PrintWords
end
section
namespace Go.Proofs.YtapaijpglfmfgaaDoorW.PrintWords
open Go.RowKit
def Foot (P : World → Prop) (W : World) (ok : Nat → Prop) : Prop := ∀ W' : World, (∀ k, ok k → k < W.heap.size → W'.heap[k]? = W.heap[k]?) → P W'
namespace Foot
variable {P Q : World → Prop} {W W1 : World} {ok ok' : Nat → Prop}
end Foot
namespace Kd
def F {α : Type} (d : Kd α) (W : World) (ok : Nat → Prop) (A : Option Addr) (n : Nat) (xs : List α) : Prop := Foot (fun W => d.C W A n xs) W ok
def FK {α : Type} (d : Kd α) (W : World) (ok : Nat → Prop) (x : α) (c : List Value) : Prop := Foot (fun W => d.K W x c) W ok
section
variable {α β : Type} {d : Kd α} {e base n n' cc g N : Nat} {ok ok' okp S : Nat → Prop} {w w0 w1 W W1 : World} {A A' : Option Addr} {u v v1 : Value} {xs : List α} {xs' : List β} {d' : Kd β} {x : α} {c : List Value}
end
end Kd
end Go.Proofs.YtapaijpglfmfgaaDoorW.PrintWords
end
section
namespace Go.Proofs.YtapaijpglfmfgaaDoorW.PrintWords
open Go.RowKit
namespace Kd
section
variable {α : Type} {d : Kd α} {e base n cc g : Nat} {ok ok' okp S : Nat → Prop} {w w1 W W1 : World} {A : Option Addr} {u v v1 : Value} {xs : List α} {x : α} {c : List Value}
def N {α : Type} (d : Kd α) (e : Nat) (w : World) (base : Nat) (ok : Nat → Prop) (v : Value) (xs : List α) : Prop :=
 (∀ k, v.ownBlock = some k → ok k) ∧ ∃ rows : List (List Value), rows.length = xs.length ∧ (raw d.sz).R e w base (fun k => some k = v.ownBlock) v rows ∧ ∀ (j : Nat) (x : α) (c : List Value), xs[j]? = some x → rows[j]? = some c → FK d w (fun k => ok k ∧ some k ≠ v.ownBlock) x c
end
end Kd
end Go.Proofs.YtapaijpglfmfgaaDoorW.PrintWords
end
section
namespace Go.Proofs.YtapaijpglfmfgaaDoorW.PrintWords
theorem Reps.one {α : Type} {R : α → List Value → Prop} {ps : List α} {cs : List Value} {p : α} {v : Value} (hp : R p [v]) (h : Reps R 1 ps cs) : Reps R 1 (p :: ps) (v :: cs) := by
 refine ⟨by simp [h.1], fun j q hq => ?_⟩
 cases j with
 | zero =>
  simp only [List.getElem?_cons_zero, Option.some.injEq] at hq
  subst hq
  simpa using hp
 | succ j =>
  simp only [List.getElem?_cons_succ] at hq
  have h1 := h.2 j q hq
  simpa [Nat.mul_one] using h1
theorem Reps.front {α : Type} {R : α → List Value → Prop} {size : Nat} {ps : List α} {cs c all : List Value} {p : α} (hp : R p c) (hc : c.length = size) (h : Reps R size ps cs) (ha : c ++ cs = all) : Reps R size (p :: ps) all := by
 subst ha
 refine ⟨by rw [List.length_append, hc, h.1, List.length_cons, Nat.succ_mul, Nat.add_comm], fun j q hq => ?_⟩
 cases j with
 | zero =>
  simp only [List.getElem?_cons_zero, Option.some.injEq] at hq
  subst hq
  rw [Nat.zero_mul, List.drop_zero, List.take_append_of_le_length (by omega), List.take_of_length_le (by omega)]
  exact hp
 | succ j =>
  simp only [List.getElem?_cons_succ] at hq
  have h1 := h.2 j q hq
  rw [Nat.succ_mul, List.drop_append, List.drop_of_length_le (by rw [hc]; exact Nat.le_add_left _ _), List.nil_append, hc, Nat.add_sub_cancel]
  exact h1
theorem Reps.c2 {α : Type} {R : α → List Value → Prop} {ps : List α} {cs : List Value} {p : α} {va vb : Value} (hp : R p [va, vb]) (h : Reps R 2 ps cs) : Reps R 2 (p :: ps) (va :: vb :: cs) := Reps.front hp rfl h rfl
theorem Reps.c3 {α : Type} {R : α → List Value → Prop} {ps : List α} {cs : List Value} {p : α} {va vb vc : Value} (hp : R p [va, vb, vc]) (h : Reps R 3 ps cs) : Reps R 3 (p :: ps) (va :: vb :: vc :: cs) := Reps.front hp rfl h rfl
theorem Reps.c4 {α : Type} {R : α → List Value → Prop} {ps : List α} {cs : List Value} {p : α} {va vb vc vd : Value} (hp : R p [va, vb, vc, vd]) (h : Reps R 4 ps cs) : Reps R 4 (p :: ps) (va :: vb :: vc :: vd :: cs) := Reps.front hp rfl h rfl
theorem Reps.c5 {α : Type} {R : α → List Value → Prop} {ps : List α} {cs : List Value} {p : α} {va vb vc vd ve : Value} (hp : R p [va, vb, vc, vd, ve]) (h : Reps R 5 ps cs) : Reps R 5 (p :: ps) (va :: vb :: vc :: vd :: ve :: cs) := Reps.front hp rfl h rfl
theorem Reps.c6 {α : Type} {R : α → List Value → Prop} {ps : List α} {cs : List Value} {p : α} {va vb vc vd ve vf : Value} (hp : R p [va, vb, vc, vd, ve, vf]) (h : Reps R 6 ps cs) : Reps R 6 (p :: ps) (va :: vb :: vc :: vd :: ve :: vf :: cs) := Reps.front hp rfl h rfl
theorem Reps.c7 {α : Type} {R : α → List Value → Prop} {ps : List α} {cs : List Value} {p : α} {va vb vc vd ve vf vg : Value} (hp : R p [va, vb, vc, vd, ve, vf, vg]) (h : Reps R 7 ps cs) : Reps R 7 (p :: ps) (va :: vb :: vc :: vd :: ve :: vf :: vg :: cs) := Reps.front hp rfl h rfl
theorem Reps.c8 {α : Type} {R : α → List Value → Prop} {ps : List α} {cs : List Value} {p : α} {va vb vc vd ve vf vg vh : Value} (hp : R p [va, vb, vc, vd, ve, vf, vg, vh]) (h : Reps R 8 ps cs) : Reps R 8 (p :: ps) (va :: vb :: vc :: vd :: ve :: vf :: vg :: vh :: cs) := Reps.front hp rfl h rfl
theorem Reps.c9 {α : Type} {R : α → List Value → Prop} {ps : List α} {cs : List Value} {p : α} {va vb vc vd ve vf vg vh vi : Value} (hp : R p [va, vb, vc, vd, ve, vf, vg, vh, vi]) (h : Reps R 9 ps cs) : Reps R 9 (p :: ps) (va :: vb :: vc :: vd :: ve :: vf :: vg :: vh :: vi :: cs) := Reps.front hp rfl h rfl
theorem Reps.c10 {α : Type} {R : α → List Value → Prop} {ps : List α} {cs : List Value} {p : α} {va vb vc vd ve vf vg vh vi vj : Value} (hp : R p [va, vb, vc, vd, ve, vf, vg, vh, vi, vj]) (h : Reps R 10 ps cs) : Reps R 10 (p :: ps) (va :: vb :: vc :: vd :: ve :: vf :: vg :: vh :: vi :: vj :: cs) := Reps.front hp rfl h rfl
end Go.Proofs.YtapaijpglfmfgaaDoorW.PrintWords
end
section
namespace Go.Proofs.YtapaijpglfmfgaaDoorW.PrintWords
open Go.RowKit
section
variable {P : Program} {ops : Array Oper} {rest : List Oper} {o : Oper} {a : Act} {Q : Exit → Act → World → Prop} {W : World}
theorem zyb (hw : Region.wanted o (yielded ops a.tmps) = true) (h : wpList P ops Q ({ o with guard := none } :: rest) a W) : wpList P ops Q (o :: rest) a W := by
 have h1 : Region.wanted { o with guard := none } (yielded ops a.tmps) = true := rfl
 unfold wpList at h ⊢
 rw [if_pos h1] at h
 rw [if_pos hw]
 exact h
end
end Go.Proofs.YtapaijpglfmfgaaDoorW.PrintWords
end
section
namespace Go.Proofs.YtapaijpglfmfgaaDoorW.PrintMore
open Go.RowKit YtapaijpglfmfgaaDoorW.PrintWords
namespace Kd
open Go.Proofs.YtapaijpglfmfgaaDoorW.PrintWords.Kd
end Kd
namespace Kd
open Go.Proofs.YtapaijpglfmfgaaDoorW.PrintWords.Kd
section
variable {α : Type} {d : Kd α} {e base g N : Nat} {ok : Nat → Prop} {W w1 : World} {u v : Value} {xs : List α}
end
end Kd
theorem zsc (k k' : IntKind) (x y : Int) : Builtin.max2 (.int k x) (.int k' y) = pure (.int k (if x < y then y else x)) := by simp only [Builtin.max2, gt_iff_lt]
theorem zrc (k k' : IntKind) (x y : Int) : Builtin.min2 (.int k x) (.int k' y) = pure (.int k (if y < x then y else x)) := by simp only [Builtin.min2]
theorem zbd (ats : Array TypeId) (ty : TypeId) (a b : Value) : Builtin.max_ ats ty #[a, b] = (Builtin.max2 a b >>= fun s => pure s) := by simp only [Builtin.max_, List.foldlM_cons, List.foldlM_nil]
theorem zad (ats : Array TypeId) (ty : TypeId) (a b : Value) : Builtin.min_ ats ty #[a, b] = (Builtin.min2 a b >>= fun s => pure s) := by simp only [Builtin.min_, List.foldlM_cons, List.foldlM_nil]
theorem zic (ats : Array TypeId) (ty : TypeId) (a b c : Value) : Builtin.max_ ats ty #[a, b, c] = (Builtin.max2 a b >>= fun s => Builtin.max2 s c >>= fun s => pure s) := by simp only [Builtin.max_, List.foldlM_cons, List.foldlM_nil]
theorem zhc (ats : Array TypeId) (ty : TypeId) (a b c : Value) : Builtin.min_ ats ty #[a, b, c] = (Builtin.min2 a b >>= fun s => Builtin.min2 s c >>= fun s => pure s) := by simp only [Builtin.min_, List.foldlM_cons, List.foldlM_nil]
theorem zqc (ats : Array TypeId) (ty : TypeId) (a b c d : Value) : Builtin.max_ ats ty #[a, b, c, d] = (Builtin.max2 a b >>= fun s => Builtin.max2 s c >>= fun s => Builtin.max2 s d >>= fun s => pure s) := by simp only [Builtin.max_, List.foldlM_cons, List.foldlM_nil]
theorem ztc (ats : Array TypeId) (ty : TypeId) (a b c d : Value) : Builtin.min_ ats ty #[a, b, c, d] = (Builtin.min2 a b >>= fun s => Builtin.min2 s c >>= fun s => Builtin.min2 s d >>= fun s => pure s) := by simp only [Builtin.min_, List.foldlM_cons, List.foldlM_nil]
end Go.Proofs.YtapaijpglfmfgaaDoorW.PrintMore
namespace Go.Proofs.YtapaijpglfmfgaaDoorW.PrintWords
open Go.RowKit
section
variable {P : Program} {ops : Array Oper} {rest : List Oper} {o : Oper} {a : Act} {Q : Exit → Act → World → Prop} {W : World}
theorem zab {f : FuncId} {az : Array Operand} {ts : Array TypeId} (_ho : o.op = .call { callee := .value (.func f), args := az, argTypes := ts }) (h : wpList P ops Q (o :: rest) a W) : wpList P ops Q (o :: rest) a W := h
theorem zqd {b : Builtin} {xs : Array Operand} {ts : Array TypeId} (_ho : o.op = .call { callee := .builtin b, args := xs, argTypes := ts }) (h : wpList P ops Q (o :: rest) a W) : wpList P ops Q (o :: rest) a W := h
end
theorem zsd (w : World) (n : Nat) : w.drewN n = w.drewN n := rfl
namespace Kd
section
variable {α : Type} {d : Kd α} {e base : Nat} {ok : Nat → Prop} {W w1 : World} {v : Value} {xs : List α}
end
section
variable {α : Type} {d : Kd α} {e base g n cap : Nat} {ok oki okp : Nat → Prop} {W : World} {xs : List α} {i : Int} {c : List Value}
end
section
variable {α : Type} {d : Kd α} {e base b b' g N : Nat} {ok ok1 : Nat → Prop} {W W2 w1 : World} {u v : Value} {xs ys : List α} {S : Nat → Prop}
end
end Kd
end Go.Proofs.YtapaijpglfmfgaaDoorW.PrintWords
namespace Go.Proofs.YtapaijpglfmfgaaDoorW.PrintWords
open Go.RowKit
namespace Kd
def V {α : Type} (d : Kd α) (_e : Nat) (W : World) (_base : Nat) (ok : Nat → Prop) (v : Value) (xs : List α) : Prop := ∃ A c, v = .slice A xs.length c ∧ xs.length ≤ c ∧ F d W ok A xs.length xs
section
variable {α β : Type} {d : Kd α} {e base base' n m c g N' lo hi : Nat} {ok ok' S : Nat → Prop} {w W w1 : World} {A : Option Addr} {ad : Addr} {u v v1 : Value} {xs : List α}
end
end Kd
end Go.Proofs.YtapaijpglfmfgaaDoorW.PrintWords
end
section
namespace Go.Proofs.YtapaijpglfmfgaaDoor.S
open Go.RowKit YtapaijpglfmfgaaDoorH YtapaijpglfmfgaaDoorW.PrintWords YtapaijpglfmfgaaDoorW.PrintLast YtapaijpglfmfgaaDoorW.PrintMore
attribute [local go_sem] zsc zrc zbd zad zic zhc zqc ztc
def errW : Option Int → Value
 | none => .nilIface
 | some c => .iface 0 (.int .i64 c)
theorem zkf : errW none = .nilIface := rfl
theorem zpf (c : Int) : errW (some c) = .iface 0 (.int .i64 c) := rfl
theorem info9 : (Tryd.prog.info? 9).map (fun i => (i.zero, i.size, i.bytes)) = some (some (.string ⟨#[]⟩), 1, 16) := by kernel_rfl
theorem info42 : (Tryd.prog.info? 42).map (fun i => (i.zero, i.size, i.bytes)) = some (some (.slice none 0 0), 1, 24) := by kernel_rfl
end Go.Proofs.YtapaijpglfmfgaaDoor.S
end
section
namespace Go.Proofs.YtapaijpglfmfgaaDoor.S
open Go.RowKit YtapaijpglfmfgaaDoorH YtapaijpglfmfgaaDoorW.PrintWords YtapaijpglfmfgaaDoorW.PrintLast YtapaijpglfmfgaaDoorW.PrintMore
attribute [local go_sem] zsc zrc zbd zad zic zhc zqc ztc
def zzb.f (a0 : Int) : Option (Bool) := if a0 ≥ 48 then (some (decide (a0 ≤ 57))) else (some false)
theorem zzb.calls (a0 : Int) (r : Bool) (w : World) (h : zzb.f a0 = some r) :
  Calls Tryd.prog 73 #[.int .u8 a0] w fun e w' => e = .returned (.bool r) ∧ zt w w' := by
 have H : (if a0 ≥ 48 then (some (decide (a0 ≤ 57))) else (some false)) = some r := h
 clear h
 by_cases c2 : a0 ≥ 48
 ·rw [if_pos c2] at H
  have c2b0 : decide (48 ≤ a0) = true := decide_eq_true c2
  clear c2
  obtain rfl := Option.some.inj H
  go_enter Tryd.func73, Tryd.ntmps73
  go_wp2
  go_ret
  exact ⟨by rfl, by repeat (first | exact zt.refl _ | apply zt.step)⟩
 ·rw [if_neg c2] at H
  have c2b0 : decide (48 ≤ a0) = false := decide_eq_false c2
  clear c2
  obtain rfl := Option.some.inj H
  go_enter Tryd.func73, Tryd.ntmps73
  go_wp2
  go_ret
  exact ⟨by rfl, by repeat (first | exact zt.refl _ | apply zt.step)⟩
def zdb.l0 : Nat → ByteArray → Int → Option (Int)
 | 0, _, _ => none
 | k + 1, x0, x1 => if x1 < (x0.size : Int) then (if 0 ≤ x1 then ((zzb.f (bt x0 x1)).bind fun t101 => (if t101 = true then (zdb.l0 k x0 (wrap64 (x1 + 1))) else (some x1))) else (none)) else (some x1)
def zdb.f (k : Nat) (a0 : ByteArray) (a1 : Int) : Option (Int) := zdb.l0 k a0 a1
theorem zdb.calls (k : Nat) (a0 : ByteArray) (a1 : Int) (r : Int) (w : World) (h : zdb.f k a0 a1 = some r) :
  Calls Tryd.prog 68 #[.string a0, .int .i64 a1] w fun e w' => e = .returned (.int .i64 r) ∧ zt w w' := by
 have H : (zdb.l0 k a0 a1) = some r := h
 clear h
 have H' := za.mk H
 clear H
 go_enter Tryd.func68, Tryd.ntmps68
 go_wp2
 (try simp only [Act.put, List.setIfInBounds_toArray, List.set_cons_zero, List.set_cons_succ])
 go_loopg [1] k (fun kq v1 w' => ∃ (x1_1 : Int), v1 = .int .i64 x1_1 ∧ za (zdb.l0 kq a0 x1_1 = some r) ∧ za (kq ≤ k) ∧ zt w w')
 case atStart => exact ⟨(a1), (by rfl), H', ⟨Nat.le_refl _⟩, by repeat (first | exact zt.refl _ | apply zt.step)⟩
 case round =>
  clear H'
  obtain ⟨x1_1, rfl, HA, HK1, ⟨m1, rfl⟩⟩ := hrel
  cases gk with
  | zero => exact absurd HA.out (by simp [zdb.l0])
  | succ k1 =>
   have H := HA.out
   clear HA
   simp only [zdb.l0] at H
   by_cases c3 : x1_1 < (a0.size : Int)
   ·rw [if_pos c3] at H
    have c3b0 : decide (x1_1 < (a0.size : Int)) = true := decide_eq_true c3
    clear c3
    by_cases c4 : 0 ≤ x1_1
    ·rw [if_pos c4] at H
     have c4b0 : decide (0 ≤ x1_1) = true := decide_eq_true c4
     clear c4
     replace H := Option.bind_eq_some_iff.mp H
     obtain ⟨t101, A60, H⟩ := H
     replace H : (if t101 = true then (zdb.l0 k1 a0 (wrap64 (x1_1 + 1))) else (some x1_1)) = some r := H
     have A6 := za.mk A60
     clear A60
     by_cases c7 : t101 = true
     ·subst c7
      have H1 : (zdb.l0 k1 a0 (wrap64 (x1_1 + 1))) = some r := by rw [if_pos rfl] at H; exact H
      clear H
      have H := H1
      clear H1
      have H' := za.mk H
      clear H
      have p5 : 0 ≤ (x1_1 : Int) := of_decide_eq_true (by (with_reducible assumption))
      have q5 : x1_1 < (a0.size : Int) := of_decide_eq_true (by (with_reducible assumption))
      have hx5 := bt_at a0 x1_1
      replace p5 := eq_true p5
      replace q5 := eq_true q5
      go_wp2_with ((go_at_call 73; (with_reducible refine (zzb.calls (bt a0 x1_1) true _ A6.out).mono ?_); rintro e w' ⟨rfl, ⟨nd, rfl⟩⟩))
      go_roundg k1
      case measure => have := HK1.out; omega
      case rel => exact ⟨(wrap64 (x1_1 + 1)), (by rfl), H', ⟨by have := HK1.out; omega⟩, by repeat (first | exact zt.refl _ | apply zt.step)⟩
     ·replace c7 := Bool.eq_false_iff.mpr c7
      subst c7
      have H1 : (some x1_1) = some r := by rw [if_neg (show ¬ (false = true) by decide)] at H; exact H
      clear H
      have H := H1
      clear H1
      obtain rfl := Option.some.inj H
      have p5 : 0 ≤ (x1_1 : Int) := of_decide_eq_true (by (with_reducible assumption))
      have q5 : x1_1 < (a0.size : Int) := of_decide_eq_true (by (with_reducible assumption))
      have hx5 := bt_at a0 x1_1
      replace p5 := eq_true p5
      replace q5 := eq_true q5
      go_wp2_with ((go_at_call 73; (with_reducible refine (zzb.calls (bt a0 x1_1) false _ A6.out).mono ?_); rintro e w' ⟨rfl, ⟨nd, rfl⟩⟩))
      go_ret
      exact ⟨by rfl, by repeat (first | exact zt.refl _ | apply zt.step)⟩
    ·rw [if_neg c4] at H
     exact absurd H (by simp)
   ·rw [if_neg c3] at H
    have c3b0 : decide (x1_1 < (a0.size : Int)) = false := decide_eq_false c3
    clear c3
    obtain rfl := Option.some.inj H
    go_wp2
    go_ret
    exact ⟨by rfl, by repeat (first | exact zt.refl _ | apply zt.step)⟩
def zw.l0 : Nat → ByteArray → Int → Option (ByteArray)
 | 0, _, _ => none
 | k + 1, x0, x3 => (zdb.f k x0 x3).bind fun t102 => (if t102 = x3 then (if 0 ≤ x3 then (if x3 ≤ (x0.size : Int) then (some (x0.extract 0 (x3 : Int).toNat)) else (none)) else (none)) else (if t102 < (x0.size : Int) then (if 0 ≤ t102 then (if (bt x0 t102) = 46 then (zw.l0 k x0 (wrap64 (t102 + 1))) else (zw.l0 k x0 t102)) else (none)) else (zw.l0 k x0 t102)))
def zw.f (k : Nat) (a0 : ByteArray) : Option (ByteArray) := zw.l0 k a0 0
theorem zw.calls (k : Nat) (a0 : ByteArray) (r : ByteArray) (w : World) (h : zw.f k a0 = some r) :
  Calls Tryd.prog 50 #[.string a0] w fun e w' => e = .returned (.string r) ∧ zt w w' := by
 have H : (zw.l0 k a0 0) = some r := h
 clear h
 have H' := za.mk H
 clear H
 go_enter Tryd.func50, Tryd.ntmps50
 go_wp2
 (try simp only [Act.put, List.setIfInBounds_toArray, List.set_cons_zero, List.set_cons_succ])
 go_loopg [3] k (fun kq v3 w' => ∃ (x3_1 : Int), v3 = .int .i64 x3_1 ∧ za (zw.l0 kq a0 x3_1 = some r) ∧ za (kq ≤ k) ∧ zt w w')
 case atStart => exact ⟨(0), (by rfl), H', ⟨Nat.le_refl _⟩, by repeat (first | exact zt.refl _ | apply zt.step)⟩
 case round =>
  clear H'
  obtain ⟨x3_1, rfl, HA, HK1, ⟨m1, rfl⟩⟩ := hrel
  cases gk with
  | zero => exact absurd HA.out (by simp [zw.l0])
  | succ k1 =>
   have H := HA.out
   clear HA
   simp only [zw.l0] at H
   replace H := Option.bind_eq_some_iff.mp H
   obtain ⟨t102, A20, H⟩ := H
   replace H : (if t102 = x3_1 then (if 0 ≤ x3_1 then (if x3_1 ≤ (a0.size : Int) then (some (a0.extract 0 (x3_1 : Int).toNat)) else (none)) else (none)) else (if t102 < (a0.size : Int) then (if 0 ≤ t102 then (if (bt a0 t102) = 46 then (zw.l0 k1 a0 (wrap64 (t102 + 1))) else (zw.l0 k1 a0 t102)) else (none)) else (zw.l0 k1 a0 t102))) = some r := H
   have A2 := za.mk A20
   clear A20
   by_cases c3 : t102 = x3_1
   ·rw [if_pos c3] at H
    have c3b0 : (t102 == x3_1) = true := beq_iff_eq.mpr c3
    have c3b1 : (t102 != x3_1) = false := bne_eq_false_iff_eq.mpr c3
    clear c3
    by_cases c4 : 0 ≤ x3_1
    ·rw [if_pos c4] at H
     have c4b0 := eq_true c4
     have c4b1 : decide (0 ≤ x3_1) = true := decide_eq_true c4
     clear c4
     by_cases c5 : x3_1 ≤ (a0.size : Int)
     ·rw [if_pos c5] at H
      have c5b0 := eq_true c5
      have c5b1 : decide (x3_1 ≤ (a0.size : Int)) = true := decide_eq_true c5
      clear c5
      obtain rfl := Option.some.inj H
      go_wp2_with (((with_reducible refine zab (f := 68) rfl ?_); refine zjc (some 7) rfl rfl Tryd.func68 (by kernel_rfl) rfl #[.string a0, .int .i64 x3_1] rfl (by (try simp only [List.map_toArray, List.map_cons, List.map_nil]); first | done | rfl | (simp only [List.length_drop, List.length_take]; rfl)) ?_; (with_reducible refine (zdb.calls k1 a0 x3_1 t102 _ A2.out).mono ?_); rintro e w' ⟨rfl, ⟨nd, rfl⟩⟩; refine ⟨_, rfl, ?_⟩))
      go_ret
      exact ⟨by rfl, by repeat (first | exact zt.refl _ | apply zt.step)⟩
     ·rw [if_neg c5] at H
      exact absurd H (by simp)
    ·rw [if_neg c4] at H
     exact absurd H (by simp)
   ·rw [if_neg c3] at H
    have c3b0 : (t102 == x3_1) = false := beq_eq_false_iff_ne.mpr c3
    have c3b1 : (t102 != x3_1) = true := bne_iff_ne.mpr c3
    by_cases c6 : t102 < (a0.size : Int)
    ·rw [if_pos c6] at H
     have c6b0 : decide (t102 < (a0.size : Int)) = true := decide_eq_true c6
     clear c6
     by_cases c7 : 0 ≤ t102
     ·rw [if_pos c7] at H
      have c7b0 : decide (0 ≤ t102) = true := decide_eq_true c7
      clear c7
      by_cases c9 : (bt a0 t102) = 46
      ·rw [if_pos c9] at H
       have c9b0 : ((bt a0 t102) == 46) = true := beq_iff_eq.mpr c9
       have c9b1 : ((bt a0 t102) != 46) = false := bne_eq_false_iff_eq.mpr c9
       clear c9
       have H' := za.mk H
       clear H
       go_wp2_with (((with_reducible refine zab (f := 68) rfl ?_); refine zjc (some 7) rfl rfl Tryd.func68 (by kernel_rfl) rfl #[.string a0, .int .i64 x3_1] rfl (by (try simp only [List.map_toArray, List.map_cons, List.map_nil]); first | done | rfl | (simp only [List.length_drop, List.length_take]; rfl)) ?_; (with_reducible refine (zdb.calls k1 a0 x3_1 t102 _ A2.out).mono ?_); rintro e w' ⟨rfl, ⟨nd, rfl⟩⟩; refine ⟨_, rfl, ?_⟩; have p8 : 0 ≤ (t102 : Int) := of_decide_eq_true (by (with_reducible assumption)); have q8 : t102 < (a0.size : Int) := of_decide_eq_true (by (with_reducible assumption)); have hx8 := bt_at a0 t102; replace p8 := eq_true p8; replace q8 := eq_true q8))
       go_roundg k1
       case measure => have := HK1.out; omega
       case rel => exact ⟨(wrap64 (t102 + 1)), (by rfl), H', ⟨by have := HK1.out; omega⟩, by repeat (first | exact zt.refl _ | apply zt.step)⟩
      ·rw [if_neg c9] at H
       have c9b0 : ((bt a0 t102) == 46) = false := beq_eq_false_iff_ne.mpr c9
       have c9b1 : ((bt a0 t102) != 46) = true := bne_iff_ne.mpr c9
       have H' := za.mk H
       clear H
       go_wp2_with (((with_reducible refine zab (f := 68) rfl ?_); refine zjc (some 7) rfl rfl Tryd.func68 (by kernel_rfl) rfl #[.string a0, .int .i64 x3_1] rfl (by (try simp only [List.map_toArray, List.map_cons, List.map_nil]); first | done | rfl | (simp only [List.length_drop, List.length_take]; rfl)) ?_; (with_reducible refine (zdb.calls k1 a0 x3_1 t102 _ A2.out).mono ?_); rintro e w' ⟨rfl, ⟨nd, rfl⟩⟩; refine ⟨_, rfl, ?_⟩; have p8 : 0 ≤ (t102 : Int) := of_decide_eq_true (by (with_reducible assumption)); have q8 : t102 < (a0.size : Int) := of_decide_eq_true (by (with_reducible assumption)); have hx8 := bt_at a0 t102; replace p8 := eq_true p8; replace q8 := eq_true q8))
       go_roundg k1
       case measure => have := HK1.out; omega
       case rel => exact ⟨(t102), (by rfl), H', ⟨by have := HK1.out; omega⟩, by repeat (first | exact zt.refl _ | apply zt.step)⟩
     ·rw [if_neg c7] at H
      exact absurd H (by simp)
    ·rw [if_neg c6] at H
     have c6b0 : decide (t102 < (a0.size : Int)) = false := decide_eq_false c6
     clear c6
     have H' := za.mk H
     clear H
     go_wp2_with (((with_reducible refine zab (f := 68) rfl ?_); refine zjc (some 7) rfl rfl Tryd.func68 (by kernel_rfl) rfl #[.string a0, .int .i64 x3_1] rfl (by (try simp only [List.map_toArray, List.map_cons, List.map_nil]); first | done | rfl | (simp only [List.length_drop, List.length_take]; rfl)) ?_; (with_reducible refine (zdb.calls k1 a0 x3_1 t102 _ A2.out).mono ?_); rintro e w' ⟨rfl, ⟨nd, rfl⟩⟩; refine ⟨_, rfl, ?_⟩))
     go_roundg k1
     case measure => have := HK1.out; omega
     case rel => exact ⟨(t102), (by rfl), H', ⟨by have := HK1.out; omega⟩, by repeat (first | exact zt.refl _ | apply zt.step)⟩
def zob.l0 : Nat → ByteArray → ByteArray → Int → Option (Int)
 | 0, _, _, _ => none
 | k + 1, x0, x1, x5 => if (wrap64 (x5 + (x1.size : Int))) ≤ (x0.size : Int) then (if 0 ≤ x5 then (if x5 ≤ (wrap64 (x5 + (x1.size : Int))) then (if (x0.extract (x5 : Int).toNat ((wrap64 (x5 + (x1.size : Int))) : Int).toNat).toList = x1.toList then (some x5) else (zob.l0 k x0 x1 (wrap64 (x5 + 1)))) else (none)) else (none)) else (some (-1))
def zob.f (k : Nat) (a0 : ByteArray) (a1 : ByteArray) : Option (Int) := zob.l0 k a0 a1 0
theorem zob.calls (k : Nat) (a0 : ByteArray) (a1 : ByteArray) (r : Int) (w : World) (h : zob.f k a0 a1 = some r) :
  Calls Tryd.prog 69 #[.string a0, .string a1] w fun e w' => e = .returned (.int .i64 r) ∧ zt w w' := by
 have H : (zob.l0 k a0 a1 0) = some r := h
 clear h
 have H' := za.mk H
 clear H
 go_enter Tryd.func69, Tryd.ntmps69
 go_wp2
 (try simp only [Act.put, List.setIfInBounds_toArray, List.set_cons_zero, List.set_cons_succ])
 go_loopg [5] k (fun kq v5 w' => ∃ (x5_1 : Int), v5 = .int .i64 x5_1 ∧ za (zob.l0 kq a0 a1 x5_1 = some r) ∧ za (kq ≤ k) ∧ zt w w')
 case atStart => exact ⟨(0), (by rfl), H', ⟨Nat.le_refl _⟩, by repeat (first | exact zt.refl _ | apply zt.step)⟩
 case round =>
  clear H'
  obtain ⟨x5_1, rfl, HA, HK1, ⟨m1, rfl⟩⟩ := hrel
  cases gk with
  | zero => exact absurd HA.out (by simp [zob.l0])
  | succ k1 =>
   have H := HA.out
   clear HA
   simp only [zob.l0] at H
   by_cases c3 : (wrap64 (x5_1 + (a1.size : Int))) ≤ (a0.size : Int)
   ·rw [if_pos c3] at H
    have c3b0 : decide ((wrap64 (x5_1 + (a1.size : Int))) ≤ (a0.size : Int)) = true := decide_eq_true c3
    clear c3
    by_cases c4 : 0 ≤ x5_1
    ·rw [if_pos c4] at H
     have c4b0 := eq_true c4
     have c4b1 : decide (0 ≤ x5_1) = true := decide_eq_true c4
     clear c4
     by_cases c5 : x5_1 ≤ (wrap64 (x5_1 + (a1.size : Int)))
     ·rw [if_pos c5] at H
      have c5b0 := eq_true c5
      have c5b1 : decide (x5_1 ≤ (wrap64 (x5_1 + (a1.size : Int)))) = true := decide_eq_true c5
      have c6b0 := eq_true (of_decide_eq_true (by (with_reducible assumption)) : (wrap64 (x5_1 + (a1.size : Int))) ≤ (a0.size : Int))
      by_cases c7 : (a0.extract (x5_1 : Int).toNat ((wrap64 (x5_1 + (a1.size : Int))) : Int).toNat).toList = a1.toList
      ·rw [if_pos c7] at H
       have c7b0 : ((a0.extract (x5_1 : Int).toNat ((wrap64 (x5_1 + (a1.size : Int))) : Int).toNat).toList == a1.toList) = true := beq_iff_eq.mpr c7
       have c7b1 : ((a0.extract (x5_1 : Int).toNat ((wrap64 (x5_1 + (a1.size : Int))) : Int).toNat).toList != a1.toList) = false := bne_eq_false_iff_eq.mpr c7
       clear c7
       obtain rfl := Option.some.inj H
       go_wp2
       go_ret
       exact ⟨by rfl, by repeat (first | exact zt.refl _ | apply zt.step)⟩
      ·rw [if_neg c7] at H
       have c7b0 : ((a0.extract (x5_1 : Int).toNat ((wrap64 (x5_1 + (a1.size : Int))) : Int).toNat).toList == a1.toList) = false := beq_eq_false_iff_ne.mpr c7
       have c7b1 : ((a0.extract (x5_1 : Int).toNat ((wrap64 (x5_1 + (a1.size : Int))) : Int).toNat).toList != a1.toList) = true := bne_iff_ne.mpr c7
       have H' := za.mk H
       clear H
       go_wp2
       go_roundg k1
       case measure => have := HK1.out; omega
       case rel => exact ⟨(wrap64 (x5_1 + 1)), (by rfl), H', ⟨by have := HK1.out; omega⟩, by repeat (first | exact zt.refl _ | apply zt.step)⟩
     ·rw [if_neg c5] at H
      exact absurd H (by simp)
    ·rw [if_neg c4] at H
     exact absurd H (by simp)
   ·rw [if_neg c3] at H
    have c3b0 : decide ((wrap64 (x5_1 + (a1.size : Int))) ≤ (a0.size : Int)) = false := decide_eq_false c3
    clear c3
    obtain rfl := Option.some.inj H
    go_wp2
    go_ret
    exact ⟨by rfl, by repeat (first | exact zt.refl _ | apply zt.step)⟩
def zkb.l1 : Nat → ByteArray → ByteArray → List ByteArray → Option (List ByteArray)
 | 0, _, _, _ => none
 | k + 1, x0, x1, x5 => (zob.f k x0 x1).bind fun t103 => (if t103 < 0 then (if x5.length < 8796093022208 then (some (x5 ++ [x0])) else (none)) else (if 0 ≤ t103 then (if t103 ≤ (x0.size : Int) then (if x5.length < 8796093022208 then (if 0 ≤ (wrap64 (t103 + (x1.size : Int))) then (if (wrap64 (t103 + (x1.size : Int))) ≤ (x0.size : Int) then (zkb.l1 k (x0.extract ((wrap64 (t103 + (x1.size : Int))) : Int).toNat x0.size) x1 (x5 ++ [x0.extract 0 (t103 : Int).toNat])) else (none)) else (none)) else (none)) else (none)) else (none)))
def zkb.f (k : Nat) (a0 : ByteArray) (a1 : ByteArray) : Option (List ByteArray) := if (a1.size : Int) = 0 then (none) else (zkb.l1 k a0 a1 ([] : List ByteArray))
theorem zkb.calls (k : Nat) (a0 : ByteArray) (a1 : ByteArray) (r : List ByteArray) (w : World) (h : zkb.f k a0 a1 = some r) :
  Calls Tryd.prog 51 #[.string a0, .string a1] w fun e w' => ∃ v0_ : Value, e = .returned (v0_) ∧ Kd.R Kd.string 9 w' w.heap.size (fun _ => True) v0_ r ∧ Below w.heap.size w w' := by
 have HB := za.mk (Below.refl w.heap.size w)
 have H : (if (a1.size : Int) = 0 then (none) else (zkb.l1 k a0 a1 ([] : List ByteArray))) = some r := h
 clear h
 by_cases c3 : (a1.size : Int) = 0
 ·rw [if_pos c3] at H
  exact absurd H (by simp)
 ·rw [if_neg c3] at H
  have c3b0 : ((a1.size : Int) == 0) = false := beq_eq_false_iff_ne.mpr c3
  have c3b1 : ((a1.size : Int) != 0) = true := bne_iff_ne.mpr c3
  have H' := za.mk H
  clear H
  go_enter Tryd.func51, Tryd.ntmps51
  go_wp2
  (try simp only [Act.put, List.setIfInBounds_toArray, List.set_cons_zero, List.set_cons_succ])
  go_loopg [0, 5] k (fun kq v0 v5 w' => ∃ (x0_1 : ByteArray) (x5_1 : List ByteArray), v0 = .string x0_1 ∧ za (zkb.l1 kq x0_1 a1 x5_1 = some r) ∧ za (kq ≤ k) ∧ za (Kd.R Kd.string 9 w' w.heap.size (fun _ => True) v5 x5_1) ∧ za (Below w.heap.size w w'))
  case atStart => exact ⟨(a0), (([] : List ByteArray)), (by rfl), H', ⟨Nat.le_refl _⟩, ⟨by exact Kd.R_nil _ _ _ _ _⟩, ⟨by (with_reducible exact HB.out)⟩⟩
  case round =>
   clear H'
   clear c3 c3b0 c3b1
   obtain ⟨x0_1, x5_1, rfl, HA, HK1, HO_5, HB⟩ := hrel
   cases gk with
   | zero => exact absurd HA.out (by simp [zkb.l1])
   | succ k1 =>
    have H := HA.out
    clear HA
    simp only [zkb.l1] at H
    replace H := Option.bind_eq_some_iff.mp H
    obtain ⟨t103, A40, H⟩ := H
    replace H : (if t103 < 0 then (if x5_1.length < 8796093022208 then (some (x5_1 ++ [x0_1])) else (none)) else (if 0 ≤ t103 then (if t103 ≤ (x0_1.size : Int) then (if x5_1.length < 8796093022208 then (if 0 ≤ (wrap64 (t103 + (a1.size : Int))) then (if (wrap64 (t103 + (a1.size : Int))) ≤ (x0_1.size : Int) then (zkb.l1 k1 (x0_1.extract ((wrap64 (t103 + (a1.size : Int))) : Int).toNat x0_1.size) a1 (x5_1 ++ [x0_1.extract 0 (t103 : Int).toNat])) else (none)) else (none)) else (none)) else (none)) else (none))) = some r := H
    have A4 := za.mk A40
    clear A40
    by_cases c5 : t103 < 0
    ·rw [if_pos c5] at H
     have c5b0 : decide (t103 < 0) = true := decide_eq_true c5
     clear c5
     by_cases c6 : x5_1.length < 8796093022208
     ·rw [if_pos c6] at H
      have LMc6 := za.mk c6
      clear c6
      obtain ⟨y104, hy104⟩ : ∃ y_ : List ByteArray, y_ = (x5_1 ++ [x0_1]) := ⟨_, rfl⟩
      replace H : (some y104) = some r := by (rw [hy104]; with_reducible exact H)
      have Ny104 := za.mk hy104
      clear hy104
      obtain rfl := Option.some.inj H
      go_wp2_with (first | ((with_reducible refine zab (f := 69) rfl ?_); refine zjc (some 39) rfl rfl Tryd.func69 (by kernel_rfl) rfl #[.string x0_1, .string a1] rfl (by (try simp only [List.map_toArray, List.map_cons, List.map_nil]); first | done | rfl | (simp only [List.length_drop, List.length_take]; rfl)) ?_; (with_reducible refine (zob.calls k1 x0_1 a1 t103 _ A4.out).mono ?_); rintro e w' ⟨rfl, ⟨nd, rfl⟩⟩; refine ⟨_, rfl, ?_⟩) | ((with_reducible refine zqd (b := .append) (xs := #[.tmp 42, .tmp 44]) rfl ?_); at_builtin; refine Kd.R_append Kd.string (w0 := w) w.heap.size rfl (.tmp 42) (.tmp 44) 42 9 (.string ⟨#[]⟩) 16 rfl Tryd.underlying42 info9 rfl (by decide) (by omega) u5 x5_1 x0_1 [.string x0_1] (fun _ => True) (fun _ => False) rfl rfl ?aP (fun _ hk => hk.elim) ?aF ?aO ?aB ?aS ?aL ?_; (case aP => exact rfl); (case aB => exact (by (with_reducible apply ze; with_reducible exact HB.out))); (case aF => exact (fun _ _ => trivial)); (case aO => exact (by (with_reducible repeat (first | apply Kd.R_alloc | apply Kd.R_drewN | apply Kd.R_drew)); exact HO_5.out)); (case aS => exact (zl (by (with_reducible apply ze; with_reducible exact HB.out)))); (case aL => have := LMc6.out; omega); intro v105 w7 ho hb hg hat; rw [← Ny104.out] at ho; have HO106 := za.mk ho; replace HB := za.mk hb; clear HO_5; clear ho hb hg hat))
      go_ret
      exact ⟨_, by rfl, by (with_reducible repeat (first | apply Kd.R_alloc | apply Kd.R_drewN | apply Kd.R_drew)); exact HO106.out, by (with_reducible exact HB.out)⟩
     ·rw [if_neg c6] at H
      exact absurd H (by simp)
    ·rw [if_neg c5] at H
     have c5b0 : decide (t103 < 0) = false := decide_eq_false c5
     clear c5
     by_cases c8 : 0 ≤ t103
     ·rw [if_pos c8] at H
      have c8b0 := eq_true c8
      have c8b1 : decide (0 ≤ t103) = true := decide_eq_true c8
      clear c8
      by_cases c9 : t103 ≤ (x0_1.size : Int)
      ·rw [if_pos c9] at H
       have c9b0 := eq_true c9
       have c9b1 : decide (t103 ≤ (x0_1.size : Int)) = true := decide_eq_true c9
       clear c9
       by_cases c10 : x5_1.length < 8796093022208
       ·rw [if_pos c10] at H
        have LMc10 := za.mk c10
        clear c10
        obtain ⟨y107, hy107⟩ : ∃ y_ : List ByteArray, y_ = (x5_1 ++ [x0_1.extract 0 (t103 : Int).toNat]) := ⟨_, rfl⟩
        replace H : (if 0 ≤ (wrap64 (t103 + (a1.size : Int))) then (if (wrap64 (t103 + (a1.size : Int))) ≤ (x0_1.size : Int) then (zkb.l1 k1 (x0_1.extract ((wrap64 (t103 + (a1.size : Int))) : Int).toNat x0_1.size) a1 y107) else (none)) else (none)) = some r := by (rw [hy107]; with_reducible exact H)
        have Ny107 := za.mk hy107
        clear hy107
        obtain ⟨ji11, hji11⟩ : ∃ j_ : Int, (wrap64 (t103 + (a1.size : Int))) = j_ := ⟨_, rfl⟩
        replace H : (if 0 ≤ (ji11) then (if (ji11) ≤ (x0_1.size : Int) then (zkb.l1 k1 (x0_1.extract ((ji11) : Int).toNat x0_1.size) a1 y107) else (none)) else (none)) = some r := by (rw [hji11] at H; exact H)
        (try rw [hji11] at A4)
        have hji11w : (IntKind.i64.wrap (t103 + (a1.size : Int))) = ji11 := (i64_w _).trans hji11
        by_cases c12 : 0 ≤ (ji11)
        ·rw [if_pos c12] at H
         have c12b0 := eq_true c12
         have c12b1 : decide (0 ≤ (ji11)) = true := decide_eq_true c12
         clear c12
         by_cases c13 : (ji11) ≤ (x0_1.size : Int)
         ·rw [if_pos c13] at H
          have c13b0 := eq_true c13
          have c13b1 : decide ((ji11) ≤ (x0_1.size : Int)) = true := decide_eq_true c13
          clear c13
          have H' := za.mk H
          clear H
          go_wp2_with (first | ((with_reducible refine zab (f := 69) rfl ?_); refine zjc (some 39) rfl rfl Tryd.func69 (by kernel_rfl) rfl #[.string x0_1, .string a1] rfl (by (try simp only [List.map_toArray, List.map_cons, List.map_nil]); first | done | rfl | (simp only [List.length_drop, List.length_take]; rfl)) ?_; (with_reducible refine (zob.calls k1 x0_1 a1 t103 _ A4.out).mono ?_); rintro e w' ⟨rfl, ⟨nd, rfl⟩⟩; refine ⟨_, rfl, ?_⟩) | ((with_reducible refine zqd (b := .append) (xs := #[.tmp 46, .tmp 50]) rfl ?_); at_builtin; refine Kd.R_append Kd.string (w0 := w) w.heap.size rfl (.tmp 46) (.tmp 50) 42 9 (.string ⟨#[]⟩) 16 rfl Tryd.underlying42 info9 rfl (by decide) (by omega) u5 x5_1 (x0_1.extract 0 (t103 : Int).toNat) [.string (x0_1.extract 0 (t103 : Int).toNat)] (fun _ => True) (fun _ => False) rfl rfl ?aP (fun _ hk => hk.elim) ?aF ?aO ?aB ?aS ?aL ?_; (case aP => exact rfl); (case aB => exact (by (with_reducible apply ze; with_reducible exact HB.out))); (case aF => exact (fun _ _ => trivial)); (case aO => exact (by (with_reducible repeat (first | apply Kd.R_alloc | apply Kd.R_drewN | apply Kd.R_drew)); exact HO_5.out)); (case aS => exact (zl (by (with_reducible apply ze; with_reducible exact HB.out)))); (case aL => have := LMc10.out; omega); intro v108 w14 ho hb hg hat; rw [← Ny107.out] at ho; have HO109 := za.mk ho; replace HB := za.mk hb; clear HO_5; clear ho hb hg hat))
          go_roundg k1
          case measure => have := HK1.out; omega
          case rel => exact ⟨(x0_1.extract ((ji11) : Int).toNat x0_1.size), (y107), (by rfl), H', ⟨by have := HK1.out; omega⟩, ⟨by (with_reducible repeat (first | apply Kd.R_alloc | apply Kd.R_drewN | apply Kd.R_drew)); exact HO109.out⟩, ⟨by (with_reducible exact HB.out)⟩⟩
         ·rw [if_neg c13] at H
          exact absurd H (by simp)
        ·rw [if_neg c12] at H
         exact absurd H (by simp)
       ·rw [if_neg c10] at H
        exact absurd H (by simp)
      ·rw [if_neg c9] at H
       exact absurd H (by simp)
     ·rw [if_neg c8] at H
      exact absurd H (by simp)
def zvb.f (a0 : ByteArray) : Option (Bool) := if a0.toList = ([] : List UInt8) then (some false) else (if 0 < (a0.size : Int) then (if (bt a0 0) ≥ 97 then (some (decide ((bt a0 0) ≤ 122))) else (some false)) else (none))
theorem zvb.calls (a0 : ByteArray) (r : Bool) (w : World) (h : zvb.f a0 = some r) :
  Calls Tryd.prog 54 #[.string a0] w fun e w' => e = .returned (.bool r) ∧ zt w w' := by
 have H : (if a0.toList = ([] : List UInt8) then (some false) else (if 0 < (a0.size : Int) then (if (bt a0 0) ≥ 97 then (some (decide ((bt a0 0) ≤ 122))) else (some false)) else (none))) = some r := h
 clear h
 by_cases c2 : a0.toList = ([] : List UInt8)
 ·rw [if_pos c2] at H
  have c2b0 : (a0.toList == ([] : List UInt8)) = true := beq_iff_eq.mpr c2
  have c2b1 : (a0.toList != ([] : List UInt8)) = false := bne_eq_false_iff_eq.mpr c2
  try have c2b9 : a0.toList.isEmpty = true := by simpa using c2b0
  clear c2
  obtain rfl := Option.some.inj H
  go_enter Tryd.func54, Tryd.ntmps54
  go_wp2
  go_ret
  exact ⟨by rfl, by repeat (first | exact zt.refl _ | apply zt.step)⟩
 ·rw [if_neg c2] at H
  have c2b0 : (a0.toList == ([] : List UInt8)) = false := beq_eq_false_iff_ne.mpr c2
  have c2b1 : (a0.toList != ([] : List UInt8)) = true := bne_iff_ne.mpr c2
  try have c2b9 : a0.toList.isEmpty = false := by simpa using c2b0
  by_cases c3 : 0 < (a0.size : Int)
  ·rw [if_pos c3] at H
   have c3b0 : decide (0 < (a0.size : Int)) = true := decide_eq_true c3
   have c3b1 : decide (0 < a0.size) = true := decide_eq_true (by omega)
   clear c3
   by_cases c5 : (bt a0 0) ≥ 97
   ·rw [if_pos c5] at H
    have c5b0 : decide (97 ≤ (bt a0 0)) = true := decide_eq_true c5
    clear c5
    obtain rfl := Option.some.inj H
    have p4 : 0 ≤ (0 : Int) := (by omega)
    have q4 : 0 < a0.size := (by have : (0 : Int) < (a0.size : Int) := of_decide_eq_true (by (with_reducible assumption)); omega)
    have hx4 : ∀ h : 0 < a0.size, ((a0[0]'h).toNat : Int) = bt a0 0 := bt_at a0 0
    clear p4
    have qi4 : (0 < (a0.size : Int)) = True := eq_true (of_decide_eq_true (by (with_reducible assumption)))
    replace q4 := eq_true q4
    have p6 : 0 ≤ (0 : Int) := (by omega)
    have q6 : 0 < a0.size := (by have : (0 : Int) < (a0.size : Int) := of_decide_eq_true (by (with_reducible assumption)); omega)
    have hx6 : ∀ h : 0 < a0.size, ((a0[0]'h).toNat : Int) = bt a0 0 := bt_at a0 0
    clear p6
    have qi6 : (0 < (a0.size : Int)) = True := eq_true (of_decide_eq_true (by (with_reducible assumption)))
    replace q6 := eq_true q6
    go_enter Tryd.func54, Tryd.ntmps54
    go_wp2
    go_ret
    exact ⟨by rfl, by repeat (first | exact zt.refl _ | apply zt.step)⟩
   ·rw [if_neg c5] at H
    have c5b0 : decide (97 ≤ (bt a0 0)) = false := decide_eq_false c5
    clear c5
    obtain rfl := Option.some.inj H
    have p4 : 0 ≤ (0 : Int) := (by omega)
    have q4 : 0 < a0.size := (by have : (0 : Int) < (a0.size : Int) := of_decide_eq_true (by (with_reducible assumption)); omega)
    have hx4 : ∀ h : 0 < a0.size, ((a0[0]'h).toNat : Int) = bt a0 0 := bt_at a0 0
    clear p4
    have qi4 : (0 < (a0.size : Int)) = True := eq_true (of_decide_eq_true (by (with_reducible assumption)))
    replace q4 := eq_true q4
    go_enter Tryd.func54, Tryd.ntmps54
    go_wp2
    go_ret
    exact ⟨by rfl, by repeat (first | exact zt.refl _ | apply zt.step)⟩
  ·rw [if_neg c3] at H
   exact absurd H (by simp)
def zvb.Pure : Prop := ∀ (a0 : ByteArray), a0.size ≤ 140737488351232 → zvb.f a0 = some true
def zxb.f (a0 : ByteArray) (a1 : Int) (a2 : ByteArray) : Option (Bool) := if (wrap64 ((a0.size : Int) - a1)) ≥ (a2.size : Int) then (if 0 ≤ a1 then (if a1 ≤ (wrap64 (a1 + (a2.size : Int))) then (if (wrap64 (a1 + (a2.size : Int))) ≤ (a0.size : Int) then (some ((a0.extract (a1 : Int).toNat ((wrap64 (a1 + (a2.size : Int))) : Int).toNat).toList == a2.toList)) else (none)) else (none)) else (none)) else (some false)
theorem zxb.calls (a0 : ByteArray) (a1 : Int) (a2 : ByteArray) (r : Bool) (w : World) (h : zxb.f a0 a1 a2 = some r) :
  Calls Tryd.prog 72 #[.string a0, .int .i64 a1, .string a2] w fun e w' => e = .returned (.bool r) ∧ zt w w' := by
 have H : (if (wrap64 ((a0.size : Int) - a1)) ≥ (a2.size : Int) then (if 0 ≤ a1 then (if a1 ≤ (wrap64 (a1 + (a2.size : Int))) then (if (wrap64 (a1 + (a2.size : Int))) ≤ (a0.size : Int) then (some ((a0.extract (a1 : Int).toNat ((wrap64 (a1 + (a2.size : Int))) : Int).toNat).toList == a2.toList)) else (none)) else (none)) else (none)) else (some false)) = some r := h
 clear h
 by_cases c4 : (wrap64 ((a0.size : Int) - a1)) ≥ (a2.size : Int)
 ·rw [if_pos c4] at H
  have c4b0 : decide ((a2.size : Int) ≤ (wrap64 ((a0.size : Int) - a1))) = true := decide_eq_true c4
  clear c4
  by_cases c5 : 0 ≤ a1
  ·rw [if_pos c5] at H
   have c5b0 := eq_true c5
   have c5b1 : decide (0 ≤ a1) = true := decide_eq_true c5
   clear c5
   by_cases c6 : a1 ≤ (wrap64 (a1 + (a2.size : Int)))
   ·rw [if_pos c6] at H
    have c6b0 := eq_true c6
    have c6b1 : decide (a1 ≤ (wrap64 (a1 + (a2.size : Int)))) = true := decide_eq_true c6
    by_cases c7 : (wrap64 (a1 + (a2.size : Int))) ≤ (a0.size : Int)
    ·rw [if_pos c7] at H
     have c7b0 := eq_true c7
     have c7b1 : decide ((wrap64 (a1 + (a2.size : Int))) ≤ (a0.size : Int)) = true := decide_eq_true c7
     obtain rfl := Option.some.inj H
     go_enter Tryd.func72, Tryd.ntmps72
     go_wp2
     go_ret
     exact ⟨by rfl, by repeat (first | exact zt.refl _ | apply zt.step)⟩
    ·rw [if_neg c7] at H
     exact absurd H (by simp)
   ·rw [if_neg c6] at H
    exact absurd H (by simp)
  ·rw [if_neg c5] at H
   exact absurd H (by simp)
 ·rw [if_neg c4] at H
  have c4b0 : decide ((a2.size : Int) ≤ (wrap64 ((a0.size : Int) - a1))) = false := decide_eq_false c4
  clear c4
  obtain rfl := Option.some.inj H
  go_enter Tryd.func72, Tryd.ntmps72
  go_wp2
  go_ret
  exact ⟨by rfl, by repeat (first | exact zt.refl _ | apply zt.step)⟩
def zxb.Pure : Prop := ∀ (a0 : ByteArray) (a1 : Int) (a2 : ByteArray), a0.size ≤ 140737488351232 → (Lit.int .i64 a1).wf = true → a2.size ≤ 140737488351232 → zxb.f a0 a1 a2 = some true
end Go.Proofs.YtapaijpglfmfgaaDoor.S
end
section
namespace Go.Proofs.YtapaijpglfmfgaaDoor.S
open Go.RowKit YtapaijpglfmfgaaDoorH YtapaijpglfmfgaaDoorW.PrintWords YtapaijpglfmfgaaDoorW.PrintLast YtapaijpglfmfgaaDoorW.PrintMore
attribute [local go_sem] zsc zrc zbd zad zic zhc zqc ztc
mutual
def zh.l0 : Nat → ByteArray → List (List ByteArray) → Int → Option ((List (List ByteArray)))
 | 0, _, _, _ => none
 | k + 1, x0, x3, x4 => if x4 < (x0.size : Int) then (if 0 ≤ x4 then (if (bt x0 x4) = 95 then ((some (([(⟨#[97, 108, 112, 104, 97]⟩ : ByteArray), (⟨#[98, 101, 116, 97]⟩ : ByteArray), (⟨#[112, 114, 101]⟩ : ByteArray), (⟨#[114, 99]⟩ : ByteArray), (⟨#[99, 118, 115]⟩ : ByteArray), (⟨#[115, 118, 110]⟩ : ByteArray), (⟨#[103, 105, 116]⟩ : ByteArray), (⟨#[104, 103]⟩ : ByteArray), (⟨#[112]⟩ : ByteArray)] : List ByteArray) : List ByteArray)).bind fun y110 => (zh.l1 k x0 x3 x4 (⟨#[]⟩ : ByteArray) y110 (y110.length : Int) 0)) else (zh.l0 k x0 x3 (wrap64 (x4 + 1)))) else (none)) else (some x3)
def zh.l1 : Nat → ByteArray → List (List ByteArray) → Int → ByteArray → List ByteArray → Int → Int → Option ((List (List ByteArray)))
 | 0, _, _, _, _, _, _, _ => none
 | k + 1, x0, x3, x4, x5, x20, x21, x22 => if x22 < x21 then (if 0 ≤ x22 then (if x22 < (x20.length : Int) then (if x5.toList = ([] : List UInt8) then ((zxb.f x0 (wrap64 (x4 + 1)) (rdOf ByteArray.empty x20 x22)).bind fun t114 => (if t114 = true then (zh.l1 k x0 x3 x4 (rdOf ByteArray.empty x20 x22) x20 x21 (wrap64 (x22 + 1))) else (zh.l1 k x0 x3 x4 x5 x20 x21 (wrap64 (x22 + 1))))) else (zh.l1 k x0 x3 x4 x5 x20 x21 (wrap64 (x22 + 1)))) else (none)) else (none)) else (if x5.toList = ([] : List UInt8) then (zh.l0 k x0 x3 (wrap64 (x4 + 1))) else ((zdb.f k x0 (wrap64 ((wrap64 (x4 + 1)) + (x5.size : Int)))).bind fun t115 => (if 0 ≤ x4 then (if x4 ≤ t115 then (if t115 ≤ (x0.size : Int) then (if 0 ≤ (wrap64 ((wrap64 (x4 + 1)) + (x5.size : Int))) then (if (wrap64 ((wrap64 (x4 + 1)) + (x5.size : Int))) ≤ t115 then (if x3.length < 5864062014805 then (zh.l0 k x0 (x3 ++ [(([x0.extract (x4 : Int).toNat (t115 : Int).toNat, x5, x0.extract ((wrap64 ((wrap64 (x4 + 1)) + (x5.size : Int))) : Int).toNat (t115 : Int).toNat] : List ByteArray))]) t115) else (none)) else (none)) else (none)) else (none)) else (none)) else (none))))
end
def zh.f (k : Nat) (a0 : ByteArray) : Option ((List (List ByteArray))) := zh.l0 k a0 ([] : List (List ByteArray)) 0
def zh.T17 : Bool × List (List Nat × List Nat) := (true, [([], []), ([], []), ([], []), ([], []), ([1, 2, 3], [1, 2, 3]), ([], []), ([], []), ([], []), ([], []), ([6, 7, 8], [6, 7, 8]), ([4, 5, 9], [4, 5, 9]), ([10], [10]), ([0, 11], [0, 11]), ([12, 12, 0, 1, 2, 3, 4, 5, 6, 7, 8, 9, 10, 11, 12], [0, 12])])
def zh.B17 : List Nat := [0, 0, 0, 0, 14, 0, 0, 0, 0, 448, 1022, 2046, 4095, 8191]
theorem zh.tab17 : rtab .any (opsOf Tryd.f55 17) = zh.T17 := by kernel_rfl
theorem zh.bits17 : zfg zh.T17.2 zh.B17 = true := by kernel_rfl
theorem zh.calls (k : Nat) (a0 : ByteArray) (r : List (List ByteArray)) (w : World) (h : zh.f k a0 = some r) :
  Calls Tryd.prog 55 #[.string a0] w fun e w' => ∃ v0_ : Value, e = .returned (v0_) ∧ Kd.S (Kd.slice 9 Kd.string) 42 w' w.heap.size (fun _ => True) v0_ r ∧ Below w.heap.size w w' := by
 have HB := za.mk (Below.refl w.heap.size w)
 have H : (zh.l0 k a0 ([] : List (List ByteArray)) 0) = some r := h
 clear h
 have H' := za.mk H
 clear H
 go_enter Tryd.func55, Tryd.ntmps55
 go_wp2
 (try simp only [Act.put, List.setIfInBounds_toArray, List.set_cons_zero, List.set_cons_succ])
 go_loopg [3, 4] k (fun kq v3 v4 w' => ∃ (x3_1 : List (List ByteArray)) (x4_1 : Int), v4 = .int .i64 x4_1 ∧ za (zh.l0 kq a0 x3_1 x4_1 = some r) ∧ za (kq ≤ k) ∧ za (Kd.S (Kd.slice 9 Kd.string) 42 w' w.heap.size (fun _ => True) v3 x3_1) ∧ za (Below w.heap.size w w'))
 case atStart => exact ⟨(([] : List (List ByteArray))), (0), (by rfl), H', ⟨Nat.le_refl _⟩, ⟨by exact Kd.S_nil _ _ _ _ _⟩, ⟨by (with_reducible exact HB.out)⟩⟩
 case round =>
  clear H'
  obtain ⟨x3_1, x4_1, rfl, HA, HK1, HO_3, HB⟩ := hrel
  cases gk with
  | zero => exact absurd HA.out (by simp [zh.l0])
  | succ k1 =>
   have H := HA.out
   clear HA
   simp only [zh.l0] at H
   by_cases c2 : x4_1 < (a0.size : Int)
   ·rw [if_pos c2] at H
    have c2b0 : decide (x4_1 < (a0.size : Int)) = true := decide_eq_true c2
    clear c2
    by_cases c3 : 0 ≤ x4_1
    ·rw [if_pos c3] at H
     have c3b0 : decide (0 ≤ x4_1) = true := decide_eq_true c3
     clear c3
     by_cases c5 : (bt a0 x4_1) = 95
     ·rw [if_pos c5] at H
      have c5b0 : ((bt a0 x4_1) == 95) = true := beq_iff_eq.mpr c5
      have c5b1 : ((bt a0 x4_1) != 95) = false := bne_eq_false_iff_eq.mpr c5
      clear c5
      obtain ⟨y110, hy110⟩ : ∃ y_ : List ByteArray, y_ = (([(⟨#[97, 108, 112, 104, 97]⟩ : ByteArray), (⟨#[98, 101, 116, 97]⟩ : ByteArray), (⟨#[112, 114, 101]⟩ : ByteArray), (⟨#[114, 99]⟩ : ByteArray), (⟨#[99, 118, 115]⟩ : ByteArray), (⟨#[115, 118, 110]⟩ : ByteArray), (⟨#[103, 105, 116]⟩ : ByteArray), (⟨#[104, 103]⟩ : ByteArray), (⟨#[112]⟩ : ByteArray)] : List ByteArray)) := ⟨_, rfl⟩
      replace H : (zh.l1 k1 a0 x3_1 x4_1 (⟨#[]⟩ : ByteArray) y110 (y110.length : Int) 0) = some r := by (have H2_ := (Option.bind_some _ _).symm.trans H; rw [hy110]; with_reducible exact H2_)
      have Ny110 := za.mk hy110
      clear hy110
      have H' := za.mk H
      clear H
      have p4 : 0 ≤ (x4_1 : Int) := of_decide_eq_true (by (with_reducible assumption))
      have q4 : x4_1 < (a0.size : Int) := of_decide_eq_true (by (with_reducible assumption))
      have hx4 := bt_at a0 x4_1
      replace p4 := eq_true p4
      replace q4 := eq_true q4
      go_wp2_with (((with_reducible refine zjb (N := 20) rfl ?_); refine Kd.R_lit Kd.string _ 9 ?hg (N := 20) ?hd (xs := ([(⟨#[97, 108, 112, 104, 97]⟩ : ByteArray), (⟨#[98, 101, 116, 97]⟩ : ByteArray), (⟨#[112, 114, 101]⟩ : ByteArray), (⟨#[114, 99]⟩ : ByteArray), (⟨#[99, 118, 115]⟩ : ByteArray), (⟨#[115, 118, 110]⟩ : ByteArray), (⟨#[103, 105, 116]⟩ : ByteArray), (⟨#[104, 103]⟩ : ByteArray), (⟨#[112]⟩ : ByteArray)] : List ByteArray)) (inner := [.string (⟨#[97, 108, 112, 104, 97]⟩ : ByteArray), .string (⟨#[98, 101, 116, 97]⟩ : ByteArray), .string (⟨#[112, 114, 101]⟩ : ByteArray), .string (⟨#[114, 99]⟩ : ByteArray), .string (⟨#[99, 118, 115]⟩ : ByteArray), .string (⟨#[115, 118, 110]⟩ : ByteArray), .string (⟨#[103, 105, 116]⟩ : ByteArray), .string (⟨#[104, 103]⟩ : ByteArray), .string (⟨#[112]⟩ : ByteArray)]) (ok := fun _ => True) (okp := fun _ => True) ?hr ?hp (fun _ hk => hk) trivial (Below.refl _ _) (Nat.le_refl _) (by simp) ?_; (case hd => rfl); (case hg => rfl); (case hr => first | (go_simp; done) | (go_simp; rfl)); (case hp => exact (Reps.one (show Kd.M Kd.string _ _ _ (⟨#[97, 108, 112, 104, 97]⟩ : ByteArray) [.string (⟨#[97, 108, 112, 104, 97]⟩ : ByteArray)] from rfl) (Reps.one (show Kd.M Kd.string _ _ _ (⟨#[98, 101, 116, 97]⟩ : ByteArray) [.string (⟨#[98, 101, 116, 97]⟩ : ByteArray)] from rfl) (Reps.one (show Kd.M Kd.string _ _ _ (⟨#[112, 114, 101]⟩ : ByteArray) [.string (⟨#[112, 114, 101]⟩ : ByteArray)] from rfl) (Reps.one (show Kd.M Kd.string _ _ _ (⟨#[114, 99]⟩ : ByteArray) [.string (⟨#[114, 99]⟩ : ByteArray)] from rfl) (Reps.one (show Kd.M Kd.string _ _ _ (⟨#[99, 118, 115]⟩ : ByteArray) [.string (⟨#[99, 118, 115]⟩ : ByteArray)] from rfl) (Reps.one (show Kd.M Kd.string _ _ _ (⟨#[115, 118, 110]⟩ : ByteArray) [.string (⟨#[115, 118, 110]⟩ : ByteArray)] from rfl) (Reps.one (show Kd.M Kd.string _ _ _ (⟨#[103, 105, 116]⟩ : ByteArray) [.string (⟨#[103, 105, 116]⟩ : ByteArray)] from rfl) (Reps.one (show Kd.M Kd.string _ _ _ (⟨#[104, 103]⟩ : ByteArray) [.string (⟨#[104, 103]⟩ : ByteArray)] from rfl) (Reps.one (show Kd.M Kd.string _ _ _ (⟨#[112]⟩ : ByteArray) [.string (⟨#[112]⟩ : ByteArray)] from rfl) (Reps.none _ _))))))))))); intro v111 w6 ho7 hb hg_ hnew_; clear hg_ hnew_; (first | rw [← Ny110.out] at ho7 | (simp only [Int.reduceToNat] at ho7; rw [← Ny110.out] at ho7)); replace HO_3 := za.mk (Kd.S_elder' (by (with_reducible repeat (first | apply Kd.S_alloc | apply Kd.S_drewN | apply Kd.S_drew)); exact HO_3.out) (Kd.R_base ho7) hb); have HO112 := za.mk (Kd.R_lower ho7 (zl (by (with_reducible exact HB.out)))); replace HB := za.mk (zm (by (with_reducible exact HB.out)) hb); clear hb ho7; obtain ⟨Ao8, co8, eo8⟩ := Kd.R_slice HO112.out; subst eo8))
      (try simp only [Act.put, List.setIfInBounds_toArray, List.set_cons_zero, List.set_cons_succ])
      go_loopg [5, 22] k1 (fun kq v5 v22 w' => ∃ (x5_2 : ByteArray) (x22_2 : Int), v5 = .string x5_2 ∧ v22 = .int .i64 x22_2 ∧ za (zh.l1 kq a0 x3_1 x4_1 x5_2 y110 (y110.length : Int) x22_2 = some r) ∧ za (kq ≤ k1) ∧ za (Kd.S (Kd.slice 9 Kd.string) 42 w' w.heap.size (fun k_ => some k_ ≠ ((.slice Ao8 y110.length co8) : Value).ownBlock) u3 x3_1) ∧ za (Kd.R Kd.string 9 w' w.heap.size (fun _ => True) (.slice Ao8 y110.length co8) y110) ∧ za (Below w.heap.size w w'))
      case atStart => exact ⟨((⟨#[]⟩ : ByteArray)), (0), (by rfl), (by rfl), H', ⟨Nat.le_refl _⟩, ⟨by (with_reducible repeat (first | apply Kd.S_alloc | apply Kd.S_drewN | apply Kd.S_drew)); exact Kd.S_mono HO_3.out (fun _ hk => hk.2)⟩, ⟨by (with_reducible repeat (first | apply Kd.R_alloc | apply Kd.R_drewN | apply Kd.R_drew)); exact HO112.out⟩, ⟨by (with_reducible exact HB.out)⟩⟩
      case round =>
       clear H'
       clear c2b0 c3b0 p4 q4 hx4 c5b0 c5b1
       obtain ⟨x5_2, x22_2, rfl, rfl, HA, HK2, HO_3, HO_20, HB⟩ := hrel
       cases gk with
       | zero => exact absurd HA.out (by simp [zh.l1])
       | succ k2 =>
        have H := HA.out
        clear HA
        simp only [zh.l1] at H
        by_cases c9 : x22_2 < (y110.length : Int)
        ·rw [if_pos c9] at H
         have c9b0 : decide (x22_2 < (y110.length : Int)) = true := decide_eq_true c9
         clear c9
         by_cases c10 : 0 ≤ x22_2
         ·rw [if_pos c10] at H
          have c10b0 : decide (0 ≤ x22_2) = true := decide_eq_true c10
          clear c10
          by_cases c11 : x22_2 < (y110.length : Int)
          ·rw [if_pos c11] at H
           have c11b0 : decide (x22_2 < (y110.length : Int)) = true := decide_eq_true c11
           clear c11
           by_cases c12 : x5_2.toList = ([] : List UInt8)
           ·rw [if_pos c12] at H
            have c12b0 : (x5_2.toList == ([] : List UInt8)) = true := beq_iff_eq.mpr c12
            have c12b1 : (x5_2.toList != ([] : List UInt8)) = false := bne_eq_false_iff_eq.mpr c12
            try have c12b9 : x5_2.toList.isEmpty = true := by simpa using c12b0
            clear c12
            replace H := Option.bind_eq_some_iff.mp H
            obtain ⟨t114, A130, H⟩ := H
            replace H : (if t114 = true then (zh.l1 k2 a0 x3_1 x4_1 (rdOf ByteArray.empty y110 x22_2) y110 (y110.length : Int) (wrap64 (x22_2 + 1))) else (zh.l1 k2 a0 x3_1 x4_1 x5_2 y110 (y110.length : Int) (wrap64 (x22_2 + 1)))) = some r := H
            have A13 := za.mk A130
            clear A130
            by_cases c14 : t114 = true
            ·subst c14
             have H1 : (zh.l1 k2 a0 x3_1 x4_1 (rdOf ByteArray.empty y110 x22_2) y110 (y110.length : Int) (wrap64 (x22_2 + 1))) = some r := by rw [if_pos rfl] at H; exact H
             clear H
             have H := H1
             clear H1
             have H' := za.mk H
             clear H
             have p113 : 0 ≤ (x22_2 : Int) := of_decide_eq_true (by (with_reducible assumption))
             have q113 : x22_2 < (y110.length : Int) := of_decide_eq_true (by (with_reducible assumption))
             obtain ⟨ad113, e113, hx113_0⟩ := Kd.at_string (Kd.R_reads' HO_20.out).2.2 x22_2 p113 q113
             cases e113
             replace p113 := eq_true p113
             replace q113 := eq_true q113
             go_wp2_with ((go_at_call 72; (with_reducible refine (zxb.calls a0 (wrap64 (x4_1 + 1)) (rdOf ByteArray.empty y110 x22_2) true _ A13.out).mono ?_); rintro e w' ⟨rfl, ⟨nd, rfl⟩⟩))
             go_roundg k2
             case measure => have := HK1.out; have := HK2.out; omega
             case rel => exact ⟨(rdOf ByteArray.empty y110 x22_2), (wrap64 (x22_2 + 1)), (by rfl), (by rfl), H', ⟨by have := HK1.out; have := HK2.out; omega⟩, ⟨by (with_reducible repeat (first | apply Kd.S_alloc | apply Kd.S_drewN | apply Kd.S_drew)); exact HO_3.out⟩, ⟨by (with_reducible repeat (first | apply Kd.R_alloc | apply Kd.R_drewN | apply Kd.R_drew)); exact HO_20.out⟩, ⟨by (with_reducible apply ze; with_reducible exact HB.out)⟩⟩
            ·replace c14 := Bool.eq_false_iff.mpr c14
             subst c14
             have H1 : (zh.l1 k2 a0 x3_1 x4_1 x5_2 y110 (y110.length : Int) (wrap64 (x22_2 + 1))) = some r := by rw [if_neg (show ¬ (false = true) by decide)] at H; exact H
             clear H
             have H := H1
             clear H1
             have H' := za.mk H
             clear H
             have p113 : 0 ≤ (x22_2 : Int) := of_decide_eq_true (by (with_reducible assumption))
             have q113 : x22_2 < (y110.length : Int) := of_decide_eq_true (by (with_reducible assumption))
             obtain ⟨ad113, e113, hx113_0⟩ := Kd.at_string (Kd.R_reads' HO_20.out).2.2 x22_2 p113 q113
             cases e113
             replace p113 := eq_true p113
             replace q113 := eq_true q113
             go_wp2_with ((go_at_call 72; (with_reducible refine (zxb.calls a0 (wrap64 (x4_1 + 1)) (rdOf ByteArray.empty y110 x22_2) false _ A13.out).mono ?_); rintro e w' ⟨rfl, ⟨nd, rfl⟩⟩))
             go_roundg k2
             case measure => have := HK1.out; have := HK2.out; omega
             case rel => exact ⟨(x5_2), (wrap64 (x22_2 + 1)), (by rfl), (by rfl), H', ⟨by have := HK1.out; have := HK2.out; omega⟩, ⟨by (with_reducible repeat (first | apply Kd.S_alloc | apply Kd.S_drewN | apply Kd.S_drew)); exact HO_3.out⟩, ⟨by (with_reducible repeat (first | apply Kd.R_alloc | apply Kd.R_drewN | apply Kd.R_drew)); exact HO_20.out⟩, ⟨by (with_reducible apply ze; with_reducible exact HB.out)⟩⟩
           ·rw [if_neg c12] at H
            have c12b0 : (x5_2.toList == ([] : List UInt8)) = false := beq_eq_false_iff_ne.mpr c12
            have c12b1 : (x5_2.toList != ([] : List UInt8)) = true := bne_iff_ne.mpr c12
            try have c12b9 : x5_2.toList.isEmpty = false := by simpa using c12b0
            have H' := za.mk H
            clear H
            have p113 : 0 ≤ (x22_2 : Int) := of_decide_eq_true (by (with_reducible assumption))
            have q113 : x22_2 < (y110.length : Int) := of_decide_eq_true (by (with_reducible assumption))
            obtain ⟨ad113, e113, hx113_0⟩ := Kd.at_string (Kd.R_reads' HO_20.out).2.2 x22_2 p113 q113
            cases e113
            replace p113 := eq_true p113
            replace q113 := eq_true q113
            go_wp2
            go_roundg k2
            case measure => have := HK1.out; have := HK2.out; omega
            case rel => exact ⟨(x5_2), (wrap64 (x22_2 + 1)), (by rfl), (by rfl), H', ⟨by have := HK1.out; have := HK2.out; omega⟩, ⟨by (with_reducible repeat (first | apply Kd.S_alloc | apply Kd.S_drewN | apply Kd.S_drew)); exact HO_3.out⟩, ⟨by (with_reducible repeat (first | apply Kd.R_alloc | apply Kd.R_drewN | apply Kd.R_drew)); exact HO_20.out⟩, ⟨by (with_reducible exact HB.out)⟩⟩
          ·rw [if_neg c11] at H
           exact absurd H (by simp)
         ·rw [if_neg c10] at H
          exact absurd H (by simp)
        ·rw [if_neg c9] at H
         have c9b0 : decide (x22_2 < (y110.length : Int)) = false := decide_eq_false c9
         clear c9
         by_cases c15 : x5_2.toList = ([] : List UInt8)
         ·rw [if_pos c15] at H
          have c15b0 : (x5_2.toList == ([] : List UInt8)) = true := beq_iff_eq.mpr c15
          have c15b1 : (x5_2.toList != ([] : List UInt8)) = false := bne_eq_false_iff_eq.mpr c15
          try have c15b9 : x5_2.toList.isEmpty = true := by simpa using c15b0
          clear c15
          have H' := za.mk H
          clear H
          go_wp2
          go_roundg k2
          case measure => have := HK1.out; have := HK2.out; omega
          case rel => exact ⟨(x3_1), (wrap64 (x4_1 + 1)), (by rfl), H', ⟨by have := HK1.out; have := HK2.out; omega⟩, ⟨by (with_reducible repeat (first | apply Kd.S_alloc | apply Kd.S_drewN | apply Kd.S_drew)); exact Kd.S_mono HO_3.out (fun _ hk => trivial)⟩, ⟨by (with_reducible exact HB.out)⟩⟩
         ·rw [if_neg c15] at H
          have c15b0 : (x5_2.toList == ([] : List UInt8)) = false := beq_eq_false_iff_ne.mpr c15
          have c15b1 : (x5_2.toList != ([] : List UInt8)) = true := bne_iff_ne.mpr c15
          try have c15b9 : x5_2.toList.isEmpty = false := by simpa using c15b0
          replace H := Option.bind_eq_some_iff.mp H
          obtain ⟨t115, A160, H⟩ := H
          replace H : (if 0 ≤ x4_1 then (if x4_1 ≤ t115 then (if t115 ≤ (a0.size : Int) then (if 0 ≤ (wrap64 ((wrap64 (x4_1 + 1)) + (x5_2.size : Int))) then (if (wrap64 ((wrap64 (x4_1 + 1)) + (x5_2.size : Int))) ≤ t115 then (if x3_1.length < 5864062014805 then (zh.l0 k2 a0 (x3_1 ++ [(([a0.extract (x4_1 : Int).toNat (t115 : Int).toNat, x5_2, a0.extract ((wrap64 ((wrap64 (x4_1 + 1)) + (x5_2.size : Int))) : Int).toNat (t115 : Int).toNat] : List ByteArray))]) t115) else (none)) else (none)) else (none)) else (none)) else (none)) else (none)) = some r := H
          have A16 := za.mk A160
          clear A160
          by_cases c17 : 0 ≤ x4_1
          ·rw [if_pos c17] at H
           have c17b0 := eq_true c17
           have c17b1 : decide (0 ≤ x4_1) = true := decide_eq_true c17
           clear c17
           by_cases c18 : x4_1 ≤ t115
           ·rw [if_pos c18] at H
            have c18b0 := eq_true c18
            have c18b1 : decide (x4_1 ≤ t115) = true := decide_eq_true c18
            clear c18
            by_cases c19 : t115 ≤ (a0.size : Int)
            ·rw [if_pos c19] at H
             have c19b0 := eq_true c19
             have c19b1 : decide (t115 ≤ (a0.size : Int)) = true := decide_eq_true c19
             clear c19
             obtain ⟨ji20, hji20⟩ : ∃ j_ : Int, (wrap64 ((wrap64 (x4_1 + 1)) + (x5_2.size : Int))) = j_ := ⟨_, rfl⟩
             replace H : (if 0 ≤ (ji20) then (if (ji20) ≤ t115 then (if x3_1.length < 5864062014805 then (zh.l0 k2 a0 (x3_1 ++ [(([a0.extract (x4_1 : Int).toNat (t115 : Int).toNat, x5_2, a0.extract ((ji20) : Int).toNat (t115 : Int).toNat] : List ByteArray))]) t115) else (none)) else (none)) else (none)) = some r := by (rw [hji20] at H; exact H)
             (try rw [hji20] at A16)
             have hji20w : (IntKind.i64.wrap ((wrap64 (x4_1 + 1)) + (x5_2.size : Int))) = ji20 := (i64_w _).trans hji20
             by_cases c21 : 0 ≤ (ji20)
             ·rw [if_pos c21] at H
              have c21b0 := eq_true c21
              have c21b1 : decide (0 ≤ (ji20)) = true := decide_eq_true c21
              clear c21
              by_cases c22 : (ji20) ≤ t115
              ·rw [if_pos c22] at H
               have c22b0 := eq_true c22
               have c22b1 : decide ((ji20) ≤ t115) = true := decide_eq_true c22
               clear c22
               have c23b0 := eq_true (of_decide_eq_true (by (with_reducible assumption)) : t115 ≤ (a0.size : Int))
               obtain ⟨y116, hy116⟩ : ∃ y_ : List ByteArray, y_ = (([a0.extract (x4_1 : Int).toNat (t115 : Int).toNat, x5_2, a0.extract ((ji20) : Int).toNat (t115 : Int).toNat] : List ByteArray)) := ⟨_, rfl⟩
               replace H : (if x3_1.length < 5864062014805 then (zh.l0 k2 a0 (x3_1 ++ [y116]) t115) else (none)) = some r := by (rw [hy116]; with_reducible exact H)
               have Ny116 := za.mk hy116
               clear hy116
               by_cases c24 : x3_1.length < 5864062014805
               ·rw [if_pos c24] at H
                have LMc24 := za.mk c24
                clear c24
                obtain ⟨y119, hy119⟩ : ∃ y_ : List (List ByteArray), y_ = (x3_1 ++ [y116]) := ⟨_, rfl⟩
                replace H : (zh.l0 k2 a0 y119 t115) = some r := by (rw [hy119]; with_reducible exact H)
                have Ny119 := za.mk hy119
                clear hy119
                have H' := za.mk H
                clear H
                try go_wp2_with (((with_reducible refine zab (f := 68) rfl ?_); refine zjc (some 48) rfl rfl Tryd.func68 (by kernel_rfl) rfl #[.string a0, .int .i64 ji20] rfl (by (try simp only [List.map_toArray, List.map_cons, List.map_nil]); first | done | (simp only [hji20]; rfl) | rfl | (simp only [List.length_drop, List.length_take]; rfl)) ?_; (with_reducible refine (zdb.calls k2 a0 ji20 t115 _ A16.out).mono ?_); rintro e w' ⟨rfl, ⟨nd, rfl⟩⟩; refine ⟨_, rfl, ?_⟩))
                (try (rw [zsd wr]; generalize hq_ : World.drewN wr _ = wr; have n0_ : za (Kd.R Kd.string 9 wr w.heap.size (fun _ => True) (.slice Ao8 y110.length co8) y110) := ⟨by rw [← hq_]; exact (by (with_reducible repeat (first | apply Kd.R_alloc | apply Kd.R_drewN | apply Kd.R_drew)); exact HO_20.out)⟩; have n1_ : za (Kd.S (Kd.slice 9 Kd.string) 42 wr w.heap.size (fun k_ => some k_ ≠ (.slice Ao8 y110.length co8 : Value).ownBlock) u3 x3_1) := ⟨by rw [← hq_]; exact (by (with_reducible repeat (first | apply Kd.S_alloc | apply Kd.S_drewN | apply Kd.S_drew)); exact HO_3.out)⟩; have n2_ : za (Below w.heap.size w wr) := ⟨by rw [← hq_]; exact (by (with_reducible apply ze; with_reducible exact HB.out))⟩; clear HO_20 HO_3 HB hq_; have HO_20 := n0_; have HO_3 := n1_; have HB := n2_; clear n0_ n1_ n2_))
                replace HO_3 := za.mk (Kd.S_drew HO_3.out)
                replace HO_20 := za.mk (Kd.R_drew HO_20.out)
                replace HB := za.mk (zy HB.out)
                refine zsf (n := 14) (S := fun w' => True) (ds := []) #[false, false, false, false, false, false, false, false, false, false, false, false, false, false] (by kernel_rfl) rfl rfl trivial (fun hHeld => ?_); refine zhf zh.tab17 zh.bits17 (fun HT_ HW_ => ?_)
                generalize wr.drew = w25 at HO_3 HO_20 HB hHeld ⊢
                refine pure_ (i := 0) (N := some 49) (v := ?_) (a' := ?_) #[true, false, false, false, false, false, false, false, false, false, false, false, false, false] rfl rfl (zpb HT_.out (by kernel_rfl)) (fun _ _ _ h => h) (Or.inl ⟨by rfl, ?_⟩) ?_ ?_
                rotate_left
                ·intro w'
                 go_simp
                 with_reducible rfl
                rotate_left
                ·simp only [Act.put, List.setIfInBounds_toArray, List.set_cons_zero, List.set_cons_succ, i64_w, i32_w]
                 rfl
                refine pure_ (i := 1) (N := some 50) (v := ?_) (a' := ?_) #[true, true, false, false, false, false, false, false, false, false, false, false, false, false] rfl rfl (zpb HT_.out (by kernel_rfl)) (fun _ _ _ h => h) (Or.inl ⟨by rfl, ?_⟩) ?_ ?_
                rotate_left
                ·intro w'
                 go_simp
                 with_reducible rfl
                rotate_left
                ·simp only [Act.put, List.setIfInBounds_toArray, List.set_cons_zero, List.set_cons_succ, i64_w, i32_w]
                 rfl
                refine pure_ (i := 2) (N := some 51) (v := ?_) (a' := ?_) #[true, true, true, false, false, false, false, false, false, false, false, false, false, false] rfl rfl (zpb HT_.out (by kernel_rfl)) (fun _ _ _ h => h) (Or.inl ⟨by rfl, ?_⟩) ?_ ?_
                rotate_left
                ·intro w'
                 go_simp
                 with_reducible rfl
                rotate_left
                ·simp only [Act.put, List.setIfInBounds_toArray, List.set_cons_zero, List.set_cons_succ, i64_w, i32_w]
                 rfl
                refine pure_ (i := 3) (N := some 52) (v := ?_) (a' := ?_) #[true, true, true, true, false, false, false, false, false, false, false, false, false, false] rfl rfl (zpb HT_.out (by kernel_rfl)) (fun _ _ _ h => h) (Or.inl ⟨by rfl, ?_⟩) ?_ ?_
                rotate_left
                ·intro w'
                 go_simp
                 with_reducible rfl
                rotate_left
                ·simp only [Act.put, List.setIfInBounds_toArray, List.set_cons_zero, List.set_cons_succ, i64_w, i32_w]
                 rfl
                refine pure_ (i := 4) (N := some 53) (v := ?_) (a' := ?_) #[true, true, true, true, true, false, false, false, false, false, false, false, false, false] rfl rfl (zpb HT_.out (by kernel_rfl)) (fun _ _ _ h => h) (Or.inl ⟨by rfl, ?_⟩) ?_ ?_
                rotate_left
                ·intro w'
                 go_simp
                 with_reducible rfl
                rotate_left
                ·simp only [Act.put, List.setIfInBounds_toArray, List.set_cons_zero, List.set_cons_succ, i64_w, i32_w]
                 rfl
                refine pure_ (i := 5) (N := some 54) (v := ?_) (a' := ?_) #[true, true, true, true, true, true, false, false, false, false, false, false, false, false] rfl rfl (zpb HT_.out (by kernel_rfl)) (fun _ _ _ h => h) (Or.inl ⟨by rfl, ?_⟩) ?_ ?_
                rotate_left
                ·intro w'
                 go_simp
                 with_reducible rfl
                rotate_left
                ·simp only [Act.put, List.setIfInBounds_toArray, List.set_cons_zero, List.set_cons_succ, i64_w, i32_w]
                 rfl
                refine pure_ (i := 6) (N := some 55) (v := ?_) (a' := ?_) #[true, true, true, true, true, true, true, false, false, false, false, false, false, false] rfl rfl (zpb HT_.out (by kernel_rfl)) (fun _ _ _ h => h) (Or.inl ⟨by rfl, ?_⟩) ?_ ?_
                rotate_left
                ·intro w'
                 go_simp
                 with_reducible rfl
                rotate_left
                ·simp only [Act.put, List.setIfInBounds_toArray, List.set_cons_zero, List.set_cons_succ, i64_w, i32_w]
                 rfl
                refine pure_ (i := 7) (N := some 56) (v := ?_) (a' := ?_) #[true, true, true, true, true, true, true, true, false, false, false, false, false, false] rfl rfl (zpb HT_.out (by kernel_rfl)) (fun _ _ _ h => h) (Or.inl ⟨by rfl, ?_⟩) ?_ ?_
                rotate_left
                ·intro w'
                 go_simp
                 with_reducible rfl
                rotate_left
                ·simp only [Act.put, List.setIfInBounds_toArray, List.set_cons_zero, List.set_cons_succ, i64_w, i32_w]
                 rfl
                refine pure_ (i := 8) (N := some 57) (v := ?_) (a' := ?_) #[true, true, true, true, true, true, true, true, true, false, false, false, false, false] rfl rfl (zpb HT_.out (by kernel_rfl)) (fun _ _ _ h => h) (Or.inl ⟨by rfl, ?_⟩) ?_ ?_
                rotate_left
                ·intro w'
                 go_simp
                 with_reducible rfl
                rotate_left
                ·simp only [Act.put, List.setIfInBounds_toArray, List.set_cons_zero, List.set_cons_succ, i64_w, i32_w]
                 rfl
                refine pure_ (i := 9) (N := some 58) (v := ?_) (a' := ?_) #[true, true, true, true, true, true, true, true, true, true, false, false, false, false] rfl rfl (zpb HT_.out (by kernel_rfl)) (fun _ _ _ h => h) (Or.inl ⟨by rfl, ?_⟩) ?_ ?_
                rotate_left
                ·intro w'
                 go_simp
                 with_reducible rfl
                rotate_left
                ·simp only [Act.put, List.setIfInBounds_toArray, List.set_cons_zero, List.set_cons_succ, i64_w, i32_w]
                 rfl
                refine one_ (i := 10) (N := some 59) #[true, true, true, true, true, true, true, true, true, true, true, false, false, false] rfl rfl (zpd HT_.out (by kernel_rfl)) (by decide) (fun K hK => ?_)
                refine Kd.R_lit_step Kd.string _ 9 ?hg (N := 59) ?hd (xs := ([a0.extract (x4_1 : Int).toNat (t115 : Int).toNat, x5_2, a0.extract ((ji20) : Int).toNat (t115 : Int).toNat] : List ByteArray)) (inner := [.string (a0.extract (x4_1 : Int).toNat (t115 : Int).toNat), .string x5_2, .string (a0.extract ((ji20) : Int).toNat (t115 : Int).toNat)]) (ok := fun _ => True) (okp := fun _ => True) ?hr ?hp (fun _ hk => hk) trivial (Below.refl _ _) (Nat.le_refl _) (by simp) ?_; (case hd => rfl); (case hg => rfl); (case hr => first | (go_simp; done) | (go_simp; rfl)); (case hp => exact (Reps.one (show Kd.M Kd.string _ _ _ (a0.extract (x4_1 : Int).toNat (t115 : Int).toNat) [.string (a0.extract (x4_1 : Int).toNat (t115 : Int).toNat)] from rfl) (Reps.one (show Kd.M Kd.string _ _ _ x5_2 [.string x5_2] from rfl) (Reps.one (show Kd.M Kd.string _ _ _ (a0.extract ((ji20) : Int).toNat (t115 : Int).toNat) [.string (a0.extract ((ji20) : Int).toNat (t115 : Int).toNat)] from rfl) (Reps.none _ _)))))
                intro v117 w26 ho27 hb hg_ hnew_
                clear hg_ hnew_
                (first | rw [← Ny116.out] at ho27 | (simp only [Int.reduceToNat] at ho27; rw [← Ny116.out] at ho27))
                have n0_ := za.mk (Kd.S_elder' (by (with_reducible repeat (first | apply Kd.S_alloc | apply Kd.S_drewN | apply Kd.S_drew)); exact HO_3.out) (Kd.R_base ho27) hb)
                have n1_ := za.mk (Kd.R_elder' (by (with_reducible repeat (first | apply Kd.R_alloc | apply Kd.R_drewN | apply Kd.R_drew)); exact HO_20.out) (Kd.R_base ho27) hb)
                have n2_ := za.mk (Kd.R_lower (Kd.R_new' ho27 (Kd.R_lt (by (with_reducible repeat (first | apply Kd.R_alloc | apply Kd.R_drewN | apply Kd.R_drew)); exact HO_20.out))) (zl (by (with_reducible exact HB.out))))
                have n3_ := za.mk (zm (by (with_reducible exact HB.out)) hb)
                clear HO_3
                clear HO_20
                clear HB
                have HO_3 := n0_
                have HO_20 := n1_
                have HO118 := n2_
                have HB := n3_
                clear n0_ n1_ n2_ n3_
                clear hb ho27
                obtain ⟨Ao29, co29, eo29⟩ := Kd.R_slice HO118.out
                (first | subst eo29 | (injection eo29 with f1_ f2_ f3_; have f4_ := f1_.symm; have f5_ := f3_.symm; clear f1_ f2_ f3_; subst f4_; subst f5_))
                refine hK.out _ _ trivial (fun hHeld => ?_)
                clear hK K
                refine norm_ (a' := ?_) ?_ ?_
                rotate_left
                ·show Act.put _ (some 59) _ = _
                 simp only [Act.put, List.setIfInBounds_toArray, List.set_cons_zero, List.set_cons_succ, i64_w, i32_w]
                 rfl
                refine one_ (i := 11) (N := some 60) #[true, true, true, true, true, true, true, true, true, true, true, true, false, false] rfl rfl (zpd HT_.out (by kernel_rfl)) (by decide) (fun K hK => ?_)
                refine value_ (w1 := ?_) (v := ?_) (by rfl) rfl ?_ ?_
                rotate_left 2
                ·go_simp
                 constructor
                 ·rfl
                 ·rfl
                refine hK.out _ _ trivial (fun hHeld => ?_)
                clear hK K
                refine norm_ (a' := ?_) ?_ ?_
                rotate_left
                ·show Act.put _ (some 60) _ = _
                 simp only [Act.put, List.setIfInBounds_toArray, List.set_cons_zero, List.set_cons_succ, i64_w, i32_w]
                 rfl
                refine one_ (i := 12) (N := some 61) #[true, true, true, true, true, true, true, true, true, true, true, true, true, false] rfl rfl (zpd HT_.out (by kernel_rfl)) (by decide) (fun K hK => ?_)
                refine Kd.S_append_step (Kd.slice 9 Kd.string) (w0 := w) w.heap.size (by rfl) (.tmp 49) (.tmp 60) 112 42 (.slice none 0 0) 24 rfl Tryd.underlying112 info42 rfl (by decide) (by omega) u3 x3_1 y116 [.slice Ao29 y116.length co29] (fun k_ => some k_ ≠ (.slice Ao8 y110.length co8 : Value).ownBlock) (fun k_ => some k_ = (.slice Ao29 y116.length co29 : Value).ownBlock) rfl rfl ?aP (fun k_ hk_ => ((Kd.R_mono (ok' := fun k_ => ((fun k_ => some k_ ≠ (.slice Ao8 y110.length co8 : Value).ownBlock)) k_ ∧ some k_ ≠ (u3 : Value).ownBlock) (Kd.R_apart' (HO118.out) (Kd.S_typed HO_3.out) (by decide)) (fun k_ hk => ⟨hk.1.2, hk.2⟩))).1 k_ hk_.symm) ?aF ?aO ?aB ?aS ?aL ?_
                (case aP => exact Kd.M_row (Kd.R_mono (Kd.R_tight rfl (Kd.R_mono (ok' := fun k_ => ((fun k_ => some k_ ≠ (.slice Ao8 y110.length co8 : Value).ownBlock)) k_ ∧ some k_ ≠ (u3 : Value).ownBlock) (Kd.R_apart' (HO118.out) (Kd.S_typed HO_3.out) (by decide)) (fun k_ hk => ⟨hk.1.2, hk.2⟩))) (fun _ h_ => h_)))
                (case aB => exact (by (with_reducible exact HB.out)))
                (case aF => exact (fun k_ hk => Kd.fresh' (Kd.R_lt (by (with_reducible repeat (first | apply Kd.R_alloc | apply Kd.R_drewN | apply Kd.R_drew)); exact HO_20.out)) k_ hk))
                (case aO => exact (by (with_reducible repeat (first | apply Kd.S_alloc | apply Kd.S_drewN | apply Kd.S_drew)); exact Kd.S_mono HO_3.out (fun k_ hk => ⟨hk.1, fun e_ => hk.2 e_⟩)))
                (case aS => exact (zl (by (with_reducible exact HB.out))))
                (case aL => have := LMc24.out; omega)
                intro v120 w28 ho hb hg hat
                rw [← Ny119.out] at ho
                replace HO_20 := za.mk (Kd.R_over' (by (with_reducible repeat (first | apply Kd.R_alloc | apply Kd.R_drewN | apply Kd.R_drew)); exact HO_20.out) (Kd.S_typed (by (with_reducible repeat (first | apply Kd.S_alloc | apply Kd.S_drewN | apply Kd.S_drew)); exact HO_3.out)) (by decide) hg)
                have HO121 := za.mk ho
                replace HB := za.mk hb
                clear HO_3 HO118
                clear ho hb hg hat
                refine hK.out _ _ trivial (fun hHeld => ?_)
                clear hK K
                refine norm_ (a' := ?_) ?_ ?_
                rotate_left
                ·show Act.put _ (some 61) _ = _
                 simp only [Act.put, List.setIfInBounds_toArray, List.set_cons_zero, List.set_cons_succ, i64_w, i32_w]
                 rfl
                refine pure_ (i := 13) (N := some 3) (v := ?_) (a' := ?_) #[true, true, true, true, true, true, true, true, true, true, true, true, true, true] rfl rfl (zpb HT_.out (by kernel_rfl)) (fun _ _ _ h => h) (Or.inl ⟨by rfl, ?_⟩) ?_ ?_
                rotate_left
                ·intro w'
                 go_simp
                 with_reducible rfl
                rotate_left
                ·simp only [Act.put, List.setIfInBounds_toArray, List.set_cons_zero, List.set_cons_succ, i64_w, i32_w]
                 rfl
                refine done_ (ztg HT_.out (by kernel_rfl)) ?_
                try go_wp2
                go_roundg k2
                case measure => have := HK1.out; have := HK2.out; omega
                case rel => exact ⟨(y119), (t115), (by rfl), H', ⟨by have := HK1.out; have := HK2.out; omega⟩, ⟨by (with_reducible repeat (first | apply Kd.S_alloc | apply Kd.S_drewN | apply Kd.S_drew)); exact Kd.S_mono HO121.out (fun _ hk => trivial)⟩, ⟨by (with_reducible exact HB.out)⟩⟩
               ·rw [if_neg c24] at H
                exact absurd H (by simp)
              ·rw [if_neg c22] at H
               exact absurd H (by simp)
             ·rw [if_neg c21] at H
              exact absurd H (by simp)
            ·rw [if_neg c19] at H
             exact absurd H (by simp)
           ·rw [if_neg c18] at H
            exact absurd H (by simp)
          ·rw [if_neg c17] at H
           exact absurd H (by simp)
     ·rw [if_neg c5] at H
      have c5b0 : ((bt a0 x4_1) == 95) = false := beq_eq_false_iff_ne.mpr c5
      have c5b1 : ((bt a0 x4_1) != 95) = true := bne_iff_ne.mpr c5
      have H' := za.mk H
      clear H
      have p4 : 0 ≤ (x4_1 : Int) := of_decide_eq_true (by (with_reducible assumption))
      have q4 : x4_1 < (a0.size : Int) := of_decide_eq_true (by (with_reducible assumption))
      have hx4 := bt_at a0 x4_1
      replace p4 := eq_true p4
      replace q4 := eq_true q4
      go_wp2
      go_roundg k1
      case measure => have := HK1.out; omega
      case rel => exact ⟨(x3_1), (wrap64 (x4_1 + 1)), (by rfl), H', ⟨by have := HK1.out; omega⟩, ⟨by (with_reducible repeat (first | apply Kd.S_alloc | apply Kd.S_drewN | apply Kd.S_drew)); exact HO_3.out⟩, ⟨by (with_reducible exact HB.out)⟩⟩
    ·rw [if_neg c3] at H
     exact absurd H (by simp)
   ·rw [if_neg c2] at H
    have c2b0 : decide (x4_1 < (a0.size : Int)) = false := decide_eq_false c2
    clear c2
    obtain rfl := Option.some.inj H
    go_wp2
    go_ret
    exact ⟨_, by rfl, by (with_reducible repeat (first | apply Kd.S_alloc | apply Kd.S_drewN | apply Kd.S_drew)); exact HO_3.out, by (with_reducible exact HB.out)⟩
def zp.l0 : Nat → ByteArray → List ByteArray → List ByteArray → Int → Int → Option (Int)
 | 0, _, _, _, _, _ => none
 | k + 1, x0, x3, x7, x8, x9 => if x9 < x8 then (if 0 ≤ x9 then (if x9 < (x7.length : Int) then (if x0.toList = (rdOf ByteArray.empty x7 x9).toList then (some x9) else (zp.l0 k x0 x3 x7 x8 (wrap64 (x9 + 1)))) else (none)) else (none)) else (some (x3.length : Int))
def zp.f (k : Nat) (a0 : ByteArray) : Option (Int) := (some (([(⟨#[97, 108, 112, 104, 97]⟩ : ByteArray), (⟨#[98, 101, 116, 97]⟩ : ByteArray), (⟨#[112, 114, 101]⟩ : ByteArray), (⟨#[114, 99]⟩ : ByteArray), (⟨#[]⟩ : ByteArray), (⟨#[99, 118, 115]⟩ : ByteArray), (⟨#[115, 118, 110]⟩ : ByteArray), (⟨#[103, 105, 116]⟩ : ByteArray), (⟨#[104, 103]⟩ : ByteArray)] : List ByteArray) : List ByteArray)).bind fun y122 => (zp.l0 k a0 y122 y122 (y122.length : Int) 0)
theorem zp.calls (k : Nat) (a0 : ByteArray) (r : Int) (w : World) (h : zp.f k a0 = some r) :
  Calls Tryd.prog 56 #[.string a0] w fun e w' => e = .returned (.int .i64 r) ∧ Below w.heap.size w w' := by
 have HB := za.mk (Below.refl w.heap.size w)
 have H : ((some (([(⟨#[97, 108, 112, 104, 97]⟩ : ByteArray), (⟨#[98, 101, 116, 97]⟩ : ByteArray), (⟨#[112, 114, 101]⟩ : ByteArray), (⟨#[114, 99]⟩ : ByteArray), (⟨#[]⟩ : ByteArray), (⟨#[99, 118, 115]⟩ : ByteArray), (⟨#[115, 118, 110]⟩ : ByteArray), (⟨#[103, 105, 116]⟩ : ByteArray), (⟨#[104, 103]⟩ : ByteArray)] : List ByteArray) : List ByteArray)).bind fun y122 => (zp.l0 k a0 y122 y122 (y122.length : Int) 0)) = some r := h
 clear h
 obtain ⟨y122, hy122⟩ : ∃ y_ : List ByteArray, y_ = (([(⟨#[97, 108, 112, 104, 97]⟩ : ByteArray), (⟨#[98, 101, 116, 97]⟩ : ByteArray), (⟨#[112, 114, 101]⟩ : ByteArray), (⟨#[114, 99]⟩ : ByteArray), (⟨#[]⟩ : ByteArray), (⟨#[99, 118, 115]⟩ : ByteArray), (⟨#[115, 118, 110]⟩ : ByteArray), (⟨#[103, 105, 116]⟩ : ByteArray), (⟨#[104, 103]⟩ : ByteArray)] : List ByteArray)) := ⟨_, rfl⟩
 replace H : (zp.l0 k a0 y122 y122 (y122.length : Int) 0) = some r := by (have H2_ := (Option.bind_some _ _).symm.trans H; rw [hy122]; with_reducible exact H2_)
 have Ny122 := za.mk hy122
 clear hy122
 have H' := za.mk H
 clear H
 go_enter Tryd.func56, Tryd.ntmps56
 go_wp2_with (((with_reducible refine zjb (N := 6) rfl ?_); refine Kd.R_lit Kd.string _ 9 ?hg (N := 6) ?hd (xs := ([(⟨#[97, 108, 112, 104, 97]⟩ : ByteArray), (⟨#[98, 101, 116, 97]⟩ : ByteArray), (⟨#[112, 114, 101]⟩ : ByteArray), (⟨#[114, 99]⟩ : ByteArray), (⟨#[]⟩ : ByteArray), (⟨#[99, 118, 115]⟩ : ByteArray), (⟨#[115, 118, 110]⟩ : ByteArray), (⟨#[103, 105, 116]⟩ : ByteArray), (⟨#[104, 103]⟩ : ByteArray)] : List ByteArray)) (inner := [.string (⟨#[97, 108, 112, 104, 97]⟩ : ByteArray), .string (⟨#[98, 101, 116, 97]⟩ : ByteArray), .string (⟨#[112, 114, 101]⟩ : ByteArray), .string (⟨#[114, 99]⟩ : ByteArray), .string ⟨#[]⟩, .string (⟨#[99, 118, 115]⟩ : ByteArray), .string (⟨#[115, 118, 110]⟩ : ByteArray), .string (⟨#[103, 105, 116]⟩ : ByteArray), .string (⟨#[104, 103]⟩ : ByteArray)]) (ok := fun _ => True) (okp := fun _ => True) ?hr ?hp (fun _ hk => hk) trivial (Below.refl _ _) (Nat.le_refl _) (by simp) ?_; (case hd => rfl); (case hg => rfl); (case hr => first | (go_simp; done) | (go_simp; rfl)); (case hp => exact (Reps.one (show Kd.M Kd.string _ _ _ (⟨#[97, 108, 112, 104, 97]⟩ : ByteArray) [.string (⟨#[97, 108, 112, 104, 97]⟩ : ByteArray)] from rfl) (Reps.one (show Kd.M Kd.string _ _ _ (⟨#[98, 101, 116, 97]⟩ : ByteArray) [.string (⟨#[98, 101, 116, 97]⟩ : ByteArray)] from rfl) (Reps.one (show Kd.M Kd.string _ _ _ (⟨#[112, 114, 101]⟩ : ByteArray) [.string (⟨#[112, 114, 101]⟩ : ByteArray)] from rfl) (Reps.one (show Kd.M Kd.string _ _ _ (⟨#[114, 99]⟩ : ByteArray) [.string (⟨#[114, 99]⟩ : ByteArray)] from rfl) (Reps.one (show Kd.M Kd.string _ _ _ (⟨#[]⟩ : ByteArray) [.string ⟨#[]⟩] from rfl) (Reps.one (show Kd.M Kd.string _ _ _ (⟨#[99, 118, 115]⟩ : ByteArray) [.string (⟨#[99, 118, 115]⟩ : ByteArray)] from rfl) (Reps.one (show Kd.M Kd.string _ _ _ (⟨#[115, 118, 110]⟩ : ByteArray) [.string (⟨#[115, 118, 110]⟩ : ByteArray)] from rfl) (Reps.one (show Kd.M Kd.string _ _ _ (⟨#[103, 105, 116]⟩ : ByteArray) [.string (⟨#[103, 105, 116]⟩ : ByteArray)] from rfl) (Reps.one (show Kd.M Kd.string _ _ _ (⟨#[104, 103]⟩ : ByteArray) [.string (⟨#[104, 103]⟩ : ByteArray)] from rfl) (Reps.none _ _))))))))))); intro v123 w2 ho3 hb hg_ hnew_; clear hg_ hnew_; (first | rw [← Ny122.out] at ho3 | (simp only [Int.reduceToNat] at ho3; rw [← Ny122.out] at ho3)); have HO124 := za.mk (Kd.R_lower ho3 (zl (by (with_reducible exact HB.out)))); replace HB := za.mk (zm (by (with_reducible exact HB.out)) hb); clear hb ho3; obtain ⟨Ao4, co4, eo4⟩ := Kd.R_slice HO124.out; subst eo4))
 (try simp only [Act.put, List.setIfInBounds_toArray, List.set_cons_zero, List.set_cons_succ])
 go_loopg [9] k (fun kq v9 w' => ∃ (x9_1 : Int), v9 = .int .i64 x9_1 ∧ za (zp.l0 kq a0 y122 y122 (y122.length : Int) x9_1 = some r) ∧ za (kq ≤ k) ∧ za (Kd.R Kd.string 9 w' w.heap.size (fun _ => True) (.slice Ao4 y122.length co4) y122) ∧ za (Kd.R Kd.string 9 w' w.heap.size (fun _ => True) (.slice Ao4 y122.length co4) y122) ∧ za (Below w.heap.size w w'))
 case atStart => exact ⟨(0), (by rfl), H', ⟨Nat.le_refl _⟩, ⟨by (with_reducible repeat (first | apply Kd.R_alloc | apply Kd.R_drewN | apply Kd.R_drew)); exact HO124.out⟩, ⟨by (with_reducible repeat (first | apply Kd.R_alloc | apply Kd.R_drewN | apply Kd.R_drew)); exact HO124.out⟩, ⟨by (with_reducible exact HB.out)⟩⟩
 case round =>
  clear H'
  obtain ⟨x9_1, rfl, HA, HK1, HO_3, HO_7, HB⟩ := hrel
  cases gk with
  | zero => exact absurd HA.out (by simp [zp.l0])
  | succ k1 =>
   have H := HA.out
   clear HA
   simp only [zp.l0] at H
   by_cases c5 : x9_1 < (y122.length : Int)
   ·rw [if_pos c5] at H
    have c5b0 : decide (x9_1 < (y122.length : Int)) = true := decide_eq_true c5
    clear c5
    by_cases c6 : 0 ≤ x9_1
    ·rw [if_pos c6] at H
     have c6b0 : decide (0 ≤ x9_1) = true := decide_eq_true c6
     clear c6
     by_cases c7 : x9_1 < (y122.length : Int)
     ·rw [if_pos c7] at H
      have c7b0 : decide (x9_1 < (y122.length : Int)) = true := decide_eq_true c7
      clear c7
      by_cases c8 : a0.toList = (rdOf ByteArray.empty y122 x9_1).toList
      ·rw [if_pos c8] at H
       have c8b0 : (a0.toList == (rdOf ByteArray.empty y122 x9_1).toList) = true := beq_iff_eq.mpr c8
       have c8b1 : (a0.toList != (rdOf ByteArray.empty y122 x9_1).toList) = false := bne_eq_false_iff_eq.mpr c8
       clear c8
       obtain rfl := Option.some.inj H
       have p125 : 0 ≤ (x9_1 : Int) := of_decide_eq_true (by (with_reducible assumption))
       have q125 : x9_1 < (y122.length : Int) := of_decide_eq_true (by (with_reducible assumption))
       obtain ⟨ad125, e125, hx125_0⟩ := Kd.at_string (Kd.R_reads' HO_7.out).2.2 x9_1 p125 q125
       cases e125
       replace p125 := eq_true p125
       replace q125 := eq_true q125
       go_wp2
       go_ret
       exact ⟨by rfl, by (with_reducible exact HB.out)⟩
      ·rw [if_neg c8] at H
       have c8b0 : (a0.toList == (rdOf ByteArray.empty y122 x9_1).toList) = false := beq_eq_false_iff_ne.mpr c8
       have c8b1 : (a0.toList != (rdOf ByteArray.empty y122 x9_1).toList) = true := bne_iff_ne.mpr c8
       have H' := za.mk H
       clear H
       have p125 : 0 ≤ (x9_1 : Int) := of_decide_eq_true (by (with_reducible assumption))
       have q125 : x9_1 < (y122.length : Int) := of_decide_eq_true (by (with_reducible assumption))
       obtain ⟨ad125, e125, hx125_0⟩ := Kd.at_string (Kd.R_reads' HO_7.out).2.2 x9_1 p125 q125
       cases e125
       replace p125 := eq_true p125
       replace q125 := eq_true q125
       go_wp2
       go_roundg k1
       case measure => have := HK1.out; omega
       case rel => exact ⟨(wrap64 (x9_1 + 1)), (by rfl), H', ⟨by have := HK1.out; omega⟩, ⟨by (with_reducible repeat (first | apply Kd.R_alloc | apply Kd.R_drewN | apply Kd.R_drew)); exact HO_3.out⟩, ⟨by (with_reducible repeat (first | apply Kd.R_alloc | apply Kd.R_drewN | apply Kd.R_drew)); exact HO_7.out⟩, ⟨by (with_reducible exact HB.out)⟩⟩
     ·rw [if_neg c7] at H
      exact absurd H (by simp)
    ·rw [if_neg c6] at H
     exact absurd H (by simp)
   ·rw [if_neg c5] at H
    have c5b0 : decide (x9_1 < (y122.length : Int)) = false := decide_eq_false c5
    clear c5
    obtain rfl := Option.some.inj H
    go_wp2
    go_ret
    exact ⟨by rfl, by (with_reducible exact HB.out)⟩
end Go.Proofs.YtapaijpglfmfgaaDoor.S
end
section
namespace Go.Proofs.YtapaijpglfmfgaaDoor.S
open Go.RowKit YtapaijpglfmfgaaDoorH YtapaijpglfmfgaaDoorW.PrintWords YtapaijpglfmfgaaDoorW.PrintLast YtapaijpglfmfgaaDoorW.PrintMore
attribute [local go_sem] zsc zrc zbd zad zic zhc zqc ztc
mutual
def zr.j0 : Nat → ByteArray → Bool → Option (ByteArray)
 | 0, _, _ => none
 | k + 1, x0, x10 => if x10 = true then (some (⟨#[]⟩ : ByteArray)) else (zr.l0 k x0 1)
def zr.l0 : Nat → ByteArray → Int → Option (ByteArray)
 | 0, _, _ => none
 | k + 1, x0, x3 => if x3 < (x0.size : Int) then (if 0 ≤ x3 then ((zzb.f (bt x0 x3)).bind fun t126 => (if t126 = true then (zr.l0 k x0 (wrap64 (x3 + 1))) else (if (bt x0 x3) ≥ 97 then (if (bt x0 x3) ≤ 102 then (zr.l0 k x0 (wrap64 (x3 + 1))) else (if x3 = 1 then (some (⟨#[]⟩ : ByteArray)) else (if x3 ≤ (x0.size : Int) then (some (x0.extract 0 (x3 : Int).toNat)) else (none)))) else (if x3 = 1 then (some (⟨#[]⟩ : ByteArray)) else (if x3 ≤ (x0.size : Int) then (some (x0.extract 0 (x3 : Int).toNat)) else (none)))))) else (none)) else (if x3 = 1 then (some (⟨#[]⟩ : ByteArray)) else (if 0 ≤ x3 then (if x3 ≤ (x0.size : Int) then (some (x0.extract 0 (x3 : Int).toNat)) else (none)) else (none)))
end
def zr.f (k : Nat) (a0 : ByteArray) : Option (ByteArray) := if a0.toList = ([] : List UInt8) then (zr.j0 k a0 true) else (if 0 < (a0.size : Int) then (zr.j0 k a0 ((bt a0 0) != 126)) else (none))
theorem zr.calls (k : Nat) (a0 : ByteArray) (r : ByteArray) (w : World) (h : zr.f k a0 = some r) :
  Calls Tryd.prog 57 #[.string a0] w fun e w' => e = .returned (.string r) ∧ zt w w' := by
 have H : (if a0.toList = ([] : List UInt8) then (zr.j0 k a0 true) else (if 0 < (a0.size : Int) then (zr.j0 k a0 ((bt a0 0) != 126)) else (none))) = some r := h
 clear h
 have HC2 := za.mk H
 clear H
 go_enter Tryd.func57, Tryd.ntmps57
 go_upto_region 1 with (fail)
 go_cut [10] (fun v10 wc => ∃ (kq : Nat) (x10_1 : Bool), v10 = .bool x10_1 ∧ za (zr.j0 kq a0 x10_1 = some r) ∧ za (kq ≤ k) ∧ zt w wc)
 case first =>
  have H := HC2.out
  clear HC2
  by_cases c3 : a0.toList = ([] : List UInt8)
  ·rw [if_pos c3] at H
   have c3b0 : (a0.toList == ([] : List UInt8)) = true := beq_iff_eq.mpr c3
   have c3b1 : (a0.toList != ([] : List UInt8)) = false := bne_eq_false_iff_eq.mpr c3
   try have c3b9 : a0.toList.isEmpty = true := by simpa using c3b0
   clear c3
   (first | rw [c3b0] | (simp only [i64_w, i32_w]; rw [c3b0]) | rw [c3b9] | skip)
   have H' := za.mk H
   clear H
   go_wp2
   go_meet
   case rel => exact ⟨_, (true), (by rfl), H', ⟨by omega⟩, by repeat (first | exact zt.refl _ | apply zt.step)⟩
  ·rw [if_neg c3] at H
   have c3b0 : (a0.toList == ([] : List UInt8)) = false := beq_eq_false_iff_ne.mpr c3
   have c3b1 : (a0.toList != ([] : List UInt8)) = true := bne_iff_ne.mpr c3
   try have c3b9 : a0.toList.isEmpty = false := by simpa using c3b0
   (first | rw [c3b0] | (simp only [i64_w, i32_w]; rw [c3b0]) | rw [c3b9] | skip)
   by_cases c4 : 0 < (a0.size : Int)
   ·rw [if_pos c4] at H
    have c4b0 : decide (0 < (a0.size : Int)) = true := decide_eq_true c4
    have c4b1 : decide (0 < a0.size) = true := decide_eq_true (by omega)
    clear c4
    have H' := za.mk H
    clear H
    have p5 : 0 ≤ (0 : Int) := (by omega)
    have q5 : 0 < a0.size := (by have : (0 : Int) < (a0.size : Int) := of_decide_eq_true (by (with_reducible assumption)); omega)
    have hx5 : ∀ h : 0 < a0.size, ((a0[0]'h).toNat : Int) = bt a0 0 := bt_at a0 0
    clear p5
    have qi5 : (0 < (a0.size : Int)) = True := eq_true (of_decide_eq_true (by (with_reducible assumption)))
    replace q5 := eq_true q5
    go_wp2
    go_meet
    case rel => exact ⟨_, (((bt a0 0) != 126)), (by rfl), H', ⟨by omega⟩, by repeat (first | exact zt.refl _ | apply zt.step)⟩
   ·rw [if_neg c4] at H
    exact absurd H (by simp)
 case rest =>
  clear HC2
  obtain ⟨kq, x10_1, rfl, HA, HJ1, ⟨mc1, rfl⟩⟩ := hcut
  cases kq with
  | zero => exact absurd HA.out (by simp [zr.j0])
  | succ kj1 =>
   have H := HA.out
   clear HA
   simp only [zr.j0] at H
   by_cases c6 : x10_1 = true
   ·subst c6
    have H1 : (some (⟨#[]⟩ : ByteArray)) = some r := by rw [if_pos rfl] at H; exact H
    clear H
    have H := H1
    clear H1
    obtain rfl := Option.some.inj H
    go_wp2
    go_ret
    exact ⟨by rfl, by repeat (first | exact zt.refl _ | apply zt.step)⟩
   ·replace c6 := Bool.eq_false_iff.mpr c6
    subst c6
    have H1 : (zr.l0 kj1 a0 1) = some r := by rw [if_neg (show ¬ (false = true) by decide)] at H; exact H
    clear H
    have H := H1
    clear H1
    have H' := za.mk H
    clear H
    go_wp2
    (try simp only [Act.put, List.setIfInBounds_toArray, List.set_cons_zero, List.set_cons_succ])
    go_loopg [3] kj1 (fun kq v3 w' => ∃ (x3_2 : Int), v3 = .int .i64 x3_2 ∧ za (zr.l0 kq a0 x3_2 = some r) ∧ za (kq ≤ kj1) ∧ zt w w')
    case atStart => exact ⟨(1), (by rfl), H', ⟨Nat.le_refl _⟩, by repeat (first | exact zt.refl _ | apply zt.step)⟩
    case round =>
     clear H'
     obtain ⟨x3_2, rfl, HA, HK2, ⟨m2, rfl⟩⟩ := hrel
     cases gk with
     | zero => exact absurd HA.out (by simp [zr.l0])
     | succ k2 =>
      have H := HA.out
      clear HA
      simp only [zr.l0] at H
      by_cases c7 : x3_2 < (a0.size : Int)
      ·rw [if_pos c7] at H
       have c7b0 : decide (x3_2 < (a0.size : Int)) = true := decide_eq_true c7
       clear c7
       by_cases c8 : 0 ≤ x3_2
       ·rw [if_pos c8] at H
        have c8b0 : decide (0 ≤ x3_2) = true := decide_eq_true c8
        clear c8
        replace H := Option.bind_eq_some_iff.mp H
        obtain ⟨t126, A100, H⟩ := H
        replace H : (if t126 = true then (zr.l0 k2 a0 (wrap64 (x3_2 + 1))) else (if (bt a0 x3_2) ≥ 97 then (if (bt a0 x3_2) ≤ 102 then (zr.l0 k2 a0 (wrap64 (x3_2 + 1))) else (if x3_2 = 1 then (some (⟨#[]⟩ : ByteArray)) else (if x3_2 ≤ (a0.size : Int) then (some (a0.extract 0 (x3_2 : Int).toNat)) else (none)))) else (if x3_2 = 1 then (some (⟨#[]⟩ : ByteArray)) else (if x3_2 ≤ (a0.size : Int) then (some (a0.extract 0 (x3_2 : Int).toNat)) else (none))))) = some r := H
        have A10 := za.mk A100
        clear A100
        by_cases c11 : t126 = true
        ·subst c11
         have H1 : (zr.l0 k2 a0 (wrap64 (x3_2 + 1))) = some r := by rw [if_pos rfl] at H; exact H
         clear H
         have H := H1
         clear H1
         have H' := za.mk H
         clear H
         have p9 : 0 ≤ (x3_2 : Int) := of_decide_eq_true (by (with_reducible assumption))
         have q9 : x3_2 < (a0.size : Int) := of_decide_eq_true (by (with_reducible assumption))
         have hx9 := bt_at a0 x3_2
         replace p9 := eq_true p9
         replace q9 := eq_true q9
         go_wp2_with ((go_at_call 73; (with_reducible refine (zzb.calls (bt a0 x3_2) true _ A10.out).mono ?_); rintro e w' ⟨rfl, ⟨nd, rfl⟩⟩))
         go_roundg k2
         case measure => have := HJ1.out; have := HK2.out; omega
         case rel => exact ⟨(wrap64 (x3_2 + 1)), (by rfl), H', ⟨by have := HJ1.out; have := HK2.out; omega⟩, by repeat (first | exact zt.refl _ | apply zt.step)⟩
        ·replace c11 := Bool.eq_false_iff.mpr c11
         subst c11
         have H1 : (if (bt a0 x3_2) ≥ 97 then (if (bt a0 x3_2) ≤ 102 then (zr.l0 k2 a0 (wrap64 (x3_2 + 1))) else (if x3_2 = 1 then (some (⟨#[]⟩ : ByteArray)) else (if x3_2 ≤ (a0.size : Int) then (some (a0.extract 0 (x3_2 : Int).toNat)) else (none)))) else (if x3_2 = 1 then (some (⟨#[]⟩ : ByteArray)) else (if x3_2 ≤ (a0.size : Int) then (some (a0.extract 0 (x3_2 : Int).toNat)) else (none)))) = some r := by rw [if_neg (show ¬ (false = true) by decide)] at H; exact H
         clear H
         have H := H1
         clear H1
         by_cases c13 : (bt a0 x3_2) ≥ 97
         ·rw [if_pos c13] at H
          have c13b0 : decide (97 ≤ (bt a0 x3_2)) = true := decide_eq_true c13
          clear c13
          by_cases c15 : (bt a0 x3_2) ≤ 102
          ·rw [if_pos c15] at H
           have c15b0 : decide ((bt a0 x3_2) ≤ 102) = true := decide_eq_true c15
           clear c15
           have H' := za.mk H
           clear H
           have p9 : 0 ≤ (x3_2 : Int) := of_decide_eq_true (by (with_reducible assumption))
           have q9 : x3_2 < (a0.size : Int) := of_decide_eq_true (by (with_reducible assumption))
           have hx9 := bt_at a0 x3_2
           replace p9 := eq_true p9
           replace q9 := eq_true q9
           go_wp2_with ((go_at_call 73; (with_reducible refine (zzb.calls (bt a0 x3_2) false _ A10.out).mono ?_); rintro e w' ⟨rfl, ⟨nd, rfl⟩⟩; have p12 : 0 ≤ (x3_2 : Int) := of_decide_eq_true (by (with_reducible assumption)); have q12 : x3_2 < (a0.size : Int) := of_decide_eq_true (by (with_reducible assumption)); have hx12 := bt_at a0 x3_2; replace p12 := eq_true p12; replace q12 := eq_true q12; have p14 : 0 ≤ (x3_2 : Int) := of_decide_eq_true (by (with_reducible assumption)); have q14 : x3_2 < (a0.size : Int) := of_decide_eq_true (by (with_reducible assumption)); have hx14 := bt_at a0 x3_2; replace p14 := eq_true p14; replace q14 := eq_true q14))
           go_roundg k2
           case measure => have := HJ1.out; have := HK2.out; omega
           case rel => exact ⟨(wrap64 (x3_2 + 1)), (by rfl), H', ⟨by have := HJ1.out; have := HK2.out; omega⟩, by repeat (first | exact zt.refl _ | apply zt.step)⟩
          ·rw [if_neg c15] at H
           have c15b0 : decide ((bt a0 x3_2) ≤ 102) = false := decide_eq_false c15
           clear c15
           by_cases c16 : x3_2 = 1
           ·rw [if_pos c16] at H
            have c16b0 : (x3_2 == 1) = true := beq_iff_eq.mpr c16
            have c16b1 : (x3_2 != 1) = false := bne_eq_false_iff_eq.mpr c16
            clear c16
            obtain rfl := Option.some.inj H
            have p9 : 0 ≤ (x3_2 : Int) := of_decide_eq_true (by (with_reducible assumption))
            have q9 : x3_2 < (a0.size : Int) := of_decide_eq_true (by (with_reducible assumption))
            have hx9 := bt_at a0 x3_2
            replace p9 := eq_true p9
            replace q9 := eq_true q9
            go_wp2_with ((go_at_call 73; (with_reducible refine (zzb.calls (bt a0 x3_2) false _ A10.out).mono ?_); rintro e w' ⟨rfl, ⟨nd, rfl⟩⟩; have p12 : 0 ≤ (x3_2 : Int) := of_decide_eq_true (by (with_reducible assumption)); have q12 : x3_2 < (a0.size : Int) := of_decide_eq_true (by (with_reducible assumption)); have hx12 := bt_at a0 x3_2; replace p12 := eq_true p12; replace q12 := eq_true q12; have p14 : 0 ≤ (x3_2 : Int) := of_decide_eq_true (by (with_reducible assumption)); have q14 : x3_2 < (a0.size : Int) := of_decide_eq_true (by (with_reducible assumption)); have hx14 := bt_at a0 x3_2; replace p14 := eq_true p14; replace q14 := eq_true q14))
            go_ret
            exact ⟨by rfl, by repeat (first | exact zt.refl _ | apply zt.step)⟩
           ·rw [if_neg c16] at H
            have c16b0 : (x3_2 == 1) = false := beq_eq_false_iff_ne.mpr c16
            have c16b1 : (x3_2 != 1) = true := bne_iff_ne.mpr c16
            have c17b0 := eq_true (of_decide_eq_true (by (with_reducible assumption)) : 0 ≤ x3_2)
            by_cases c18 : x3_2 ≤ (a0.size : Int)
            ·rw [if_pos c18] at H
             have c18b0 := eq_true c18
             have c18b1 : decide (x3_2 ≤ (a0.size : Int)) = true := decide_eq_true c18
             clear c18
             obtain rfl := Option.some.inj H
             have p9 : 0 ≤ (x3_2 : Int) := of_decide_eq_true (by (with_reducible assumption))
             have q9 : x3_2 < (a0.size : Int) := of_decide_eq_true (by (with_reducible assumption))
             have hx9 := bt_at a0 x3_2
             replace p9 := eq_true p9
             replace q9 := eq_true q9
             go_wp2_with ((go_at_call 73; (with_reducible refine (zzb.calls (bt a0 x3_2) false _ A10.out).mono ?_); rintro e w' ⟨rfl, ⟨nd, rfl⟩⟩; have p12 : 0 ≤ (x3_2 : Int) := of_decide_eq_true (by (with_reducible assumption)); have q12 : x3_2 < (a0.size : Int) := of_decide_eq_true (by (with_reducible assumption)); have hx12 := bt_at a0 x3_2; replace p12 := eq_true p12; replace q12 := eq_true q12; have p14 : 0 ≤ (x3_2 : Int) := of_decide_eq_true (by (with_reducible assumption)); have q14 : x3_2 < (a0.size : Int) := of_decide_eq_true (by (with_reducible assumption)); have hx14 := bt_at a0 x3_2; replace p14 := eq_true p14; replace q14 := eq_true q14))
             go_ret
             exact ⟨by rfl, by repeat (first | exact zt.refl _ | apply zt.step)⟩
            ·rw [if_neg c18] at H
             exact absurd H (by simp)
         ·rw [if_neg c13] at H
          have c13b0 : decide (97 ≤ (bt a0 x3_2)) = false := decide_eq_false c13
          clear c13
          by_cases c19 : x3_2 = 1
          ·rw [if_pos c19] at H
           have c19b0 : (x3_2 == 1) = true := beq_iff_eq.mpr c19
           have c19b1 : (x3_2 != 1) = false := bne_eq_false_iff_eq.mpr c19
           clear c19
           obtain rfl := Option.some.inj H
           have p9 : 0 ≤ (x3_2 : Int) := of_decide_eq_true (by (with_reducible assumption))
           have q9 : x3_2 < (a0.size : Int) := of_decide_eq_true (by (with_reducible assumption))
           have hx9 := bt_at a0 x3_2
           replace p9 := eq_true p9
           replace q9 := eq_true q9
           go_wp2_with ((go_at_call 73; (with_reducible refine (zzb.calls (bt a0 x3_2) false _ A10.out).mono ?_); rintro e w' ⟨rfl, ⟨nd, rfl⟩⟩; have p12 : 0 ≤ (x3_2 : Int) := of_decide_eq_true (by (with_reducible assumption)); have q12 : x3_2 < (a0.size : Int) := of_decide_eq_true (by (with_reducible assumption)); have hx12 := bt_at a0 x3_2; replace p12 := eq_true p12; replace q12 := eq_true q12))
           go_ret
           exact ⟨by rfl, by repeat (first | exact zt.refl _ | apply zt.step)⟩
          ·rw [if_neg c19] at H
           have c19b0 : (x3_2 == 1) = false := beq_eq_false_iff_ne.mpr c19
           have c19b1 : (x3_2 != 1) = true := bne_iff_ne.mpr c19
           have c20b0 := eq_true (of_decide_eq_true (by (with_reducible assumption)) : 0 ≤ x3_2)
           by_cases c21 : x3_2 ≤ (a0.size : Int)
           ·rw [if_pos c21] at H
            have c21b0 := eq_true c21
            have c21b1 : decide (x3_2 ≤ (a0.size : Int)) = true := decide_eq_true c21
            clear c21
            obtain rfl := Option.some.inj H
            have p9 : 0 ≤ (x3_2 : Int) := of_decide_eq_true (by (with_reducible assumption))
            have q9 : x3_2 < (a0.size : Int) := of_decide_eq_true (by (with_reducible assumption))
            have hx9 := bt_at a0 x3_2
            replace p9 := eq_true p9
            replace q9 := eq_true q9
            go_wp2_with ((go_at_call 73; (with_reducible refine (zzb.calls (bt a0 x3_2) false _ A10.out).mono ?_); rintro e w' ⟨rfl, ⟨nd, rfl⟩⟩; have p12 : 0 ≤ (x3_2 : Int) := of_decide_eq_true (by (with_reducible assumption)); have q12 : x3_2 < (a0.size : Int) := of_decide_eq_true (by (with_reducible assumption)); have hx12 := bt_at a0 x3_2; replace p12 := eq_true p12; replace q12 := eq_true q12))
            go_ret
            exact ⟨by rfl, by repeat (first | exact zt.refl _ | apply zt.step)⟩
           ·rw [if_neg c21] at H
            exact absurd H (by simp)
       ·rw [if_neg c8] at H
        exact absurd H (by simp)
      ·rw [if_neg c7] at H
       have c7b0 : decide (x3_2 < (a0.size : Int)) = false := decide_eq_false c7
       clear c7
       by_cases c22 : x3_2 = 1
       ·rw [if_pos c22] at H
        have c22b0 : (x3_2 == 1) = true := beq_iff_eq.mpr c22
        have c22b1 : (x3_2 != 1) = false := bne_eq_false_iff_eq.mpr c22
        clear c22
        obtain rfl := Option.some.inj H
        go_wp2
        go_ret
        exact ⟨by rfl, by repeat (first | exact zt.refl _ | apply zt.step)⟩
       ·rw [if_neg c22] at H
        have c22b0 : (x3_2 == 1) = false := beq_eq_false_iff_ne.mpr c22
        have c22b1 : (x3_2 != 1) = true := bne_iff_ne.mpr c22
        by_cases c23 : 0 ≤ x3_2
        ·rw [if_pos c23] at H
         have c23b0 := eq_true c23
         have c23b1 : decide (0 ≤ x3_2) = true := decide_eq_true c23
         clear c23
         by_cases c24 : x3_2 ≤ (a0.size : Int)
         ·rw [if_pos c24] at H
          have c24b0 := eq_true c24
          have c24b1 : decide (x3_2 ≤ (a0.size : Int)) = true := decide_eq_true c24
          clear c24
          obtain rfl := Option.some.inj H
          go_wp2
          go_ret
          exact ⟨by rfl, by repeat (first | exact zt.refl _ | apply zt.step)⟩
         ·rw [if_neg c24] at H
          exact absurd H (by simp)
        ·rw [if_neg c23] at H
         exact absurd H (by simp)
def zmc.f (a0 : ByteArray) (a1 : ByteArray) : Option (Bool) := if (a0.size : Int) ≥ (a1.size : Int) then (if 0 ≤ (a1.size : Int) then (if (a1.size : Int) ≤ (a0.size : Int) then (some ((a0.extract 0 ((a1.size : Int) : Int).toNat).toList == a1.toList)) else (none)) else (none)) else (some false)
theorem zmc.calls (a0 : ByteArray) (a1 : ByteArray) (r : Bool) (w : World) (h : zmc.f a0 a1 = some r) :
  Calls Tryd.prog 83 #[.string a0, .string a1] w fun e w' => e = .returned (.bool r) ∧ zt w w' := by
 have H : (if (a0.size : Int) ≥ (a1.size : Int) then (if 0 ≤ (a1.size : Int) then (if (a1.size : Int) ≤ (a0.size : Int) then (some ((a0.extract 0 ((a1.size : Int) : Int).toNat).toList == a1.toList)) else (none)) else (none)) else (some false)) = some r := h
 clear h
 by_cases c3 : (a0.size : Int) ≥ (a1.size : Int)
 ·rw [if_pos c3] at H
  have c3b0 : decide ((a1.size : Int) ≤ (a0.size : Int)) = true := decide_eq_true c3
  have c3b1 : decide (a1.size ≤ a0.size) = true := decide_eq_true (Int.ofNat_le.mp c3)
  clear c3
  by_cases c4 : 0 ≤ (a1.size : Int)
  ·rw [if_pos c4] at H
   have c4b0 := eq_true c4
   have c4b1 : decide (0 ≤ (a1.size : Int)) = true := decide_eq_true c4
   clear c4
   by_cases c5 : (a1.size : Int) ≤ (a0.size : Int)
   ·rw [if_pos c5] at H
    have c5b0 := eq_true c5
    have c5b1 : decide ((a1.size : Int) ≤ (a0.size : Int)) = true := decide_eq_true c5
    clear c5
    obtain rfl := Option.some.inj H
    go_enter Tryd.func83, Tryd.ntmps83
    go_wp2
    go_ret
    exact ⟨by rfl, by repeat (first | exact zt.refl _ | apply zt.step)⟩
   ·rw [if_neg c5] at H
    exact absurd H (by simp)
  ·rw [if_neg c4] at H
   exact absurd H (by simp)
 ·rw [if_neg c3] at H
  have c3b0 : decide ((a1.size : Int) ≤ (a0.size : Int)) = false := decide_eq_false c3
  have c3b1 : decide (a1.size ≤ a0.size) = false := decide_eq_false (fun h => c3 (Int.ofNat_le.mpr h))
  clear c3
  obtain rfl := Option.some.inj H
  go_enter Tryd.func83, Tryd.ntmps83
  go_wp2
  go_ret
  exact ⟨by rfl, by repeat (first | exact zt.refl _ | apply zt.step)⟩
def zvc.f (a0 : ByteArray) (a1 : ByteArray) : Option (ByteArray) := (zmc.f a0 a1).bind fun t127 => (if t127 = true then (if 0 ≤ (a1.size : Int) then (if (a1.size : Int) ≤ (a0.size : Int) then (some (a0.extract ((a1.size : Int) : Int).toNat a0.size)) else (none)) else (none)) else (some a0))
theorem zvc.calls (a0 : ByteArray) (a1 : ByteArray) (r : ByteArray) (w : World) (h : zvc.f a0 a1 = some r) :
  Calls Tryd.prog 71 #[.string a0, .string a1] w fun e w' => e = .returned (.string r) ∧ zt w w' := by
 have H : ((zmc.f a0 a1).bind fun t127 => (if t127 = true then (if 0 ≤ (a1.size : Int) then (if (a1.size : Int) ≤ (a0.size : Int) then (some (a0.extract ((a1.size : Int) : Int).toNat a0.size)) else (none)) else (none)) else (some a0))) = some r := h
 clear h
 replace H := Option.bind_eq_some_iff.mp H
 obtain ⟨t127, A30, H⟩ := H
 replace H : (if t127 = true then (if 0 ≤ (a1.size : Int) then (if (a1.size : Int) ≤ (a0.size : Int) then (some (a0.extract ((a1.size : Int) : Int).toNat a0.size)) else (none)) else (none)) else (some a0)) = some r := H
 have A3 := za.mk A30
 clear A30
 by_cases c4 : t127 = true
 ·subst c4
  have H1 : (if 0 ≤ (a1.size : Int) then (if (a1.size : Int) ≤ (a0.size : Int) then (some (a0.extract ((a1.size : Int) : Int).toNat a0.size)) else (none)) else (none)) = some r := by rw [if_pos rfl] at H; exact H
  clear H
  have H := H1
  clear H1
  by_cases c5 : 0 ≤ (a1.size : Int)
  ·rw [if_pos c5] at H
   have c5b0 := eq_true c5
   have c5b1 : decide (0 ≤ (a1.size : Int)) = true := decide_eq_true c5
   clear c5
   by_cases c6 : (a1.size : Int) ≤ (a0.size : Int)
   ·rw [if_pos c6] at H
    have c6b0 := eq_true c6
    have c6b1 : decide ((a1.size : Int) ≤ (a0.size : Int)) = true := decide_eq_true c6
    clear c6
    obtain rfl := Option.some.inj H
    go_enter Tryd.func71, Tryd.ntmps71
    go_wp2_with (((with_reducible refine zab (f := 83) rfl ?_); refine zjc (some 7) rfl rfl Tryd.func83 (by kernel_rfl) rfl #[.string a0, .string a1] rfl (by (try simp only [List.map_toArray, List.map_cons, List.map_nil]); first | done | rfl | (simp only [List.length_drop, List.length_take]; rfl)) ?_; (with_reducible refine (zmc.calls a0 a1 true _ A3.out).mono ?_); rintro e w' ⟨rfl, ⟨nd, rfl⟩⟩; refine ⟨_, rfl, ?_⟩))
    go_ret
    exact ⟨by rfl, by repeat (first | exact zt.refl _ | apply zt.step)⟩
   ·rw [if_neg c6] at H
    exact absurd H (by simp)
  ·rw [if_neg c5] at H
   exact absurd H (by simp)
 ·replace c4 := Bool.eq_false_iff.mpr c4
  subst c4
  have H1 : (some a0) = some r := by rw [if_neg (show ¬ (false = true) by decide)] at H; exact H
  clear H
  have H := H1
  clear H1
  obtain rfl := Option.some.inj H
  go_enter Tryd.func71, Tryd.ntmps71
  go_wp2_with (((with_reducible refine zab (f := 83) rfl ?_); refine zjc (some 7) rfl rfl Tryd.func83 (by kernel_rfl) rfl #[.string a0, .string a1] rfl (by (try simp only [List.map_toArray, List.map_cons, List.map_nil]); first | done | rfl | (simp only [List.length_drop, List.length_take]; rfl)) ?_; (with_reducible refine (zmc.calls a0 a1 false _ A3.out).mono ?_); rintro e w' ⟨rfl, ⟨nd, rfl⟩⟩; refine ⟨_, rfl, ?_⟩))
  go_ret
  exact ⟨by rfl, by repeat (first | exact zt.refl _ | apply zt.step)⟩
def zeb.f (a0 : ByteArray) (a1 : ByteArray) : Option (ByteArray) := (zvc.f a0 a1).bind fun t128 => (some t128)
theorem zeb.calls (a0 : ByteArray) (a1 : ByteArray) (r : ByteArray) (w : World) (h : zeb.f a0 a1 = some r) :
  Calls Tryd.prog 53 #[.string a0, .string a1] w fun e w' => e = .returned (.string r) ∧ zt w w' := by
 have H : ((zvc.f a0 a1).bind fun t128 => (some t128)) = some r := h
 clear h
 replace H := Option.bind_eq_some_iff.mp H
 obtain ⟨t128, A30, H⟩ := H
 replace H : (some t128) = some r := H
 have A3 := za.mk A30
 clear A30
 obtain rfl := Option.some.inj H
 go_enter Tryd.func53, Tryd.ntmps53
 go_wp2_with (((with_reducible refine zab (f := 71) rfl ?_); refine zjc (some 7) rfl rfl Tryd.func71 (by kernel_rfl) rfl #[.string a0, .string a1] rfl (by (try simp only [List.map_toArray, List.map_cons, List.map_nil]); first | done | rfl | (simp only [List.length_drop, List.length_take]; rfl)) ?_; (with_reducible refine (zvc.calls a0 a1 t128 _ A3.out).mono ?_); rintro e w' ⟨rfl, ⟨nd, rfl⟩⟩; refine ⟨_, rfl, ?_⟩))
 go_ret
 exact ⟨by rfl, by repeat (first | exact zt.refl _ | apply zt.step)⟩
mutual
def zfc.l0 : Nat → List Int → Int → List Int → Int → Int → Option (Int)
 | 0, _, _, _, _, _ => none
 | k + 1, x1, x4, x10, x11, x12 => if x12 < x11 then (if 0 ≤ x12 then (if x12 < (x10.length : Int) then (zfc.l1 k x1 x4 (rd x10 x12) 0 x10 x11 x12) else (none)) else (none)) else (if x4 < 0 then (zfc.j2 k x1 0) else (zfc.j2 k x1 x4))
def zfc.l1 : Nat → List Int → Int → Int → Int → List Int → Int → Int → Option (Int)
 | 0, _, _, _, _, _, _, _ => none
 | k + 1, x1, x4, x6, x7, x10, x11, x12 => if x7 < 8 then (if (wrap64 (x4 - 1)) ≥ 0 then (none) else (if ((x6) % 256) = 0 then (zfc.l1 k x1 (wrap64 (x4 - 1)) (x6 / 256) (wrap64 (x7 + 1)) x10 x11 x12) else (none))) else (zfc.l0 k x1 x4 x10 x11 (wrap64 (x12 + 1)))
def zfc.j2 : Nat → List Int → Int → Option (Int)
 | 0, _, _ => none
 | k + 1, x1, x4 => zfc.l2 k x1 x4
def zfc.l2 : Nat → List Int → Int → Option (Int)
 | 0, _, _ => none
 | k + 1, x1, x4 => if x4 < (x1.length : Int) then (if 0 ≤ x4 then (if (rd x1 x4) = 0 then (zfc.l2 k x1 (wrap64 (x4 + 1))) else (some x4)) else (none)) else (some x4)
end
def zfc.f (k : Nat) (l0 : List Int) (l1 : List Int) : Option (Int) := zfc.l0 k l1 (l1.length : Int) l0 (l0.length : Int) 0
end Go.Proofs.YtapaijpglfmfgaaDoor.S
end
section
namespace Go.Proofs.YtapaijpglfmfgaaDoorG
open Go.RowKit YtapaijpglfmfgaaDoorH YtapaijpglfmfgaaDoor.S YtapaijpglfmfgaaDoorW.PrintWords YtapaijpglfmfgaaDoorW.PrintLast
theorem gr_then {w w1 w2 : World} {g : Nat} {row : Option Nat} (h : w.grownBy w1 (some g)) (k : w1.grownBy w2 row) (hr : ∀ b, row = some b → b = g ∨ w.heap.size ≤ b) : w.grownBy w2 (some g) :=
 ⟨k.os.trans h.os, k.tape.trans h.tape, k.output.trans h.output, Nat.le_trans h.size k.size, fun b hb hne => (k.block b (Nat.lt_of_lt_of_le hb h.size) (fun e => by
  rcases hr b e.symm with h1 | h1
  ·exact hne (by rw [h1])
  ·omega)).trans (h.block b hb hne)⟩
theorem zrf (w : World) (row : Option Nat) : w.grownBy w row := ⟨rfl, rfl, rfl, Nat.le_refl _, fun _ _ _ => rfl⟩
theorem zwd {w w1 w2 : World} {g : Nat} (h : w.grownBy w1 (some g)) (k : Below w1.heap.size w1 w2) : w.grownBy w2 (some g) :=
 gr_then (row := none) h ⟨k.os, k.tape, k.output, k.size, fun b hb _ => k.block b hb⟩ (fun b e => by cases e)
theorem zgf {w w1 : World} {g : Nat} (h : w.grownBy w1 (some g)) (n : Nat) : w.grownBy (w1.drewN n) (some g) := zwd h (ze (Below.refl _ _) n)
theorem gr_set {w w1 : World} {g : Nat} (h : w.grownBy w1 (some g)) {b : Nat} (hb : b = g ∨ w.heap.size ≤ b) (j : Nat) (u : Value) : w.grownBy (w1.setCell ⟨b, j, none⟩ u) (some g) :=
 gr_then (row := some b) h ⟨rfl, rfl, rfl, by simp [World.setCell], fun k hk hne => Below.heap_setCell _ _ _ _ (fun e => hne (by rw [e]))⟩ (fun k e => by cases e; exact hb)
theorem gr_gr {w w1 w2 : World} {g : Nat} (h : w.grownBy w1 (some g)) (k : w1.grownBy w2 (some g)) : w.grownBy w2 (some g) := gr_then h k (fun b e => by cases e; exact .inl rfl)
theorem gr_from {w w1 w2 : World} {g base : Nat} (h : Below base w w1) (hs : base ≤ w1.heap.size) (k : w1.grownBy w2 (some g)) (hb : base ≤ g) : Below base w w2 := h.grown k hs (fun b e => by cases e; exact hb)
theorem zue {α : Type} {d : Kd α} {e base : Nat} {w w' : World} {ok : Nat → Prop} {v : Value} {xs : List α} {p : TypeId → Bool} (hE : d.E = []) (hp : p e = true) (h : Kd.R d e w base ok v xs) (k : KeptT p w w') : Kd.R d e w' base ok v xs :=
 Kd.R_mono (Kd.R_move (Kd.R_bound h) (fun b hb => by
  obtain ⟨_, _, _, q, hq, cells, hc⟩ := hb
  rw [hE] at hq
  have : q = e := by simpa using hq
  subst this
  exact k b _ _ _ hc hp)) (fun _ hk => hk.1)
theorem KeptT.row {α : Type} {d : Kd α} {e base : Nat} {w w' : World} {ok : Nat → Prop} {v : Value} {xs : List α} {p : TypeId → Bool} (hp : p e = false) (h : Kd.R d e w base ok v xs) (k : w.grownBy w' v.ownBlock) : KeptT p w w' := fun b cs2 t2 fr2 hb hq => k.block b (by
 rcases Nat.lt_or_ge b w.heap.size with hl | hl
 ·exact hl
 ·rw [Array.getElem?_eq_none hl] at hb; cases hb) (fun e2 => by
 obtain ⟨cells, hc⟩ := Kd.R_typed h b e2.symm
 rw [hc] at hb
 cases hb
 rw [hp] at hq
 cases hq)
def VBlk (w : World) (g : Nat) (o : ByteArray) (i : Bool) (r : ByteArray) (cv : Value) (l : ByteArray) (sv : Value) (h : ByteArray) (bv : Value) : Prop :=
 w.heap[g]? = some (.cells #[.string o, .bool i, .string r, cv, .string l, sv, .string h, bv] 69 (0, 0))
theorem VBlk.lt {w : World} {g : Nat} {o : ByteArray} {i : Bool} {r : ByteArray} {cv : Value} {l : ByteArray} {sv : Value} {h : ByteArray} {bv : Value} (k : VBlk w g o i r cv l sv h bv) : g < w.heap.size := zac k
theorem parseLetter_ (w : World) (g : Nat) (o : ByteArray) (i : Bool) (r : ByteArray) (cv sv : Value) (h : ByteArray) (bv : Value) (s rest : ByteArray) (b : Bool) (hv : VBlk w g o i r cv ⟨#[]⟩ sv h bv)
  (h1 : zvb.f s = some b) (h2 : zeb.f s (if b then s.extract 0 1 else ⟨#[]⟩) = some rest) (h3 : b = true → 0 < s.size) :
  Calls Tryd.prog 43 #[.pointer (some ⟨g, 0, none⟩), .string s] w fun e w' => e = .returned (.string rest) ∧ VBlk w' g o i r cv (if b then s.extract 0 1 else ⟨#[]⟩) sv h bv ∧ w.grownBy w' (some g) := by
 unfold VBlk at hv ⊢
 have HG := za.mk hv
 have H1 := za.mk h1
 have H2 := za.mk h2
 clear hv h1 h2
 cases b with
 | true =>
  simp only [if_true] at H2 ⊢
  have q1 : (1 ≤ (s.size : Int)) = True := eq_true (by have := h3 rfl; omega)
  have q2 : (1 ≤ s.size) = True := eq_true (by have := h3 rfl; omega)
  clear h3
  go_enter Tryd.func43, Tryd.ntmps43
  go_wp2_with (first | (go_at_call 54; (with_reducible refine (zvb.calls s true _ H1.out).mono ?_); rintro e' w' ⟨rfl, ⟨nd, rfl⟩⟩; have g0 := zz HG.out nd; have x0 := (zj HG.out 4).trans rfl; have f4 := zu g0 4; have g1 := zv (cs' := #[.string o, .bool i, .string r, cv, .string (s.extract 0 1), sv, .string h, bv]) g0 4 (.string (s.extract 0 1)) rfl; have x4 := (zj g1 4).trans rfl; have G1 := za.mk g1; clear g0 g1) | (go_at_call 53; (with_reducible refine (zeb.calls s (s.extract 0 1) rest _ H2.out).mono ?_); rintro e' w' ⟨rfl, ⟨nd2, rfl⟩⟩))
  go_ret
  exact ⟨rfl, zz G1.out _, zgf (gr_set (zgf (zrf w _) _) (.inl rfl) _ _) _⟩
 | false =>
  simp only [Bool.false_eq_true, if_false] at H2 ⊢
  clear h3
  go_enter Tryd.func43, Tryd.ntmps43
  go_wp2_with (first | (go_at_call 54; (with_reducible refine (zvb.calls s false _ H1.out).mono ?_); rintro e' w' ⟨rfl, ⟨nd, rfl⟩⟩; have x0 := (zj HG.out 4).trans rfl) | (go_at_call 53; (with_reducible refine (zeb.calls s ⟨#[]⟩ rest _ H2.out).mono ?_); rintro e' w' ⟨rfl, ⟨nd2, rfl⟩⟩))
  go_ret
  exact ⟨rfl, zz HG.out _, zgf (zrf w _) _⟩
theorem parseHash_ (w : World) (g : Nat) (o : ByteArray) (i : Bool) (r : ByteArray) (cv sv : Value) (l : ByteArray) (h : ByteArray) (bv : Value) (s hs rest : ByteArray) (k : Nat) (hv : VBlk w g o i r cv l sv h bv)
  (h1 : zr.f k s = some hs) (h2 : zeb.f s hs = some rest) :
  Calls Tryd.prog 45 #[.pointer (some ⟨g, 0, none⟩), .string s] w fun e w' => e = .returned (.string rest) ∧ VBlk w' g o i r cv l sv hs bv ∧ w.grownBy w' (some g) := by
 unfold VBlk at hv ⊢
 have HG := za.mk hv
 have H1 := za.mk h1
 have H2 := za.mk h2
 clear hv h1 h2
 go_enter Tryd.func45, Tryd.ntmps45
 go_wp2_with (first | (go_at_call 57; (with_reducible refine (zr.calls k s hs _ H1.out).mono ?_); rintro e' w' ⟨rfl, ⟨nd, rfl⟩⟩; have g0 := zz HG.out nd; have x0 := (zj HG.out 6).trans rfl; have f6 := zu g0 6; have g1 := zv (cs' := #[.string o, .bool i, .string r, cv, .string l, sv, .string hs, bv]) g0 6 (.string hs) rfl; have x6 := (zj g1 6).trans rfl; have G1 := za.mk g1; clear g0 g1) | (go_at_call 53; (with_reducible refine (zeb.calls s hs rest _ H2.out).mono ?_); rintro e' w' ⟨rfl, ⟨nd2, rfl⟩⟩))
 go_ret
 exact ⟨rfl, zz G1.out _, zgf (gr_set (zgf (zrf w _) _) (.inl rfl) _ _) _⟩
theorem alpBuild_no (w : World) (s : ByteArray) (h1 : zxb.f s 0 ⟨#[45, 114]⟩ = some false) :
  Calls Tryd.prog 58 #[.string s] w fun e w' => e = .returned (.slice none 0 0) ∧ Below w.heap.size w w' := by
 have HB := za.mk (Below.refl w.heap.size w)
 have H1 := za.mk h1
 clear h1
 go_enter Tryd.func58, Tryd.ntmps58
 go_wp2_with (first | (go_at_call 72; (with_reducible refine (zxb.calls s 0 ⟨#[45, 114]⟩ false _ H1.out).mono ?_); rintro e' w' ⟨rfl, ⟨nd, rfl⟩⟩))
 go_ret
 exact ⟨rfl, ze HB.out _⟩
theorem alpBuild_yes (w : World) (s : ByteArray) (k n : Nat) (h1 : zxb.f s 0 ⟨#[45, 114]⟩ = some true) (h2 : zdb.f k s 2 = some (n : Int)) (h3 : 2 ≤ n) (h4 : n ≤ s.size) :
  Calls Tryd.prog 58 #[.string s] w fun e w' => e = .returned (.slice (some ⟨w.heap.size, 0, none⟩) 2 2) ∧ w'.heap[w.heap.size]? = some (.cells #[.string (s.extract 0 n), .string (s.extract 2 n)] 9 (0, 0)) ∧ Below w.heap.size w w' := by
 have HB := za.mk (Below.refl w.heap.size w)
 have H1 := za.mk h1
 have H2 := za.mk h2
 have q1 : (0 ≤ (n : Int)) = True := eq_true (by omega)
 have q2 : ((n : Int) ≤ (s.size : Int)) = True := eq_true (by omega)
 have q3 : (2 ≤ (n : Int)) = True := eq_true (by omega)
 have q4 : (n ≤ s.size) = True := eq_true (by omega)
 have q5 : (2 ≤ n) = True := eq_true (by omega)
 have q6 : decide (n ≤ s.size) = true := decide_eq_true (by omega)
 have q7 : decide (2 ≤ n) = true := decide_eq_true (by omega)
 clear h1 h2 h3 h4
 go_enter Tryd.func58, Tryd.ntmps58
 go_upto_region 4 with (first | (go_at_call 72; (with_reducible refine (zxb.calls s 0 ⟨#[45, 114]⟩ true _ H1.out).mono ?_); rintro e' w' ⟨rfl, ⟨nd, rfl⟩⟩) | (go_at_call 68; (with_reducible refine (zdb.calls k s 2 (n : Int) _ H2.out).mono ?_); rintro e' w' ⟨rfl, ⟨nd2, rfl⟩⟩))
 go_region_with (fail)
 all_goals (try go_wp2)
 all_goals go_ret
 all_goals exact ⟨rfl, zdf (w.drewN _) _, zo (ze HB.out _) _⟩
end Go.Proofs.YtapaijpglfmfgaaDoorG
end
section
namespace Go.Proofs.YtapaijpglfmfgaaDoorB
open Go.RowKit YtapaijpglfmfgaaDoorW.PrintWords
section
variable {α β : Type} {g f : Nat → Option α} {r : α}
theorem Ev.succ (h : Ev (fun k => g (k + 1)) r) : Ev g r := Ev.step (fun _ => rfl) h
theorem Ev.pos {c : Nat → Prop} [∀ k, Decidable (c k)] (hc : ∀ k, c k) (h : Ev g r) : Ev (fun k => if c k then g k else f k) r := Ev.congr (fun k => if_pos (hc k)) h
theorem Ev.neg {c : Nat → Prop} [∀ k, Decidable (c k)] (hc : ∀ k, ¬ c k) (h : Ev f r) : Ev (fun k => if c k then g k else f k) r := Ev.congr (fun k => if_neg (hc k)) h
theorem Ev.bind0 {a : α} {q : β} {o : Option α} {F : Nat → α → Option β} (h : o = some a) (k : Ev (fun n => F n a) q) : Ev (fun n => o.bind (F n)) q := by
 subst h; exact k
theorem Ev.eq {r' : α} (h : Ev g r) (e : r = r') : Ev g r' := e ▸ h
end
theorem w64 {i : Int} (h0 : -9223372036854775808 ≤ i) (h1 : i ≤ 9223372036854775807) : wrap64 i = i := by unfold wrap64; omega
theorem w32 {i : Int} (h0 : -2147483648 ≤ i) (h1 : i ≤ 2147483647) : wrap32 i = i := by unfold wrap32; omega
theorem zwb (s : ByteArray) : s.size = (bytesOf s).length := (bytesOf_length s).symm
theorem zif (s : ByteArray) (i : Nat) : bt s i = (bytesOf s).getD i 0 := by
 have h := rd_bytesOf s i
 simpa [rd] using h.symm
theorem zbh (s : ByteArray) : bt s 0 = (bytesOf s).getD 0 0 := zif s 0
theorem zde (s t : ByteArray) : bytesOf (s ++ t) = bytesOf s ++ bytesOf t := by
 simp [bytesOf, ByteArray.toList_data_append]
theorem zre (s : ByteArray) (a b : Nat) : bytesOf (s.extract a b) = ((bytesOf s).drop a).take (b - a) := by
 simp [bytesOf, Lib.extract_data, List.map_drop, List.map_take]
theorem zlg (s : ByteArray) (a : Nat) : bytesOf (s.extract a s.size) = (bytesOf s).drop a := by
 rw [zre, zwb, List.take_of_length_le]
 simp
theorem zof (s : ByteArray) (b : Nat) : bytesOf (s.extract 0 b) = (bytesOf s).take b := by
 rw [zre]; simp
theorem zcg (s : ByteArray) : ∀ x ∈ bytesOf s, 0 ≤ x ∧ x ≤ 255 := by
 intro x hx
 simp only [bytesOf, List.mem_map] at hx
 obtain ⟨b, _, rfl⟩ := hx
 have := b.toNat_lt
 omega
theorem B_inj {s t : ByteArray} (h : bytesOf s = bytesOf t) : s = t := by
 have h1 : s.data.toList = t.data.toList := by
  have hinj : ∀ (a b : List UInt8), a.map (fun b : UInt8 => (b.toNat : Int)) = b.map (fun b : UInt8 => (b.toNat : Int)) → a = b := by
   intro a
   induction a with
   | nil => intro b hb; cases b with
    | nil => rfl
    | cons => simp at hb
   | cons x a ih =>
    intro b hb
    cases b with
    | nil => simp at hb
    | cons y b =>
     simp only [List.map_cons, List.cons.injEq] at hb
     have : x = y := UInt8.toNat_inj.1 (by omega)
     rw [this, ih b hb.2]
  exact hinj _ _ h
 have h2 : s.data = t.data := Array.toList_inj.1 h1
 cases s; cases t; simp_all
theorem B_toList (s : ByteArray) : s.toList = s.data.toList := ByteArray.toList_eq s
theorem zzc (s t : ByteArray) : s.toList = t.toList ↔ bytesOf s = bytesOf t := by
 rw [B_toList, B_toList]
 constructor
 ·intro h; simp [bytesOf, h]
 ·intro h; rw [B_inj h]
theorem toList_lit (s : ByteArray) (l : List UInt8) : s.toList = l ↔ bytesOf s = l.map (fun b => (b.toNat : Int)) := by
 have h := zzc s ⟨l.toArray⟩
 have h2 : (⟨l.toArray⟩ : ByteArray).toList = l := by rw [B_toList]
 have h3 : bytesOf (⟨l.toArray⟩ : ByteArray) = l.map (fun b => (b.toNat : Int)) := by simp [bytesOf]
 rw [h2, h3] at h
 exact h
theorem zrb (s : ByteArray) : s.toList = [] ↔ bytesOf s = [] := by
 rw [toList_lit]; rfl
theorem size_nil (s : ByteArray) : s.size = 0 ↔ bytesOf s = [] := by
 rw [zwb, List.length_eq_zero_iff]
theorem B_str {l : List Int} (h : ∀ x ∈ l, 0 ≤ x ∧ x ≤ 255) : bytesOf (strOfNums l) = l := by
 have : ∀ (l : List Int), (∀ x ∈ l, 0 ≤ x ∧ x ≤ 255) → (l.map fun n => UInt8.ofNat n.toNat).map (fun b => (b.toNat : Int)) = l := by
  intro l
  induction l with
  | nil => intro _; rfl
  | cons a l ih =>
   intro h
   have ha := h a List.mem_cons_self
   rw [List.map_cons, List.map_cons, ih (fun x hx => h x (List.mem_cons_of_mem _ hx))]
   congr 1
   rw [UInt8.toNat_ofNat_of_lt' (by show a.toNat < 256; omega)]
   omega
 simpa [strOfNums, bytesOf] using this l h
theorem str_B (s : ByteArray) : strOfNums (bytesOf s) = s := B_inj (B_str (zcg s))
theorem B_encode {c : Int} (h0 : 0 ≤ c) (h1 : c < 128) : bytesOf (Utf8.encode c) = [c] := by
 unfold Utf8.encode
 have hv : Utf8.valid c = true := by
  simp [Utf8.valid]; omega
 simp only [hv, if_true]
 rw [if_pos (by omega)]
 simp only [bytesOf]
 have : (UInt8.ofNat c.toNat).toNat = c.toNat := UInt8.toNat_ofNat_of_lt' (by show c.toNat < 256; omega)
 simp [this]
 omega
theorem B_empty : bytesOf ByteArray.empty = [] := rfl
theorem rdOf_B (l : List ByteArray) (i : Nat) : bytesOf (rdOf ByteArray.empty l i) = (l.map bytesOf).getD i [] := by
 simp only [rdOf, Int.toNat_natCast, List.getD_eq_getElem?_getD, List.getElem?_map]
 cases l[i]? <;> simp [B_empty]
theorem zwf (l : List Int) (i : Nat) (h : i < l.length) : l.drop i = l.getD i 0 :: l.drop (i + 1) := by
 rw [List.drop_eq_getElem_cons h]
 simp [List.getD_eq_getElem?_getD, h]
def isD (c : Int) : Bool := decide (48 ≤ c ∧ c ≤ 57)
def isL (c : Int) : Bool := decide (97 ≤ c ∧ c ≤ 122)
def run (p : Int → Bool) (l : List Int) : Nat := (l.takeWhile p).length
theorem run_nil (p : Int → Bool) : run p [] = 0 := rfl
theorem zeg {p : Int → Bool} {c : Int} {l : List Int} (h : p c = true) : run p (c :: l) = run p l + 1 := by simp [run, h]
theorem zmf {p : Int → Bool} {c : Int} {l : List Int} (h : p c = false) : run p (c :: l) = 0 := by simp [run, h]
theorem run_le (p : Int → Bool) (l : List Int) : run p l ≤ l.length := by
 unfold run
 exact List.IsPrefix.length_le (List.takeWhile_prefix p)
def glue (a : List Int) : List (List Int) → List (List Int)
 | [] => [a]
 | h :: t => (a ++ h) :: t
def zvd (p : Int → Bool) : List Int → List (List Int)
 | [] => [[]]
 | c :: r => if p c = true then [] :: zvd p r else glue [c] (zvd p r)
theorem glue_ne (a : List Int) (L : List (List Int)) : glue a L ≠ [] := by cases L <;> simp [glue]
theorem splitP_ne (p : Int → Bool) (l : List Int) : zvd p l ≠ [] := by
 cases l with
 | nil => simp [zvd]
 | cons c r =>
  simp only [zvd]
  split
  ·simp
  ·exact glue_ne _ _
theorem splitP_run (p : Int → Bool) : ∀ (l : List Int), zvd p l = if run (fun c => !p c) l < l.length then l.take (run (fun c => !p c) l) :: zvd p (l.drop (run (fun c => !p c) l + 1)) else [l] := by
 intro l
 induction l with
 | nil => rfl
 | cons c r ih =>
  simp only [zvd]
  cases h : p c
  ·rw [if_neg (by simp), zeg (by simp [h])]
   have hle := run_le (fun c => !p c) r
   rw [ih]
   by_cases hlt : run (fun c => !p c) r < r.length
   ·rw [if_pos hlt, if_pos (by simp; omega)]
    simp [glue]
   ·rw [if_neg hlt, if_neg (by simp; omega)]
    rfl
  ·rw [if_pos rfl, zmf (by simp [h]), if_pos (by simp)]
   simp
theorem splitP_length (p : Int → Bool) : ∀ (l : List Int), (zvd p l).length ≤ l.length + 1 := by
 intro l
 induction l with
 | nil => simp [zvd]
 | cons c r ih =>
  simp only [zvd]
  split
  ·simp; omega
  ·have : ∀ (a : List Int) (L : List (List Int)), L ≠ [] → (glue a L).length = L.length := by
    intro a L hL
    cases L with
    | nil => exact absurd rfl hL
    | cons x r => simp [glue]
   rw [this _ _ (splitP_ne p r)]
   simp; omega
end Go.Proofs.YtapaijpglfmfgaaDoorB
end
section
namespace Go.Proofs.YtapaijpglfmfgaaDoorM
open Go.RowKit YtapaijpglfmfgaaDoorB YtapaijpglfmfgaaDoorW.PrintWords
def val : List Int → Nat
 | [] => 0
 | x :: m => x.toNat + 256 * val m
def Byt (m : List Int) : Prop := ∀ x ∈ m, 0 ≤ x ∧ x ≤ 255
theorem Byt.cons {x : Int} {m : List Int} (h : Byt (x :: m)) : (0 ≤ x ∧ x ≤ 255) ∧ Byt m := ⟨h x List.mem_cons_self, fun y hy => h y (List.mem_cons_of_mem _ hy)⟩
theorem Byt.mk_cons {x : Int} {m : List Int} (h : 0 ≤ x ∧ x ≤ 255) (k : Byt m) : Byt (x :: m) := fun y hy => (List.mem_cons.1 hy).elim (fun e => e ▸ h) (k y)
theorem Byt.append {l m : List Int} (h : Byt l) (k : Byt m) : Byt (l ++ m) := fun x hx => (List.mem_append.1 hx).elim (h x) (k x)
theorem val_lt : ∀ {m : List Int}, Byt m → val m < 256 ^ m.length
 | [], _ => by simp [val]
 | x :: m, h => by
  have h1 := h.cons.1
  have h2 := val_lt h.cons.2
  simp only [val, List.length_cons, Nat.pow_succ]
  generalize 256 ^ m.length = p at h2 ⊢
  omega
theorem zvh : ∀ (m : List Int) (x : Int), val (m ++ [x]) = val m + 256 ^ m.length * x.toNat
 | [], x => by simp [val]
 | y :: m, x => by
  simp only [List.cons_append, val, zvh m x, List.length_cons, Nat.pow_succ]
  rw [Nat.mul_add, Nat.mul_right_comm, Nat.mul_comm _ 256, Nat.add_assoc]
theorem val_inj : ∀ {m m' : List Int}, Byt m → Byt m' → m.length = m'.length → val m = val m' → m = m'
 | [], [], _, _, _, _ => rfl
 | [], _ :: _, _, _, h, _ => by simp at h
 | _ :: _, [], _, _, h, _ => by simp at h
 | x :: m, y :: m', h, h', hl, hv => by
  have h1 := h.cons.1
  have h2 := h'.cons.1
  simp only [val] at hv
  have e : x = y := by omega
  have e2 : val m = val m' := by omega
  rw [e, val_inj h.cons.2 h'.cons.2 (by simpa using hl) e2]
structure Tight (m : List Int) (n : Nat) : Prop where
 byt : Byt m
 eq : val m = n
 low : m ≠ [] → 256 ^ m.length ≤ 256 * n
theorem Tight.lt_len {m m' : List Int} {n n' : Nat} (h : Tight m n) (h' : Tight m' n') (hl : m.length < m'.length) : n < n' := by
 have h1 := val_lt h.byt
 rw [h.eq] at h1
 have h2 := h'.low (by intro e; rw [e] at hl; simp at hl)
 have h3 : 256 ^ (m.length + 1) ≤ 256 ^ m'.length := Nat.pow_le_pow_right (by omega) (by omega)
 rw [Nat.pow_succ] at h3
 generalize 256 ^ m.length = p at h1 h3
 generalize 256 ^ m'.length = q at h2 h3
 omega
theorem Tight.unique {m m' : List Int} {n : Nat} (h : Tight m n) (h' : Tight m' n) : m = m' := by
 refine val_inj h.byt h'.byt ?_ (h.eq.trans h'.eq.symm)
 rcases Nat.lt_trichotomy m.length m'.length with hl | hl | hl
 ·exact absurd (h.lt_len h' hl) (Nat.lt_irrefl n)
 ·exact hl
 ·exact absurd (h'.lt_len h hl) (Nat.lt_irrefl n)
def leB : Nat → Nat → List Int
 | 0, _ => []
 | k + 1, n => if n = 0 then [] else ((n % 256 : Nat) : Int) :: leB k (n / 256)
theorem leB_tight : ∀ (k n : Nat), n ≤ k → Tight (leB k n) n
 | 0, n, h => by
  have : n = 0 := by omega
  subst this
  exact ⟨fun x hx => by simp [leB] at hx, rfl, fun h => absurd rfl h⟩
 | k + 1, n, h => by
  simp only [leB]
  by_cases h0 : n = 0
  ·rw [if_pos h0]
   subst h0
   exact ⟨fun x hx => by simp at hx, rfl, fun h => absurd rfl h⟩
  ·rw [if_neg h0]
   have ih := leB_tight k (n / 256) (by omega)
   refine ⟨Byt.mk_cons (by omega) ih.byt, ?_, fun _ => ?_⟩
   ·simp only [val, ih.eq]; omega
   ·by_cases he : leB k (n / 256) = []
    ·rw [he]; simp; omega
    ·have := ih.low he
     rw [List.length_cons, Nat.pow_succ]
     generalize 256 ^ (leB k (n / 256)).length = p at this ⊢
     omega
def magL (n : Nat) : List Int := (leB n n).reverse
def magB (n : Nat) : ByteArray := strOfNums (magL n)
theorem Tight.mag {m : List Int} {n : Nat} (h : Tight m n) : m.reverse = magL n := by
 unfold magL
 rw [h.unique (leB_tight n n (Nat.le_refl n))]
theorem mag_drop {m : List Int} {n : Nat} (h : Byt m) (e : val m = n) : m.reverse.dropWhile (fun x => decide (x = 0)) = magL n := by
 have : ∀ (r : List Int), Byt r.reverse → val r.reverse = n → r.dropWhile (fun x => decide (x = 0)) = magL n := by
  intro r
  induction r with
  | nil =>
   intro _ h2
   have : n = 0 := h2.symm
   subst this
   rfl
  | cons x r ih =>
   intro h1 h2
   rw [List.reverse_cons] at h1 h2
   rw [zvh] at h2
   have hb : Byt r.reverse := fun y hy => h1 y (List.mem_append_left _ hy)
   have hx := h1 x (List.mem_append_right _ (by simp))
   by_cases h0 : x = 0
   ·subst h0
    rw [List.dropWhile_cons_of_pos (by simp)]
    exact ih hb (by simpa using h2)
   ·rw [List.dropWhile_cons_of_neg (by simpa using h0)]
    have ht : Tight (r.reverse ++ [x]) n := by
     refine ⟨h1, by rw [zvh]; exact h2, fun _ => ?_⟩
     rw [List.length_append, List.length_cons, List.length_nil, Nat.pow_succ]
     have : 256 ^ r.reverse.length * 1 ≤ 256 ^ r.reverse.length * x.toNat := Nat.mul_le_mul_left _ (by omega)
     generalize 256 ^ r.reverse.length = p at h2 this ⊢
     omega
    have := ht.mag
    rw [List.reverse_append, List.reverse_reverse] at this
    simpa using this
 exact this m.reverse (by rw [List.reverse_reverse]; exact h) (by rw [List.reverse_reverse]; exact e)
def mul10 : List Int → Nat → List Int × Nat
 | [], c => ([], c)
 | x :: m, c => ((((c + 10 * x.toNat) % 256 : Nat) : Int) :: (mul10 m ((c + 10 * x.toNat) / 256)).1, (mul10 m ((c + 10 * x.toNat) / 256)).2)
theorem zkg : ∀ (m : List Int) (c : Nat), (mul10 m c).1.length = m.length
 | [], _ => rfl
 | x :: m, c => by simp only [mul10, List.length_cons, zkg m]
theorem mul10_byt : ∀ (m : List Int) (c : Nat), Byt (mul10 m c).1
 | [], _ => fun x hx => by simp [mul10] at hx
 | x :: m, c => by
  simp only [mul10]
  exact Byt.mk_cons (by omega) (mul10_byt m _)
theorem znh : ∀ (m : List Int) (c : Nat), Byt m → c ≤ 9 → (mul10 m c).2 ≤ 9
 | [], c, _, h => h
 | x :: m, c, hb, h => by
  have := hb.cons.1
  simp only [mul10]
  exact znh m _ hb.cons.2 (by omega)
theorem mul10_val : ∀ (m : List Int) (c : Nat), val (mul10 m c).1 + 256 ^ m.length * (mul10 m c).2 = 10 * val m + c
 | [], c => by simp [mul10, val]
 | x :: m, c => by
  have ih := mul10_val m ((c + 10 * x.toNat) / 256)
  simp only [mul10, val, List.length_cons, Nat.pow_succ, Int.toNat_natCast]
  rw [Nat.mul_comm (256 ^ m.length) 256, Nat.mul_assoc]
  generalize 256 ^ m.length * (mul10 m ((c + 10 * x.toNat) / 256)).2 = p at ih ⊢
  omega
def pushD (m : List Int) (d : Nat) : List Int := if (mul10 m d).2 > 0 then (mul10 m d).1 ++ [((mul10 m d).2 : Int)] else (mul10 m d).1
theorem push_tight {m : List Int} {n d : Nat} (h : Tight m n) (hd : d ≤ 9) : Tight (pushD m d) (10 * n + d) := by
 have h1 := zkg m d
 have h2 := mul10_byt m d
 have h3 := znh m d h.byt hd
 have h4 := mul10_val m d
 rw [h.eq] at h4
 unfold pushD
 by_cases hc : (mul10 m d).2 > 0
 ·rw [if_pos hc]
  refine ⟨h2.append (fun x hx => ?_), ?_, fun _ => ?_⟩
  ·have : x = ((mul10 m d).2 : Int) := by simpa using hx
   omega
  ·rw [zvh, h1, Int.toNat_natCast]; exact h4
  ·rw [List.length_append, h1, List.length_cons, List.length_nil, Nat.pow_succ]
   have : 256 ^ m.length * 1 ≤ 256 ^ m.length * (mul10 m d).2 := Nat.mul_le_mul_left _ hc
   generalize 256 ^ m.length = p at this h4 ⊢
   omega
 ·rw [if_neg hc]
  have h0 : (mul10 m d).2 = 0 := by omega
  rw [h0] at h4
  refine ⟨h2, by simpa using h4, fun hne => ?_⟩
  have := h.low (fun e => hne (by subst e; rfl))
  rw [h1]
  omega
def decL (l : List Int) : Nat := l.foldl (fun n c => 10 * n + (c - 48).toNat) 0
theorem decL_snoc (l : List Int) (c : Int) : decL (l ++ [c]) = 10 * decL l + (c - 48).toNat := by simp [decL]
end Go.Proofs.YtapaijpglfmfgaaDoorM
end
section
namespace Go.Proofs.YtapaijpglfmfgaaDoorG
open Go.RowKit YtapaijpglfmfgaaDoorH YtapaijpglfmfgaaDoorB YtapaijpglfmfgaaDoorM YtapaijpglfmfgaaDoorW.PrintWords YtapaijpglfmfgaaDoorW.PrintLast
def BC (n : Int) : Value := .int .u8 n
def Bs (w : World) (B : Nat) (l : List Int) : Prop := w.heap[B]? = some (.cells (l.map BC).toArray 5 (0, 0))
theorem Bs.cell {w : World} {B : Nat} {l : List Int} (h : Bs w B l) (i : Nat) (hi : i < l.length) : w.cell? ⟨B, i, none⟩ = some (.int .u8 (l.getD i 0)) := by
 unfold Bs at h
 simp [World.cell?, h, hi, BC, List.getD_eq_getElem?_getD]
theorem Bs.free {w : World} {B : Nat} {l : List Int} (h : Bs w B l) (i : Nat) : w.frozen? ⟨B, i, none⟩ = false := by
 unfold Bs at h
 simp [World.frozen?, h]
theorem Bs.set {w : World} {B : Nat} {l : List Int} (h : Bs w B l) (i : Nat) (v : Int) : Bs (w.setCell ⟨B, i, none⟩ (.int .u8 v)) B (l.set i v) := by
 unfold Bs at h ⊢
 have e1 : (w.setCell ⟨B, i, none⟩ (.int .u8 v)).heap[B]? = some (.cells ((l.map BC).toArray.setIfInBounds i (BC v)) 5 (0, 0)) := by
  simp [World.setCell, Array.getElem?_modify, h, BC]
 rw [e1]
 congr 2
 apply Array.toList_inj.1
 simp [List.map_set]
theorem Bs.below {w w' : World} {B : Nat} {l : List Int} (h : Bs w B l) (hb : Below w.heap.size w w') : Bs w' B l := by
 unfold Bs at h ⊢
 rw [hb.block B (Array.getElem?_eq_some_iff.1 h).1]
 exact h
def b8 (x j : Nat) : Int := ((x / 256 ^ j % 256 : Nat) : Int)
def bsx (x : Nat) : Nat → List Int
 | 0 => []
 | j + 1 => bsx x j ++ [b8 x j]
theorem bsx_len (x : Nat) : ∀ j, (bsx x j).length = j
 | 0 => rfl
 | j + 1 => by simp [bsx, bsx_len x j]
theorem bsx_byt (x : Nat) : ∀ j, Byt (bsx x j)
  | 0 => fun c hc => by simp [bsx] at hc
  | j + 1 => (bsx_byt x j).append (fun c hc => by have : c = b8 x j := by simpa using hc
                                                  subst this; unfold b8; omega)
theorem bsx_val (x : Nat) : ∀ j, val (bsx x j) = x % 256 ^ j
 | 0 => by simp [bsx, val, Nat.mod_one]
 | j + 1 => by
  simp only [bsx]
  rw [zvh, bsx_val x j, bsx_len]
  unfold b8
  rw [Int.toNat_natCast, Nat.pow_succ, Nat.mod_mul]
def lb : List Nat → List Int
 | [] => []
 | x :: l => bsx x 8 ++ lb l
theorem lb_len : ∀ l, (lb l).length = 8 * l.length
 | [] => rfl
 | x :: l => by simp only [lb, List.length_append, bsx_len, lb_len l, List.length_cons]; omega
theorem lb_byt : ∀ l, Byt (lb l)
 | [] => fun c hc => by simp [lb] at hc
 | x :: l => (bsx_byt x 8).append (lb_byt l)
theorem lb_snoc : ∀ (l : List Nat) (x : Nat), lb (l ++ [x]) = lb l ++ bsx x 8
 | [], x => by simp [lb]
 | y :: l, x => by simp only [List.cons_append, lb, lb_snoc l x, List.append_assoc]
theorem val_append : ∀ (a b : List Int), val (a ++ b) = val a + 256 ^ a.length * val b
 | [], b => by simp [val]
 | x :: a, b => by
  simp only [List.cons_append, val, val_append a b, List.length_cons, Nat.pow_succ]
  rw [Nat.mul_add, Nat.mul_comm (256 ^ a.length) 256, Nat.mul_assoc, Nat.add_assoc]
theorem lb_val : ∀ l : List Nat, (∀ x ∈ l, IsW x) → val (lb l) = num l
 | [], _ => rfl
 | x :: l, h => by
  simp only [lb, num]
  have hx := h x List.mem_cons_self
  unfold IsW at hx
  have e : (256 : Nat) ^ 8 = W64 := by decide
  rw [val_append, bsx_val, bsx_len, lb_val l (fun y hy => h y (List.mem_cons_of_mem _ hy)), e, Nat.mod_eq_of_lt hx]
def ztd (L : Nat) (t : List Int) : List Int := List.replicate (L - t.length) 0 ++ t.reverse
theorem content_len {L : Nat} {t : List Int} (h : t.length ≤ L) : (ztd L t).length = L := by simp [ztd]; omega
theorem zii {L : Nat} {t : List Int} (b : Int) (h : t.length < L) : (ztd L t).set (L - t.length - 1) b = ztd L (t ++ [b]) := by
 unfold ztd
 have e : L - t.length = (L - t.length - 1) + 1 := by omega
 have e2 : L - (t ++ [b]).length = L - t.length - 1 := by simp; omega
 rw [e2, e, List.replicate_succ', List.append_assoc, List.reverse_append]
 rw [List.set_append]
 simp
theorem zhi (L : Nat) {t : List Int} (h : t.length = L) : ztd L t = t.reverse := by
 unfold ztd
 rw [h, Nat.sub_self]
 rfl
theorem meas8 (j : Nat) (h : j < 8) : 8 - (intOf (.int .i64 ((j + 1 : Nat) : Int))).toNat < 8 - (intOf (.int .i64 (j : Int))).toNat := by
 simp only [intOf]
 omega
theorem shr8 (x j : Nat) : x / 256 ^ j / 256 = x / 256 ^ (j + 1) := by rw [Nat.pow_succ, Nat.div_div_eq_div_mul]
theorem zwg (l : List Int) (i : Nat) (h : ∀ j, j < i → l.getD j 0 = 0) (hi : i ≤ l.length) (hs : i = l.length ∨ l.getD i 0 ≠ 0) : l.drop i = l.dropWhile (fun x => decide (x = 0)) := by
 induction l generalizing i with
 | nil => simp
 | cons x l ih =>
  cases i with
  | zero =>
   rcases hs with hs | hs
   ·simp at hs
   ·have : x ≠ 0 := hs
    rw [List.dropWhile_cons_of_neg (by simpa using this)]
    rfl
  | succ i =>
   have hx : x = 0 := h 0 (by omega)
   rw [List.dropWhile_cons_of_pos (by simpa using hx), List.drop_succ_cons]
   refine ih i (fun j hj => h (j + 1) (by omega)) (by simpa using hi) ?_
   rcases hs with hs | hs
   ·left; simpa using hs
   ·right; exact hs
theorem bytes_ (w : World) (B By : Nat) (vx : Value) (l : List Nat) (hx : NatS w By vx l) (hl : l.length ≤ 1000000) (hB : Bs w B (List.replicate (8 * l.length) 0)) (hne : ∀ g n c, vx = .slice (some ⟨g, 0, none⟩) n c → g ≠ B) :
  Calls Tryd.prog 74 #[vx, .slice (some ⟨B, 0, none⟩) (8 * l.length) (8 * l.length)] w fun e w' => ∃ i : Nat, e = .returned (.int .i64 (i : Int)) ∧ i ≤ 8 * l.length ∧ Bs w' B (lb l).reverse ∧ (lb l).reverse.drop i = (lb l).reverse.dropWhile (fun x => decide (x = 0)) ∧ w.grownBy w' (some B) := by
 obtain ⟨g, c, p, rfl, rx⟩ := hx.reads
 have hne2 : l.length ≠ 0 → g ≠ B := fun h => hne g _ _ (by rw [(rx h).1])
 obtain ⟨L, hL⟩ : ∃ L, L = 8 * l.length := ⟨_, rfl⟩
 rw [← hL] at hB
 have eL : ((8 * l.length : Nat)) = L := hL.symm
 rw [eL]
 have RX := za.mk rx
 have NE := za.mk hne2
 have HL := za.mk (And.intro hL hl)
 have HB := za.mk hB
 clear hne2 hne rx hB hL eL hl hx
 go_enter Tryd.func74, Tryd.ntmps74
 go_wp2
 go_loopw [4, 12] (fun iv kv wr => ∃ k : Nat, k ≤ l.length ∧ iv = .int .i64 ((L - 8 * k : Nat) : Int) ∧ kv = .int .i64 (k : Int) ∧ za (Bs wr B (ztd L (lb (l.take k)))) ∧ za (w.grownBy wr (some B))) (fun _ kv _ => l.length - (intOf kv).toNat)
 case atStart => exact ⟨0, Nat.zero_le _, by simp, rfl, ⟨by simpa [ztd, lb] using HB.out⟩, ⟨zrf w _⟩⟩
 case round =>
  obtain ⟨k, hk, rfl, rfl, hb, hg⟩ := hrel
  by_cases hlt : k < l.length
  ·obtain ⟨hp, hc⟩ := RX.out (by omega)
   subst hp
   have hgB := NE.out (by omega)
   have hc0 := hc k hlt
   have hgl : g < w.heap.size := by
    rcases Nat.lt_or_ge g w.heap.size with h | h
    ·exact h
    ·unfold World.cell? at hc0
     rw [Array.getElem?_eq_none h] at hc0
     cases hc0
   have hcw : wr.cell? ⟨g, k, none⟩ = some (.int .u64 (l.getD k 0 : Nat)) := by
    rw [← hc0]
    exact World.cell?_of_block (hg.out.block g hgl (fun e => hgB (Option.some.inj e)))
   obtain ⟨x, hx⟩ : ∃ x, x = l.getD k 0 := ⟨_, rfl⟩
   rw [← hx] at hcw
   have HX := za.mk hx
   have LT := za.mk hlt
   have i3 : decide ((k : Int) < (l.length : Int)) = true := decide_eq_true (by omega)
   have i4 : ((k : Int) < (l.length : Int)) = True := eq_true (by omega)
   have i5 : (0 ≤ (k : Int)) = True := eq_true (by omega)
   have START : za (Bs wr B (ztd L (lb (l.take k) ++ bsx x 0))) := ⟨by simpa [bsx] using hb.out⟩
   clear hc hc0 hgl hgB hx hlt hk
   go_wp2
   go_loopw [4, 6, 7] (fun iv dv jv wr2 => ∃ j : Nat, j ≤ 8 ∧ iv = .int .i64 ((L - 8 * k - j : Nat) : Int) ∧ dv = .int .u64 ((x / 256 ^ j : Nat) : Int) ∧ jv = .int .i64 (j : Int) ∧ za (Bs wr2 B (ztd L (lb (l.take k) ++ bsx x j))) ∧ za (w.grownBy wr2 (some B))) (fun _ _ jv _ => 8 - (intOf jv).toNat)
   case atStart => exact ⟨0, Nat.zero_le _, by simp, by simp, rfl, START, hg⟩
   case round =>
    obtain ⟨j, hj, rfl, rfl, rfl, hb2, hg2⟩ := hrel
    clear hb hg
    by_cases hj8 : j < 8
    ·have F := za.mk (And.intro hj8 (And.intro HL.out.1 LT.out))
     have htl : (lb (l.take k) ++ bsx x j).length = 8 * k + j := by
      rw [List.length_append, lb_len, bsx_len, List.length_take]
      have := LT.out
      omega
     have hct : (ztd L (lb (l.take k) ++ bsx x j)).length = L := content_len (by rw [htl]; have := F.out; omega)
     obtain ⟨i, hi⟩ : ∃ i, i = L - 8 * k - j - 1 := ⟨_, rfl⟩
     have e1 : ((L - 8 * k - j : Nat) : Int) - 1 = (i : Int) := by have := F.out; omega
     have e2 : wrap64 (i : Int) = (i : Int) := by have := HL.out; unfold wrap64; omega
     have j1 : decide ((j : Int) < 8) = true := decide_eq_true (by omega)
     have j2 : decide (j < 8) = true := decide_eq_true hj8
     have i0 : decide (0 ≤ (i : Int)) = true := decide_eq_true (by omega)
     have i1 : (0 ≤ (i : Int)) = True := eq_true (by omega)
     have i2 : ((i : Int) < (L : Int)) = True := eq_true (by have := F.out; omega)
     have yc := hb2.out.cell i (by rw [hct]; have := F.out; omega)
     have yf := hb2.out.free i
     obtain ⟨d, hd⟩ : ∃ d, d = x / 256 ^ j := ⟨_, rfl⟩
     have hset := hb2.out.set i ((d : Int) % 256)
     have hb8 : (d : Int) % 256 = b8 x j := by unfold b8; rw [← hd]; omega
     have hbi : i = L - (lb (l.take k) ++ bsx x j).length - 1 := by rw [htl]; omega
     rw [hb8] at hset
     rw [hbi, zii _ (by rw [htl]; have := F.out; omega), ← hbi, List.append_assoc] at hset
     have hset2 : Bs (wr.setCell ⟨B, i, none⟩ (.int .u8 ((d : Int) % 256))) B (ztd L (lb (l.take k) ++ bsx x (j + 1))) := by rw [hb8]; exact hset
     have SET := za.mk hset2
     have HD := za.mk hd
     have HI := za.mk hi
     have ej : wrap64 ((j : Int) + 1) = ((j + 1 : Nat) : Int) := by unfold wrap64; omega
     rw [← hd]
     clear hj8 hj hi hset hset2 hb8 hbi hct htl hd hb2
     go_wp2
     go_roundw
     case rel =>
      refine ⟨j + 1, F.out.1, ?_, ?_, by first | rfl | go_num | rw [ej], SET, ⟨gr_set hg2.out (.inl rfl) _ _⟩⟩
      ·have h1 := HI.out; have h2 := F.out; congr 1; omega
      ·rw [← shr8, ← HD.out]; congr 1
     case measure => first | exact meas8 j F.out.1 | (rw [ej]; exact meas8 j F.out.1)
    ·obtain rfl : j = 8 := by omega
     have hdone : Bs wr B (ztd L (lb (l.take (k + 1)))) := by
      have e : l.take (k + 1) = l.take k ++ [x] := by
       rw [List.take_add_one, HX.out, List.getD_eq_getElem?_getD, List.getElem?_eq_getElem LT.out]
       rfl
      rw [e, lb_snoc]
      exact hb2.out
     have DONE := za.mk hdone
     have j1 : decide ((8 : Int) < 8) = false := by decide
     have ek : wrap64 ((k : Int) + 1) = ((k + 1 : Nat) : Int) := by have := HL.out; have := LT.out; unfold wrap64; omega
     have IE : za (((L - 8 * k - 8 : Nat) : Int) = ((L - 8 * (k + 1) : Nat) : Int)) := ⟨by congr 1⟩
     clear hj8 hj hdone hb2
     go_wp2
     go_roundw
     case rel => exact ⟨k + 1, LT.out, by rw [← IE.out], by first | rfl | go_num | rw [ek], DONE, hg2⟩
     case measure => first | exact zzf _ k LT.out | exact meas_up1 _ k LT.out | exact zpg _ k LT.out ek
  ·obtain rfl : k = l.length := by omega
   have i3 : decide ((l.length : Int) < (l.length : Int)) = false := decide_eq_false (by omega)
   have i4 : ((l.length : Int) < (l.length : Int)) = False := eq_false (by omega)
   have e0 : ((L - 8 * l.length : Nat) : Int) = 0 := by have := HL.out; omega
   have hdone : Bs wr B (lb l).reverse := by
    have h := hb.out
    rw [List.take_length, zhi L (by rw [lb_len]; exact HL.out.1.symm)] at h
    exact h
   have hlen : (lb l).reverse.length = L := by rw [List.length_reverse, lb_len]; exact HL.out.1.symm
   obtain ⟨bs, hbs⟩ : ∃ bs, bs = (lb l).reverse := ⟨_, rfl⟩
   rw [← hbs] at hdone hlen
   rw [e0]
   have HBS := za.mk hbs
   have DONE := za.mk hdone
   have LEN := za.mk hlen
   clear hb hk hlt hdone hlen hbs e0
   go_wp2
   go_loopw [4] (fun iv wr2 => ∃ i : Nat, i ≤ L ∧ iv = .int .i64 (i : Int) ∧ za (∀ j, j < i → bs.getD j 0 = 0) ∧ za (Bs wr2 B bs) ∧ za (w.grownBy wr2 (some B))) (fun iv _ => L - (intOf iv).toNat)
   case atStart => exact ⟨0, Nat.zero_le _, rfl, ⟨fun j hj => by omega⟩, DONE, hg⟩
   case round =>
    obtain ⟨i, hi, rfl, hz, hb2, hg2⟩ := hrel
    clear hg
    have hi2 := za.mk hi
    by_cases hlt : i < L
    ·have LT := za.mk hlt
     have i5 : decide ((i : Int) < (L : Int)) = true := decide_eq_true (by omega)
     have i5n : decide (i < L) = true := decide_eq_true hlt
     have i6 : ((i : Int) < (L : Int)) = True := eq_true (by omega)
     have i7 : (0 ≤ (i : Int)) = True := eq_true (by omega)
     have yc := hb2.out.cell i (by rw [LEN.out]; exact hlt)
     obtain ⟨y, hy⟩ : ∃ y, y = bs.getD i 0 := ⟨_, rfl⟩
     rw [← hy] at yc
     have HY := za.mk hy
     have ei : wrap64 ((i : Int) + 1) = ((i + 1 : Nat) : Int) := by have := HL.out; unfold wrap64; omega
     by_cases h0 : y = 0
     ·have y1 : (y == 0) = true := by simpa using h0
      have H0 := za.mk h0
      clear hlt hi hy h0
      go_wp2
      (try go_quiet (fail))
      go_wp2
      go_roundw
      case rel =>
       refine ⟨i + 1, LT.out, by first | rfl | go_num | rw [ei], ⟨fun j hj => ?_⟩, ⟨hb2.out.below (by repeat (first | exact Below.refl _ _ | apply ze | apply zdd))⟩, ⟨zwd hg2.out (by repeat (first | exact Below.refl _ _ | apply ze | apply zdd))⟩⟩
       rcases Nat.lt_or_ge j i with h | h
       ·exact hz.out j h
       ·have : j = i := by omega
        rw [this, ← HY.out]; exact H0.out
      case measure => first | exact zzf _ i LT.out | exact meas_up1 _ i LT.out | exact zpg _ i LT.out ei
     ·have y1 : (y == 0) = false := by simpa using h0
      have H0 := za.mk h0
      clear hlt hi hy h0
      go_wp2
      (try go_quiet (fail))
      go_wp2
      go_ret
      rw [← HBS.out]
      refine ⟨i, rfl, hi2.out, hb2.out.below (by repeat (first | exact Below.refl _ _ | apply ze | apply zdd)), zwg bs i hz.out (by rw [LEN.out]; exact hi2.out) (.inr (by rw [← HY.out]; exact H0.out)), zwd hg2.out (by repeat (first | exact Below.refl _ _ | apply ze | apply zdd))⟩
    ·obtain rfl : i = L := by omega
     have i5 : decide ((i : Int) < (i : Int)) = false := decide_eq_false (by omega)
     have i6 : ((i : Int) < (i : Int)) = False := eq_false (by omega)
     clear hlt hi
     go_wp2
     (try go_quiet (fail))
     go_wp2
     go_ret
     rw [← HBS.out]
     refine ⟨i, rfl, hi2.out, hb2.out.below (by repeat (first | exact Below.refl _ _ | apply ze | apply zdd)), zwg bs i hz.out (by rw [LEN.out]; exact hi2.out) (.inl LEN.out.symm), zwd hg2.out (by repeat (first | exact Below.refl _ _ | apply ze | apply zdd))⟩
theorem sign_ (w : World) (a n : Nat) (h : BigAt w a n) :
  Calls Tryd.prog 59 #[.pointer (some ⟨a, 0, none⟩)] w fun e w' => e = .returned (.int .i64 (if n = 0 then 0 else 1)) ∧ Below w.heap.size w w' := by
 obtain ⟨v, l, h1, h2, h3, h4, _⟩ := h
 have HB := za.mk (Below.refl w.heap.size w)
 obtain ⟨g, c, p, rfl, _⟩ := h2.reads
 unfold Bg at h1
 have x0 := (zj h1 0).trans rfl
 have x1 := (zj h1 1).trans rfl
 by_cases h0 : l.length = 0
 ·have hl : l = [] := List.length_eq_zero_iff.1 h0
  have hn : n = 0 := by rw [← h3, hl]; rfl
  rw [if_pos hn]
  have b1 : ((l.length : Int) == 0) = true := by rw [beq_iff_eq]; omega
  have b2 : ((l.length : Int) = 0) = True := eq_true (by omega)
  clear h2 h3 h4 h1 hl hn h0
  go_enter Tryd.func59, Tryd.ntmps59
  go_wp2
  go_ret
  exact ⟨rfl, HB.out⟩
 ·have hn : n ≠ 0 := by
   rw [← h3]
   have := num_low l h4 (by omega)
   have h5 : 0 < W64 ^ (l.length - 1) := Nat.pow_pos W64_pos
   omega
  rw [if_neg hn]
  have b1 : ((l.length : Int) == 0) = false := by rw [beq_eq_false_iff_ne]; omega
  have b2 : ((l.length : Int) = 0) = False := eq_false (by omega)
  clear h2 h3 h4 h1 hn h0
  go_enter Tryd.func59, Tryd.ntmps59
  go_wp2
  go_ret
  exact ⟨rfl, HB.out⟩
theorem infoByte : (Tryd.prog.info? 5).map (fun i => (i.zero, i.size, i.bytes)) = some (some (.int .u8 0), 1, 1) := by kernel_rfl
theorem make_bytes (n : Nat) (hn : n ≤ 1099511627776) : ∀ W : World, (Instr.makeSlice 23 (.int .i64 (n : Int)) (.int .i64 (n : Int))).run Tryd.prog W = .ok (.slice (some ⟨W.heap.size, 0, none⟩) n n) (W.alloc (.cells (Array.replicate n (BC 0)) 5)) := by
 intro W
 obtain ⟨i, hi, hzz⟩ := Option.map_eq_some_iff.1 infoByte
 simp only [Prod.mk.injEq] at hzz
 obtain ⟨hz0, hz1, hz2⟩ := hzz
 have h := run_make (P := Tryd.prog) W 23 5 i _ Tryd.underlying23 hi hz0 .i64 .i64 (n : Int) (n : Int) (by omega) (by omega) (by rw [hz2]; omega) (by omega)
 rw [h]
 simp only [Int.toNat_natCast, hz1, Nat.mul_one]
 congr 3
 apply Array.toList_inj.1
 apply List.ext_getElem
 ·simp [madeCells]
 ·intro i h1 h2
  simp [madeCells, Nat.mod_one, Value.cells, BC]
theorem bytesOf_ (w : World) (a n : Nat) (h : BigAt w a n) :
  Calls Tryd.prog 60 #[.pointer (some ⟨a, 0, none⟩)] w fun e w' => ∃ (A : Addr) (c : Nat), e = .returned (.slice (some A) (magL n).length c) ∧ zud w' .u8 (some A) (magL n).length (magL n) ∧ Below w.heap.size w w' := by
 obtain ⟨v, l, h1, h2, h3, h4, h5⟩ := h
 have HB := za.mk (Below.refl w.heap.size w)
 have hmag : ∀ i : Nat, (lb l).reverse.drop i = (lb l).reverse.dropWhile (fun x => decide (x = 0)) → (lb l).reverse.drop i = magL n := fun i e => by
  rw [e]
  exact mag_drop (lb_byt l) ((lb_val l h2.words).trans h3)
 have hC := za.mk (fun W (hb : Below w.heap.size w W) (hB : Bs W w.heap.size (List.replicate (8 * l.length) 0)) => bytes_ W w.heap.size a v l (h2.lt hb) h5 hB (fun g m c e => by
  subst e
  rcases h2 with ⟨h, _⟩ | ⟨g2, full, h, _, hw, _⟩
  ·cases h
  ·have := hw.lt
   injection h with h _ _
   injection h with h
   injection h with h
   omega))
 have HBS : za (Bs (w.alloc (.cells (Array.replicate (8 * l.length) (BC 0)) 5)) w.heap.size (List.replicate (8 * l.length) 0)) := ⟨by
  unfold Bs
  rw [show ((List.replicate (8 * l.length) (0 : Int)).map BC).toArray = Array.replicate (8 * l.length) (BC 0) by simp]
  exact zdf w _⟩
 have hm := make_bytes (8 * l.length) (by omega)
 have em : wrap64 ((8 * l.length : Nat) : Int) = ((8 * l.length : Nat) : Int) := by unfold wrap64; omega
 have em2 : (l.length : Int) * 8 = ((8 * l.length : Nat) : Int) := by omega
 have HMAG := za.mk hmag
 have HLL := za.mk (lb_len l)
 obtain ⟨g, c, p, rfl, _⟩ := h2.reads
 unfold Bg at h1
 have x1 := (zj h1 1).trans rfl
 have y1 := (zj (zub h1 (.cells (Array.replicate (8 * l.length) (BC 0)) 5)) 1).trans rfl
 have HL5 := za.mk h5
 clear h1 h2 h3 h4 h5 hmag
 obtain ⟨L, hL⟩ : ∃ L, L = 8 * l.length := ⟨_, rfl⟩
 rw [← hL] at hC HBS hm em em2 y1 HLL
 have HL := za.mk hL
 clear hL
 go_enter Tryd.func60, Tryd.ntmps60
 go_wp2_with (first | (go_at_call 74; (with_reducible refine (hC.out _ (zo HB.out _) HBS.out).mono ?_); rintro e' w1 ⟨i, rfl, hi, hb, hd, hg⟩; have B1 := za.mk hb; have G1 := za.mk hg; have D1 := za.mk (HMAG.out i hd); have I1 := za.mk hi; clear hb hg hd))
 ·go_ret
  have hlen : (magL n).length = 0 := by rw [← D1.out, List.length_drop, List.length_reverse, HLL.out]; omega
  refine ⟨⟨w.heap.size, 0, none⟩, ⟨0, by rw [hlen]; rfl⟩, ⟨rfl, by omega, fun h => ?_⟩, gr_from (zo HB.out _) (by rw [zcd]; omega) G1.out (Nat.le_refl _)⟩
  omega
 ·go_ret
  have hlen : L - i = (magL n).length := by rw [← D1.out, List.length_drop, List.length_reverse, HLL.out]
  refine ⟨⟨w.heap.size, i, none⟩, ⟨L - i, by rw [← hlen]; rfl⟩, ⟨rfl, by have := HL.out; have := HL5.out; omega, fun _ => ⟨_, rfl, fun j hj => ?_⟩⟩, gr_from (zo HB.out _) (by rw [zcd]; omega) G1.out (Nat.le_refl _)⟩
  rw [show (⟨w.heap.size, i, none⟩ : Addr).add j = ⟨w.heap.size, i + j, none⟩ by simp [Addr.add], B1.out.cell (i + j) (by rw [List.length_reverse, HLL.out]; omega), ← D1.out]
  simp [List.getD_eq_getElem?_getD]
theorem zzPlain_ (w : World) (a n : Nat) (h : BigAt w a n) :
  Calls Tryd.prog 47 #[.pointer (some ⟨a, 0, none⟩)] w fun e w' => e = .returned (.agg #[.bool false, .string (magB n)]) ∧ Below w.heap.size w w' := by
 have HB := za.mk (Below.refl w.heap.size w)
 have hS := za.mk (fun W (hb : Below w.heap.size w W) => sign_ W a n (h.below hb))
 have hY := za.mk (fun W (hb : Below w.heap.size w W) => bytesOf_ W a n (h.below hb))
 obtain ⟨s, hs⟩ : ∃ s : Int, s = if n = 0 then 0 else 1 := ⟨_, rfl⟩
 rw [← hs] at hS
 have s1 : decide (s < 0) = false := by rw [decide_eq_false_iff_not, hs]; split <;> omega
 have MB : za (strOfNums (magL n) = magB n) := ⟨rfl⟩
 clear h hs
 go_enter Tryd.func47, Tryd.ntmps47
 go_wp2_with (first | (go_at_call 59; (with_reducible refine (hS.out _ (zo HB.out _)).mono ?_); rintro e' w1 ⟨rfl, hb⟩; have B1 := za.mk (zm (zo HB.out _) hb); have g1 := za.mk (zk (zdf w (.cells #[.bool false, .string ⟨#[]⟩] 77)) hb); clear hb) | (go_at_call 60; (with_reducible refine (hY.out _ B1.out).mono ?_); rintro e' w2 ⟨A, c, rfl, hr, hb⟩; have B2 := za.mk (zm B1.out hb); have g2 := zk g1.out hb; have cv := string_of_reads (P := Tryd.prog) (c := c) Tryd.underlying23 Tryd.underlying5 Tryd.underlying9 hr; have f0 := zu g2 0; have f1 := zu g2 1; have y0 := zj g2 0; have y1 := zj g2 1; have G2 := za.mk g2; clear hb hr g2))
 (try simp only [Exit.inBlock, Exit.then])
 refine bodyPost_ret (results_cell_row rfl _ _ w.heap.size 77 #[.bool false, .string (strOfNums (magL n))] (0, 0) _ rfl (zv (zv G2.out 0 _ rfl) 1 _ rfl) Tryd.underlying77 rfl (by kernel_rfl)) rfl ?_
 exact ⟨by rw [MB.out], zi (zi B2.out (Nat.le_refl _)) (Nat.le_refl _)⟩
end Go.Proofs.YtapaijpglfmfgaaDoorG
end
section
namespace Go.Proofs.YtapaijpglfmfgaaDoorG
open Go.RowKit YtapaijpglfmfgaaDoorH YtapaijpglfmfgaaDoor.S YtapaijpglfmfgaaDoorW.PrintWords YtapaijpglfmfgaaDoorW.PrintLast
theorem conv_at (W : World) (s : ByteArray) (hp : Plain s) (hG : GLe W) (hd : zod s) :
  Calls Tryd.prog 52 #[.string s] W fun e w' => ∃ a, e = .returned (.tuple #[.pointer (some ⟨a, 0, none⟩), .nilIface]) ∧ BigAt w' a (dv s s.size) ∧ Below W.heap.size W w' := by
 refine (conv_yes W s hp hG hd).mono ?_
 rintro e w' ⟨rfl, h1, h2⟩
 exact ⟨_, rfl, h1, h2⟩
theorem GLe.lt {w w' : World} (h : GLe w) (hb : Below w.heap.size w w') : GLe w' := h.below hb (Nat.le_refl _)
theorem parseBuild_e (w : World) (g : Nat) (s : ByteArray) (h0 : s.toList = []) :
  Calls Tryd.prog 46 #[.pointer (some ⟨g, 0, none⟩), .string s] w fun e w' => e = .returned (.tuple #[.string s, .nilIface]) ∧ w' = w := by
 have e1 : (s.toList == []) = true := by simpa using h0
 have e2 : (s.toList != []) = false := by simpa using h0
 have e3 : s.toList.isEmpty = true := by simpa using h0
 clear h0
 go_enter Tryd.func46, Tryd.ntmps46
 go_wp2
 go_ret2
 exact ⟨rfl, rfl⟩
theorem eql_nil_nil : ∀ W : World, (binOp .eql 42 (.slice none 0 0) (.slice none 0 0)).run Tryd.prog W = .ok (.bool true) W := by
 intro W
 have h : ∀ d : Nat, (Op.equalIn (d + 1) 42 (.slice none 0 0) (.slice none 0 0)).run Tryd.prog W = .ok true W := fun d => by
  simp [Op.equalIn, run_underlying Tryd.underlying42]
 simp only [binOp]
 simp [Op.equal, Op.maxDepth, h 9999]
theorem parseBuild_n (w : World) (g : Nat) (o : ByteArray) (i : Bool) (r : ByteArray) (cv sv : Value) (l h : ByteArray) (bv : Value) (s : ByteArray) (hv : VBlk w g o i r cv l sv h bv) (h0 : s.toList ≠ []) (h1 : zxb.f s 0 ⟨#[45, 114]⟩ = some false) :
  Calls Tryd.prog 46 #[.pointer (some ⟨g, 0, none⟩), .string s] w fun e w' => e = .returned (.tuple #[.string s, .nilIface]) ∧ VBlk w' g o true r cv l sv h bv ∧ w.grownBy w' (some g) := by
 unfold VBlk at hv ⊢
 have e1 : (s.toList == []) = false := by simpa using h0
 have e2 : (s.toList != []) = true := by simpa using h0
 have e3 : s.toList.isEmpty = false := by simpa using h0
 have HG := za.mk hv
 have HC := za.mk (alpBuild_no w s h1)
 have z1 := eql_nil_nil
 clear h0 hv h1
 go_enter Tryd.func46, Tryd.ntmps46
 go_wp2_with (first | (go_at_call 58; (with_reducible refine HC.out.mono ?_); rintro e' w1 ⟨rfl, hb⟩; have g0 := zk HG.out hb; have x0 := (zj g0 1).trans rfl; have f0 := zu g0 1; have g1 := zv (cs' := #[.string o, .bool true, .string r, cv, .string l, sv, .string h, bv]) g0 1 (.bool true) rfl; have G1 := za.mk g1; have B1 := za.mk hb; clear g0 g1 hb))
 go_ret2
 exact ⟨rfl, G1.out, gr_set (zwd (zrf w _) B1.out) (.inl rfl) _ _⟩
def or0 (d : ByteArray) : ByteArray := if d.toList = [] then ⟨#[48]⟩ else d
theorem eql_slice_nil (a : Addr) (n c : Nat) : ∀ W : World, (binOp .eql 42 (.slice (some a) n c) (.slice none 0 0)).run Tryd.prog W = .ok (.bool false) W := by
 intro W
 have h : ∀ d : Nat, (Op.equalIn (d + 1) 42 (.slice (some a) n c) (.slice none 0 0)).run Tryd.prog W = .ok false W := fun d => by
  simp [Op.equalIn, run_underlying Tryd.underlying42]
 simp only [binOp]
 simp [Op.equal, Op.maxDepth, h 9999]
theorem parseBuild_y (w : World) (g : Nat) (o : ByteArray) (i : Bool) (r : ByteArray) (cv sv : Value) (l h : ByteArray) (bv : Value) (s rest : ByteArray) (k n : Nat) (hv : VBlk w g o i r cv l sv h bv) (hGL : GLe w) (h0 : s.toList ≠ [])
  (h1 : zxb.f s 0 ⟨#[45, 114]⟩ = some true) (h2 : zdb.f k s 2 = some (n : Int)) (h3 : 2 ≤ n) (h4 : n ≤ s.size) (h5 : Plain (or0 (s.extract 2 n))) (h6 : zod (or0 (s.extract 2 n))) (h7 : zeb.f s (s.extract 0 n) = some rest) :
  Calls Tryd.prog 46 #[.pointer (some ⟨g, 0, none⟩), .string s] w fun e w' => ∃ a, e = .returned (.tuple #[.string rest, .nilIface]) ∧ VBlk w' g o i r cv l sv h (.pointer (some ⟨a, 0, none⟩)) ∧ BigAt w' a (dv (or0 (s.extract 2 n)) (or0 (s.extract 2 n)).size) ∧ w.grownBy w' (some g) := by
 have hlt := hv.lt
 unfold VBlk at hv ⊢
 have e1 : (s.toList == []) = false := by simpa using h0
 have e2 : (s.toList != []) = true := by simpa using h0
 have e3 : s.toList.isEmpty = false := by simpa using h0
 have HG := za.mk hv
 have hC := alpBuild_yes w s k n h1 h2 h3 h4
 obtain ⟨d0, hd0⟩ : ∃ d, d = s.extract 0 n := ⟨_, rfl⟩
 obtain ⟨d1, hd1⟩ : ∃ d, d = s.extract 2 n := ⟨_, rfl⟩
 rw [← hd0] at hC h7
 rw [← hd1] at hC h5 h6 ⊢
 have HC := za.mk hC
 have HS := za.mk h7
 have HNE := za.mk (show w.heap.size ≠ g by omega)
 have HMS := za.mk (Nat.le_refl w.heap.size)
 have z1 := eql_slice_nil ⟨w.heap.size, 0, none⟩ 2 2
 clear h0 hv h1 h2 h3 h4 h7 hlt hC hd0 hd1
 by_cases hd : d1.toList = []
 ·have c1 : (d1.toList == []) = true := by simpa using hd
  have c2 : (d1.toList != []) = false := by simpa using hd
  have c3 : d1.toList.isEmpty = true := by simpa using hd
  have eo : or0 d1 = ⟨#[48]⟩ := if_pos hd
  rw [eo] at h5 h6 ⊢
  have HV := za.mk (fun W (hb : Below w.heap.size w W) => conv_at W _ h5 (hGL.lt hb) h6)
  clear hd eo h5 h6 hGL
  go_enter Tryd.func46, Tryd.ntmps46
  go_wp2_with (first | (go_at_call 58; (with_reducible refine HC.out.mono ?_); rintro e' w1 ⟨rfl, hm1, hb⟩; have y0 := (zj hm1 1).trans rfl; have yf := zu hm1 1; have hm2 := zv (cs' := #[.string d0, .string ⟨#[48]⟩]) hm1 1 (.string ⟨#[48]⟩) rfl; have y1 := (zj hm2 1).trans rfl; have M2 := za.mk hm2; have B2 := za.mk (zi (v := .string ⟨#[48]⟩) (j := 1) hb HMS.out); clear hm1 hm2 hb) | (go_at_call 52; (with_reducible refine (HV.out _ B2.out).mono ?_); rintro e' w3 ⟨a, rfl, hA, hb⟩; have B3 := za.mk (zm B2.out hb); have HA := za.mk hA; have g0 := zk HG.out B3.out; have x0 := (zj g0 7).trans rfl; have f0 := zu g0 7; have g1 := zv (cs' := #[.string o, .bool i, .string r, cv, .string l, sv, .string h, .pointer (some ⟨a, 0, none⟩)]) g0 7 (.pointer (some ⟨a, 0, none⟩)) rfl; have G0 := za.mk g0; have G1 := za.mk g1; have hm3 := zk M2.out hb; have y3 := (zj (zmb hm3 (p := ⟨g, 7, none⟩) HNE.out (.pointer (some ⟨a, 0, none⟩))) 0).trans rfl; clear g0 g1 hm3 hb hA) | (go_at_call 53; (with_reducible refine (zeb.calls s d0 rest _ HS.out).mono ?_); rintro e' w' ⟨rfl, ⟨nd2, rfl⟩⟩))
  go_ret2
  exact ⟨a, rfl, zz G1.out _, (HA.out.kept (KeptT.set G0.out (by decide) 7 _)).below (ze (Below.refl _ _) _), zgf (gr_set (zwd (zrf w _) B3.out) (.inl rfl) _ _) _⟩
 ·have c1 : (d1.toList == []) = false := by simpa using hd
  have c2 : (d1.toList != []) = true := by simpa using hd
  have c3 : d1.toList.isEmpty = false := by simpa using hd
  have eo : or0 d1 = d1 := if_neg hd
  rw [eo] at h5 h6 ⊢
  have HV := za.mk (fun W (hb : Below w.heap.size w W) => conv_at W _ h5 (hGL.lt hb) h6)
  clear hd eo h5 h6 hGL
  go_enter Tryd.func46, Tryd.ntmps46
  go_wp2_with (first | (go_at_call 58; (with_reducible refine HC.out.mono ?_); rintro e' w1 ⟨rfl, hm1, hb⟩; have y0 := (zj hm1 1).trans rfl; have M2 := za.mk hm1; have B2 := za.mk hb; clear hm1 hb) | (go_at_call 52; (with_reducible refine (HV.out _ B2.out).mono ?_); rintro e' w3 ⟨a, rfl, hA, hb⟩; have B3 := za.mk (zm B2.out hb); have HA := za.mk hA; have g0 := zk HG.out B3.out; have x0 := (zj g0 7).trans rfl; have f0 := zu g0 7; have g1 := zv (cs' := #[.string o, .bool i, .string r, cv, .string l, sv, .string h, .pointer (some ⟨a, 0, none⟩)]) g0 7 (.pointer (some ⟨a, 0, none⟩)) rfl; have G0 := za.mk g0; have G1 := za.mk g1; have hm3 := zk M2.out hb; have y3 := (zj (zmb hm3 (p := ⟨g, 7, none⟩) HNE.out (.pointer (some ⟨a, 0, none⟩))) 0).trans rfl; clear g0 g1 hm3 hb hA) | (go_at_call 53; (with_reducible refine (zeb.calls s d0 rest _ HS.out).mono ?_); rintro e' w' ⟨rfl, ⟨nd2, rfl⟩⟩))
  go_ret2
  exact ⟨a, rfl, zz G1.out _, (HA.out.kept (KeptT.set G0.out (by decide) 7 _)).below (ze (Below.refl _ _) _), zgf (gr_set (zwd (zrf w _) B3.out) (.inl rfl) _ _) _⟩
end Go.Proofs.YtapaijpglfmfgaaDoorG
end
section
namespace Go.Proofs.YtapaijpglfmfgaaDoorG
open Go.RowKit YtapaijpglfmfgaaDoorH YtapaijpglfmfgaaDoor.S YtapaijpglfmfgaaDoorW.PrintWords YtapaijpglfmfgaaDoorW.PrintLast
theorem infoNum : (Tryd.prog.info? 103).map (fun i => (i.zero, i.size, i.bytes)) = some (some (.agg #[.string ⟨#[]⟩, .pointer none, .int .i64 0]), 3, 32) := by kernel_rfl
theorem infoSuf : (Tryd.prog.info? 106).map (fun i => (i.zero, i.size, i.bytes)) = some (some (.agg #[.int .i64 0, .pointer none]), 2, 16) := by kernel_rfl
def nmCell (x : Nm × Nat) : List Value := [.string x.1.o, .pointer (some ⟨x.1.a, 0, none⟩), .int .i64 (x.2 : Int)]
def zve (l : List Nm) : List (List Value) := l.zipIdx.map nmCell
theorem nmCells_snoc (l : List Nm) (x : Nm) : zve (l ++ [x]) = zve l ++ [[.string x.o, .pointer (some ⟨x.a, 0, none⟩), .int .i64 (l.length : Int)]] := by
 unfold zve
 rw [Kd.zip_snoc]
 simp [nmCell]
theorem zlf (l : List Nm) : (zve l).length = l.length := by simp [zve]
def NGood (w : World) (x : Nm) : Prop := BigAt w x.a x.n ∧ x.n = dv x.o x.o.size ∧ 0 < x.o.size
def NOwn (w : World) (base : Nat) (v : Value) (l : List Nm) : Prop := Kd.R (Kd.raw 3) 103 w base (fun _ => True) v (zve l) ∧ ∀ x ∈ l, NGood w x
theorem NOwn.crow {w : World} {base : Nat} {v : Value} {l : List Nm} (h : NOwn w base v l) (hl : l.length ≤ 1000000) : CRow w v l := by
 obtain ⟨hr, hx⟩ := h
 rcases Nat.eq_zero_or_pos l.length with h0 | h0
 ·obtain ⟨A, c, e, _⟩ := Kd.R_reads hr
  rw [zlf] at e
  exact ⟨A, c, e, hl, fun i x hi => by rw [List.eq_nil_of_length_eq_zero h0] at hi; simp at hi⟩
 ·obtain ⟨g, cap, e, _⟩ := Kd.R_form hr (by rw [zlf]; exact h0)
  subst e
  refine ⟨some ⟨g, 0, none⟩, cap, by rw [zlf], hl, fun i x hi => ⟨g, rfl, ?_⟩⟩
  have hil : i < l.length := (List.getElem?_eq_some_iff.1 hi).1
  obtain ⟨c, hc1, hM, hcc, _⟩ := Kd.R_elem hr [] (i : Int) (by omega) (by rw [zlf]; omega)
  have hgd : (zve l).getD (i : Int).toNat [] = [.string x.o, .pointer (some ⟨x.a, 0, none⟩), .int .i64 (i : Int)] := by
   rw [List.getD_eq_getElem?_getD]
   unfold zve
   rw [List.getElem?_map, show ((i : Int).toNat) = i by omega, Kd.zip_at hi]
   rfl
  rw [hgd] at hM
  obtain ⟨rfl, _⟩ := hM
  have h0' := hcc 0 _ rfl
  have h1' := hcc 1 _ rfl
  have h2' := hcc 2 _ rfl
  obtain ⟨k1, _, k3⟩ := hx x (List.mem_of_getElem? hi)
  exact ⟨h0', h1', h2', k1, k3⟩
theorem NGood.below {w w' : World} {x : Nm} (h : NGood w x) (hb : Below w.heap.size w w') : NGood w' x := ⟨h.1.below hb, h.2⟩
theorem NGood.kept {w w' : World} {x : Nm} (h : NGood w x) (hb : KeptT numT w w') : NGood w' x := ⟨h.1.kept hb, h.2⟩
theorem KeptT.sub {p q : TypeId → Bool} {w w' : World} (h : KeptT q w w') (hpq : ∀ t, p t = true → q t = true) : KeptT p w w' := fun k cs t fr hk hp => h k cs t fr hk (hpq t hp)
theorem KeptT.blk {p : TypeId → Bool} {w w' : World} {g : Nat} {cs : Array Value} {t : TypeId} {fr : Nat × Nat} (h : KeptT p w w') (hg : w.heap[g]? = some (.cells cs t fr)) (hp : p t = true) : w'.heap[g]? = some (.cells cs t fr) := (h g cs t fr hg hp).trans hg
def zse (l : List ByteArray) : List ByteArray := l.takeWhile (fun d => decide (d.toList ≠ []))
theorem takeNe_at {l : List ByteArray} {k : Nat} (h1 : ∀ d ∈ l.take k, d.toList ≠ []) : (l.length ≤ k ∨ ∃ d, l[k]? = some d ∧ d.toList = []) → zse l = l.take k := by
 induction l generalizing k with
 | nil => simp [zse]
 | cons a l ih =>
  intro h
  cases k with
  | zero =>
   rcases h with h | ⟨d, h2, h3⟩
   ·simp at h
   ·simp at h2
    subst h2
    simp [zse, h3]
  | succ k =>
   have ha : a.toList ≠ [] := h1 a (by simp)
   have := ih (k := k) (fun d hd => h1 d (by simp [hd])) (by simpa using h)
   simp only [zse, List.takeWhile_cons, List.take_succ_cons] at this ⊢
   rw [if_pos (by simpa using ha), this]
theorem takeNe_mem {l : List ByteArray} {k : Nat} {d : ByteArray} (h1 : ∀ d ∈ l.take k, d.toList ≠ []) (h2 : l[k]? = some d) (h3 : d.toList ≠ []) : d ∈ zse l := by
 induction l generalizing k with
 | nil => simp at h2
 | cons a l ih =>
  cases k with
  | zero =>
   simp at h2
   subst h2
   simp [zse, h3]
  | succ k =>
   have ha : a.toList ≠ [] := h1 a (by simp)
   have := ih (k := k) (fun d hd => h1 d (by simp [hd])) (by simpa using h2)
   simp only [zse, List.takeWhile_cons] at this ⊢
   rw [if_pos (by simpa using ha)]
   exact List.mem_cons_of_mem _ this
theorem parseNums_e (w : World) (g : Nat) (s sub : ByteArray) (k : Nat) (h1 : zw.f k s = some sub) (h0 : sub.toList = []) :
  Calls Tryd.prog 42 #[.pointer (some ⟨g, 0, none⟩), .string s] w fun e w' => e = .returned (.tuple #[.string s, .nilIface]) ∧ ∃ n, w' = w.drewN n := by
 have e1 : (sub.toList == []) = true := by simpa using h0
 have e2 : (sub.toList != []) = false := by simpa using h0
 have e3 : sub.toList.isEmpty = true := by simpa using h0
 have H1 := za.mk h1
 clear h0 h1
 go_enter Tryd.func42, Tryd.ntmps42
 go_wp2_with (first | (go_at_call 50; (with_reducible refine (zw.calls k s sub _ H1.out).mono ?_); rintro e' w' ⟨rfl, ⟨nd, rfl⟩⟩))
 go_ret2
 exact ⟨rfl, _, rfl⟩
structure NInv (w wr : World) (g : Nat) (o : ByteArray) (i : Bool) (r : ByteArray) (cv : Value) (l : ByteArray) (sv : Value) (h : ByteArray) (bv : Value) (sp : Value) (parts : List ByteArray) (k : Nat) (ns : List Nm) : Prop where
  told : ns.map (·.o) = parts.take k
  ne : ∀ d ∈ parts.take k, d.toList ≠ []
  blk : VBlk wr g o i r cv l sv h bv
  own : NOwn wr w.heap.size cv ns
  row : Kd.R Kd.string 9 wr w.heap.size (fun _ => True) sp parts
  gr : w.grownBy wr (some g)
theorem NInv.below {w wr w' : World} {g : Nat} {o : ByteArray} {i : Bool} {r : ByteArray} {cv : Value} {l : ByteArray} {sv : Value} {h : ByteArray} {bv sp : Value} {parts : List ByteArray} {k : Nat} {ns : List Nm} (H : NInv w wr g o i r cv l sv h bv sp parts k ns) (hb : Below wr.heap.size wr w') : NInv w w' g o i r cv l sv h bv sp parts k ns :=
 ⟨H.told, H.ne, zk H.blk hb, ⟨Kd.R_below H.own.1 hb, fun x hx => (H.own.2 x hx).below hb⟩, Kd.R_below H.row hb, zwd H.gr hb⟩
def notNum (t : TypeId) : Bool := t != 103
theorem numT_notNum (t : TypeId) (h : numT t = true) : notNum t = true := by
 unfold numT at h
 unfold notNum
 rcases Bool.or_eq_true_iff.mp h with h | h
 ·rw [of_decide_eq_true h]; decide
 ·rw [of_decide_eq_true h]; decide
theorem NInv.step {w wr w7 : World} {g : Nat} {o : ByteArray} {i : Bool} {r : ByteArray} {cv v1 : Value} {l : ByteArray} {sv : Value} {h : ByteArray} {bv sp : Value} {parts : List ByteArray} {k : Nat} {ns : List Nm} (H : NInv w wr g o i r cv l sv h bv sp parts k ns) {d : ByteArray} {a : Nat} (hd : parts[k]? = some d) (hne : d.toList ≠ []) (hA : BigAt wr a (dv d d.size)) (hs : 0 < d.size)
    (ho : Kd.R (Kd.raw 3) 103 w7 w.heap.size (fun _ => True) v1 (zve ns ++ [[.string d, .pointer (some ⟨a, 0, none⟩), .int .i64 (k : Int)]])) (hg : wr.grownBy w7 cv.ownBlock) : NInv w (w7.setCell ⟨g, 3, none⟩ v1) g o i r v1 l sv h bv sp parts (k + 1) (ns ++ [⟨d, a, dv d d.size⟩]) := by
  have hk : ns.length = k := by
    have := congrArg List.length H.told
    have hkl := (List.getElem?_eq_some_iff.1 hd).1
    simpa [Nat.min_eq_left (Nat.le_of_lt hkl)] using this
  have K : KeptT notNum wr w7 := KeptT.row (by decide) H.own.1 hg
  have KN : KeptT numT wr w7 := K.sub numT_notNum
  have B7 : VBlk w7 g o i r cv l sv h bv := K.blk H.blk (by decide)
  have KN2 : KeptT numT wr (w7.setCell ⟨g, 3, none⟩ v1) := KN.trans (KeptT.set B7 (by decide) 3 _)
  have ht : parts.take (k + 1) = parts.take k ++ [d] := by
    rw [List.take_add_one, hd]; rfl
  refine ⟨by rw [ht, List.map_append, H.told]; rfl, fun x hx => ?_, zv B7 3 _ rfl, ⟨?_, fun x hx => ?_⟩, ?_, ?_⟩
  · rw [ht] at hx
    rcases List.mem_append.mp hx with hx | hx
    · exact H.ne x hx
    · simp at hx; subst hx; exact hne
  · rw [nmCells_snoc, hk]
    exact Kd.R_set ho B7 (by intro q hq; have : q = 103 := by simpa [Kd.raw] using hq
                             subst this; decide) 3 _
  · rcases List.mem_append.mp hx with hx | hx
    · exact (H.own.2 x hx).kept KN2
    · simp at hx; subst hx; exact ⟨hA.kept KN2, rfl, hs⟩
  · refine zue (p := fun t => t == 9) rfl (by decide) H.row ((K.sub fun t ht => ?_).trans (KeptT.set B7 (by decide) 3 _))
    rw [of_decide_eq_true ht]; decide
  · refine gr_set (gr_then H.gr hg (fun b hb => ?_)) (.inl rfl) _ _
    exact .inr (Kd.R_base H.own.1 b hb)
theorem parseNums_ (w : World) (g : Nat) (o : ByteArray) (i : Bool) (r : ByteArray) (sv : Value) (l h : ByteArray) (bv : Value) (s sub rest : ByteArray) (k1 k2 : Nat) (parts : List ByteArray) (hv : VBlk w g o i r (.slice none 0 0) l sv h bv) (hGL : ∀ W, w.grownBy W (some g) → GLe W)
    (h1 : zw.f k1 s = some sub) (h0 : sub.toList ≠ []) (h2 : zkb.f k2 sub ⟨#[46]⟩ = some parts) (hp : 0 < parts.length) (hl : parts.length ≤ 1000000) (h4 : ∀ d ∈ zse parts, Plain d ∧ zod d) (h5 : zeb.f s sub = some rest) :
    Calls Tryd.prog 42 #[.pointer (some ⟨g, 0, none⟩), .string s] w fun e w' => ∃ cv ns, e = .returned (.tuple #[.string rest, .nilIface]) ∧ VBlk w' g o i r cv l sv h bv ∧ NOwn w' w.heap.size cv ns ∧ ns.map (·.o) = zse parts ∧ w.grownBy w' (some g) := by
  have e1 : (sub.toList == []) = false := by simpa using h0
  have e2 : (sub.toList != []) = true := by simpa using h0
  have e3 : sub.toList.isEmpty = false := by simpa using h0
  have HG := za.mk hv
  have H1 := za.mk h1
  have H2 := za.mk h2
  have H4 := za.mk h4
  have H5 := za.mk h5
  have HGL := za.mk hGL
  have HP := za.mk hp
  have HL := za.mk hl
  clear h0 h1 h2 h4 h5 hv hGL hp hl
  go_enter Tryd.func42, Tryd.ntmps42
  go_wp2_with (first | (go_at_call 50; (with_reducible refine (zw.calls k1 s sub _ H1.out).mono ?_); rintro e' w' ⟨rfl, ⟨nd, rfl⟩⟩) | (go_at_call 51; (with_reducible refine (zkb.calls k2 sub ⟨#[46]⟩ parts _ H2.out).mono ?_); rintro e' w1 ⟨sp, rfl, hr, hb⟩; obtain ⟨b, cap, rfl, hb1, hb2, hb3⟩ := Kd.R_form hr HP.out; have B1 := za.mk (zei (ze (Below.refl w.heap.size w) nd) (Nat.le_refl w.heap.size) hb); have R1 := za.mk hr; clear hr hb hb1 hb2 hb3))
  have I0 : za (NInv w w1 g o i r (.slice none 0 0) l sv h bv (.slice (some ⟨b, 0, none⟩) parts.length cap) parts 0 []) := ⟨⟨rfl, fun d hd => by simp at hd, zk HG.out B1.out, ⟨Kd.R_nil _ _ _ _ _, fun x hx => by simp at hx⟩, R1.out, zwd (zrf w _) B1.out⟩⟩
  go_loopw [19] (fun iv wr => ∃ (k : Nat) (ns : List Nm) (cv : Value), k ≤ parts.length ∧ iv = .int .i64 k ∧ za (NInv w wr g o i r cv l sv h bv (.slice (some ⟨b, 0, none⟩) parts.length cap) parts k ns)) (fun iv _ => parts.length - (intOf iv).toNat)
  case atStart => exact ⟨0, [], _, Nat.zero_le _, rfl, I0⟩
  case round =>
    obtain ⟨k, ns, cv, hk, rfl, HI⟩ := hrel
    by_cases hlt : k < parts.length
    · have i3 : decide ((k : Int) < (parts.length : Int)) = true := decide_eq_true (by omega)
      have i4 : ((k : Int) < (parts.length : Int)) = True := eq_true (by omega)
      have i5 : (0 ≤ (k : Int)) = True := eq_true (by omega)
      have WR : wrap64 ((k : Int) + 1) = ((k + 1 : Nat) : Int) := by have := HL.out; unfold wrap64; omega
      have LT := za.mk hlt
      obtain ⟨d, hd⟩ : ∃ d, parts[k]? = some d := ⟨_, List.getElem?_eq_getElem (by omega)⟩
      have HD := za.mk hd
      have y0 : wr.cell? ⟨b, k, none⟩ = some (.string d) := by
        obtain ⟨c, hc1, hM, hcc, _⟩ := Kd.R_elem HI.out.row ByteArray.empty (k : Int) (by omega) (by omega)
        have hgd : parts.getD (k : Int).toNat ByteArray.empty = d := by
          rw [List.getD_eq_getElem?_getD, show ((k : Int).toNat) = k by omega, hd]; rfl
        rw [hgd] at hM
        have hM2 : c = [.string d] := hM
        have := hcc 0 (.string d) (by rw [hM2]; rfl)
        rw [show (k : Int).toNat * Kd.string.sz + 0 = k by show (k : Int).toNat * 1 + 0 = k; omega] at this
        exact this
      clear hlt hk hd
      by_cases hde : d.toList = []
      · have c1 : (d.toList == []) = true := by simpa using hde
        have c2 : (d.toList != []) = false := by simpa using hde
        have c3 : d.toList.isEmpty = true := by simpa using hde
        have HE := za.mk (takeNe_at HI.out.ne (.inr ⟨d, HD.out, hde⟩))
        clear hde
        go_wp2_with (first | (go_at_call 53; (with_reducible refine (zeb.calls s sub rest _ H5.out).mono ?_); rintro e' w' ⟨rfl, ⟨nd2, rfl⟩⟩))
        go_ret2
        exact ⟨cv, ns, rfl, zz HI.out.blk _, ⟨Kd.R_drewN HI.out.own.1 _, fun x hx => (HI.out.own.2 x hx).below (ze (Below.refl _ _) _)⟩, by rw [HI.out.told, HE.out], zgf HI.out.gr _⟩
      · have c1 : (d.toList == []) = false := by simpa using hde
        have c2 : (d.toList != []) = true := by simpa using hde
        have c3 : d.toList.isEmpty = false := by simpa using hde
        have HDE := za.mk hde
        have hgood := H4.out d (takeNe_mem HI.out.ne HD.out hde)
        have HDS := za.mk hgood.2.1
        have HNL : za (ns.length ≤ 1000000) := ⟨by have q1 := congrArg List.length HI.out.told; have q2 := HL.out; rw [List.length_map, List.length_take] at q1; omega⟩
        have HV := za.mk (conv_at wr d hgood.1 (HGL.out wr HI.out.gr) hgood.2)
        clear hde hgood
        go_wp2_with (first | (go_at_call 52; (with_reducible refine HV.out.mono ?_); rintro e' w3 ⟨a, rfl, hA, hb⟩; have I3 := za.mk (HI.out.below hb); have HA := za.mk hA; have x3 := (zj I3.out.blk 3).trans rfl; clear hb hA) | ((with_reducible refine zqd (b := .append) (xs := #[.tmp 38, .tmp 43]) rfl ?_); at_builtin; refine Kd.R_append (Kd.raw 3) (w0 := w3) w.heap.size rfl (.tmp 38) (.tmp 43) 65 103 (.agg #[.string ⟨#[]⟩, .pointer none, .int .i64 0]) 32 rfl Tryd.underlying65 infoNum rfl (by decide) (by omega) cv (zve ns) [.string d, .pointer (some ⟨a, 0, none⟩), .int .i64 (k : Int)] [.string d, .pointer (some ⟨a, 0, none⟩), .int .i64 (k : Int)] (fun _ => True) (fun _ => False) rfl rfl ?aP (fun _ hk => hk.elim) (fun _ _ => trivial) I3.out.own.1 (Below.refl _ _) I3.out.gr.size ?aL ?_; (case aP => exact ⟨rfl, rfl, by intro u hu; simp at hu; rcases hu with rfl | rfl | rfl <;> rfl⟩); (case aL => rw [zlf]; have := HNL.out; omega); intro v1 w7 ho hb hg hat; obtain ⟨A1, n1, cp1, rfl⟩ : ∃ A n c, v1 = .slice A n c := (by obtain ⟨A, c, e⟩ := Kd.R_slice ho; exact ⟨A, _, c, e⟩); have K7 := KeptT.row (p := notNum) (by decide) I3.out.own.1 hg; have B7 := za.mk (K7.blk I3.out.blk (by decide)); have x7 := (zj B7.out 3).trans rfl; have f7 := zu B7.out 3; have I7 := za.mk (I3.out.step HD.out HDE.out HA.out HDS.out ho hg); clear ho hb hg hat K7))
        go_roundw
        all_goals first | exact ⟨k + 1, _, .slice A1 n1 cp1, LT.out, by first | rfl | go_num, I7⟩ | exact zzf _ k LT.out | exact meas_up1 _ k LT.out | exact zpg _ k LT.out WR
    · obtain rfl : k = parts.length := by omega
      have i3 : decide ((parts.length : Int) < (parts.length : Int)) = false := decide_eq_false (by omega)
      have i4 : ((parts.length : Int) < (parts.length : Int)) = False := eq_false (by omega)
      have HE := za.mk (takeNe_at HI.out.ne (.inl (Nat.le_refl _)))
      clear hlt hk
      go_wp2_with (first | (go_at_call 53; (with_reducible refine (zeb.calls s sub rest _ H5.out).mono ?_); rintro e' w' ⟨rfl, ⟨nd2, rfl⟩⟩))
      go_ret2
      exact ⟨cv, ns, rfl, zz HI.out.blk _, ⟨Kd.R_drewN HI.out.own.1 _, fun x hx => (HI.out.own.2 x hx).below (ze (Below.refl _ _) _)⟩, by rw [HI.out.told, HE.out], zgf HI.out.gr _⟩
end Go.Proofs.YtapaijpglfmfgaaDoorG
end
section
namespace Go.Proofs.YtapaijpglfmfgaaDoorG
open Go.RowKit YtapaijpglfmfgaaDoorH YtapaijpglfmfgaaDoor.S YtapaijpglfmfgaaDoorW.PrintWords YtapaijpglfmfgaaDoorW.PrintLast
def zke (l : List Sx) : List (List Value) := l.map fun x => [.int .i64 x.wt, .pointer (some ⟨x.a, 0, none⟩)]
theorem zbf (l : List Sx) : (zke l).length = l.length := by simp [zke]
theorem sfCells_snoc (l : List Sx) (x : Sx) : zke (l ++ [x]) = zke l ++ [[.int .i64 x.wt, .pointer (some ⟨x.a, 0, none⟩)]] := by simp [zke]
def SOwn (w : World) (base : Nat) (v : Value) (l : List Sx) : Prop := Kd.R (Kd.raw 2) 106 w base (fun _ => True) v (zke l) ∧ ∀ x ∈ l, BigAt w x.a x.n
theorem SOwn.srow {w : World} {base : Nat} {v : Value} {l : List Sx} (h : SOwn w base v l) (hl : l.length ≤ 1000000) : SRow w v l := by
 obtain ⟨hr, hx⟩ := h
 rcases Nat.eq_zero_or_pos l.length with h0 | h0
 ·obtain ⟨A, c, e, _⟩ := Kd.R_reads hr
  rw [zbf] at e
  exact ⟨A, c, e, hl, fun i x hi => by rw [List.eq_nil_of_length_eq_zero h0] at hi; simp at hi⟩
 ·obtain ⟨g, cap, e, _⟩ := Kd.R_form hr (by rw [zbf]; exact h0)
  subst e
  refine ⟨some ⟨g, 0, none⟩, cap, by rw [zbf], hl, fun i x hi => ⟨g, rfl, ?_⟩⟩
  have hil : i < l.length := (List.getElem?_eq_some_iff.1 hi).1
  obtain ⟨c, hc1, hM, hcc, _⟩ := Kd.R_elem hr [] (i : Int) (by omega) (by rw [zbf]; omega)
  have hgd : (zke l).getD (i : Int).toNat [] = [.int .i64 x.wt, .pointer (some ⟨x.a, 0, none⟩)] := by
   rw [List.getD_eq_getElem?_getD]
   unfold zke
   rw [List.getElem?_map, show ((i : Int).toNat) = i by omega, hi]
   rfl
  rw [hgd] at hM
  obtain ⟨rfl, _⟩ := hM
  exact ⟨hcc 0 _ rfl, hcc 1 _ rfl, hx x (List.mem_of_getElem? hi)⟩
def MRest (f : Nat → Nat) (A : Option Addr) (base : Nat) (xs : List (List ByteArray)) (i : Nat) (w : World) : Prop := ∀ j x, i ≤ j → xs[j]? = some x → ∃ g2 v, A = some ⟨g2, 0, none⟩ ∧ (∃ cells, w.heap[g2]? = some (.cells cells 42 (0, 0))) ∧ w.cell? ⟨g2, j, none⟩ = some v ∧ Kd.R Kd.string 9 w base (fun b => f b = j) v x
theorem MRest.move {f : Nat → Nat} {A : Option Addr} {base : Nat} {xs : List (List ByteArray)} {i i' : Nat} {w w' : World} (h : MRest f A base xs i w) (hi : i ≤ i') (k9 : ∀ (b : Nat) (cells : Array Value), w.heap[b]? = some (.cells cells 9 (0, 0)) → i' ≤ f b → w'.heap[b]? = w.heap[b]?) (k42 : ∀ (b : Nat) (cells : Array Value), w.heap[b]? = some (.cells cells 42 (0, 0)) → w'.heap[b]? = w.heap[b]?) : MRest f A base xs i' w' := by
 intro j x hj hx
 obtain ⟨g2, v, e, ⟨cells, h1⟩, h2, h3⟩ := h j x (Nat.le_trans hi hj) hx
 have hk := k42 g2 cells h1
 refine ⟨g2, v, e, ⟨cells, hk.trans h1⟩, (World.cell?_of_block hk).trans h2, ?_⟩
 refine Kd.R_mono (Kd.R_move (Kd.R_bound h3) (fun b hb => ?_)) (fun _ hk => hk.1)
 obtain ⟨e1, _, _, q, hq, cells2, hc⟩ := hb
 have : q = 9 := by simpa [Kd.string, Kd.scalar] using hq
 subst this
 exact k9 b cells2 hc (by omega)
theorem MRest.same {f : Nat → Nat} {A : Option Addr} {base : Nat} {xs : List (List ByteArray)} {i : Nat} {w w' : World} {p : TypeId → Bool} (h : MRest f A base xs i w) (k : KeptT p w w') (h9 : p 9 = true) (h42 : p 42 = true) : MRest f A base xs i w' :=
 h.move (Nat.le_refl _) (fun b cells hb _ => k b _ _ _ hb h9) (fun b cells hb => k b _ _ _ hb h42)
theorem MRest.first {A : Option Addr} {n c base : Nat} {xs : List (List ByteArray)} {w : World} {ok : Nat → Prop} (h : Kd.S (Kd.slice 9 Kd.string) 42 w base ok (.slice A n c) xs) : ∃ f, MRest f A base xs 0 w := by
 obtain ⟨f, hR⟩ := h
 refine ⟨f, fun j x _ hx => ?_⟩
 have hjl : j < xs.length := (List.getElem?_eq_some_iff.1 hx).1
 have hzl : xs.zipIdx.length = xs.length := List.length_zipIdx
 obtain ⟨g2, cap, e, _, _, ht⟩ := Kd.R_form hR (by omega)
 injection e with e1 e2 e3
 subst e1
 obtain ⟨c', hc1, hM, hcc, _⟩ := Kd.R_elem hR (([] : List ByteArray), 0) (j : Int) (by omega) (by rw [e2]; omega)
 have hgd : xs.zipIdx.getD (j : Int).toNat (([] : List ByteArray), 0) = (x, j) := by
  rw [List.getD_eq_getElem?_getD, show ((j : Int).toNat) = j by omega, Kd.zip_at hx]; rfl
 rw [hgd] at hM
 obtain ⟨v, rfl, hv⟩ := hM
 refine ⟨g2, v, rfl, ht, ?_, Kd.R_mono hv (fun _ hk => hk.2)⟩
 have := hcc 0 v rfl
 rw [show (j : Int).toNat * (Kd.tag f (Kd.slice 9 Kd.string)).sz + 0 = j by show (j : Int).toNat * 1 + 0 = j; omega] at this
 exact this
def notSuf (t : TypeId) : Bool := t != 106
theorem numT_notSuf (t : TypeId) (h : numT t = true) : notSuf t = true := by
 unfold numT at h
 unfold notSuf
 rcases Bool.or_eq_true_iff.mp h with h | h
 ·rw [of_decide_eq_true h]; decide
 ·rw [of_decide_eq_true h]; decide
def zxe (k : Nat) : List (List ByteArray) → ByteArray → Option (List (Int × ByteArray) × ByteArray)
 | [], s => some ([], s)
 | [m0, wd, dg] :: ms, s => (zp.f k wd).bind fun wt => (zeb.f s m0).bind fun s' => if Plain (or0 dg) ∧ zod (or0 dg) then (zxe k ms s').map (fun r => ((wt, or0 dg) :: r.1, r.2)) else none
 | _ :: _, _ => none
theorem sufRun_step {k : Nat} {m : List ByteArray} {ms : List (List ByteArray)} {s : ByteArray} {r : List (Int × ByteArray) × ByteArray} (h : zxe k (m :: ms) s = some r) : ∃ m0 wd dg wt s' r', m = [m0, wd, dg] ∧ zp.f k wd = some wt ∧ zeb.f s m0 = some s' ∧ Plain (or0 dg) ∧ zod (or0 dg) ∧ zxe k ms s' = some r' ∧ r = ((wt, or0 dg) :: r'.1, r'.2) := by
 match m, h with
 | [m0, wd, dg], h =>
  simp only [zxe] at h
  obtain ⟨wt, h1, h⟩ := Option.bind_eq_some_iff.mp h
  obtain ⟨s', h2, h⟩ := Option.bind_eq_some_iff.mp h
  by_cases hc : Plain (or0 dg) ∧ zod (or0 dg)
  ·rw [if_pos hc] at h
   obtain ⟨r', h3, rfl⟩ := Option.map_eq_some_iff.mp h
   exact ⟨m0, wd, dg, wt, s', r', rfl, h1, h2, hc.1, hc.2, h3, rfl⟩
  ·rw [if_neg hc] at h
   cases h
 | [], h => simp [zxe] at h
 | [_], h => simp [zxe] at h
 | [_, _], h => simp [zxe] at h
 | _ :: _ :: _ :: _ :: _, h => simp [zxe] at h
def zzg (l : List Sx) : List (Int × Nat) := l.map fun x => (x.wt, x.n)
def zag (l : List (Int × ByteArray)) : List (Int × Nat) := l.map fun x => (x.1, dv x.2 x.2.size)
structure SInv (w wr : World) (g : Nat) (o : ByteArray) (i : Bool) (r : ByteArray) (cv : Value) (l : ByteArray) (sv : Value) (h : ByteArray) (bv : Value) (f : Nat → Nat) (A : Option Addr) (xs : List (List ByteArray)) (k : Nat) (ns : List Sx) : Prop where
 len : ns.length = k
 blk : VBlk wr g o i r cv l sv h bv
 own : SOwn wr w.heap.size sv ns
 rest : MRest f A w.heap.size xs k wr
 gr : w.grownBy wr (some g)
structure SMid (w wr : World) (g : Nat) (o : ByteArray) (i : Bool) (r : ByteArray) (cv : Value) (l : ByteArray) (sv : Value) (h : ByteArray) (bv : Value) (f : Nat → Nat) (A : Option Addr) (xs : List (List ByteArray)) (k : Nat) (ns : List Sx) (b : Nat) (m0 wd : ByteArray) (a n : Nat) : Prop where
 len : ns.length = k
 blk : VBlk wr g o i r cv l sv h bv
 own : SOwn wr w.heap.size sv ns
 rest : MRest f A w.heap.size xs (k + 1) wr
 gr : w.grownBy wr (some g)
 ty : ∃ cells, wr.heap[b]? = some (.cells cells 9 (0, 0))
 c0 : wr.cell? ⟨b, 0, none⟩ = some (.string m0)
 c1 : wr.cell? ⟨b, 1, none⟩ = some (.string wd)
 num : BigAt wr a n
section
variable {w wr w' : World} {g : Nat} {o : ByteArray} {i : Bool} {r : ByteArray} {cv : Value} {l : ByteArray} {sv : Value} {h : ByteArray} {bv : Value} {f : Nat → Nat} {A : Option Addr} {xs : List (List ByteArray)} {k : Nat} {ns : List Sx} {b : Nat} {m0 wd : ByteArray} {a n : Nat}
theorem SOwn.below {base : Nat} (H : SOwn wr base sv ns) (hb : Below wr.heap.size wr w') : SOwn w' base sv ns := ⟨Kd.R_below H.1 hb, fun x hx => (H.2 x hx).below hb⟩
theorem SMid.below (H : SMid w wr g o i r cv l sv h bv f A xs k ns b m0 wd a n) (hb : Below wr.heap.size wr w') : SMid w w' g o i r cv l sv h bv f A xs k ns b m0 wd a n :=
 ⟨H.len, zk H.blk hb, H.own.below hb, H.rest.same (p := fun _ => true) (KeptT.below hb) rfl rfl, zwd H.gr hb, by obtain ⟨cells, hc⟩ := H.ty; exact ⟨cells, zk hc hb⟩, zee hb H.c0, zee hb H.c1, H.num.below hb⟩
theorem SMid.drew (H : SMid w wr g o i r cv l sv h bv f A xs k ns b m0 wd a n) : SMid w wr.drew g o i r cv l sv h bv f A xs k ns b m0 wd a n := H.below (zdd (Below.refl _ _))
theorem SInv.below (H : SInv w wr g o i r cv l sv h bv f A xs k ns) (hb : Below wr.heap.size wr w') : SInv w w' g o i r cv l sv h bv f A xs k ns :=
 ⟨H.len, zk H.blk hb, H.own.below hb, H.rest.same (p := fun _ => true) (KeptT.below hb) rfl rfl, zwd H.gr hb⟩
theorem SInv.mid (H : SInv w wr g o i r cv l sv h bv f A xs k ns) (hb9 : ∃ cells, wr.heap[b]? = some (.cells cells 9 (0, 0))) (hfb : f b = k) (hbw : w.heap.size ≤ b) (h0 : wr.cell? ⟨b, 0, none⟩ = some (.string m0)) (h1 : wr.cell? ⟨b, 1, none⟩ = some (.string wd)) {W : World} (hW : W = wr ∨ W = wr.setCell ⟨b, 2, none⟩ (.string ⟨#[48]⟩)) (hb : Below W.heap.size W w') (hn : BigAt w' a n) : SMid w w' g o i r cv l sv h bv f A xs k ns b m0 wd a n := by
 have key : SMid w W g o i r cv l sv h bv f A xs k ns b m0 wd a n ∨ True := .inr trivial
 clear key
 obtain ⟨cells, hc⟩ := hb9
 rcases hW with rfl | rfl
 ·exact ⟨H.len, zk H.blk hb, H.own.below hb, (H.rest.move (Nat.le_succ k) (fun _ _ _ _ => rfl) (fun _ _ _ => rfl)).same (p := fun _ => true) (KeptT.below hb) rfl rfl, zwd H.gr hb, ⟨cells, zk hc hb⟩, zee hb h0, zee hb h1, hn⟩
 ·have K : KeptT (fun t => t != 9) wr (wr.setCell ⟨b, 2, none⟩ (.string ⟨#[48]⟩)) := KeptT.set hc (by decide) 2 _
  have KN : KeptT numT wr (wr.setCell ⟨b, 2, none⟩ (.string ⟨#[48]⟩)) := KeptT.set hc (by decide) 2 _
  have hc' := blk_set hc 2 (.string ⟨#[48]⟩)
  have cell_ne : ∀ j, j ≠ 2 → (wr.setCell ⟨b, 2, none⟩ (.string ⟨#[48]⟩)).cell? ⟨b, j, none⟩ = wr.cell? ⟨b, j, none⟩ := fun j hj => by
   rw [zj hc', zj hc, Array.getElem?_setIfInBounds]
   rw [if_neg (by omega)]
  refine ⟨H.len, zk (K.blk H.blk (by decide)) hb, SOwn.below ⟨zue (p := fun t => t != 9) rfl (by decide) H.own.1 K, fun x hx => (H.own.2 x hx).kept KN⟩ hb, (H.rest.move (Nat.le_succ k) (fun b' cells' hb' hf => ?_) (fun b' cells' hb' => ?_)).same (p := fun _ => true) (KeptT.below hb) rfl rfl, zwd (gr_set H.gr (.inr hbw) 2 _) hb, ⟨_, zk hc' hb⟩, zee hb ((cell_ne 0 (by decide)).trans h0), zee hb ((cell_ne 1 (by decide)).trans h1), hn⟩
  ·exact Below.heap_setCell _ _ _ _ (fun e => by have e2 : b' = b := e; subst e2; omega)
  ·exact K b' _ _ _ hb' (by decide)
theorem SMid.step (H : SMid w wr g o i r cv l sv h bv f A xs k ns b m0 wd a n) {w7 : World} {v1 : Value} {wt : Int} (ho : Kd.R (Kd.raw 2) 106 w7 w.heap.size (fun _ => True) v1 (zke ns ++ [[.int .i64 wt, .pointer (some ⟨a, 0, none⟩)]])) (hg : wr.grownBy w7 sv.ownBlock) :
    SInv w (w7.setCell ⟨g, 5, none⟩ v1) g o i r cv l v1 h bv f A xs (k + 1) (ns ++ [⟨wt, a, n⟩]) ∧ (w7.setCell ⟨g, 5, none⟩ v1).cell? ⟨b, 0, none⟩ = some (.string m0) := by
  have K : KeptT notSuf wr w7 := KeptT.row (by decide) H.own.1 hg
  have B7 : VBlk w7 g o i r cv l sv h bv := K.blk H.blk (by decide)
  have KN2 : KeptT numT wr (w7.setCell ⟨g, 5, none⟩ v1) := (K.sub numT_notSuf).trans (KeptT.set B7 (by decide) 5 _)
  have KM : KeptT (fun t => t == 9 || t == 42) wr (w7.setCell ⟨g, 5, none⟩ v1) := (K.sub (fun t ht => by
    rcases Bool.or_eq_true_iff.mp ht with ht | ht
    · rw [of_decide_eq_true ht]; decide
    · rw [of_decide_eq_true ht]; decide)).trans (KeptT.set B7 (by decide) 5 _)
  refine ⟨⟨by rw [List.length_append, H.len]; rfl, zv B7 5 _ rfl, ⟨?_, fun x hx => ?_⟩, H.rest.same KM (by decide) (by decide), gr_set (gr_then H.gr hg (fun b hb => .inr (Kd.R_base H.own.1 b hb))) (.inl rfl) _ _⟩, ?_⟩
  · rw [sfCells_snoc]
    exact Kd.R_set ho B7 (by intro q hq; have : q = 106 := by simpa [Kd.raw] using hq
                             subst this; decide) 5 _
  · rcases List.mem_append.mp hx with hx | hx
    · exact (H.own.2 x hx).kept KN2
    · simp at hx; subst hx; exact H.num.kept KN2
  · obtain ⟨cells, hc⟩ := H.ty
    exact (World.cell?_of_block (KM b _ _ _ hc (by decide))).trans H.c0
end
theorem parseSufs_ (w : World) (g : Nat) (o : ByteArray) (i : Bool) (r : ByteArray) (cv : Value) (l h : ByteArray) (bv : Value) (s rest : ByteArray) (kq k2 : Nat) (xs : List (List ByteArray)) (L : List (Int × ByteArray)) (hv : VBlk w g o i r cv l (.slice none 0 0) h bv) (hGL : ∀ W, w.grownBy W (some g) → GLe W)
  (h1 : zh.f k2 s = some xs) (hl : xs.length ≤ 1000000) (h2 : zxe kq xs s = some (L, rest)) :
  Calls Tryd.prog 44 #[.pointer (some ⟨g, 0, none⟩), .string s] w fun e w' => ∃ sv ns, e = .returned (.tuple #[.string rest, .nilIface]) ∧ VBlk w' g o i r cv l sv h bv ∧ SOwn w' w.heap.size sv ns ∧ zzg ns = zag L ∧ w.grownBy w' (some g) := by
 have HG := za.mk hv
 have H1 := za.mk h1
 have H2 : za (∃ L', zxe kq (xs.drop 0) s = some (L', rest) ∧ zzg [] ++ zag L' = zag L) := ⟨⟨L, by simpa using h2, rfl⟩⟩
 have HGL := za.mk hGL
 have HL := za.mk hl
 clear h1 h2 hv hGL hl
 go_enter Tryd.func44, Tryd.ntmps44
 go_wp2_with (first | (go_at_call 55; (with_reducible refine (zh.calls k2 s xs _ H1.out).mono ?_); rintro e' w1 ⟨v0, rfl, hr, hb⟩; obtain ⟨A, cap, rfl⟩ := Kd.S_slice hr; have B1 := za.mk hb; have R1 := za.mk (MRest.first hr); clear hr hb))
 obtain ⟨f, hf⟩ := R1.out
 have I0 : za (SInv w w1 g o i r cv l (.slice none 0 0) h bv f A xs 0 []) := ⟨⟨rfl, zk HG.out B1.out, ⟨Kd.R_nil _ _ _ _ _, fun x hx => by simp at hx⟩, hf, zwd (zrf w _) B1.out⟩⟩
 clear hf R1
 go_loopw [1, 13] (fun tv iv wr => ∃ (k : Nat) (ns : List Sx) (sv : Value) (t : ByteArray), k ≤ xs.length ∧ tv = .string t ∧ iv = .int .i64 k ∧ za (SInv w wr g o i r cv l sv h bv f A xs k ns) ∧ za (∃ L', zxe kq (xs.drop k) t = some (L', rest) ∧ zzg ns ++ zag L' = zag L)) (fun _ iv _ => xs.length - (intOf iv).toNat)
 case atStart => exact ⟨0, [], _, s, Nat.zero_le _, rfl, rfl, I0, H2⟩
 case round =>
  clear H2
  obtain ⟨k, ns, sv, t, hk, rfl, rfl, HI, HR⟩ := hrel
  by_cases hlt : k < xs.length
  ·have i3 : decide ((k : Int) < (xs.length : Int)) = true := decide_eq_true (by omega)
   have i4 : ((k : Int) < (xs.length : Int)) = True := eq_true (by omega)
   have i5 : (0 ≤ (k : Int)) = True := eq_true (by omega)
   have WR : wrap64 ((k : Int) + 1) = ((k + 1 : Nat) : Int) := by have := HL.out; unfold wrap64; omega
   have LT := za.mk hlt
   have HNL : za (ns.length ≤ 1000000) := ⟨by have q1 := HI.out.len; have q2 := HL.out; omega⟩
   obtain ⟨L', hL1, hL2⟩ := HR.out
   rw [List.drop_eq_getElem_cons hlt] at hL1
   obtain ⟨m0, wd, dg, wt, t', r', hm, hw, ht, hp, hd, hrun, hr⟩ := sufRun_step hL1
   have HNX : ∀ a n, n = dv (or0 dg) (or0 dg).size → za (∃ L', zxe kq (xs.drop (k + 1)) t' = some (L', rest) ∧ zzg (ns ++ [⟨wt, a, n⟩]) ++ zag L' = zag L) := fun a n hn => ⟨⟨r'.1, by
    rw [hrun]
    have e := congrArg Prod.snd hr
    have e2 : rest = r'.2 := e
    rw [e2], by
    have e := congrArg Prod.fst hr
    have e2 : L' = (wt, or0 dg) :: r'.1 := e
    rw [← hL2, e2, hn]
    simp [zzg, zag]⟩⟩
   have HW := za.mk hw
   have HT := za.mk ht
   have hx : xs[k]? = some [m0, wd, dg] := by rw [List.getElem?_eq_getElem hlt, hm]
   obtain ⟨g2, v, e, ⟨cells2, hg2⟩, hcell, hrow⟩ := HI.out.rest k _ (Nat.le_refl _) hx
   subst e
   obtain ⟨b, cap2, e, hb1, hb2, hb3⟩ := Kd.R_form hrow (by simp)
   subst e
   have hfb : f b = k := hrow.1 b rfl
   have el : ∀ j : Nat, j < 3 → wr.cell? ⟨b, j, none⟩ = some (.string ([m0, wd, dg].getD j ByteArray.empty)) ∧ wr.frozen? ⟨b, j, none⟩ = false := fun j hj => by
    obtain ⟨c, hc1, hM, hcc, hfr⟩ := Kd.R_elem hrow ByteArray.empty (j : Int) (by omega) (by simp; omega)
    have hM2 : c = [.string ([m0, wd, dg].getD (j : Int).toNat ByteArray.empty)] := hM
    have h3 := hcc 0 _ (by rw [hM2]; rfl)
    have h4 := hfr 0
    rw [show (j : Int).toNat * Kd.string.sz + 0 = j by show (j : Int).toNat * 1 + 0 = j; omega] at h3 h4
    rw [show (j : Int).toNat = j by omega] at h3
    exact ⟨h3, h4⟩
   have y0 : wr.cell? ⟨g2, k, none⟩ = some (.slice (some ⟨b, 0, none⟩) 3 cap2) := hcell
   have e0 : wr.cell? ⟨b, 0, none⟩ = some (.string m0) := (el 0 (by decide)).1
   have e1 : wr.cell? ⟨b, 1, none⟩ = some (.string wd) := (el 1 (by decide)).1
   have e2 : wr.cell? ⟨b, 2, none⟩ = some (.string dg) := (el 2 (by decide)).1
   have f2 : wr.frozen? ⟨b, 2, none⟩ = false := (el 2 (by decide)).2
   have HGE := za.mk (HGL.out wr HI.out.gr)
   have HB3 := za.mk hb3
   have HGE2 : za (GLe (wr.setCell ⟨b, 2, none⟩ (.string ⟨#[48]⟩))) := ⟨HGL.out _ (gr_set HI.out.gr (.inr hb1) _ _)⟩
   have HM : za (∀ (W w' : World) (a : Nat), (W = wr ∨ W = wr.setCell ⟨b, 2, none⟩ (.string ⟨#[48]⟩)) → Below W.heap.size W w' → BigAt w' a (dv (or0 dg) (or0 dg).size) → SMid w w' g o i r cv l sv h bv f (some ⟨g2, 0, none⟩) xs k ns b m0 wd a (dv (or0 dg) (or0 dg).size)) :=
    ⟨fun W w' a hW hb hn => HI.out.mid hb3 hfb hb1 e0 e1 hW hb hn⟩
   have HP := za.mk (And.intro hp hd)
   clear hlt hk hL1 hL2 hm hw ht hp hd hrun hr hx hg2 hcell hrow hb1 hb2 hfb el e0 e1 hb3 HR I0 HI
   by_cases hde : dg.toList = []
   ·have c1 : (dg.toList == []) = true := by simpa using hde
    have c2 : (dg.toList != []) = false := by simpa using hde
    have c3 : dg.toList.isEmpty = true := by simpa using hde
    have eo : or0 dg = ⟨#[48]⟩ := if_pos hde
    rw [eo] at HM HP HNX
    have HV : za (∀ W, GLe W → Calls Tryd.prog 52 #[.string ⟨#[48]⟩] W fun e w' => ∃ a, e = .returned (.tuple #[.pointer (some ⟨a, 0, none⟩), .nilIface]) ∧ BigAt w' a (dv ⟨#[48]⟩ (⟨#[48]⟩ : ByteArray).size) ∧ Below W.heap.size W w') := ⟨fun W hW => conv_at W _ HP.out.1 hW HP.out.2⟩
    clear hde eo HP
    have y2 : (wr.setCell ⟨b, 2, none⟩ (.string ⟨#[48]⟩)).cell? ⟨b, 2, none⟩ = some (.string ⟨#[48]⟩) := by
     obtain ⟨cells, hc⟩ := HB3.out
     rw [zj (blk_set hc 2 _), Array.getElem?_setIfInBounds]
     rw [zj hc] at e2
     have := (Array.getElem?_eq_some_iff.1 e2).1
     simp [this]
    go_upto_region 9 with (first | (go_at_call 52; (with_reducible refine (HV.out _ HGE2.out).mono ?_); rintro e' w3 ⟨a, rfl, hA, hb⟩; have M3 := za.mk (HM.out _ w3 a (.inr rfl) hb hA); have NX := HNX a _ rfl; clear hb hA HNX HB3))
    refine zsf (n := 16) (S := fun w' => w'.cell? ⟨g, 5, none⟩ = some sv ∧ w'.cell? ⟨b, 1, none⟩ = some (.string wd)) (ds := [12, 15]) #[false, false, false, false, false, false, false, false, false, false, false, false, false, false, false, false] (by kernel_rfl) rfl rfl ⟨(zj M3.out.drew.blk 5).trans rfl, M3.out.drew.c1⟩ (fun hHeld => ?_)
    have M4 := za.mk M3.out.drew
    clear M3 HM
    generalize w3.drew = w4 at M4 hHeld ⊢
    refine pure_ (i := 0) (N := some 33) (v := ?_) (a' := ?_) #[true, false, false, false, false, false, false, false, false, false, false, false, false, false, false, false] rfl rfl (by kernel_rfl) (fun _ _ _ h => h) (Or.inl ⟨by rfl, ?_⟩) ?_ ?_
    rotate_left
    ·intro w'
     go_simp
     with_reducible rfl
    rotate_left
    ·simp only [Act.put, List.setIfInBounds_toArray, List.set_cons_zero, List.set_cons_succ, i64_w, i32_w]
     rfl
    refine pure_ (i := 1) (N := some 34) (v := ?_) (a' := ?_) #[true, true, false, false, false, false, false, false, false, false, false, false, false, false, false, false] rfl rfl (by kernel_rfl) (fun _ _ _ h => h) (Or.inl ⟨by rfl, ?_⟩) ?_ ?_
    rotate_left
    ·intro w'
     go_simp
     with_reducible rfl
    rotate_left
    ·simp only [Act.put, List.setIfInBounds_toArray, List.set_cons_zero, List.set_cons_succ, i64_w, i32_w]
     rfl
    refine pure_ (i := 2) (N := some 35) (v := ?_) (a' := ?_) #[true, true, true, false, false, false, false, false, false, false, false, false, false, false, false, false] rfl rfl (by kernel_rfl) (fun _ _ _ h => h) (Or.inl ⟨by rfl, ?_⟩) ?_ ?_
    rotate_left
    ·intro w'
     go_simp
     with_reducible rfl
    rotate_left
    ·simp only [Act.put, List.setIfInBounds_toArray, List.set_cons_zero, List.set_cons_succ, i64_w, i32_w]
     rfl
    refine pure_ (i := 3) (N := some 36) (v := ?_) (a' := ?_) #[true, true, true, true, false, false, false, false, false, false, false, false, false, false, false, false] rfl rfl (by kernel_rfl) (fun _ _ _ h => h) (Or.inl ⟨by rfl, ?_⟩) ?_ ?_
    rotate_left
    ·intro w'
     go_simp
     with_reducible rfl
    rotate_left
    ·simp only [Act.put, List.setIfInBounds_toArray, List.set_cons_zero, List.set_cons_succ, i64_w, i32_w]
     rfl
    refine pure_ (i := 5) (N := some 38) (v := ?_) (a' := ?_) #[true, true, true, true, false, true, false, false, false, false, false, false, false, false, false, false] rfl rfl (by kernel_rfl) (fun _ _ _ h => h) (Or.inl ⟨by rfl, ?_⟩) ?_ ?_
    rotate_left
    ·intro w'
     go_simp
     with_reducible rfl
    rotate_left
    ·simp only [Act.put, List.setIfInBounds_toArray, List.set_cons_zero, List.set_cons_succ, i64_w, i32_w]
     rfl
    refine pure_ (i := 6) (N := some 39) (v := ?_) (a' := ?_) #[true, true, true, true, false, true, true, false, false, false, false, false, false, false, false, false] rfl rfl (by kernel_rfl) (fun _ _ _ h => h) (Or.inl ⟨by rfl, ?_⟩) ?_ ?_
    rotate_left
    ·intro w'
     go_simp
     with_reducible rfl
    rotate_left
    ·simp only [Act.put, List.setIfInBounds_toArray, List.set_cons_zero, List.set_cons_succ, i64_w, i32_w]
     rfl
    refine pure_ (i := 9) (N := some 42) (v := ?_) (a' := ?_) #[true, true, true, true, false, true, true, false, false, true, false, false, false, false, false, false] rfl rfl (by kernel_rfl) (fun _ _ _ h => h) (Or.inl ⟨by rfl, ?_⟩) ?_ ?_
    rotate_left
    ·intro w'
     go_simp
     with_reducible rfl
    rotate_left
    ·simp only [Act.put, List.setIfInBounds_toArray, List.set_cons_zero, List.set_cons_succ, i64_w, i32_w]
     rfl
    refine take_ (i := 4) (N := some 37) (v := ?_) (a' := ?_) #[true, true, true, true, true, true, true, false, false, true, false, false, false, false, false, false] rfl rfl (by kernel_rfl) (fun _ _ _ h => h) (Or.inl ⟨by rfl, ?_⟩) hHeld ?_ ?_
    rotate_left
    ·rintro w' ⟨s0, s1⟩
     go_simp
     with_reducible rfl
    rotate_left
    ·simp only [Act.put, List.setIfInBounds_toArray, List.set_cons_zero, List.set_cons_succ, i64_w, i32_w]
     rfl
    refine take_ (i := 7) (N := some 40) (v := ?_) (a' := ?_) #[true, true, true, true, true, true, true, true, false, true, false, false, false, false, false, false] rfl rfl (by kernel_rfl) (fun _ _ _ h => h) (Or.inl ⟨by rfl, ?_⟩) hHeld ?_ ?_
    rotate_left
    ·rintro w' ⟨s0, s1⟩
     go_simp
     with_reducible rfl
    rotate_left
    ·simp only [Act.put, List.setIfInBounds_toArray, List.set_cons_zero, List.set_cons_succ, i64_w, i32_w]
     rfl
    refine one_ (i := 8) (N := some 41) #[true, true, true, true, true, true, true, true, true, true, false, false, false, false, false, false] rfl rfl (by kernel_rfl) (by decide) (fun K hK => ?_)
    refine goes_ Tryd.func56 (by kernel_rfl) rfl #[.string wd] (by rfl) rfl rfl (by simp only [List.map_toArray, List.map_cons, List.map_nil]; rfl) ?_
    with_reducible refine (zp.calls kq wd wt _ HW.out).mono ?_
    rintro e w5 ⟨rfl, hb⟩
    refine ⟨_, rfl, ?_⟩
    have M5 := za.mk (M4.out.below hb)
    clear hb M4
    refine hK.out _ _ ⟨(zj M5.out.blk 5).trans rfl, M5.out.c1⟩ (fun hHeld => ?_)
    clear hK K
    refine Go.Proofs.YtapaijpglfmfgaaDoorW.PrintLast.norm_ (a' := ?_) ?_ ?_
    rotate_left
    ·show Act.put _ (some 41) _ = _
     simp only [Act.put, List.setIfInBounds_toArray, List.set_cons_zero, List.set_cons_succ, i64_w, i32_w]
     rfl
    refine pure_ (i := 10) (N := some 43) (v := ?_) (a' := ?_) #[true, true, true, true, true, true, true, true, true, true, true, false, false, false, false, false] rfl rfl (by kernel_rfl) (fun _ _ _ h => h) (Or.inl ⟨by rfl, ?_⟩) ?_ ?_
    rotate_left
    ·intro w'
     go_simp
     with_reducible rfl
    rotate_left
    ·simp only [Act.put, List.setIfInBounds_toArray, List.set_cons_zero, List.set_cons_succ, i64_w, i32_w]
     rfl
    refine one_ (i := 11) (N := some 44) #[true, true, true, true, true, true, true, true, true, true, true, true, false, false, false, false] rfl rfl (by kernel_rfl) (by decide) (fun K hK => ?_)
    refine value_ (w1 := ?_) (v := ?_) (by rfl) rfl ?_ ?_
    rotate_left 2
    ·go_simp
     constructor
     ·rfl
     ·rfl
    refine hK.out _ _ ⟨(zj (zub M5.out.blk _) 5).trans rfl, (zee (zo (Below.refl _ _) _) M5.out.c1)⟩ (fun hHeld => ?_)
    clear hK K
    refine Go.Proofs.YtapaijpglfmfgaaDoorW.PrintLast.norm_ (a' := ?_) ?_ ?_
    rotate_left
    ·show Act.put _ (some 44) _ = _
     simp only [Act.put, List.setIfInBounds_toArray, List.set_cons_zero, List.set_cons_succ, i64_w, i32_w]
     rfl
    refine last_ (i := 12) (N := some 45) #[true, true, true, true, true, true, true, true, true, true, true, true, true, false, false, false] rfl rfl (by kernel_rfl) (by decide) (fun K hK => ?_)
    refine Kd.R_append_step (Kd.raw 2) (w0 := w5) w.heap.size (by rfl) (.tmp 37) (.tmp 44) 66 106 (.agg #[.int .i64 0, .pointer none]) 16 rfl Tryd.underlying66 infoSuf rfl (by decide) (by omega) sv (zke ns) [.int .i64 wt, .pointer (some ⟨a, 0, none⟩)] [.int .i64 wt, .pointer (some ⟨a, 0, none⟩)] (fun _ => True) (fun _ => False) rfl rfl ?aP (fun _ hk => hk.elim) (fun _ _ => trivial) M5.out.own.1 (Below.refl _ _) M5.out.gr.size ?aL ?_
    (case aP => exact ⟨rfl, rfl, by intro u hu; simp at hu; rcases hu with rfl | rfl <;> rfl⟩)
    (case aL => rw [zbf]; have := HNL.out; omega)
    intro v1 w7 ho hb hg hat
    obtain ⟨A1, n1, cp1, rfl⟩ : ∃ A n c, v1 = .slice A n c := by
     obtain ⟨A, c, e⟩ := Kd.R_slice ho
     exact ⟨A, _, c, e⟩
    have B7 := za.mk ((KeptT.row (p := notSuf) (by decide) M5.out.own.1 hg).blk M5.out.blk (by decide))
    have x7 := (zj B7.out 5).trans rfl
    have f7 := zu B7.out 5
    have I7 := za.mk (M5.out.step ho hg)
    clear ho hb hg hat
    refine hK.out _ _ ?_
    clear hK K
    refine Go.Proofs.YtapaijpglfmfgaaDoorW.PrintLast.norm_ (a' := ?_) ?_ ?_
    rotate_left
    ·show Act.put _ (some 45) _ = _
     simp only [Act.put, List.setIfInBounds_toArray, List.set_cons_zero, List.set_cons_succ, i64_w, i32_w]
     rfl
    refine pure_ (i := 13) (N := some 46) (v := ?_) (a' := ?_) #[true, true, true, true, true, true, true, true, true, true, true, true, true, true, false, false] rfl rfl (by kernel_rfl) (fun _ _ _ h => h) (Or.inl ⟨by rfl, ?_⟩) ?_ ?_
    rotate_left
    ·intro w'
     go_simp
     with_reducible rfl
    rotate_left
    ·simp only [Act.put, List.setIfInBounds_toArray, List.set_cons_zero, List.set_cons_succ, i64_w, i32_w]
     rfl
    refine pure_ (i := 14) (N := some 47) (v := ?_) (a' := ?_) #[true, true, true, true, true, true, true, true, true, true, true, true, true, true, true, false] rfl rfl (by kernel_rfl) (fun _ _ _ h => h) (Or.inl ⟨by rfl, ?_⟩) ?_ ?_
    rotate_left
    ·intro w'
     go_simp
     with_reducible rfl
    rotate_left
    ·simp only [Act.put, List.setIfInBounds_toArray, List.set_cons_zero, List.set_cons_succ, i64_w, i32_w]
     rfl
    refine last_ (i := 15) (N := none) #[true, true, true, true, true, true, true, true, true, true, true, true, true, true, true, true] rfl rfl (by kernel_rfl) (by decide) (fun K hK => ?_)
    refine skip_ (w1 := ?_) (by rfl) rfl ?_ ?_
    rotate_left
    ·go_simp
     rfl
    refine hK.out _ _ ?_
    clear hK K
    refine done_ (by kernel_rfl) ?_
    have x8 := I7.out.2
    go_wp2_with (first | (go_at_call 53; (with_reducible refine (zeb.calls t m0 t' _ HT.out).mono ?_); rintro e' w' ⟨rfl, ⟨nd2, rfl⟩⟩))
    go_roundw
    all_goals first | exact ⟨k + 1, _, .slice A1 n1 cp1, t', LT.out, rfl, by first | rfl | go_num, ⟨I7.out.1.below (ze (Below.refl _ _) _)⟩, NX⟩ | exact zzf _ k LT.out | exact meas_up1 _ k LT.out | exact zpg _ k LT.out WR
   ·have c1 : (dg.toList == []) = false := by simpa using hde
    have c2 : (dg.toList != []) = true := by simpa using hde
    have c3 : dg.toList.isEmpty = false := by simpa using hde
    have eo : or0 dg = dg := if_neg hde
    rw [eo] at HM HP HNX
    have HV : za (∀ W, GLe W → Calls Tryd.prog 52 #[.string dg] W fun e w' => ∃ a, e = .returned (.tuple #[.pointer (some ⟨a, 0, none⟩), .nilIface]) ∧ BigAt w' a (dv dg dg.size) ∧ Below W.heap.size W w') := ⟨fun W hW => conv_at W _ HP.out.1 hW HP.out.2⟩
    clear hde eo HP
    go_upto_region 9 with (first | (go_at_call 52; (with_reducible refine (HV.out _ HGE.out).mono ?_); rintro e' w3 ⟨a, rfl, hA, hb⟩; have M3 := za.mk (HM.out _ w3 a (.inl rfl) hb hA); have NX := HNX a _ rfl; clear hb hA HNX HB3))
    refine zsf (n := 16) (S := fun w' => w'.cell? ⟨g, 5, none⟩ = some sv ∧ w'.cell? ⟨b, 1, none⟩ = some (.string wd)) (ds := [12, 15]) #[false, false, false, false, false, false, false, false, false, false, false, false, false, false, false, false] (by kernel_rfl) rfl rfl ⟨(zj M3.out.drew.blk 5).trans rfl, M3.out.drew.c1⟩ (fun hHeld => ?_)
    have M4 := za.mk M3.out.drew
    clear M3 HM
    generalize w3.drew = w4 at M4 hHeld ⊢
    refine pure_ (i := 0) (N := some 33) (v := ?_) (a' := ?_) #[true, false, false, false, false, false, false, false, false, false, false, false, false, false, false, false] rfl rfl (by kernel_rfl) (fun _ _ _ h => h) (Or.inl ⟨by rfl, ?_⟩) ?_ ?_
    rotate_left
    ·intro w'
     go_simp
     with_reducible rfl
    rotate_left
    ·simp only [Act.put, List.setIfInBounds_toArray, List.set_cons_zero, List.set_cons_succ, i64_w, i32_w]
     rfl
    refine pure_ (i := 1) (N := some 34) (v := ?_) (a' := ?_) #[true, true, false, false, false, false, false, false, false, false, false, false, false, false, false, false] rfl rfl (by kernel_rfl) (fun _ _ _ h => h) (Or.inl ⟨by rfl, ?_⟩) ?_ ?_
    rotate_left
    ·intro w'
     go_simp
     with_reducible rfl
    rotate_left
    ·simp only [Act.put, List.setIfInBounds_toArray, List.set_cons_zero, List.set_cons_succ, i64_w, i32_w]
     rfl
    refine pure_ (i := 2) (N := some 35) (v := ?_) (a' := ?_) #[true, true, true, false, false, false, false, false, false, false, false, false, false, false, false, false] rfl rfl (by kernel_rfl) (fun _ _ _ h => h) (Or.inl ⟨by rfl, ?_⟩) ?_ ?_
    rotate_left
    ·intro w'
     go_simp
     with_reducible rfl
    rotate_left
    ·simp only [Act.put, List.setIfInBounds_toArray, List.set_cons_zero, List.set_cons_succ, i64_w, i32_w]
     rfl
    refine pure_ (i := 3) (N := some 36) (v := ?_) (a' := ?_) #[true, true, true, true, false, false, false, false, false, false, false, false, false, false, false, false] rfl rfl (by kernel_rfl) (fun _ _ _ h => h) (Or.inl ⟨by rfl, ?_⟩) ?_ ?_
    rotate_left
    ·intro w'
     go_simp
     with_reducible rfl
    rotate_left
    ·simp only [Act.put, List.setIfInBounds_toArray, List.set_cons_zero, List.set_cons_succ, i64_w, i32_w]
     rfl
    refine pure_ (i := 5) (N := some 38) (v := ?_) (a' := ?_) #[true, true, true, true, false, true, false, false, false, false, false, false, false, false, false, false] rfl rfl (by kernel_rfl) (fun _ _ _ h => h) (Or.inl ⟨by rfl, ?_⟩) ?_ ?_
    rotate_left
    ·intro w'
     go_simp
     with_reducible rfl
    rotate_left
    ·simp only [Act.put, List.setIfInBounds_toArray, List.set_cons_zero, List.set_cons_succ, i64_w, i32_w]
     rfl
    refine pure_ (i := 6) (N := some 39) (v := ?_) (a' := ?_) #[true, true, true, true, false, true, true, false, false, false, false, false, false, false, false, false] rfl rfl (by kernel_rfl) (fun _ _ _ h => h) (Or.inl ⟨by rfl, ?_⟩) ?_ ?_
    rotate_left
    ·intro w'
     go_simp
     with_reducible rfl
    rotate_left
    ·simp only [Act.put, List.setIfInBounds_toArray, List.set_cons_zero, List.set_cons_succ, i64_w, i32_w]
     rfl
    refine pure_ (i := 9) (N := some 42) (v := ?_) (a' := ?_) #[true, true, true, true, false, true, true, false, false, true, false, false, false, false, false, false] rfl rfl (by kernel_rfl) (fun _ _ _ h => h) (Or.inl ⟨by rfl, ?_⟩) ?_ ?_
    rotate_left
    ·intro w'
     go_simp
     with_reducible rfl
    rotate_left
    ·simp only [Act.put, List.setIfInBounds_toArray, List.set_cons_zero, List.set_cons_succ, i64_w, i32_w]
     rfl
    refine take_ (i := 4) (N := some 37) (v := ?_) (a' := ?_) #[true, true, true, true, true, true, true, false, false, true, false, false, false, false, false, false] rfl rfl (by kernel_rfl) (fun _ _ _ h => h) (Or.inl ⟨by rfl, ?_⟩) hHeld ?_ ?_
    rotate_left
    ·rintro w' ⟨s0, s1⟩
     go_simp
     with_reducible rfl
    rotate_left
    ·simp only [Act.put, List.setIfInBounds_toArray, List.set_cons_zero, List.set_cons_succ, i64_w, i32_w]
     rfl
    refine take_ (i := 7) (N := some 40) (v := ?_) (a' := ?_) #[true, true, true, true, true, true, true, true, false, true, false, false, false, false, false, false] rfl rfl (by kernel_rfl) (fun _ _ _ h => h) (Or.inl ⟨by rfl, ?_⟩) hHeld ?_ ?_
    rotate_left
    ·rintro w' ⟨s0, s1⟩
     go_simp
     with_reducible rfl
    rotate_left
    ·simp only [Act.put, List.setIfInBounds_toArray, List.set_cons_zero, List.set_cons_succ, i64_w, i32_w]
     rfl
    refine one_ (i := 8) (N := some 41) #[true, true, true, true, true, true, true, true, true, true, false, false, false, false, false, false] rfl rfl (by kernel_rfl) (by decide) (fun K hK => ?_)
    refine goes_ Tryd.func56 (by kernel_rfl) rfl #[.string wd] (by rfl) rfl rfl (by simp only [List.map_toArray, List.map_cons, List.map_nil]; rfl) ?_
    with_reducible refine (zp.calls kq wd wt _ HW.out).mono ?_
    rintro e w5 ⟨rfl, hb⟩
    refine ⟨_, rfl, ?_⟩
    have M5 := za.mk (M4.out.below hb)
    clear hb M4
    refine hK.out _ _ ⟨(zj M5.out.blk 5).trans rfl, M5.out.c1⟩ (fun hHeld => ?_)
    clear hK K
    refine Go.Proofs.YtapaijpglfmfgaaDoorW.PrintLast.norm_ (a' := ?_) ?_ ?_
    rotate_left
    ·show Act.put _ (some 41) _ = _
     simp only [Act.put, List.setIfInBounds_toArray, List.set_cons_zero, List.set_cons_succ, i64_w, i32_w]
     rfl
    refine pure_ (i := 10) (N := some 43) (v := ?_) (a' := ?_) #[true, true, true, true, true, true, true, true, true, true, true, false, false, false, false, false] rfl rfl (by kernel_rfl) (fun _ _ _ h => h) (Or.inl ⟨by rfl, ?_⟩) ?_ ?_
    rotate_left
    ·intro w'
     go_simp
     with_reducible rfl
    rotate_left
    ·simp only [Act.put, List.setIfInBounds_toArray, List.set_cons_zero, List.set_cons_succ, i64_w, i32_w]
     rfl
    refine one_ (i := 11) (N := some 44) #[true, true, true, true, true, true, true, true, true, true, true, true, false, false, false, false] rfl rfl (by kernel_rfl) (by decide) (fun K hK => ?_)
    refine value_ (w1 := ?_) (v := ?_) (by rfl) rfl ?_ ?_
    rotate_left 2
    ·go_simp
     constructor
     ·rfl
     ·rfl
    refine hK.out _ _ ⟨(zj (zub M5.out.blk _) 5).trans rfl, (zee (zo (Below.refl _ _) _) M5.out.c1)⟩ (fun hHeld => ?_)
    clear hK K
    refine Go.Proofs.YtapaijpglfmfgaaDoorW.PrintLast.norm_ (a' := ?_) ?_ ?_
    rotate_left
    ·show Act.put _ (some 44) _ = _
     simp only [Act.put, List.setIfInBounds_toArray, List.set_cons_zero, List.set_cons_succ, i64_w, i32_w]
     rfl
    refine last_ (i := 12) (N := some 45) #[true, true, true, true, true, true, true, true, true, true, true, true, true, false, false, false] rfl rfl (by kernel_rfl) (by decide) (fun K hK => ?_)
    refine Kd.R_append_step (Kd.raw 2) (w0 := w5) w.heap.size (by rfl) (.tmp 37) (.tmp 44) 66 106 (.agg #[.int .i64 0, .pointer none]) 16 rfl Tryd.underlying66 infoSuf rfl (by decide) (by omega) sv (zke ns) [.int .i64 wt, .pointer (some ⟨a, 0, none⟩)] [.int .i64 wt, .pointer (some ⟨a, 0, none⟩)] (fun _ => True) (fun _ => False) rfl rfl ?aP (fun _ hk => hk.elim) (fun _ _ => trivial) M5.out.own.1 (Below.refl _ _) M5.out.gr.size ?aL ?_
    (case aP => exact ⟨rfl, rfl, by intro u hu; simp at hu; rcases hu with rfl | rfl <;> rfl⟩)
    (case aL => rw [zbf]; have := HNL.out; omega)
    intro v1 w7 ho hb hg hat
    obtain ⟨A1, n1, cp1, rfl⟩ : ∃ A n c, v1 = .slice A n c := by
     obtain ⟨A, c, e⟩ := Kd.R_slice ho
     exact ⟨A, _, c, e⟩
    have B7 := za.mk ((KeptT.row (p := notSuf) (by decide) M5.out.own.1 hg).blk M5.out.blk (by decide))
    have x7 := (zj B7.out 5).trans rfl
    have f7 := zu B7.out 5
    have I7 := za.mk (M5.out.step ho hg)
    clear ho hb hg hat
    refine hK.out _ _ ?_
    clear hK K
    refine Go.Proofs.YtapaijpglfmfgaaDoorW.PrintLast.norm_ (a' := ?_) ?_ ?_
    rotate_left
    ·show Act.put _ (some 45) _ = _
     simp only [Act.put, List.setIfInBounds_toArray, List.set_cons_zero, List.set_cons_succ, i64_w, i32_w]
     rfl
    refine pure_ (i := 13) (N := some 46) (v := ?_) (a' := ?_) #[true, true, true, true, true, true, true, true, true, true, true, true, true, true, false, false] rfl rfl (by kernel_rfl) (fun _ _ _ h => h) (Or.inl ⟨by rfl, ?_⟩) ?_ ?_
    rotate_left
    ·intro w'
     go_simp
     with_reducible rfl
    rotate_left
    ·simp only [Act.put, List.setIfInBounds_toArray, List.set_cons_zero, List.set_cons_succ, i64_w, i32_w]
     rfl
    refine pure_ (i := 14) (N := some 47) (v := ?_) (a' := ?_) #[true, true, true, true, true, true, true, true, true, true, true, true, true, true, true, false] rfl rfl (by kernel_rfl) (fun _ _ _ h => h) (Or.inl ⟨by rfl, ?_⟩) ?_ ?_
    rotate_left
    ·intro w'
     go_simp
     with_reducible rfl
    rotate_left
    ·simp only [Act.put, List.setIfInBounds_toArray, List.set_cons_zero, List.set_cons_succ, i64_w, i32_w]
     rfl
    refine last_ (i := 15) (N := none) #[true, true, true, true, true, true, true, true, true, true, true, true, true, true, true, true] rfl rfl (by kernel_rfl) (by decide) (fun K hK => ?_)
    refine skip_ (w1 := ?_) (by rfl) rfl ?_ ?_
    rotate_left
    ·go_simp
     rfl
    refine hK.out _ _ ?_
    clear hK K
    refine done_ (by kernel_rfl) ?_
    have x8 := I7.out.2
    go_wp2_with (first | (go_at_call 53; (with_reducible refine (zeb.calls t m0 t' _ HT.out).mono ?_); rintro e' w' ⟨rfl, ⟨nd2, rfl⟩⟩))
    go_roundw
    all_goals first | exact ⟨k + 1, _, .slice A1 n1 cp1, t', LT.out, rfl, by first | rfl | go_num, ⟨I7.out.1.below (ze (Below.refl _ _) _)⟩, NX⟩ | exact zzf _ k LT.out | exact meas_up1 _ k LT.out | exact zpg _ k LT.out WR
  ·obtain rfl : k = xs.length := by omega
   have i3 : decide ((xs.length : Int) < (xs.length : Int)) = false := decide_eq_false (by omega)
   have i4 : ((xs.length : Int) < (xs.length : Int)) = False := eq_false (by omega)
   obtain ⟨L', hL1, hL2⟩ := HR.out
   rw [List.drop_length] at hL1
   obtain ⟨rfl, rfl⟩ : [] = L' ∧ t = rest := by simpa [zxe] using hL1
   have HE := za.mk hL2
   clear hlt hk hL1 hL2 HR
   go_wp2
   go_ret2
   exact ⟨sv, ns, rfl, HI.out.blk, HI.out.own, by rw [← HE.out]; simp [zag], HI.out.gr⟩
end Go.Proofs.YtapaijpglfmfgaaDoorG
end
section
namespace Go.Proofs.YtapaijpglfmfgaaDoorG
open Go.RowKit YtapaijpglfmfgaaDoorH YtapaijpglfmfgaaDoor.S YtapaijpglfmfgaaDoorW.PrintWords YtapaijpglfmfgaaDoorW.PrintLast
def numsRun (k : Nat) (s : ByteArray) : Option (List ByteArray × ByteArray) := (zw.f k s).bind fun sub => if sub.toList = [] then some ([], s) else (zkb.f k sub ⟨#[46]⟩).bind fun parts =>
 if 0 < parts.length ∧ parts.length ≤ 1000000 ∧ ∀ d ∈ zse parts, Plain d ∧ zod d then (zeb.f s sub).map fun rest => (zse parts, rest) else none
def zhg (s : ByteArray) : Option (ByteArray × ByteArray) := (zvb.f s).bind fun b => if b = true ∧ s.size = 0 then none else (zeb.f s (if b then s.extract 0 1 else ⟨#[]⟩)).map fun rest => (if b then s.extract 0 1 else ⟨#[]⟩, rest)
def sufsRun (k : Nat) (s : ByteArray) : Option (List (Int × ByteArray) × ByteArray) := (zh.f k s).bind fun xs => if xs.length ≤ 1000000 then zxe k xs s else none
def hashRun (k : Nat) (s : ByteArray) : Option (ByteArray × ByteArray) := (zr.f k s).bind fun hs => (zeb.f s hs).map fun rest => (hs, rest)
def zih (k : Nat) (s : ByteArray) : Option (Bool × Nat × ByteArray) := if s.toList = [] then some (false, 0, s) else (zxb.f s 0 ⟨#[45, 114]⟩).bind fun t => if t = true then
  (zdb.f k s 2).bind fun n => if 2 ≤ n ∧ n ≤ (s.size : Int) ∧ Plain (or0 (s.extract 2 n.toNat)) ∧ zod (or0 (s.extract 2 n.toNat)) then (zeb.f s (s.extract 0 n.toNat)).map fun rest => (false, dv (or0 (s.extract 2 n.toNat)) (or0 (s.extract 2 n.toNat)).size, rest) else none
 else some (true, 0, s)
theorem zig {P : Program} {fn : Func} {p u : Tmp} {ty : TypeId} (h : fn.results = #[.cell p ty, .tmp u]) (tmps : Array Value) (w : World) (g : Nat) (t : TypeId) (cs : Array Value) (fr : Nat × Nat) (d : TypeDesc)
    (hp : tmps.getD p undef = .pointer (some ⟨g, 0, none⟩)) (hg : w.heap[g]? = some (.cells cs t fr))
    (hu : P.underlying ty = some d) (hd : (match d with | .struct _ | .array _ _ => true | _ => false) = true) (hi : (P.info? ty).map (·.size) = some cs.size) :
    (results fn tmps).run P w = .ok (.tuple #[.agg cs, tmps.getD u undef]) w := by
  rw [results_cell_tmp h, hp]
  simp [asAddr, run_loadVar_row w g t ty cs fr d hg hu hd hi, Result.andThen]
theorem KeptT.gr {w w' : World} {g : Nat} {o : ByteArray} {i : Bool} {r : ByteArray} {cv : Value} {l : ByteArray} {sv : Value} {h : ByteArray} {bv : Value} (hv : VBlk w g o i r cv l sv h bv) (k : w.grownBy w' (some g)) : KeptT (fun t => t != 69) w w' := KeptT.grown hv (by decide) k
theorem zgg (t : TypeId) (h : numT t = true) : (t != 69) = true := by
 unfold numT at h
 rcases Bool.or_eq_true_iff.mp h with h | h
 ·rw [of_decide_eq_true h]; decide
 ·rw [of_decide_eq_true h]; decide
section
variable {w w' : World} {g : Nat} {o : ByteArray} {i : Bool} {r : ByteArray} {cv : Value} {l : ByteArray} {sv : Value} {h : ByteArray} {bv : Value}
theorem NOwn.gr {base : Nat} {v : Value} {ns : List Nm} (H : NOwn w base v ns) (hv : VBlk w g o i r cv l sv h bv) (k : w.grownBy w' (some g)) : NOwn w' base v ns :=
 ⟨zue (p := fun t => t != 69) rfl (by decide) H.1 (KeptT.gr hv k), fun x hx => (H.2 x hx).kept ((KeptT.gr hv k).sub zgg)⟩
theorem SOwn.gr {base : Nat} {v : Value} {ns : List Sx} (H : SOwn w base v ns) (hv : VBlk w g o i r cv l sv h bv) (k : w.grownBy w' (some g)) : SOwn w' base v ns :=
 ⟨zue (p := fun t => t != 69) rfl (by decide) H.1 (KeptT.gr hv k), fun x hx => (H.2 x hx).kept ((KeptT.gr hv k).sub zgg)⟩
theorem BigAt.gr {a n : Nat} (H : BigAt w a n) (hv : VBlk w g o i r cv l sv h bv) (k : w.grownBy w' (some g)) : BigAt w' a n := H.kept ((KeptT.gr hv k).sub zgg)
end
theorem nums_at (w : World) (g : Nat) (o : ByteArray) (i : Bool) (r : ByteArray) (sv : Value) (l h : ByteArray) (bv : Value) (s rest : ByteArray) (k : Nat) (ds : List ByteArray) (hv : VBlk w g o i r (.slice none 0 0) l sv h bv) (hGL : ∀ W, w.grownBy W (some g) → GLe W) (h1 : numsRun k s = some (ds, rest)) :
    Calls Tryd.prog 42 #[.pointer (some ⟨g, 0, none⟩), .string s] w fun e w' => ∃ cv ns base, e = .returned (.tuple #[.string rest, .nilIface]) ∧ VBlk w' g o i r cv l sv h bv ∧ NOwn w' base cv ns ∧ ns.map (·.o) = ds ∧ ns.length ≤ 1000000 ∧ w.grownBy w' (some g) := by
  unfold numsRun at h1
  obtain ⟨sub, h2, h1⟩ := Option.bind_eq_some_iff.mp h1
  by_cases h0 : sub.toList = []
  · rw [if_pos h0] at h1
    cases h1
    refine (parseNums_e w g s sub k h2 h0).mono ?_
    rintro e w' ⟨rfl, n, rfl⟩
    exact ⟨_, [], 0, rfl, zz hv _, ⟨Kd.R_nil _ _ _ _ _, fun x hx => by simp at hx⟩, rfl, by simp, zgf (zrf w _) _⟩
  · rw [if_neg h0] at h1
    obtain ⟨parts, h3, h1⟩ := Option.bind_eq_some_iff.mp h1
    by_cases hc : 0 < parts.length ∧ parts.length ≤ 1000000 ∧ ∀ d ∈ zse parts, Plain d ∧ zod d
    · rw [if_pos hc] at h1
      obtain ⟨rest', h4, h5⟩ := Option.map_eq_some_iff.mp h1
      cases h5
      refine (parseNums_ w g o i r sv l h bv s sub rest k k parts hv hGL h2 h0 h3 hc.1 hc.2.1 hc.2.2 h4).mono ?_
      rintro e w' ⟨cv, ns, rfl, k1, k2, k3, k4⟩
      refine ⟨cv, ns, _, rfl, k1, k2, k3, ?_, k4⟩
      have q1 := congrArg List.length k3
      rw [List.length_map] at q1
      have q2 : (zse parts).length ≤ parts.length := by
        unfold zse
        exact (List.takeWhile_sublist _).length_le
      have q3 := hc.2.1
      omega
    · rw [if_neg hc] at h1
      cases h1
theorem letter_at (w : World) (g : Nat) (o : ByteArray) (i : Bool) (r : ByteArray) (cv sv : Value) (h : ByteArray) (bv : Value) (s L rest : ByteArray) (hv : VBlk w g o i r cv ⟨#[]⟩ sv h bv) (h1 : zhg s = some (L, rest)) :
  Calls Tryd.prog 43 #[.pointer (some ⟨g, 0, none⟩), .string s] w fun e w' => e = .returned (.string rest) ∧ VBlk w' g o i r cv L sv h bv ∧ w.grownBy w' (some g) := by
 unfold zhg at h1
 obtain ⟨b, h2, h1⟩ := Option.bind_eq_some_iff.mp h1
 by_cases hc : b = true ∧ s.size = 0
 ·rw [if_pos hc] at h1
  cases h1
 ·rw [if_neg hc] at h1
  obtain ⟨rest', h4, h5⟩ := Option.map_eq_some_iff.mp h1
  cases h5
  exact parseLetter_ w g o i r cv sv h bv s rest b hv h2 h4 (fun hb => by
   rcases Nat.eq_zero_or_pos s.size with h0 | h0
   ·exact absurd ⟨hb, h0⟩ hc
   ·exact h0)
theorem sufs_at (w : World) (g : Nat) (o : ByteArray) (i : Bool) (r : ByteArray) (cv : Value) (l h : ByteArray) (bv : Value) (s rest : ByteArray) (k : Nat) (L : List (Int × ByteArray)) (hv : VBlk w g o i r cv l (.slice none 0 0) h bv) (hGL : ∀ W, w.grownBy W (some g) → GLe W) (h1 : sufsRun k s = some (L, rest)) :
  Calls Tryd.prog 44 #[.pointer (some ⟨g, 0, none⟩), .string s] w fun e w' => ∃ sv ns base, e = .returned (.tuple #[.string rest, .nilIface]) ∧ VBlk w' g o i r cv l sv h bv ∧ SOwn w' base sv ns ∧ zzg ns = zag L ∧ ns.length ≤ 1000000 ∧ w.grownBy w' (some g) := by
 unfold sufsRun at h1
 obtain ⟨xs, h2, h1⟩ := Option.bind_eq_some_iff.mp h1
 by_cases hc : xs.length ≤ 1000000
 ·rw [if_pos hc] at h1
  refine (parseSufs_ w g o i r cv l h bv s rest k k xs L hv hGL h2 hc h1).mono ?_
  rintro e w' ⟨sv, ns, rfl, k1, k2, k3, k4⟩
  refine ⟨sv, ns, _, rfl, k1, k2, k3, ?_, k4⟩
  have key : ∀ (xs : List (List ByteArray)) (s : ByteArray) (L : List (Int × ByteArray)) (rest : ByteArray), zxe k xs s = some (L, rest) → L.length = xs.length := by
   intro xs
   induction xs with
   | nil => intro s L rest h; simp [zxe] at h; rw [h.1]; rfl
   | cons m ms ih =>
    intro s L rest h
    obtain ⟨m0, wd, dg, wt, s', r', _, _, _, _, _, h6, h7⟩ := sufRun_step h
    have e1 := congrArg Prod.fst h7
    have e2 : L = (wt, or0 dg) :: r'.1 := e1
    rw [e2, List.length_cons, List.length_cons, ih s' r'.1 r'.2 h6]
  have q1 := congrArg List.length k3
  simp only [zzg, zag, List.length_map] at q1
  rw [q1, key _ _ _ _ h1]
  exact hc
 ·rw [if_neg hc] at h1
  cases h1
theorem hash_at (w : World) (g : Nat) (o : ByteArray) (i : Bool) (r : ByteArray) (cv sv : Value) (l h : ByteArray) (bv : Value) (s hs rest : ByteArray) (k : Nat) (hv : VBlk w g o i r cv l sv h bv) (h1 : hashRun k s = some (hs, rest)) :
  Calls Tryd.prog 45 #[.pointer (some ⟨g, 0, none⟩), .string s] w fun e w' => e = .returned (.string rest) ∧ VBlk w' g o i r cv l sv hs bv ∧ w.grownBy w' (some g) := by
 unfold hashRun at h1
 obtain ⟨hs', h2, h1⟩ := Option.bind_eq_some_iff.mp h1
 obtain ⟨rest', h4, h5⟩ := Option.map_eq_some_iff.mp h1
 cases h5
 exact parseHash_ w g o i r cv sv l h bv s hs rest k hv h2 h4
theorem build_at (w : World) (g : Nat) (o : ByteArray) (r : ByteArray) (cv sv : Value) (l h : ByteArray) (a0 : Nat) (s rest : ByteArray) (inv : Bool) (n k : Nat) (hv : VBlk w g o false r cv l sv h (.pointer (some ⟨a0, 0, none⟩))) (hz : BigAt w a0 0) (hGL : GLe w) (h1 : zih k s = some (inv, n, rest)) :
  Calls Tryd.prog 46 #[.pointer (some ⟨g, 0, none⟩), .string s] w fun e w' => ∃ a, e = .returned (.tuple #[.string rest, .nilIface]) ∧ VBlk w' g o inv r cv l sv h (.pointer (some ⟨a, 0, none⟩)) ∧ BigAt w' a n ∧ w.grownBy w' (some g) := by
 unfold zih at h1
 by_cases h0 : s.toList = []
 ·rw [if_pos h0] at h1
  cases h1
  refine (parseBuild_e w g s h0).mono ?_
  rintro e w' ⟨rfl, rfl⟩
  exact ⟨a0, rfl, hv, hz, zrf _ _⟩
 ·rw [if_neg h0] at h1
  obtain ⟨t, h2, h1⟩ := Option.bind_eq_some_iff.mp h1
  cases t with
  | false =>
   rw [if_neg (by simp)] at h1
   cases h1
   refine (parseBuild_n w g o false r cv sv l h _ s hv h0 h2).mono ?_
   rintro e w' ⟨rfl, k1, k2⟩
   exact ⟨a0, rfl, k1, hz.gr hv k2, k2⟩
  | true =>
   rw [if_pos rfl] at h1
   obtain ⟨m, h3, h1⟩ := Option.bind_eq_some_iff.mp h1
   by_cases hc : 2 ≤ m ∧ m ≤ (s.size : Int) ∧ Plain (or0 (s.extract 2 m.toNat)) ∧ zod (or0 (s.extract 2 m.toNat))
   ·rw [if_pos hc] at h1
    obtain ⟨rest', h4, h5⟩ := Option.map_eq_some_iff.mp h1
    cases h5
    obtain ⟨m', rfl⟩ : ∃ m' : Nat, m = (m' : Int) := ⟨m.toNat, by omega⟩
    exact parseBuild_y w g o false r cv sv l h _ s rest k m' hv hGL h0 h2 h3 (by omega) (by omega) hc.2.2.1 hc.2.2.2 h4
   ·rw [if_neg hc] at h1
    cases h1
structure AP where
 o : ByteArray
 i : Bool
 r : ByteArray
 c : List ByteArray
 l : ByteArray
 s : List (Int × ByteArray)
 h : ByteArray
 b : Nat
def parseA (k : Nat) (s : ByteArray) : Option AP := (numsRun k s).bind fun a1 => (zhg a1.2).bind fun a2 => (sufsRun k a2.2).bind fun a3 => (hashRun k a3.2).bind fun a4 => (zih k a4.2).bind fun a5 => some ⟨s, a5.1, a5.2.2, a1.1, a2.1, a3.1, a4.1, a5.2.1⟩
def Told (x : AV) (p : AP) : Prop := x.o = p.o ∧ x.i = p.i ∧ x.r = p.r ∧ x.c.map (·.o) = p.c ∧ (∀ y ∈ x.c, y.n = dv y.o y.o.size) ∧ x.l = p.l ∧ zzg x.s = zag p.s ∧ x.h = p.h ∧ x.b = p.b
theorem parseA_inv {k : Nat} {s : ByteArray} {p : AP} (h : parseA k s = some p) : ∃ s1 s2 s3 s4, numsRun k s = some (p.c, s1) ∧ zhg s1 = some (p.l, s2) ∧ sufsRun k s2 = some (p.s, s3) ∧ hashRun k s3 = some (p.h, s4) ∧ zih k s4 = some (p.i, p.b, p.r) ∧ p.o = s := by
 unfold parseA at h
 obtain ⟨⟨ds, s1⟩, h1, h⟩ := Option.bind_eq_some_iff.mp h
 obtain ⟨⟨L, s2⟩, h2, h⟩ := Option.bind_eq_some_iff.mp h
 obtain ⟨⟨sf, s3⟩, h3, h⟩ := Option.bind_eq_some_iff.mp h
 obtain ⟨⟨hs, s4⟩, h4, h⟩ := Option.bind_eq_some_iff.mp h
 obtain ⟨⟨inv, n, rest⟩, h5, h⟩ := Option.bind_eq_some_iff.mp h
 obtain rfl := Option.some.inj h
 exact ⟨s1, s2, s3, s4, h1, h2, h3, h4, h5, rfl⟩
theorem parse_ (w : World) (s : ByteArray) (p : AP) (k : Nat) (hGL : GLe w) (h0 : parseA k s = some p) :
  Calls Tryd.prog 29 #[.string s] w fun e w' => ∃ v x, e = .returned (.tuple #[v, .nilIface]) ∧ AVAt w' v x ∧ Told x p ∧ Below w.heap.size w w' := by
 obtain ⟨s1, s2, s3, s4, h1, h2, h3, h4, h5, h6⟩ := parseA_inv h0
 subst h6
 have HGL := za.mk hGL
 have HB := za.mk (Below.refl w.heap.size w)
 have H1 := za.mk h1
 have H2 := za.mk h2
 have H3 := za.mk h3
 have H4 := za.mk h4
 have H5 := za.mk h5
 clear h0 h1 h2 h3 h4 h5 hGL
 obtain ⟨W0, hW0⟩ : ∃ W0, W0 = (((w.alloc (.cells #[.string ⟨#[]⟩, .bool false, .string ⟨#[]⟩, .slice none 0 0, .string ⟨#[]⟩, .slice none 0 0, .string ⟨#[]⟩, .pointer none] 69)).alloc (.cells #[.bool false, .slice none 0 0] 93)).alloc (.cells #[.string p.o, .bool false, .string ⟨#[]⟩, .slice none 0 0, .string ⟨#[]⟩, .slice none 0 0, .string ⟨#[]⟩, .pointer (some ⟨w.heap.size + 1, 0, none⟩)] 69)) := ⟨_, rfl⟩
 have b0 : Below w.heap.size w W0 := by rw [hW0]; exact zo (zo (zo HB.out _) _) _
 have v0 : VBlk W0 (w.heap.size + 1 + 1) p.o false ⟨#[]⟩ (.slice none 0 0) ⟨#[]⟩ (.slice none 0 0) ⟨#[]⟩ (.pointer (some ⟨w.heap.size + 1, 0, none⟩)) := by
  unfold VBlk
  have h := zdf ((w.alloc (.cells #[.string ⟨#[]⟩, .bool false, .string ⟨#[]⟩, .slice none 0 0, .string ⟨#[]⟩, .slice none 0 0, .string ⟨#[]⟩, .pointer none] 69)).alloc (.cells #[.bool false, .slice none 0 0] 93)) (.cells #[.string p.o, .bool false, .string ⟨#[]⟩, .slice none 0 0, .string ⟨#[]⟩, .slice none 0 0, .string ⟨#[]⟩, .pointer (some ⟨w.heap.size + 1, 0, none⟩)] 69)
  rw [zcd, zcd] at h
  rw [hW0]
  exact h
 have z0 : BigAt W0 (w.heap.size + 1) 0 := by
  have h := (big_zero (w.alloc (.cells #[.string ⟨#[]⟩, .bool false, .string ⟨#[]⟩, .slice none 0 0, .string ⟨#[]⟩, .slice none 0 0, .string ⟨#[]⟩, .pointer none] 69))).below (zo (Below.refl _ _) (.cells #[.string p.o, .bool false, .string ⟨#[]⟩, .slice none 0 0, .string ⟨#[]⟩, .slice none 0 0, .string ⟨#[]⟩, .pointer (some ⟨w.heap.size + 1, 0, none⟩)] 69))
  rw [zcd] at h
  rw [hW0]
  exact h
 have r0 : W0.heap[w.heap.size]? = some (.cells #[.string ⟨#[]⟩, .bool false, .string ⟨#[]⟩, .slice none 0 0, .string ⟨#[]⟩, .slice none 0 0, .string ⟨#[]⟩, .pointer none] 69 (0, 0)) := by
  rw [hW0]
  exact zub (zub (zdf w _) _) _
 have s0 : w.heap.size ≤ W0.heap.size := b0.size
 have HGA : za (∀ W, W0.grownBy W (some (w.heap.size + 1 + 1)) → GLe W) := ⟨fun W hW => HGL.out.lt (gr_from b0 s0 hW (by omega))⟩
 have HB0 := za.mk b0
 have V0 := za.mk v0
 have Z0 := za.mk z0
 have R0 := za.mk r0
 have HW0 := za.mk hW0
 have C1 := za.mk (nums_at W0 (w.heap.size + 1 + 1) p.o false ⟨#[]⟩ _ _ _ _ p.o s1 k p.c v0 HGA.out H1.out)
 rw [hW0] at C1
 clear b0 v0 z0 r0 s0 hW0 H1
 go_enter Tryd.func29, Tryd.ntmps29
 go_wp2_with (first | (go_at_call 42; (with_reducible refine C1.out.mono ?_); rintro e' w1 ⟨cv, ns, b1, rfl, v1, n1, t1, l1, g1⟩; obtain ⟨A1, cc1, rfl⟩ := Kd.R_slice n1.1; rw [← HW0.out] at g1; have V1 := za.mk v1; have N1 := za.mk n1; have T1 := za.mk t1; have L1 := za.mk l1; have GR1 := za.mk g1; have Z1 := za.mk (Z0.out.gr V0.out g1); clear v1 n1 t1 l1 g1 C1) | (go_at_call 43; (with_reducible refine (letter_at w1 _ p.o false ⟨#[]⟩ _ _ _ _ s1 p.l s2 V1.out H2.out).mono ?_); rintro e' w2 ⟨rfl, v2, g2⟩; have V2 := za.mk v2; have N2 := za.mk (N1.out.gr V1.out g2); have Z2 := za.mk (Z1.out.gr V1.out g2); have GR2 := za.mk (gr_gr GR1.out g2); clear v2 g2 N1 Z1) | (go_at_call 44; (with_reducible refine (sufs_at w2 _ p.o false ⟨#[]⟩ _ p.l _ _ s2 s3 k p.s V2.out (fun W hW => HGA.out W (gr_gr GR2.out hW)) H3.out).mono ?_); rintro e' w3 ⟨sv, ms, b2, rfl, v3, m3, t3, l3, g3⟩; obtain ⟨A3, cc3, rfl⟩ := Kd.R_slice m3.1; have V3 := za.mk v3; have M3 := za.mk m3; have T3 := za.mk t3; have L3 := za.mk l3; have N3 := za.mk (N2.out.gr V2.out g3); have Z3 := za.mk (Z2.out.gr V2.out g3); have GR3 := za.mk (gr_gr GR2.out g3); clear v3 m3 t3 l3 g3 N2 Z2) | (go_at_call 45; (with_reducible refine (hash_at w3 _ p.o false ⟨#[]⟩ _ _ p.l _ _ s3 p.h s4 k V3.out H4.out).mono ?_); rintro e' w4 ⟨rfl, v4, g4⟩; have V4 := za.mk v4; have M4 := za.mk (M3.out.gr V3.out g4); have N4 := za.mk (N3.out.gr V3.out g4); have Z4 := za.mk (Z3.out.gr V3.out g4); have GR4 := za.mk (gr_gr GR3.out g4); clear v4 g4 N3 M3 Z3) | (go_at_call 46; (with_reducible refine (build_at w4 _ p.o ⟨#[]⟩ _ _ p.l p.h _ s4 p.r p.i p.b k V4.out Z4.out (HGA.out w4 GR4.out) H5.out).mono ?_); rintro e' w5 ⟨a, rfl, v5, z5, g5⟩; have V5 := za.mk v5; have M5 := za.mk (M4.out.gr V4.out g5); have N5 := za.mk (N4.out.gr V4.out g5); have Z5 := za.mk z5; have GR5 := za.mk (gr_gr GR4.out g5); have v6 := zv (cs' := #[.string p.o, .bool p.i, .string p.r, .slice A1 (zve ns).length cc1, .string p.l, .slice A3 (zke ms).length cc3, .string p.h, .pointer (some ⟨a, 0, none⟩)]) V5.out 2 (.string p.r) rfl; have x2 := (zj V5.out 2).trans rfl; have f2 := zu V5.out 2; have x6 := fun j : Nat => zj v6 j; have r5 := (GR5.out.block w.heap.size (zac R0.out) (by intro e; have := Option.some.inj e; omega)).trans R0.out; have r6 := zmb r5 (p := ⟨w.heap.size + 1 + 1, 2, none⟩) (by show w.heap.size ≠ w.heap.size + 1 + 1; omega) (.string p.r); have y6 := fun j : Nat => zj r6 j; have q6 := fun j : Nat => zu r6 j; have V6 := za.mk v6; have R6 := za.mk r6; have R5 := za.mk r5; clear v5 z5 g5 v6 r5 r6 N4 M4 Z4))
 (try simp only [Exit.inBlock, Exit.then])
 have hk : ∀ (W : World) (k : Nat), (∀ b, b ≠ w.heap.size + 1 + 1 → b ≠ w.heap.size → W.heap[b]? = w5.heap[b]?) → KeptT (fun t => t != 69) w5 W := fun W _ h b cs t fr hb ht => by
  refine h b (fun e => ?_) (fun e => ?_)
  ·subst e; have := V5.out; unfold VBlk at this; rw [this] at hb; cases hb; exact absurd ht (by decide)
  ·subst e; have := R5.out; rw [this] at hb; cases hb; exact absurd ht (by decide)
 refine bodyPost_ret (zig rfl _ _ w.heap.size 69 #[.string p.o, .bool p.i, .string p.r, .slice A1 (zve ns).length cc1, .string p.l, .slice A3 (zke ms).length cc3, .string p.h, .pointer (some ⟨a, 0, none⟩)] (0, 0) _ rfl (zv (cs' := #[.string p.o, .bool p.i, .string p.r, .slice A1 (zve ns).length cc1, .string p.l, .slice A3 (zke ms).length cc3, .string p.h, .pointer (some ⟨a, 0, none⟩)]) (zv (zv (zv (zv (zv (zv (zv R6.out 0 _ rfl) 1 _ rfl) 2 _ rfl) 3 _ rfl) 4 _ rfl) 5 _ rfl) 6 _ rfl) 7 _ rfl) Tryd.underlying69 rfl (by kernel_rfl)) rfl ?_
 have K := hk (((((((((w5.setCell ⟨w.heap.size + 1 + 1, 2, none⟩ (.string p.r)).setCell ⟨w.heap.size, 0, none⟩ (.string p.o)).setCell ⟨w.heap.size, 1, none⟩ (.bool p.i)).setCell ⟨w.heap.size, 2, none⟩ (.string p.r)).setCell ⟨w.heap.size, 3, none⟩ (.slice A1 (zve ns).length cc1)).setCell ⟨w.heap.size, 4, none⟩ (.string p.l)).setCell ⟨w.heap.size, 5, none⟩ (.slice A3 (zke ms).length cc3)).setCell ⟨w.heap.size, 6, none⟩ (.string p.h)).setCell ⟨w.heap.size, 7, none⟩ (.pointer (some ⟨a, 0, none⟩))) 0 (fun b h1 h2 => by repeat (first | rw [Below.heap_setCell _ _ _ _ h2] | rw [Below.heap_setCell _ _ _ _ h1]))
 refine ⟨_, ⟨p.o, p.i, p.r, ns, p.l, ms, p.h, p.b⟩, rfl, ⟨_, _, a, rfl, ?_, ?_, Z5.out.kept (K.sub zgg)⟩, ⟨rfl, rfl, rfl, T1.out, fun y hy => (N5.out.2 y hy).2.1, rfl, T3.out, rfl, rfl⟩, ?_⟩
 ·exact NOwn.crow (base := b1) ⟨zue (p := fun t => t != 69) rfl (by decide) N5.out.1 K, fun x hx => (N5.out.2 x hx).kept (K.sub zgg)⟩ L1.out
 ·exact SOwn.srow (base := b2) ⟨zue (p := fun t => t != 69) rfl (by decide) M5.out.1 K, fun x hx => (M5.out.2 x hx).kept (K.sub zgg)⟩ L3.out
 ·have b5 := gr_from HB0.out HB0.out.size GR5.out (show w.heap.size ≤ w.heap.size + 1 + 1 by omega)
  have b6 := b5.setCell (p := ⟨w.heap.size + 1 + 1, 2, none⟩) (by show w.heap.size ≤ w.heap.size + 1 + 1; omega) (.string p.r)
  repeat (first | (with_reducible exact b6) | refine zi ?_ (Nat.le_refl _))
end Go.Proofs.YtapaijpglfmfgaaDoorG
end
section
namespace Go.Proofs.YtapaijpglfmfgaaDoorG
open Go.RowKit YtapaijpglfmfgaaDoorH YtapaijpglfmfgaaDoor.S YtapaijpglfmfgaaDoorW.PrintWords YtapaijpglfmfgaaDoorW.PrintLast
def toNm (d : ByteArray) : Nm := ⟨d, 0, dv d d.size⟩
def toSx (x : Int × ByteArray) : Sx := ⟨x.1, 0, dv x.2 x.2.size⟩
def apC (p q : AP) : Int := if p.i = true ∧ q.i = true then strCmp p.o q.o else
 firstNe (compsC (p.c.map toNm) (q.c.map toNm)) (firstNe (lettersCmp p.l q.l) (firstNe (sufsC (p.s.map toSx) (q.s.map toSx)) (firstNe (cmpN p.b q.b) (firstNe (remCmp p.r q.r) 0))))
theorem AVAt.form {w : World} {v : Value} {x : AV} (h : AVAt w v x) : ∃ p1 c1 p2 c2 a, v = AVv x.o x.i x.r (.slice p1 x.c.length c1) x.l (.slice p2 x.s.length c2) x.h (.pointer (some ⟨a, 0, none⟩)) := by
 obtain ⟨cv, sv, a, rfl, h1, h2, _⟩ := h
 obtain ⟨p1, c1, rfl⟩ := h1.len
 obtain ⟨p2, c2, rfl⟩ := h2.len
 exact ⟨p1, c1, p2, c2, a, rfl⟩
end Go.Proofs.YtapaijpglfmfgaaDoorG
end
section
namespace Go.Proofs.YtapaijpglfmfgaaDoor.E1
open Go.RowKit YtapaijpglfmfgaaDoorH YtapaijpglfmfgaaDoorW.PrintWords YtapaijpglfmfgaaDoorW.PrintLast YtapaijpglfmfgaaDoorW.PrintMore
attribute [local go_sem] zsc zrc zbd zad zic zhc zqc ztc
def errW : Option Int → Value
 | none => .nilIface
 | some c => .iface 0 (.int .i64 c)
theorem zkf : errW none = .nilIface := rfl
theorem zpf (c : Int) : errW (some c) = .iface 0 (.int .i64 c) := rfl
end Go.Proofs.YtapaijpglfmfgaaDoor.E1
end
section
namespace Go.Proofs.YtapaijpglfmfgaaDoor.E1
open Go.RowKit YtapaijpglfmfgaaDoorH YtapaijpglfmfgaaDoorW.PrintWords YtapaijpglfmfgaaDoorW.PrintLast YtapaijpglfmfgaaDoorW.PrintMore
attribute [local go_sem] zsc zrc zbd zad zic zhc zqc ztc
def zib.f (a0 : Int) : Option (Bool) := if a0 ≥ 48 then (some (decide (a0 ≤ 57))) else (some false)
theorem zib.calls (a0 : Int) (r : Bool) (w : World) (h : zib.f a0 = some r) :
  Calls Tryd.prog 34 #[.int .u8 a0] w fun e w' => e = .returned (.bool r) ∧ zt w w' := by
 have H : (if a0 ≥ 48 then (some (decide (a0 ≤ 57))) else (some false)) = some r := h
 clear h
 by_cases c2 : a0 ≥ 48
 ·rw [if_pos c2] at H
  have c2b0 : decide (48 ≤ a0) = true := decide_eq_true c2
  clear c2
  obtain rfl := Option.some.inj H
  go_enter Tryd.func34, Tryd.ntmps34
  go_wp2
  go_ret
  exact ⟨by first | rfl | (simp; done) | (simp [*]; done) | (simp [zpc]; done) | (simp [zpc, *]; done), by repeat (first | exact zt.refl _ | apply zt.step)⟩
 ·rw [if_neg c2] at H
  have c2b0 : decide (48 ≤ a0) = false := decide_eq_false c2
  clear c2
  obtain rfl := Option.some.inj H
  go_enter Tryd.func34, Tryd.ntmps34
  go_wp2
  go_ret
  exact ⟨by first | rfl | (simp; done) | (simp [*]; done) | (simp [zpc]; done) | (simp [zpc, *]; done), by repeat (first | exact zt.refl _ | apply zt.step)⟩
def zcb.l0 : Nat → ByteArray → Int → Option (Int)
 | 0, _, _ => none
 | k + 1, x0, x5 => if x5 < (x0.size : Int) then (if 0 ≤ x5 then ((zib.f (bt x0 x5)).bind fun t101 => (if t101 = true then (zcb.l0 k x0 (wrap64 (x5 + 1))) else (some x5))) else (none)) else (some x5)
def zcb.f (k : Nat) (a0 : ByteArray)  : Option (Int) := zcb.l0 k a0 0
theorem zcb.calls (k : Nat) (a0 : ByteArray)  (r : Int) (w : World) (h : zcb.f k a0 = some r) :
  Calls Tryd.prog 33 #[.string a0, .func (.func 34) #[] #[]] w fun e w' => e = .returned (.int .i64 r) ∧ zt w w' := by
 have H : (zcb.l0 k a0 0) = some r := h
 clear h
 have H' := za.mk H
 clear H
 go_enter Tryd.func33, Tryd.ntmps33
 go_wp2
 (try simp only [Act.put, List.setIfInBounds_toArray, List.set_cons_zero, List.set_cons_succ])
 go_loopg [5] k (fun kq v5 w' => ∃ (x5_1 : Int), v5 = .int .i64 x5_1 ∧ za (zcb.l0 kq a0 x5_1 = some r) ∧ za (kq ≤ k) ∧ zt w w')
 case atStart => exact ⟨(0), (by first | rfl | (simp; done) | (simp [*]; done) | (simp [zpc]; done) | (simp [zpc, *]; done)), H', ⟨Nat.le_refl _⟩, by repeat (first | exact zt.refl _ | apply zt.step)⟩
 case round =>
  clear H'
  try clear p2
  obtain ⟨x5_1, rfl, HA, HK1, ⟨m1, rfl⟩⟩ := hrel
  cases gk with
  | zero => exact absurd HA.out (by simp [zcb.l0])
  | succ k1 =>
   have H := HA.out
   clear HA
   simp only [zcb.l0] at H
   by_cases c3 : x5_1 < (a0.size : Int)
   ·rw [if_pos c3] at H
    have c3b0 : decide (x5_1 < (a0.size : Int)) = true := decide_eq_true c3
    clear c3
    by_cases c4 : 0 ≤ x5_1
    ·rw [if_pos c4] at H
     have c4b0 : decide (0 ≤ x5_1) = true := decide_eq_true c4
     clear c4
     replace H := Option.bind_eq_some_iff.mp H
     obtain ⟨t101, A60, H⟩ := H
     replace H : (if t101 = true then (zcb.l0 k1 a0 (wrap64 (x5_1 + 1))) else (some x5_1)) = some r := H
     have A6 := za.mk A60
     clear A60
     by_cases c7 : t101 = true
     ·subst c7
      have H1 : (zcb.l0 k1 a0 (wrap64 (x5_1 + 1))) = some r := by rw [if_pos rfl] at H; exact H
      clear H
      have H := H1
      clear H1
      have H' := za.mk H
      clear H
      have p5 : 0 ≤ (x5_1 : Int) := of_decide_eq_true (by first | (with_reducible assumption) | assumption)
      have q5 : x5_1 < (a0.size : Int) := of_decide_eq_true (by first | (with_reducible assumption) | assumption)
      have hx5 := bt_at a0 x5_1
      replace p5 := eq_true p5
      replace q5 := eq_true q5
      go_wp2_with (first | (go_at_call 34; (with_reducible refine (zib.calls (bt a0 x5_1) true _ A6.out).mono ?_); rintro e w' ⟨rfl, ⟨nd, rfl⟩⟩))
      go_roundg k1
      case measure => have := HK1.out; omega
      case rel => exact ⟨(wrap64 (x5_1 + 1)), (by first | rfl | (simp; done) | (simp [*]; done) | (simp [zpc]; done) | (simp [zpc, *]; done)), H', ⟨by have := HK1.out; omega⟩, by repeat (first | exact zt.refl _ | apply zt.step)⟩
     ·replace c7 := Bool.eq_false_iff.mpr c7
      subst c7
      have H1 : (some x5_1) = some r := by rw [if_neg (show ¬ (false = true) by decide)] at H; exact H
      clear H
      have H := H1
      clear H1
      obtain rfl := Option.some.inj H
      have p5 : 0 ≤ (x5_1 : Int) := of_decide_eq_true (by first | (with_reducible assumption) | assumption)
      have q5 : x5_1 < (a0.size : Int) := of_decide_eq_true (by first | (with_reducible assumption) | assumption)
      have hx5 := bt_at a0 x5_1
      replace p5 := eq_true p5
      replace q5 := eq_true q5
      go_wp2_with (first | (go_at_call 34; (with_reducible refine (zib.calls (bt a0 x5_1) false _ A6.out).mono ?_); rintro e w' ⟨rfl, ⟨nd, rfl⟩⟩))
      go_ret
      exact ⟨by first | rfl | (simp; done) | (simp [*]; done) | (simp [zpc]; done) | (simp [zpc, *]; done), by repeat (first | exact zt.refl _ | apply zt.step)⟩
    ·rw [if_neg c4] at H
     exact absurd H (by simp)
   ·rw [if_neg c3] at H
    have c3b0 : decide (x5_1 < (a0.size : Int)) = false := decide_eq_false c3
    clear c3
    obtain rfl := Option.some.inj H
    go_wp2
    go_ret
    exact ⟨by first | rfl | (simp; done) | (simp [*]; done) | (simp [zpc]; done) | (simp [zpc, *]; done), by repeat (first | exact zt.refl _ | apply zt.step)⟩
end Go.Proofs.YtapaijpglfmfgaaDoor.E1
end
section
namespace Go.Proofs.YtapaijpglfmfgaaDoor.E2
open Go.RowKit YtapaijpglfmfgaaDoorH YtapaijpglfmfgaaDoorW.PrintWords YtapaijpglfmfgaaDoorW.PrintLast YtapaijpglfmfgaaDoorW.PrintMore
attribute [local go_sem] zsc zrc zbd zad zic zhc zqc ztc
def errW : Option Int → Value
 | none => .nilIface
 | some c => .iface 0 (.int .i64 c)
theorem zkf : errW none = .nilIface := rfl
theorem zpf (c : Int) : errW (some c) = .iface 0 (.int .i64 c) := rfl
end Go.Proofs.YtapaijpglfmfgaaDoor.E2
end
