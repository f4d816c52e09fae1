/- Proved here, for the row of the law FnPyPIStages: contracts of the Go functions that it reaches, each as its theorem 'calls' says, and the words and plain laws that they need (YN, Qx0, Qx3, Qx4, Qx5, Qx6, HS, Qx50). -/
import Derived.Test.YtlijjnjpomnphaaGreatDoorFnPyPIStagesD
import Derived.Below
import Derived.Deep.Draws
import Derived.Deep.AppendLies
import Derived.Maps.AppendAt
import Derived.OwnWalk
import Derived.Laws.BytesArg
import Derived.Laws.MakeOwn
import Derived.Laws.OwnMore
import Derived.Deep.OwnRows
import Derived.Tactics
import Derived.Lib.ConvBytes
import Derived.Laws.Slices
import Derived.WalkKit
import Derived.KernelRfl
import Derived.RowKit3
import Derived.Deep.LoopGhost
import Derived.Deep.QuietTactic
import Derived.BigQuiet
import Derived.WideLaws
import Derived.Deep.DeepCutAuto
import Derived.Deep.CutBlock
import Derived.Deep.RegionHeld3
import Derived.Laws.Rows
import Derived.Lib.AppendStr
import Derived.ArgAppend
import Derived.Laws.IdiomCopy
import Derived.RowKit
import Derived.Test.YtlijjnjpomnphaaGreatDoorProg
import Derived.OrdersHeld
import Derived.Laws.BitsLemmas
import Derived.Deep.MidRow
set_option linter.unusedVariables false
set_option linter.unusedSimpArgs false
set_option maxHeartbeats 8000000
set_option maxRecDepth 100000
section
namespace Go.Proofs.YtlijjnjpomnphaaGreatDoorY
open Go.RowKit YtlijjnjpomnphaaGreatDoorH YtlijjnjpomnphaaGreatDoorB YtlijjnjpomnphaaGreatDoorM YtlijjnjpomnphaaGreatDoorP YtlijjnjpomnphaaGreatDoor.S YtlijjnjpomnphaaGreatDoorW.PrintWords YtlijjnjpomnphaaGreatDoorW.PrintLast
theorem zjh {ws : List (List Int)} {l w d : List Int} (h : (zwc ws l).1 = some (w, d)) : w ∈ ws := by
 unfold zwc at h
 cases hw : zyc ws (unmk l) with
 | none => rw [hw] at h; cases h
 | some v =>
  rw [hw] at h
  have h2 : some (v, dg (unmk ((unmk l).drop v.length))) = some (w, d) := h
  injection h2 with h2
  injection h2 with h2 _
  rw [← h2]
  exact (zog hw).1
theorem gpost_W {l w d : List Int} (h : (gpost l).1 = some (w, d)) : w ∈ postC := by
 unfold gpost at h
 cases hh : hyph l with
 | none => rw [hh] at h; exact zjh h
 | some x =>
  rw [hh] at h
  obtain ⟨c, r, _, _, rfl⟩ := zdh hh
  have h2 : some (wPost, dg (c :: r)) = some (w, d) := h
  injection h2 with h2
  injection h2 with h2 _
  rw [← h2]
  decide
theorem anMore_mem : ∀ (n : Nat) (l : List Int), ∀ c ∈ l.take (zzc n l), isAn c = true ∨ isMk c = true
 | 0, l, c, h => by simp [zzc] at h
 | n + 1, [], c, h => by simp at h
 | n + 1, x :: r, c, h => by
  simp only [zzc] at h
  by_cases hx : isMk x = true ∧ run isAn r ≠ 0
  ·rw [if_pos hx, show 1 + run isAn r + zzc n (r.drop (run isAn r)) = (run isAn r + zzc n (r.drop (run isAn r))) + 1 by omega, List.take_succ_cons, List.take_add] at h
   rcases List.mem_cons.1 h with rfl | h
   ·exact .inr hx.1
   ·rcases List.mem_append.1 h with h | h
    ·exact .inl (run_mem h)
    ·exact anMore_mem n _ c h
  ·rw [if_neg hx] at h; simp at h
theorem locR_mem {x : List Int} {r : List Int × List Int} (h : locR x = some r) : ∀ c ∈ r.1, isAn c = true ∨ isMk c = true := by
 cases x with
 | nil => have e : r = ([], []) := (Option.some.inj h).symm; subst e; intro c hc; simp at hc
 | cons a t =>
  simp only [locR] at h
  by_cases ha : a = 43
  ·rw [if_pos ha] at h
   by_cases h0 : run isAn t = 0
   ·rw [if_pos h0] at h; cases h
   ·rw [if_neg h0] at h
    cases h
    intro c hc
    have hc2 : c ∈ t.take (zbf t) := hc
    unfold zbf at hc2
    rw [List.take_add] at hc2
    rcases List.mem_append.1 hc2 with hc2 | hc2
    ·exact .inl (run_mem hc2)
    ·exact anMore_mem _ _ c hc2
  ·rw [if_neg ha] at h
   cases h
   intro c hc; simp at hc
theorem zkf (p : Int → Bool) : ∀ (l : List Int), ∀ w ∈ zsb p l, ∀ x ∈ w, p x = false
 | [], w, hw, x, hx => by
  have : w = [] := by simpa [zsb] using hw
  subst this; simp at hx
 | c :: r, w, hw, x, hx => by
  simp only [zsb] at hw
  by_cases hc : p c = true
  ·rw [if_pos hc] at hw
   rcases List.mem_cons.1 hw with rfl | hw
   ·simp at hx
   ·exact zkf p r w hw x hx
  ·rw [if_neg hc] at hw
   cases hs : zsb p r with
   | nil => exact absurd hs (zzd p r)
   | cons a t =>
    rw [hs] at hw
    simp only [glue] at hw
    rcases List.mem_cons.1 hw with rfl | hw
    ·rcases List.mem_append.1 hx with hx | hx
     ·rw [List.mem_singleton.1 hx]; simpa using hc
     ·exact zkf p r a (by rw [hs]; exact List.mem_cons_self) x hx
    ·exact zkf p r w (by rw [hs]; exact List.mem_cons_of_mem _ hw) x hx
structure Wds (n : Nat) (v : PV) : Prop where
 pre : ∀ w d, v.pre = some (w, d) → w ∈ preC
 post : ∀ w d, v.post = some (w, d) → w ∈ postC
 dev : ∀ w d, v.dev = some (w, d) → w ∈ devC
 loc : ∀ w ∈ v.loc, w.length ≤ n ∧ ∀ c ∈ w, isAn c = true
theorem codeV_W {t : List Int} {v : PV} (h : codeV t = some v) : Wds t.length v := by
 unfold codeV at h
 obtain ⟨q, hq, h1⟩ := Option.bind_eq_some_iff.mp h
 obtain ⟨r, hr, h2⟩ := Option.bind_eq_some_iff.mp h1
 by_cases hb : r.2.all isBl = true
 ·rw [if_pos hb] at h2
  injection h2 with h2
  subst h2
  refine ⟨fun w d e => zjh e, fun w d e => gpost_W e, fun w d e => zjh e, fun w hw => ⟨?_, fun c hc => ?_⟩⟩
  ·have l1 := zlg isMk r.1 w hw
   have l2 := locR_len hr
   have l3 := (suf_code3 q.2.2).length_le
   have l4 := (suf_head hq).length_le
   omega
  ·have hm := splitP_mem isMk r.1 w hw c hc
   have hf := zkf isMk r.1 w hw c hc
   rcases locR_mem hr c hm with hx | hx
   ·exact hx
   ·rw [hf] at hx; cases hx
 ·rw [if_neg hb] at h2; cases h2
def tot : List (List Int) → Nat
 | [] => 0
 | w :: l => w.length + tot l
theorem tot_app : ∀ a b : List (List Int), tot (a ++ b) = tot a + tot b
 | [], b => by simp [tot]
 | x :: a, b => by simp only [List.cons_append, tot, tot_app a b]; omega
theorem tot_take : ∀ (n : Nat) (l : List (List Int)), tot (l.take n) ≤ tot l
 | 0, l => by simp [tot]
 | n + 1, [] => by simp [tot]
 | n + 1, x :: l => by simp only [List.take_succ_cons, tot]; have := tot_take n l; omega
theorem tot_pop (x : List Int) : ∀ (n : Nat) (l : List (List Int)), tot (pop x n l) ≤ tot l
 | 0, l => Nat.le_refl _
 | n + 1, l => by
  simp only [pop]
  split
  ·exact Nat.le_trans (tot_pop x n _) (tot_take _ _)
  ·exact Nat.le_refl _
theorem tot_step (out : List (List Int)) (t : List Int) : tot (step out t) ≤ tot out + t.length + 8 := by
 have hn := norm_length t
 unfold step
 split
 ·rw [tot_app]
  have h1 : tot (if lt_ (norm t) fin = true then pop fm out.length out else out) ≤ tot out := by
   split
   ·exact tot_pop _ _ _
   ·exact Nat.le_refl _
  have h2 := tot_pop zz (if lt_ (norm t) fin = true then pop fm out.length out else out).length (if lt_ (norm t) fin = true then pop fm out.length out else out)
  simp only [tot]
  omega
 ·rw [tot_app]
  simp only [tot]
  omega
theorem tot_fold : ∀ (ts out : List (List Int)), tot (ts.foldl step out) ≤ tot out + tot ts + 8 * ts.length
 | [], out => by simp [tot]
 | t :: ts, out => by
  have h1 := tot_fold ts (step out t)
  have h2 := tot_step out t
  simp only [List.foldl_cons, tot, List.length_cons]
  omega
theorem tot_filter (p : List Int → Bool) : ∀ l : List (List Int), tot (l.filter p) ≤ tot l ∧ (l.filter p).length ≤ l.length
 | [] => ⟨Nat.le_refl _, Nat.le_refl _⟩
 | x :: l => by
  have h := tot_filter p l
  rw [List.filter_cons]
  split
  ·simp only [tot, List.length_cons]; omega
  ·simp only [tot, List.length_cons]; omega
theorem toks_tot : ∀ (n : Nat) (l : List Int), tot (toks n l) ≤ l.length ∧ (toks n l).length ≤ l.length
 | 0, l => by simp [toks, tot]
 | n + 1, [] => by simp [toks, tot]
 | n + 1, c :: r => by
  simp only [toks]
  by_cases hc : isD c = true
  ·rw [if_pos hc]
   have h := toks_tot n ((c :: r).drop (run isD (c :: r)))
   have hl := zce isD (c :: r)
   have h0 : 0 < run isD (c :: r) := by rw [zed hc]; omega
   simp only [tot, List.length_cons, List.length_take, List.length_drop] at h hl ⊢
   omega
  ·rw [if_neg hc]
   by_cases hL : isL c = true
   ·rw [if_pos hL]
    have h := toks_tot n ((c :: r).drop (run isL (c :: r)))
    have hl := zce isL (c :: r)
    have h0 : 0 < run isL (c :: r) := by rw [zed hL]; omega
    simp only [tot, List.length_cons, List.length_take, List.length_drop] at h hl ⊢
    omega
   ·rw [if_neg hL]
    have h := toks_tot n r
    split
    ·simp only [tot, List.length_cons, List.length_nil] at h ⊢; omega
    ·simp only [List.length_cons]; omega
theorem parts_tot (l : List Int) : tot (parts l) ≤ 9 * l.length + 13 := by
 unfold parts steps
 have h1 := toks_tot l.length l
 have h2 := tot_filter (fun t => decide (t ≠ [46])) (toks l.length l ++ [final_])
 have h3 := tot_fold ((toks l.length l ++ [final_]).filter (fun t => decide (t ≠ [46]))) []
 have h4 : tot (toks l.length l ++ [final_]) = tot (toks l.length l) + 5 := by rw [tot_app]; rfl
 have h5 : (toks l.length l ++ [final_]).length = (toks l.length l).length + 1 := by simp
 simp only [tot] at h3
 omega
end Go.Proofs.YtlijjnjpomnphaaGreatDoorY
namespace Go.Proofs.YtlijjnjpomnphaaGreatDoorG
open Go.RowKit YtlijjnjpomnphaaGreatDoorH YtlijjnjpomnphaaGreatDoorB YtlijjnjpomnphaaGreatDoorC YtlijjnjpomnphaaGreatDoorM YtlijjnjpomnphaaGreatDoorP YtlijjnjpomnphaaGreatDoorY YtlijjnjpomnphaaGreatDoor.S YtlijjnjpomnphaaGreatDoorW.PrintWords YtlijjnjpomnphaaGreatDoorW.PrintLast
theorem zsg (l : List Int) : (strOfNums l).size = l.length := by
 show (strOfNums l).data.size = _
 simp [strOfNums]
theorem joinB_tot : ∀ l : List (List Int), (joinB (l.map strOfNums)).size = tot l
 | [] => rfl
 | w :: l => by
  have h := joinB_tot l
  unfold joinB at h ⊢
  simp only [List.map_cons, List.foldr_cons, tot]
  rw [ByteArray.size_append, h, zsg]
theorem isAn_iff {c : Int} (h : isAn c = true) : (48 ≤ c ∧ c ≤ 57) ∨ (97 ≤ c ∧ c ≤ 122) := by
 unfold isAn isD isL at h
 rw [Bool.or_eq_true, decide_eq_true_eq, decide_eq_true_eq] at h
 exact h
theorem isAn_low {c : Int} (h : isAn c = true) : low c = c := by
 have := isAn_iff h
 unfold low
 rw [if_neg (by omega)]
theorem an_low {w : List Int} (h : ∀ c ∈ w, isAn c = true) : w.map low = w := by
 calc w.map low = w.map id := List.map_congr_left (fun c hc => isAn_low (h c hc))
  _ = w := List.map_id w
theorem plain_an {w : List Int} (h : ∀ c ∈ w, isAn c = true) (hl : w.length ≤ 1000000) : Plain (strOfNums w) := by
 have hb : bytesOf (strOfNums w) = w := B_str (fun c hc => by have := isAn_iff (h c hc); omega)
 have e : bt (strOfNums w) 0 = w.getD 0 0 := by
  have := zad (strOfNums w) 0
  rw [hb] at this
  exact this
 unfold Plain
 rw [e, zsg]
 cases w with
 | nil => exact ⟨hl, by decide, by decide⟩
 | cons c r =>
  have := isAn_iff (h c List.mem_cons_self)
  exact ⟨hl, by show c ≠ 45; omega, by show c ≠ 43; omega⟩
theorem spell_pos {w : List Int} (h : w ∈ Go.Proofs.YtlijjnjpomnphaaGreatDoorY.preC) : 0 < (strOfNums (spell w)).size := by
 rw [zsg]
 simp only [Go.Proofs.YtlijjnjpomnphaaGreatDoorY.preC, List.mem_cons, List.not_mem_nil, or_false] at h
 rcases h with rfl | rfl | rfl | rfl | rfl | rfl | rfl | rfl <;> decide
theorem txtL_len (l : List Int) : (txtL l).length ≤ l.length := by
 unfold txtL
 have h1 := (unV_suf ((l.map low).drop (run isBl (l.map low)))).length_le
 rw [List.length_drop, List.length_map] at h1
 omega
theorem valL_ok (l : List Int) (hl : l.length ≤ 100000) : YOk (valL l) := by
 unfold valL
 cases hv : codeV (txtL l) with
 | none =>
  refine ⟨fun p e => (by cases e), fun s hs => (by cases hs), ?_, fun _ => rfl⟩
  show (joinB ((parts (l.map low)).map strOfNums)).size ≤ _
  rw [joinB_tot]
  have := parts_tot (l.map low)
  rw [List.length_map] at this
  omega
 | some v =>
  have hw := codeV_W hv
  have ht := txtL_len l
  refine ⟨fun p e => ?_, fun s hs => ?_, ?_, fun e => absurd rfl e⟩
  ·have e2 : v.pre.map toldL = some p := e
   cases hp : v.pre with
   | none => rw [hp] at e2; cases e2
   | some x =>
    obtain ⟨w, d⟩ := x
    rw [hp] at e2
    injection e2 with e2
    subst e2
    exact spell_pos (hw.pre w d hp)
  ·have hs2 : s ∈ (v.loc.map (List.map low)).map strOfNums := hs
   obtain ⟨a, ha, rfl⟩ := List.mem_map.1 hs2
   obtain ⟨w, hw2, rfl⟩ := List.mem_map.1 ha
   have h3 := hw.loc w hw2
   rw [an_low h3.2]
   exact plain_an h3.2 (by omega)
  ·show (joinB []).size ≤ _
   decide
def GL (w : World) : Prop := GLe w
theorem GL.at {w w' : World} (h : GL w) (hb : Below w.heap.size w w') : GL w' := GLe.below h hb (Nat.le_refl _)
def ascL (l : List Int) : Bool := l.all fun c => decide (c ≤ 127)
theorem ascL_mem {l : List Int} (h : ascL l = true) : ∀ c ∈ l, c ≤ 127 := fun c hc => of_decide_eq_true (List.all_eq_true.1 h c hc)
def POk (s : ByteArray) : Prop := s.size ≤ 100000 ∧ ascL (bytesOf s) = true
instance (s : ByteArray) : Decidable (POk s) := inferInstanceAs (Decidable (_ ∧ _))
theorem POk.ev {s : ByteArray} (h : POk s) : ∃ x, Ev (fun k => parseY k s) x ∧ x.num = valL (bytesOf s) := parseY_val s h.1 (ascL_mem h.2)
theorem POk.ok {s : ByteArray} (h : POk s) : YOk (valL (bytesOf s)) := valL_ok _ (by rw [bytesOf_length]; exact h.1)
def zvb.f (a0 a1 : ByteArray) : Option (Int × Bool) := if POk a0 ∧ POk a1 then some (yC (valL (bytesOf a0)) (valL (bytesOf a1)), true) else none
theorem zvb.calls (a0 a1 : ByteArray) (r1 : Int) (r2 : Bool) (w : World) (h : zvb.f a0 a1 = some (r1, r2)) (hG : GL w) :
  Calls Tryz.prog 23 #[.string a0, .string a1] w fun e w' => e = .returned (.tuple #[.int .i64 r1, .bool r2]) ∧ Below w.heap.size w w' := by
 unfold zvb.f at h
 by_cases hc : POk a0 ∧ POk a1
 ·rw [if_pos hc] at h
  have h2 := Option.some.inj h
  injection h2 with e1 e2
  subst e1
  subst e2
  obtain ⟨x, ⟨k1, h1⟩, n1⟩ := hc.1.ev
  obtain ⟨y, ⟨k2, h2⟩, n2⟩ := hc.2.ev
  have o1 := hc.1.ok
  have o2 := hc.2.ok
  rw [← n1] at o1 ⊢
  rw [← n2] at o2 ⊢
  exact compareText_ w a0 a1 _ _ (max k1 k2) hG (h1 _ (Nat.le_max_left _ _)) (h2 _ (Nat.le_max_right _ _)) o1 o2
 ·rw [if_neg hc] at h
  cases h
end Go.Proofs.YtlijjnjpomnphaaGreatDoorG
end
section
namespace Go.Proofs.YtlijjnjpomnphaaGreatDoor.Q
open Go.RowKit YtlijjnjpomnphaaGreatDoorH YtlijjnjpomnphaaGreatDoorG YtlijjnjpomnphaaGreatDoorW.PrintWords YtlijjnjpomnphaaGreatDoorW.PrintLast YtlijjnjpomnphaaGreatDoorW.PrintMore
attribute [local go_sem] zhd zid zud ztd ztc zuc zgd zkd
theorem info5 : (Tryz.prog.info? 5).map (fun i => (i.zero, i.size, i.bytes)) = some (some (.int .u8 0), 1, 1) := by kernel_rfl
theorem info29 : (Tryz.prog.info? 29).map (fun i => (i.zero, i.size, i.bytes)) = some (some (.agg #[(.bool false), (.string ⟨#[]⟩)]), 2, 24) := by kernel_rfl
structure S77 where
 f0 : Bool
 f1 : ByteArray
def z77 : S77 := ⟨false, (⟨#[]⟩ : ByteArray)⟩
def rd_T77 (xs : List S77) (i : Int) : S77 := xs.getD i.toNat z77
structure S29 where
 f0 : Bool
 f1 : ByteArray
def z29 : S29 := ⟨false, (⟨#[]⟩ : ByteArray)⟩
def k29 : Kd S29 := Kd.iso (Kd.pair Kd.bool Kd.string) (fun x : S29 => (x.f0, x.f1))
theorem k29_mkM (w : World) (base : Nat) (ok : Nat → Prop) (x : S29)  : k29.M w base ok x [.bool x.f0, .string x.f1] := ⟨[.bool x.f0], [.string x.f1], rfl, rfl, rfl⟩
def rd_T29 (xs : List S29) (i : Int) : S29 := xs.getD i.toNat z29
end Go.Proofs.YtlijjnjpomnphaaGreatDoor.Q
end
section
namespace Go.Proofs.YtlijjnjpomnphaaGreatDoor.Q
open Go.RowKit YtlijjnjpomnphaaGreatDoorH YtlijjnjpomnphaaGreatDoorG YtlijjnjpomnphaaGreatDoorW.PrintWords YtlijjnjpomnphaaGreatDoorW.PrintLast YtlijjnjpomnphaaGreatDoorW.PrintMore
attribute [local go_sem] zhd zid zud ztd ztc zuc zgd zkd
def zhg.l0 : Nat → List (S29) → List (S77) → Int → Int → Option ((List (S29)))
 | 0, _, _, _, _ => none
 | k + 1, x3, x6, x7, x8 => if x8 < x7 then (if 0 ≤ x8 then (if x8 < (x6.length : Int) then (if x3.length < 5864062014805 then (zhg.l0 k (x3 ++ [(⟨(rd_T77 x6 x8).f0, (rd_T77 x6 x8).f1⟩ : S29)]) x6 x7 (wrap64 (x8 + 1))) else (none)) else (none)) else (none)) else (some x3)
def zhg.f (k : Nat) (l0 : List (S77)) : Option ((List (S29))) := zhg.l0 k ([] : List (S29)) l0 (l0.length : Int) 0
def impl_plainLetter.f (a0_0 : Bool) (a0_1 : ByteArray) (a0_2 : Bool) (a0_3 : ByteArray) : Option (Bool × ByteArray × Bool × ByteArray) := some (a0_0, a0_1, a0_2, a0_3)
def impl_bigs.l0 : Nat → List (S77) → List (S29) → Int → Int → Option ((List (S77)))
 | 0, _, _, _, _ => none
 | k + 1, x3, x6, x7, x8 => if x8 < x7 then (if 0 ≤ x8 then (if x8 < (x6.length : Int) then (if x3.length < 5864062014805 then (impl_bigs.l0 k (x3 ++ [(⟨(rd_T29 x6 x8).f0, (rd_T29 x6 x8).f1⟩ : S77)]) x6 x7 (wrap64 (x8 + 1))) else (none)) else (none)) else (none)) else (some x3)
def impl_bigs.f (k : Nat) (l0 : List (S29)) : Option ((List (S77))) := impl_bigs.l0 k ([] : List (S77)) l0 (l0.length : Int) 0
def impl_letter.f (a0_0 : Bool) (a0_1 : ByteArray) (a0_2 : Bool) (a0_3 : ByteArray) : Option (Bool × ByteArray × Bool × ByteArray) := some (a0_0, a0_1, a0_2, a0_3)
def zoe.l0 : Nat → List ByteArray → Int → Int → Option (Bool)
 | 0, _, _, _ => none
 | k + 1, x8, x9, x10 => if x10 < x9 then (if 0 ≤ x10 then (if x10 < (x8.length : Int) then (if ((rdOf ByteArray.empty x8 x10).size : Int) > 2147483647 then (some false) else (zoe.l0 k x8 x9 (wrap64 (x10 + 1)))) else (none)) else (none)) else (some true)
def zoe.f (k : Nat) (l0 : List ByteArray) : Option (Bool) := if (l0.length : Int) > 2147483647 then (some false) else (zoe.l0 k l0 (l0.length : Int) 0)
def laws_zzFits3.f (k : Nat) (a0_0 : Int) (l0_1 : List Int) (a0_2 : Int) (a0_3 : Int) (a0_4 : Int) (a0_5 : Int) (a0_6 : Bool) (a0_7 : Bool) (l0_8 : List ByteArray) : Option (Bool) := if (l0_1.length : Int) > 2147483647 then (some false) else ((zoe.f k l0_8).bind fun t117 => (if t117 = true then (some true) else (some false)))
def zfc.l0 : Nat → List ByteArray → List ByteArray → Int → Int → Option (Bool)
 | 0, _, _, _, _ => none
 | k + 1, x0, x5, x6, x7 => if x7 < x6 then (if 0 ≤ x7 then (if x7 < (x5.length : Int) then (if ((rdOf ByteArray.empty x5 x7).size : Int) > 1200 then (some false) else (zfc.l0 k x0 x5 x6 (wrap64 (x7 + 1)))) else (none)) else (none)) else (some (decide ((x0.length : Int) ≤ 60)))
def zfc.f (k : Nat) (l0 : List ByteArray) : Option (Bool) := zfc.l0 k l0 l0 (l0.length : Int) 0
theorem zfc.calls (k : Nat) (A0 : Option Addr) (c0 : Nat) (l0 : List ByteArray) (r : Bool) (w : World) (hr0 : Kd.C Kd.string w A0 l0.length l0) (hc0 : l0.length ≤ c0) (h : zfc.f k l0 = some r) :
  Calls Tryz.prog 18 #[.slice A0 l0.length c0] w fun e w' => e = .returned (.bool r) ∧ zo w w' := by
 have HR0 := za.mk hr0
 have HC0 := za.mk hc0
 clear hr0 hc0
 have H : (zfc.l0 k l0 l0 (l0.length : Int) 0) = some r := h
 clear h
 have H' := za.mk H
 clear H
 go_enter Tryz.func18, Tryz.ntmps18
 go_wp2
 (try simp only [Act.put, List.setIfInBounds_toArray, List.set_cons_zero, List.set_cons_succ])
 go_loopg [7] k (fun kq v7 w' => ∃ (x7_1 : Int), v7 = .int .i64 x7_1 ∧ za (zfc.l0 kq l0 l0 (l0.length : Int) x7_1 = some r) ∧ za (kq ≤ k) ∧ zo w w')
 case atStart => exact ⟨(0), (by first | rfl | (simp; done) | (simp [*]; done) | (simp [zk]; done) | (simp [zk, *]; done)), H', ⟨Nat.le_refl _⟩, by repeat (first | exact zo.refl _ | apply zo.step)⟩
 case round =>
  clear H'
  try clear c1
  obtain ⟨x7_1, rfl, HA, HK1, ⟨m1, rfl⟩⟩ := hrel
  cases gk with
  | zero => exact absurd HA.out (by simp [zfc.l0])
  | succ k1 =>
   have H := HA.out
   clear HA
   simp only [zfc.l0] at H
   by_cases c2 : x7_1 < (l0.length : Int)
   ·rw [if_pos c2] at H
    have c2b0 : decide (x7_1 < (l0.length : Int)) = true := decide_eq_true c2
    clear c2
    by_cases c3 : 0 ≤ x7_1
    ·rw [if_pos c3] at H
     have c3b0 : decide (0 ≤ x7_1) = true := decide_eq_true c3
     clear c3
     by_cases c4 : x7_1 < (l0.length : Int)
     ·rw [if_pos c4] at H
      have c4b0 : decide (x7_1 < (l0.length : Int)) = true := decide_eq_true c4
      clear c4
      by_cases c5 : ((rdOf ByteArray.empty l0 x7_1).size : Int) > 1200
      ·rw [if_pos c5] at H
       have c5b0 : decide (1200 < ((rdOf ByteArray.empty l0 x7_1).size : Int)) = true := decide_eq_true c5
       have c5b1 : decide (1200 < (rdOf ByteArray.empty l0 x7_1).size) = true := decide_eq_true (by omega)
       clear c5
       obtain rfl := Option.some.inj H
       have p118 : 0 ≤ (x7_1 : Int) := of_decide_eq_true (by first | (with_reducible assumption) | assumption)
       have q118 : x7_1 < (l0.length : Int) := of_decide_eq_true (by first | (with_reducible assumption) | assumption)
       obtain ⟨ad118, e118, hx118_0⟩ := Kd.at_string HR0.out x7_1 p118 q118
       cases e118
       replace p118 := eq_true p118
       replace q118 := eq_true q118
       go_wp2
       go_ret
       exact ⟨by first | rfl | (simp; done) | (simp [*]; done) | (simp [zk]; done) | (simp [zk, *]; done), by repeat (first | exact zo.refl _ | apply zo.step)⟩
      ·rw [if_neg c5] at H
       have c5b0 : decide (1200 < ((rdOf ByteArray.empty l0 x7_1).size : Int)) = false := decide_eq_false c5
       have c5b1 : decide (1200 < (rdOf ByteArray.empty l0 x7_1).size) = false := decide_eq_false (by omega)
       clear c5
       have H' := za.mk H
       clear H
       have p118 : 0 ≤ (x7_1 : Int) := of_decide_eq_true (by first | (with_reducible assumption) | assumption)
       have q118 : x7_1 < (l0.length : Int) := of_decide_eq_true (by first | (with_reducible assumption) | assumption)
       obtain ⟨ad118, e118, hx118_0⟩ := Kd.at_string HR0.out x7_1 p118 q118
       cases e118
       replace p118 := eq_true p118
       replace q118 := eq_true q118
       go_wp2
       go_roundg k1
       case measure => have := HK1.out; omega
       case rel => exact ⟨(wrap64 (x7_1 + 1)), (by first | rfl | (simp; done) | (simp [*]; done) | (simp [zk]; done) | (simp [zk, *]; done)), H', ⟨by have := HK1.out; omega⟩, by repeat (first | exact zo.refl _ | apply zo.step)⟩
     ·rw [if_neg c4] at H
      exact absurd H (by simp)
    ·rw [if_neg c3] at H
     exact absurd H (by simp)
   ·rw [if_neg c2] at H
    have c2b0 : decide (x7_1 < (l0.length : Int)) = false := decide_eq_false c2
    clear c2
    obtain rfl := Option.some.inj H
    go_wp2
    go_ret
    exact ⟨by first | rfl | (simp; done) | (simp [*]; done) | (simp [zk]; done) | (simp [zk, *]; done), by repeat (first | exact zo.refl _ | apply zo.step)⟩
def zab.l0 : Nat → Int → ByteArray → Option (ByteArray)
 | 0, _, _ => none
 | k + 1, x0, x3 => if (Utf8.encode (wrap32 (IntKind.u16.wrap (48 + (Int.tmod x0 10))))).size + x3.size ≤ 9223372036854775807 then (if (IntKind.u16.wrap (Int.tdiv x0 10)) = 0 then (some ((Utf8.encode (wrap32 (IntKind.u16.wrap (48 + (Int.tmod x0 10))))) ++ x3)) else (zab.l0 k (IntKind.u16.wrap (Int.tdiv x0 10)) ((Utf8.encode (wrap32 (IntKind.u16.wrap (48 + (Int.tmod x0 10))))) ++ x3))) else (none)
def zab.f (k : Nat) (a0 : Int) : Option (ByteArray) := zab.l0 k a0 (⟨#[]⟩ : ByteArray)
theorem zab.calls (k : Nat) (a0 : Int) (r : ByteArray) (w : World) (h : zab.f k a0 = some r) :
  Calls Tryz.prog 21 #[.int .u16 a0] w fun e w' => e = .returned (.string r) ∧ zo w w' := by
 have H : (zab.l0 k a0 (⟨#[]⟩ : ByteArray)) = some r := h
 clear h
 have H' := za.mk H
 clear H
 go_enter Tryz.func21, Tryz.ntmps21
 go_wp2
 (try simp only [Act.put, List.setIfInBounds_toArray, List.set_cons_zero, List.set_cons_succ])
 go_loopg [0, 3] k (fun kq v0 v3 w' => ∃ (x0_1 : Int) (x3_1 : ByteArray), v0 = .int .u16 x0_1 ∧ v3 = .string x3_1 ∧ za (zab.l0 kq x0_1 x3_1 = some r) ∧ za (kq ≤ k) ∧ zo w w')
 case atStart => exact ⟨(a0), ((⟨#[]⟩ : ByteArray)), (by first | rfl | (simp; done) | (simp [*]; done) | (simp [zk]; done) | (simp [zk, *]; done)), (by first | rfl | (simp; done) | (simp [*]; done) | (simp [zk]; done) | (simp [zk, *]; done)), H', ⟨Nat.le_refl _⟩, by repeat (first | exact zo.refl _ | apply zo.step)⟩
 case round =>
  clear H'
  obtain ⟨x0_1, x3_1, rfl, rfl, HA, HK1, ⟨m1, rfl⟩⟩ := hrel
  cases gk with
  | zero => exact absurd HA.out (by simp [zab.l0])
  | succ k1 =>
   have H := HA.out
   clear HA
   simp only [zab.l0] at H
   by_cases c2 : (Utf8.encode (wrap32 (IntKind.u16.wrap (48 + (Int.tmod x0_1 10))))).size + x3_1.size ≤ 9223372036854775807
   ·rw [if_pos c2] at H
    have c2b0 := eq_true c2
    have c2b1 : decide ((Utf8.encode (wrap32 (IntKind.u16.wrap (48 + (Int.tmod x0_1 10))))).size + x3_1.size ≤ 9223372036854775807) = true := decide_eq_true c2
    try have c2b2 : (9223372036854775807 < (Utf8.encode (wrap32 (IntKind.u16.wrap (48 + (Int.tmod x0_1 10))))).size + x3_1.size) = False := eq_false (Nat.not_lt.2 c2)
    by_cases c3 : (IntKind.u16.wrap (Int.tdiv x0_1 10)) = 0
    ·rw [if_pos c3] at H
     have c3b0 : ((IntKind.u16.wrap (Int.tdiv x0_1 10)) == 0) = true := beq_iff_eq.mpr c3
     have c3b1 : ((IntKind.u16.wrap (Int.tdiv x0_1 10)) != 0) = false := bne_eq_false_iff_eq.mpr c3
     clear c3
     obtain rfl := Option.some.inj H
     have hcv4 := fun (W_ : World) => run_convert_int_string (P := Tryz.prog) W_ 21 9 .i32 (wrap32 (IntKind.u16.wrap (48 + (Int.tmod x0_1 10)))) (by rw [Tryz.underlying21]; rfl) Tryz.underlying9
     go_wp2
     go_ret
     exact ⟨by first | rfl | (simp; done) | (simp [*]; done) | (simp [zk]; done) | (simp [zk, *]; done), by repeat (first | exact zo.refl _ | apply zo.step)⟩
    ·rw [if_neg c3] at H
     have c3b0 : ((IntKind.u16.wrap (Int.tdiv x0_1 10)) == 0) = false := beq_eq_false_iff_ne.mpr c3
     have c3b1 : ((IntKind.u16.wrap (Int.tdiv x0_1 10)) != 0) = true := bne_iff_ne.mpr c3
     have H' := za.mk H
     clear H
     have hcv5 := fun (W_ : World) => run_convert_int_string (P := Tryz.prog) W_ 21 9 .i32 (wrap32 (IntKind.u16.wrap (48 + (Int.tmod x0_1 10)))) (by rw [Tryz.underlying21]; rfl) Tryz.underlying9
     go_wp2
     go_roundg k1
     case measure => have := HK1.out; omega
     case rel => exact ⟨(IntKind.u16.wrap (Int.tdiv x0_1 10)), ((Utf8.encode (wrap32 (IntKind.u16.wrap (48 + (Int.tmod x0_1 10))))) ++ x3_1), (by first | rfl | (simp; done) | (simp [*]; done) | (simp [zk]; done) | (simp [zk, *]; done)), (by first | rfl | (simp; done) | (simp [*]; done) | (simp [zk]; done) | (simp [zk, *]; done)), H', ⟨by have := HK1.out; omega⟩, by repeat (first | exact zo.refl _ | apply zo.step)⟩
   ·rw [if_neg c2] at H
    exact absurd H (by simp)
def zpc.l0 : Nat → ByteArray → ByteArray → Int → Option (ByteArray)
 | 0, _, _, _ => none
 | k + 1, x0, x3, x4 => if x4 < (x0.size : Int) then (if 0 ≤ x4 then (if (bt x0 x4) ≥ 65 then (if (bt x0 x4) ≤ 90 then (if x3.size + (Utf8.encode (((bt x0 x4) + 32) % 256)).size ≤ 9223372036854775807 then (zpc.l0 k x0 (x3 ++ (Utf8.encode (((bt x0 x4) + 32) % 256))) (wrap64 (x4 + 1))) else (none)) else (if x3.size + (Utf8.encode (wrap32 (bt x0 x4))).size ≤ 9223372036854775807 then (zpc.l0 k x0 (x3 ++ (Utf8.encode (wrap32 (bt x0 x4)))) (wrap64 (x4 + 1))) else (none))) else (if x3.size + (Utf8.encode (wrap32 (bt x0 x4))).size ≤ 9223372036854775807 then (zpc.l0 k x0 (x3 ++ (Utf8.encode (wrap32 (bt x0 x4)))) (wrap64 (x4 + 1))) else (none))) else (none)) else (some x3)
def zpc.f (k : Nat) (a0 : ByteArray) : Option (ByteArray) := zpc.l0 k a0 (⟨#[]⟩ : ByteArray) 0
def zmd.f (a0 : Int) : Option (Bool) := if a0 ≥ 48 then (some (decide (a0 ≤ 57))) else (some false)
theorem zmd.calls (a0 : Int) (r : Bool) (w : World) (h : zmd.f a0 = some r) :
  Calls Tryz.prog 115 #[.int .u8 a0] w fun e w' => e = .returned (.bool r) ∧ zo w w' := by
 have H : (if a0 ≥ 48 then (some (decide (a0 ≤ 57))) else (some false)) = some r := h
 clear h
 by_cases c2 : a0 ≥ 48
 ·rw [if_pos c2] at H
  have c2b0 : decide (48 ≤ a0) = true := decide_eq_true c2
  clear c2
  obtain rfl := Option.some.inj H
  go_enter Tryz.func115, Tryz.ntmps115
  go_wp2
  go_ret
  exact ⟨by first | rfl | (simp; done) | (simp [*]; done) | (simp [zk]; done) | (simp [zk, *]; done), by repeat (first | exact zo.refl _ | apply zo.step)⟩
 ·rw [if_neg c2] at H
  have c2b0 : decide (48 ≤ a0) = false := decide_eq_false c2
  clear c2
  obtain rfl := Option.some.inj H
  go_enter Tryz.func115, Tryz.ntmps115
  go_wp2
  go_ret
  exact ⟨by first | rfl | (simp; done) | (simp [*]; done) | (simp [zk]; done) | (simp [zk, *]; done), by repeat (first | exact zo.refl _ | apply zo.step)⟩
end Go.Proofs.YtlijjnjpomnphaaGreatDoor.Q
end
section
namespace Go.Proofs.YtlijjnjpomnphaaGreatDoor.Q
open Go.RowKit YtlijjnjpomnphaaGreatDoorH YtlijjnjpomnphaaGreatDoorG YtlijjnjpomnphaaGreatDoorW.PrintWords YtlijjnjpomnphaaGreatDoorW.PrintLast YtlijjnjpomnphaaGreatDoorW.PrintMore YtlijjnjpomnphaaGreatDoorC
attribute [local go_sem] zhd zid zud ztd ztc zuc zgd zkd
def zmb.l0 : Nat → ByteArray → Int → Option (Bool)
 | 0, _, _ => none
 | k + 1, x0, x3 => if x3 < (x0.size : Int) then (if 0 ≤ x3 then ((zmd.f (bt x0 x3)).bind fun t119 => (if t119 = true then (zmb.l0 k x0 (wrap64 (x3 + 1))) else (some false))) else (none)) else (some (decide ((x0.size : Int) > 0)))
def zmb.f (k : Nat) (a0 : ByteArray) : Option (Bool) := zmb.l0 k a0 0
theorem zmb.calls (k : Nat) (a0 : ByteArray) (r : Bool) (w : World) (h : zmb.f k a0 = some r) :
  Calls Tryz.prog 86 #[.string a0] w fun e w' => e = .returned (.bool r) ∧ zo w w' := by
 have H : (zmb.l0 k a0 0) = some r := h
 clear h
 have H' := za.mk H
 clear H
 go_enter Tryz.func86, Tryz.ntmps86
 go_wp2
 (try simp only [Act.put, List.setIfInBounds_toArray, List.set_cons_zero, List.set_cons_succ])
 go_loopg [3] k (fun kq v3 w' => ∃ (x3_1 : Int), v3 = .int .i64 x3_1 ∧ za (zmb.l0 kq a0 x3_1 = some r) ∧ za (kq ≤ k) ∧ zo w w')
 case atStart => exact ⟨(0), (by rfl), H', ⟨Nat.le_refl _⟩, by repeat (first | exact zo.refl _ | apply zo.step)⟩
 case round =>
  clear H'
  obtain ⟨x3_1, rfl, HA, HK1, ⟨m1, rfl⟩⟩ := hrel
  cases gk with
  | zero => exact absurd HA.out (by simp [zmb.l0])
  | succ k1 =>
   have H := HA.out
   clear HA
   simp only [zmb.l0] at H
   by_cases c2 : x3_1 < (a0.size : Int)
   ·rw [if_pos c2] at H
    have c2b0 : decide (x3_1 < (a0.size : Int)) = true := decide_eq_true c2
    clear c2
    by_cases c3 : 0 ≤ x3_1
    ·rw [if_pos c3] at H
     have c3b0 : decide (0 ≤ x3_1) = true := decide_eq_true c3
     clear c3
     replace H := Option.bind_eq_some_iff.mp H
     obtain ⟨t119, A50, H⟩ := H
     replace H : (if t119 = true then (zmb.l0 k1 a0 (wrap64 (x3_1 + 1))) else (some false)) = some r := H
     have A5 := za.mk A50
     clear A50
     by_cases c6 : t119 = true
     ·subst c6
      have H1 : (zmb.l0 k1 a0 (wrap64 (x3_1 + 1))) = some r := by rw [if_pos rfl] at H; exact H
      clear H
      have H := H1
      clear H1
      have H' := za.mk H
      clear H
      have p4 : 0 ≤ (x3_1 : Int) := of_decide_eq_true (by (with_reducible assumption))
      have q4 : x3_1 < (a0.size : Int) := of_decide_eq_true (by (with_reducible assumption))
      have hx4 := bt_at a0 x3_1
      replace p4 := eq_true p4
      replace q4 := eq_true q4
      go_wp2_with (((with_reducible refine zcb (f := 115) rfl ?_); refine zxb (some 13) rfl rfl Tryz.func115 (by kernel_rfl) rfl #[.int .u8 (bt a0 x3_1)] rfl (by (try simp only [List.map_toArray, List.map_cons, List.map_nil]); first | done | rfl | (simp only [List.length_drop, List.length_take]; rfl)) ?_; (with_reducible refine (zmd.calls (bt a0 x3_1) true _ A5.out).mono ?_); rintro e w' ⟨rfl, ⟨nd, rfl⟩⟩; refine ⟨_, rfl, ?_⟩))
      go_roundg k1
      case measure => have := HK1.out; omega
      case rel => exact ⟨(wrap64 (x3_1 + 1)), (by rfl), H', ⟨by have := HK1.out; omega⟩, by repeat (first | exact zo.refl _ | apply zo.step)⟩
     ·replace c6 := Bool.eq_false_iff.mpr c6
      subst c6
      have H1 : (some false) = some r := by rw [if_neg (show ¬ (false = true) by decide)] at H; exact H
      clear H
      have H := H1
      clear H1
      obtain rfl := Option.some.inj H
      have p4 : 0 ≤ (x3_1 : Int) := of_decide_eq_true (by (with_reducible assumption))
      have q4 : x3_1 < (a0.size : Int) := of_decide_eq_true (by (with_reducible assumption))
      have hx4 := bt_at a0 x3_1
      replace p4 := eq_true p4
      replace q4 := eq_true q4
      go_wp2_with (((with_reducible refine zcb (f := 115) rfl ?_); refine zxb (some 13) rfl rfl Tryz.func115 (by kernel_rfl) rfl #[.int .u8 (bt a0 x3_1)] rfl (by (try simp only [List.map_toArray, List.map_cons, List.map_nil]); first | done | rfl | (simp only [List.length_drop, List.length_take]; rfl)) ?_; (with_reducible refine (zmd.calls (bt a0 x3_1) false _ A5.out).mono ?_); rintro e w' ⟨rfl, ⟨nd, rfl⟩⟩; refine ⟨_, rfl, ?_⟩))
      go_ret
      exact ⟨by rfl, by repeat (first | exact zo.refl _ | apply zo.step)⟩
    ·rw [if_neg c3] at H
     exact absurd H (by simp)
   ·rw [if_neg c2] at H
    have c2b0 : decide (x3_1 < (a0.size : Int)) = false := decide_eq_false c2
    clear c2
    obtain rfl := Option.some.inj H
    go_wp2
    go_ret
    exact ⟨by rfl, by repeat (first | exact zo.refl _ | apply zo.step)⟩
mutual
def zfb.l0 : Nat → ByteArray → List Int → Int → Option (Bool × ByteArray)
 | 0, _, _, _ => none
 | k + 1, x0, x3, x4 => if x4 < (x0.size : Int) then (if 0 ≤ x4 then (zfb.l1 k x0 x3 x4 (((bt x0 x4) - 48) % 256) 0) else (none)) else (if 0 ≤ (x3.length : Int) then (if ((x3.length : Int) : Int).toNat ≤ 281474976710656 then (zfb.l2 k x3 (List.replicate ((x3.length : Int) : Int).toNat 0) 0) else (none)) else (none))
def zfb.l1 : Nat → ByteArray → List Int → Int → Int → Int → Option (Bool × ByteArray)
 | 0, _, _, _, _, _ => none
 | k + 1, x0, x3, x4, x5, x6 => if x6 < (x3.length : Int) then (if 0 ≤ x6 then (zfb.l1 k x0 (x3.set (x6 : Int).toNat ((Int.tmod (wrap64 (x5 + (wrap64 (10 * (wrap64 (rd x3 x6)))))) 256) % 256)) x4 (wrap64 (Int.tdiv (wrap64 (x5 + (wrap64 (10 * (wrap64 (rd x3 x6)))))) 256)) (wrap64 (x6 + 1))) else (none)) else (if x5 > 0 then (if x3.length < 140737488355328 then (zfb.l0 k x0 (x3 ++ [(x5) % 256]) (wrap64 (x4 + 1))) else (none)) else (zfb.l0 k x0 x3 (wrap64 (x4 + 1))))
def zfb.l2 : Nat → List Int → List Int → Int → Option (Bool × ByteArray)
 | 0, _, _, _ => none
 | k + 1, x3, x7, x8 => if x8 < (x3.length : Int) then (if 0 ≤ x8 then (if 0 ≤ (wrap64 ((wrap64 ((x3.length : Int) - 1)) - x8)) then (if (wrap64 ((wrap64 ((x3.length : Int) - 1)) - x8)) < (x7.length : Int) then (zfb.l2 k x3 (x7.set ((wrap64 ((wrap64 ((x3.length : Int) - 1)) - x8)) : Int).toNat (rd x3 x8)) (wrap64 (x8 + 1))) else (none)) else (none)) else (none)) else (some (false, strOfNums x7))
end
def zfb.f (k : Nat) (a0 : ByteArray) : Option (Bool × ByteArray) := zfb.l0 k a0 ([] : List Int) 0
theorem zfb.calls (k : Nat) (a0 : ByteArray) (r1 : Bool) (r2 : ByteArray) (w : World) (h : zfb.f k a0 = some (r1, r2)) :
  Calls Tryz.prog 114 #[.string a0] w fun e w' => e = .returned (.agg #[.bool r1, .string r2]) ∧ Below w.heap.size w w' := by
 have hu29 := Tryz.underlying29
 have HB := za.mk (Below.refl w.heap.size w)
 have H : (zfb.l0 k a0 ([] : List Int) 0) = some (r1, r2) := h
 clear h
 have H' := za.mk H
 clear H
 go_enter Tryz.func114, Tryz.ntmps114
 go_wp2_with (((with_reducible refine zxc (N := 2) rfl ?_); refine zld ?hg (N := 2) ?hd (cs := #[.bool false, .string ⟨#[]⟩]) (t := 29) ?hr ?_; (case hd => rfl); (case hg => rfl); (case hr => first | (go_simp; done) | (go_simp; rfl)); intro gb120 hg w2 hbox hb; have BK120 := za.mk hbox; have GW120 := za.mk ((by rw [hg]; exact (zdb (by (with_reducible exact HB.out))) : w.heap.size ≤ gb120)); have GE120 := za.mk ((by rw [hg]; exact (zdb (by (with_reducible exact HB.out))) : w.heap.size ≤ gb120)); replace HB := za.mk (zeb (by (with_reducible exact HB.out)) hb); clear hb hbox hg))
 (try simp only [Act.put, List.setIfInBounds_toArray, List.set_cons_zero, List.set_cons_succ])
 go_loopg [3, 4] k (fun kq v3 v4 w' => ∃ (x3_1 : List Int) (x4_1 : Int), v4 = .int .i64 x4_1 ∧ za (zfb.l0 kq a0 x3_1 x4_1 = some (r1, r2)) ∧ za (kq ≤ k) ∧ za (Kd.R (Kd.int .u8) 5 w' w.heap.size (fun _ => True) v3 x3_1) ∧ za (w'.heap[gb120]? = some (.cells #[.bool false, .string ⟨#[]⟩] 29 (0, 0))) ∧ za (Below w.heap.size w w'))
 case atStart => exact ⟨(([] : List Int)), (0), (by rfl), H', ⟨Nat.le_refl _⟩, ⟨by exact Kd.R_nil _ _ _ _ _⟩, ⟨by exact BK120.out⟩, ⟨by (with_reducible exact HB.out)⟩⟩
 case round =>
  clear H'
  obtain ⟨x3_1, x4_1, rfl, HA, HK1, HO_3, BK120, HB⟩ := hrel
  cases gk with
  | zero => exact absurd HA.out (by simp [zfb.l0])
  | succ k1 =>
   have H := HA.out
   clear HA
   simp only [zfb.l0] at H
   by_cases c3 : x4_1 < (a0.size : Int)
   ·rw [if_pos c3] at H
    have c3b0 : decide (x4_1 < (a0.size : Int)) = true := decide_eq_true c3
    clear c3
    by_cases c4 : 0 ≤ x4_1
    ·rw [if_pos c4] at H
     have c4b0 : decide (0 ≤ x4_1) = true := decide_eq_true c4
     clear c4
     have H' := za.mk H
     clear H
     have p5 : 0 ≤ (x4_1 : Int) := of_decide_eq_true (by (with_reducible assumption))
     have q5 : x4_1 < (a0.size : Int) := of_decide_eq_true (by (with_reducible assumption))
     have hx5 := bt_at a0 x4_1
     replace p5 := eq_true p5
     replace q5 := eq_true q5
     go_wp2
     (try simp only [Act.put, List.setIfInBounds_toArray, List.set_cons_zero, List.set_cons_succ])
     go_loopg [5, 6] k1 (fun kq v5 v6 w' => ∃ (x3_2 : List Int) (x5_2 : Int) (x6_2 : Int), v5 = .int .i64 x5_2 ∧ v6 = .int .i64 x6_2 ∧ za (zfb.l1 kq a0 x3_2 x4_1 x5_2 x6_2 = some (r1, r2)) ∧ za (kq ≤ k1) ∧ za (Kd.R (Kd.int .u8) 5 w' w.heap.size (fun _ => True) u3 x3_2) ∧ za (w'.heap[gb120]? = some (.cells #[.bool false, .string ⟨#[]⟩] 29 (0, 0))) ∧ za (Below w.heap.size w w'))
     case atStart => exact ⟨(x3_1), (((bt a0 x4_1) - 48) % 256), (0), (by rfl), (by rfl), H', ⟨Nat.le_refl _⟩, ⟨by (with_reducible repeat (first | apply Kd.R_alloc | apply Kd.R_drewN | apply Kd.R_drew)); exact HO_3.out⟩, ⟨by exact BK120.out⟩, ⟨by (with_reducible exact HB.out)⟩⟩
     case round =>
      clear H'
      clear c3b0 c4b0 p5 q5 hx5
      obtain ⟨x3_2, x5_2, x6_2, rfl, rfl, HA, HK2, HO_3, BK120, HB⟩ := hrel
      cases gk with
      | zero => exact absurd HA.out (by simp [zfb.l1])
      | succ k2 =>
       have H := HA.out
       clear HA
       simp only [zfb.l1] at H
       by_cases c6 : x6_2 < (x3_2.length : Int)
       ·rw [if_pos c6] at H
        have c6b0 : decide (x6_2 < (x3_2.length : Int)) = true := decide_eq_true c6
        clear c6
        by_cases c7 : 0 ≤ x6_2
        ·rw [if_pos c7] at H
         have c7b0 : decide (0 ≤ x6_2) = true := decide_eq_true c7
         clear c7
         obtain ⟨y122, hy122⟩ : ∃ y_ : List Int, y_ = (x3_2.set (x6_2 : Int).toNat ((Int.tmod (wrap64 (x5_2 + (wrap64 (10 * (wrap64 (rd x3_2 x6_2)))))) 256) % 256)) := ⟨_, rfl⟩
         replace H : (zfb.l1 k2 a0 y122 x4_1 (wrap64 (Int.tdiv (wrap64 (x5_2 + (wrap64 (10 * (wrap64 (rd x3_2 x6_2)))))) 256)) (wrap64 (x6_2 + 1))) = some (r1, r2) := by (rw [hy122]; with_reducible exact H)
         have Ny122 := za.mk hy122
         clear hy122
         have H' := za.mk H
         clear H
         obtain ⟨Ao9, co9, eo9⟩ := Kd.R_slice HO_3.out
         subst eo9
         have p121 : 0 ≤ (x6_2 : Int) := of_decide_eq_true (by (with_reducible assumption))
         have q121 : x6_2 < (x3_2.length : Int) := of_decide_eq_true (by (with_reducible assumption))
         obtain ⟨ad121, e121, hx121_0⟩ := Kd.at_int (Kd.R_reads' HO_3.out).2.2 x6_2 p121 q121
         cases e121
         replace p121 := eq_true p121
         replace q121 := eq_true q121
         have p8 : 0 ≤ (x6_2 : Int) := of_decide_eq_true (by (with_reducible assumption))
         have q8 : (x6_2 : Int) < ((x3_2.length : Int) : Int) := of_decide_eq_true (by (with_reducible assumption))
         obtain ⟨go8, co8, eo8, gb8, gl8, cl8, HG8⟩ := Kd.R_form HO_3.out (by omega)
         (first | cases eo8 | (injection eo8 with ea_ en_ ec_; (first | subst ea_ | (injection ea_ with ea_; subst ea_)); subst ec_; clear en_))
         have GB8 := za.mk gb8
         have GG8 := za.mk HG8
         clear gb8 gl8 HG8
         (first | simp only [add_plain] at hx121_0 | skip)
         obtain ⟨hx8_0, hf8_0⟩ := Kd.R_celln 0 HO_3.out (x6_2 : Int) p8 q8
         replace p8 := eq_true p8
         replace q8 := eq_true q8
         have HP10 := Kd.R_putg HO_3.out (x6_2 : Int) ((Int.tmod (wrap64 (x5_2 + (wrap64 (10 * (wrap64 (rd x3_2 x6_2)))))) 256) % 256)
         go_wp2_with (((with_reducible refine zfe (t := 5) (p := 39) rfl ?_); refine store_event (t := 5) (p := 39) (v := ?vo_w11) (w1 := (wr.setCell ⟨go8, (x6_2 : Int).toNat, none⟩ (.int .u8 ((Int.tmod (wrap64 (x5_2 + (wrap64 (10 * (wrap64 (rd x3_2 x6_2)))))) 256) % 256)))) ?hg ?ho ?hn ?hr ?_; (case ho => rfl); (case hg => rfl); (case hn => rfl); (case hr => first | (go_simp; done) | (go_simp; rfl)); intro w11 hw; have hg : wr.grownBy w11 (some go8) := (by rw [hw]; exact HP10.2); have hp_ : Kd.R (Kd.int .u8) 5 w11 w.heap.size (fun _ => True) (.slice (some ⟨go8, 0, none⟩) x3_2.length co9) y122 := (by rw [hw, Ny122.out]; exact HP10.1); clear HP10; have n0_ := za.mk hp_; have n1_ := za.mk (zae (g := gb120) (o := .cells #[.bool false, .string ⟨#[]⟩] 29 (0, 0)) (by exact BK120.out) hg (Kd.R_ne HO_3.out BK120.out (by decide))); have n2_ := za.mk ((by rw [hw]; exact zbb (HB.out) GB8.out : Below w.heap.size w w11)); clear HO_3; clear BK120; clear HB; have HO_3 := n0_; have BK120 := n1_; have HB := n2_; clear n0_ n1_ n2_; clear hg hw hp_))
         go_roundg k2
         case measure => have := HK1.out; have := HK2.out; omega
         case rel => exact ⟨(y122), (wrap64 (Int.tdiv (wrap64 (x5_2 + (wrap64 (10 * (wrap64 (rd x3_2 x6_2)))))) 256)), (wrap64 (x6_2 + 1)), (by rfl), (by rfl), H', ⟨by have := HK1.out; have := HK2.out; omega⟩, ⟨by (with_reducible repeat (first | apply Kd.R_alloc | apply Kd.R_drewN | apply Kd.R_drew)); exact HO_3.out⟩, ⟨by exact BK120.out⟩, ⟨by (with_reducible exact HB.out)⟩⟩
        ·rw [if_neg c7] at H
         exact absurd H (by simp)
       ·rw [if_neg c6] at H
        have c6b0 : decide (x6_2 < (x3_2.length : Int)) = false := decide_eq_false c6
        clear c6
        by_cases c12 : x5_2 > 0
        ·rw [if_pos c12] at H
         have c12b0 : decide (0 < x5_2) = true := decide_eq_true c12
         clear c12
         by_cases c13 : x3_2.length < 140737488355328
         ·rw [if_pos c13] at H
          have LMc13 := za.mk c13
          clear c13
          obtain ⟨y123, hy123⟩ : ∃ y_ : List Int, y_ = (x3_2 ++ [(x5_2) % 256]) := ⟨_, rfl⟩
          replace H : (zfb.l0 k2 a0 y123 (wrap64 (x4_1 + 1))) = some (r1, r2) := by (rw [hy123]; with_reducible exact H)
          have Ny123 := za.mk hy123
          clear hy123
          have H' := za.mk H
          clear H
          obtain ⟨Ao14, co14, eo14⟩ := Kd.R_slice HO_3.out
          subst eo14
          go_wp2_with (((with_reducible refine zzb (b := .append) (xs := #[.tmp 44, .tmp 47]) rfl ?_); at_builtin; refine Kd.R_append (Kd.int .u8) (w0 := w) w.heap.size rfl (.tmp 44) (.tmp 47) 116 5 (.int .u8 0) 1 rfl Tryz.underlying116 info5 rfl (by decide) (by omega) (.slice Ao14 x3_2.length co14) x3_2 ((x5_2) % 256) [.int .u8 ((x5_2) % 256)] (fun _ => True) (fun _ => False) rfl rfl ?aP (fun _ hk => hk.elim) ?aF ?aO ?aB ?aS ?aL ?_; (case aP => exact rfl); (case aB => exact (by (with_reducible exact HB.out))); (case aF => exact (fun _ _ => trivial)); (case aO => exact (by (with_reducible repeat (first | apply Kd.R_alloc | apply Kd.R_drewN | apply Kd.R_drew)); exact HO_3.out)); (case aS => exact (zdb (by (with_reducible exact HB.out)))); (case aL => have := LMc13.out; omega); intro v124 w15 ho hb hg hat; rw [← Ny123.out] at ho; replace BK120 := za.mk (zae (g := gb120) (o := .cells #[.bool false, .string ⟨#[]⟩] 29 (0, 0)) (by exact BK120.out) hg (Kd.R_ne HO_3.out BK120.out (by decide))); have HO125 := za.mk ho; replace HB := za.mk hb; clear HO_3; clear ho hb hg hat))
          go_roundg k2
          case measure => have := HK1.out; have := HK2.out; omega
          case rel => exact ⟨(y123), (wrap64 (x4_1 + 1)), (by rfl), H', ⟨by have := HK1.out; have := HK2.out; omega⟩, ⟨by (with_reducible repeat (first | apply Kd.R_alloc | apply Kd.R_drewN | apply Kd.R_drew)); exact HO125.out⟩, ⟨by exact BK120.out⟩, ⟨by (with_reducible exact HB.out)⟩⟩
         ·rw [if_neg c13] at H
          exact absurd H (by simp)
        ·rw [if_neg c12] at H
         have c12b0 : decide (0 < x5_2) = false := decide_eq_false c12
         clear c12
         have H' := za.mk H
         clear H
         obtain ⟨Ao16, co16, eo16⟩ := Kd.R_slice HO_3.out
         subst eo16
         go_wp2
         go_roundg k2
         case measure => have := HK1.out; have := HK2.out; omega
         case rel => exact ⟨(x3_2), (wrap64 (x4_1 + 1)), (by rfl), H', ⟨by have := HK1.out; have := HK2.out; omega⟩, ⟨by (with_reducible repeat (first | apply Kd.R_alloc | apply Kd.R_drewN | apply Kd.R_drew)); exact HO_3.out⟩, ⟨by exact BK120.out⟩, ⟨by (with_reducible exact HB.out)⟩⟩
    ·rw [if_neg c4] at H
     exact absurd H (by simp)
   ·rw [if_neg c3] at H
    have c3b0 : decide (x4_1 < (a0.size : Int)) = false := decide_eq_false c3
    clear c3
    by_cases c17 : 0 ≤ (x3_1.length : Int)
    ·rw [if_pos c17] at H
     have c17b0 := eq_true c17
     have c17b1 : decide (0 ≤ (x3_1.length : Int)) = true := decide_eq_true c17
     clear c17
     by_cases c18 : ((x3_1.length : Int) : Int).toNat ≤ 281474976710656
     ·rw [if_pos c18] at H
      have c18b0 := eq_true c18
      have c18b1 : decide (((x3_1.length : Int) : Int).toNat ≤ 281474976710656) = true := decide_eq_true c18
      clear c18
      obtain ⟨y126, hy126⟩ : ∃ y_ : List Int, y_ = (List.replicate ((x3_1.length : Int) : Int).toNat 0) := ⟨_, rfl⟩
      replace H : (zfb.l2 k1 x3_1 y126 0) = some (r1, r2) := by (rw [hy126]; with_reducible exact H)
      have Ny126 := za.mk hy126
      clear hy126
      have H' := za.mk H
      clear H
      obtain ⟨Ao19, co19, eo19⟩ := Kd.R_slice HO_3.out
      subst eo19
      go_wp2_with (((with_reducible refine zxc (N := 51) rfl ?_); refine Kd.R_make (Kd.int .u8) _ 5 rfl (N := 51) rfl 116 _ _ rfl (x3_1.length : Int) rfl rfl Tryz.underlying116 (.int .u8 0) 1 info5 rfl (by decide) (by omega) 0 (ok := fun _ => True) (okp := fun _ => True) rfl (fun _ hk => hk) trivial (of_decide_eq_true (by (with_reducible assumption))) (Nat.le_trans (Nat.mul_le_mul_right _ (of_decide_eq_true (by (with_reducible assumption)) : (x3_1.length : Int).toNat ≤ 281474976710656)) (by omega)) (Below.refl _ _) (Nat.le_refl _) ?_; intro v127 w20 ho21 hb hg_ hnew_; clear hg_ hnew_; (first | rw [← Ny126.out] at ho21 | (simp only [Int.reduceToNat] at ho21; rw [← Ny126.out] at ho21)); have n0_ := za.mk (Kd.R_elder' (by (with_reducible repeat (first | apply Kd.R_alloc | apply Kd.R_drewN | apply Kd.R_drew)); exact HO_3.out) (Kd.R_base ho21) hb); have n1_ := za.mk (Kd.R_lower (Kd.R_new' ho21 (Kd.R_lt (by (with_reducible repeat (first | apply Kd.R_alloc | apply Kd.R_drewN | apply Kd.R_drew)); exact HO_3.out))) (zdb (by (with_reducible exact HB.out)))); have n2_ := za.mk (zh (g := gb120) (o := .cells #[.bool false, .string ⟨#[]⟩] 29 (0, 0)) (by exact BK120.out) hb); have n3_ := za.mk (zeb (by (with_reducible exact HB.out)) hb); clear HO_3; clear BK120; clear HB; have HO_3 := n0_; have HO128 := n1_; have BK120 := n2_; have HB := n3_; clear n0_ n1_ n2_ n3_; clear hb ho21))
      (try simp only [Act.put, List.setIfInBounds_toArray, List.set_cons_zero, List.set_cons_succ])
      go_loopg [8] k1 (fun kq v8 w' => ∃ (x7_2 : List Int) (x8_2 : Int), v8 = .int .i64 x8_2 ∧ za (zfb.l2 kq x3_1 x7_2 x8_2 = some (r1, r2)) ∧ za (kq ≤ k1) ∧ za (Kd.R (Kd.int .u8) 5 w' w.heap.size (fun k_ => some k_ ≠ (v127 : Value).ownBlock) (.slice Ao19 x3_1.length co19) x3_1) ∧ za (Kd.R (Kd.int .u8) 5 w' w.heap.size (fun k_ => some k_ ≠ ((.slice Ao19 x3_1.length co19) : Value).ownBlock) v127 x7_2) ∧ za (w'.heap[gb120]? = some (.cells #[.bool false, .string ⟨#[]⟩] 29 (0, 0))) ∧ za (Below w.heap.size w w'))
      case atStart => exact ⟨(y126), (0), (by rfl), H', ⟨Nat.le_refl _⟩, ⟨by (with_reducible repeat (first | apply Kd.R_alloc | apply Kd.R_drewN | apply Kd.R_drew)); exact Kd.R_mono HO_3.out (fun _ hk => hk.2)⟩, ⟨by (with_reducible repeat (first | apply Kd.R_alloc | apply Kd.R_drewN | apply Kd.R_drew)); exact Kd.R_mono HO128.out (fun _ hk => hk.2)⟩, ⟨by exact BK120.out⟩, ⟨by (with_reducible exact HB.out)⟩⟩
      case round =>
       clear H'
       clear c3b0 c17b0 c17b1 c18b0 c18b1
       obtain ⟨x7_2, x8_2, rfl, HA, HK2, HO_3, HO_7, BK120, HB⟩ := hrel
       cases gk with
       | zero => exact absurd HA.out (by simp [zfb.l2])
       | succ k2 =>
        have H := HA.out
        clear HA
        simp only [zfb.l2] at H
        by_cases c22 : x8_2 < (x3_1.length : Int)
        ·rw [if_pos c22] at H
         have c22b0 : decide (x8_2 < (x3_1.length : Int)) = true := decide_eq_true c22
         clear c22
         by_cases c23 : 0 ≤ x8_2
         ·rw [if_pos c23] at H
          have c23b0 : decide (0 ≤ x8_2) = true := decide_eq_true c23
          clear c23
          obtain ⟨ji24, hji24⟩ : ∃ j_ : Int, (wrap64 ((wrap64 ((x3_1.length : Int) - 1)) - x8_2)) = j_ := ⟨_, rfl⟩
          replace H : (if 0 ≤ (ji24) then (if (ji24) < (x7_2.length : Int) then (zfb.l2 k2 x3_1 (x7_2.set ((ji24) : Int).toNat (rd x3_1 x8_2)) (wrap64 (x8_2 + 1))) else (none)) else (none)) = some (r1, r2) := by (rw [hji24] at H; exact H)
          have hji24w : (IntKind.i64.wrap ((wrap64 ((x3_1.length : Int) - 1)) - x8_2)) = ji24 := (i64_w _).trans hji24
          by_cases c25 : 0 ≤ (ji24)
          ·rw [if_pos c25] at H
           have c25b0 : decide (0 ≤ (ji24)) = true := decide_eq_true c25
           clear c25
           by_cases c26 : (ji24) < (x7_2.length : Int)
           ·rw [if_pos c26] at H
            have c26b0 : decide ((ji24) < (x7_2.length : Int)) = true := decide_eq_true c26
            clear c26
            obtain ⟨y130, hy130⟩ : ∃ y_ : List Int, y_ = (x7_2.set ((ji24) : Int).toNat (rd x3_1 x8_2)) := ⟨_, rfl⟩
            replace H : (zfb.l2 k2 x3_1 y130 (wrap64 (x8_2 + 1))) = some (r1, r2) := by (rw [hy130]; with_reducible exact H)
            have Ny130 := za.mk hy130
            clear hy130
            have H' := za.mk H
            clear H
            have p129 : 0 ≤ (x8_2 : Int) := of_decide_eq_true (by (with_reducible assumption))
            have q129 : x8_2 < (x3_1.length : Int) := of_decide_eq_true (by (with_reducible assumption))
            obtain ⟨ad129, e129, hx129_0⟩ := Kd.at_int (Kd.R_reads' HO_3.out).2.2 x8_2 p129 q129
            cases e129
            replace p129 := eq_true p129
            replace q129 := eq_true q129
            have p27 : 0 ≤ ((ji24) : Int) := of_decide_eq_true (by (with_reducible assumption))
            have q27 : ((ji24) : Int) < ((x7_2.length : Int) : Int) := of_decide_eq_true (by (with_reducible assumption))
            obtain ⟨go27, co27, eo27, gb27, gl27, cl27, HG27⟩ := Kd.R_form HO_7.out (by omega)
            (first | cases eo27 | (injection eo27 with ea_ en_ ec_; (first | subst ea_ | (injection ea_ with ea_; subst ea_)); subst ec_; clear en_))
            have GB27 := za.mk gb27
            have GG27 := za.mk HG27
            clear gb27 gl27 HG27
            obtain ⟨hx27_0, hf27_0⟩ := Kd.R_celln 0 HO_7.out ((ji24) : Int) p27 q27
            replace p27 := eq_true p27
            replace q27 := eq_true q27
            have HP28 := Kd.R_putg HO_7.out ((ji24) : Int) (rd x3_1 x8_2)
            go_wp2_with (((with_reducible refine zfe (t := 5) (p := 68) rfl ?_); refine store_event (t := 5) (p := 68) (v := ?vo_w29) (w1 := (wr.setCell ⟨go27, ((ji24) : Int).toNat, none⟩ (.int .u8 (rd x3_1 x8_2)))) ?hg ?ho ?hn ?hr ?_; (case ho => rfl); (case hg => rfl); (case hn => rfl); (case hr => first | (go_simp; done) | (go_simp; rfl)); intro w29 hw; have hg : wr.grownBy w29 (some go27) := (by rw [hw]; exact HP28.2); have hp_ : Kd.R (Kd.int .u8) 5 w29 w.heap.size (fun k_ => some k_ ≠ (.slice (some ad129) x3_1.length co19 : Value).ownBlock) (.slice (some ⟨go27, 0, none⟩) x7_2.length co27) y130 := (by rw [hw, Ny130.out]; exact HP28.1); clear HP28; have n0_ := za.mk (Kd.R_after (v := (.slice (some ⟨go27, 0, none⟩) x7_2.length co27)) (v1 := (.slice (some ⟨go27, 0, none⟩) x7_2.length co27)) (ok := (fun _ => True)) (by (with_reducible repeat (first | apply Kd.R_alloc | apply Kd.R_drewN | apply Kd.R_drew)); exact Kd.R_mono HO_3.out (fun _ hk => ⟨trivial, hk⟩)) hg (.inl rfl)); have n1_ := za.mk hp_; have n2_ := za.mk (zae (g := gb120) (o := .cells #[.bool false, .string ⟨#[]⟩] 29 (0, 0)) (by exact BK120.out) hg (Kd.R_ne HO_7.out BK120.out (by decide))); have n3_ := za.mk ((by rw [hw]; exact zbb (HB.out) GB27.out : Below w.heap.size w w29)); clear HO_3; clear HO_7; clear BK120; clear HB; have HO_3 := n0_; have HO_7 := n1_; have BK120 := n2_; have HB := n3_; clear n0_ n1_ n2_ n3_; clear hg hw hp_))
            go_roundg k2
            case measure => have := HK1.out; have := HK2.out; omega
            case rel => exact ⟨(y130), (wrap64 (x8_2 + 1)), (by rfl), H', ⟨by have := HK1.out; have := HK2.out; omega⟩, ⟨by (with_reducible repeat (first | apply Kd.R_alloc | apply Kd.R_drewN | apply Kd.R_drew)); exact Kd.R_mono HO_3.out (fun _ hk => hk.2)⟩, ⟨by (with_reducible repeat (first | apply Kd.R_alloc | apply Kd.R_drewN | apply Kd.R_drew)); exact HO_7.out⟩, ⟨by exact BK120.out⟩, ⟨by (with_reducible exact HB.out)⟩⟩
           ·rw [if_neg c26] at H
            exact absurd H (by simp)
          ·rw [if_neg c25] at H
           exact absurd H (by simp)
         ·rw [if_neg c23] at H
          exact absurd H (by simp)
        ·rw [if_neg c22] at H
         have c22b0 : decide (x8_2 < (x3_1.length : Int)) = false := decide_eq_false c22
         clear c22
         simp only [Option.some.injEq, Prod.mk.injEq] at H
         obtain ⟨rfl, rfl⟩ := H
         have hcv30 := own_string (P := Tryz.prog) Tryz.underlying116 Tryz.underlying5 Tryz.underlying9 (Kd.own_of_R HO_7.out)
         obtain ⟨hcz31_0, hcz31_1, hfz31_0, hfz31_1⟩ := cl2 BK120.out
         go_wp2
         refine bodyPost_ret (results_cell_row rfl _ _ gb120 29 #[.bool false, .string (strOfNums x7_2)] (0, 0) _ rfl (by refine zl (cs := #[.bool false, .string ⟨#[]⟩]) ?_ 1 _ rfl; refine zl (cs := #[.bool false, .string ⟨#[]⟩]) ?_ 0 _ rfl; exact BK120.out) Tryz.underlying29 rfl (by kernel_rfl)) rfl ?_
         exact ⟨by rfl, by (with_reducible refine zbb ?_ GE120.out; with_reducible refine zbb ?_ GE120.out; with_reducible exact HB.out)⟩
     ·rw [if_neg c18] at H
      exact absurd H (by simp)
    ·rw [if_neg c17] at H
     exact absurd H (by simp)
mutual
def znb.j0 : Nat → ByteArray → Bool → Bool → Option (Bool × ByteArray × Bool)
 | 0, _, _, _ => none
 | k + 1, x0, x4, x17 => if x17 = true then (if 0 < (x0.size : Int) then (if 1 ≤ (x0.size : Int) then (znb.j1 k (x0.extract 1 x0.size) ((bt x0 0) == 45)) else (none)) else (none)) else (znb.j1 k x0 x4)
def znb.j1 : Nat → ByteArray → Bool → Option (Bool × ByteArray × Bool)
 | 0, _, _ => none
 | k + 1, x0, x4 => (zmb.f k x0).bind fun t132 => (if t132 = true then ((zfb.f k x0).bind fun bt133 => (if x4 = true then (some ((bt133.2.toList != ([] : List UInt8)), bt133.2, true)) else (some (false, bt133.2, true)))) else (some (false, (⟨#[]⟩ : ByteArray), false)))
end
def znb.f (k : Nat) (a0 : ByteArray) : Option (Bool × ByteArray × Bool) := if (a0.size : Int) > 0 then (if 0 < (a0.size : Int) then (if (bt a0 0) = 43 then (znb.j0 k a0 false true) else (znb.j0 k a0 false ((bt a0 0) == 45))) else (none)) else (znb.j0 k a0 false false)
theorem znb.calls (k : Nat) (a0 : ByteArray) (r1 : Bool) (r2 : ByteArray) (r3 : Bool) (w : World) (h : znb.f k a0 = some (r1, r2, r3)) :
  Calls Tryz.prog 95 #[.string a0] w fun e w' => e = .returned (.tuple #[.agg #[.bool r1, .string r2], .bool r3]) ∧ Below w.heap.size w w' := by
 have hu29 := Tryz.underlying29
 have HB := za.mk (Below.refl w.heap.size w)
 have H : (if (a0.size : Int) > 0 then (if 0 < (a0.size : Int) then (if (bt a0 0) = 43 then (znb.j0 k a0 false true) else (znb.j0 k a0 false ((bt a0 0) == 45))) else (none)) else (znb.j0 k a0 false false)) = some (r1, r2, r3) := h
 clear h
 have HC2 := za.mk H
 clear H
 go_enter Tryz.func95, Tryz.ntmps95
 go_upto_region 2 with (((with_reducible refine zxc (N := 2) rfl ?_); refine zld ?hg (N := 2) ?hd (cs := #[.bool false, .string ⟨#[]⟩]) (t := 29) ?hr ?_; (case hd => rfl); (case hg => rfl); (case hr => first | (go_simp; done) | (go_simp; rfl)); intro gb131 hg w3 hbox hb; have BK131 := za.mk hbox; have GW131 := za.mk ((by rw [hg]; exact (zdb (by (with_reducible exact HB.out))) : w.heap.size ≤ gb131)); have GE131 := za.mk ((by rw [hg]; exact (zdb (by (with_reducible exact HB.out))) : w.heap.size ≤ gb131)); replace HB := za.mk (zeb (by (with_reducible exact HB.out)) hb); clear hb hbox hg))
 repeat (go_quiet (fail); go_upto_region 2 with (fail))
 (try simp only [Act.put, List.setIfInBounds_toArray, List.set_cons_zero, List.set_cons_succ])
 go_cut [17] (fun v17 wc => ∃ (kq : Nat) (x17_1 : Bool), v17 = .bool x17_1 ∧ za (znb.j0 kq a0 false x17_1 = some (r1, r2, r3)) ∧ za (kq ≤ k) ∧ za (wc.heap[gb131]? = some (.cells #[.bool false, .string ⟨#[]⟩] 29 (0, 0))) ∧ za (Below w.heap.size w wc))
 case first =>
  have H := HC2.out
  clear HC2
  by_cases c4 : (a0.size : Int) > 0
  ·rw [if_pos c4] at H
   have c4b0 : decide (0 < (a0.size : Int)) = true := decide_eq_true c4
   have c4b1 : decide (0 < a0.size) = true := decide_eq_true (by omega)
   clear c4
   (first | rw [c4b0] | (simp only [i64_w, i32_w]; rw [c4b0]) | skip)
   by_cases c5 : 0 < (a0.size : Int)
   ·rw [if_pos c5] at H
    have c5b0 : decide (0 < (a0.size : Int)) = true := decide_eq_true c5
    have c5b1 : decide (0 < a0.size) = true := decide_eq_true (by omega)
    clear c5
    by_cases c7 : (bt a0 0) = 43
    ·rw [if_pos c7] at H
     have c7b0 : ((bt a0 0) == 43) = true := beq_iff_eq.mpr c7
     have c7b1 : ((bt a0 0) != 43) = false := bne_eq_false_iff_eq.mpr c7
     clear c7
     have H' := za.mk H
     clear H
     have p6 : 0 ≤ (0 : Int) := (by omega)
     have q6 : 0 < a0.size := (by have : (0 : Int) < (a0.size : Int) := of_decide_eq_true (by (with_reducible assumption)); omega)
     have hx6 : ∀ h : 0 < a0.size, ((a0[0]'h).toNat : Int) = bt a0 0 := bt_at a0 0
     clear p6
     have qi6 : (0 < (a0.size : Int)) = True := eq_true (of_decide_eq_true (by (with_reducible assumption)))
     replace q6 := eq_true q6
     go_wp2
     repeat (go_quiet (fail); try go_wp2)
     go_meet
     case rel => exact ⟨_, (true), (by rfl), H', ⟨by omega⟩, ⟨by exact BK131.out⟩, ⟨by (with_reducible exact HB.out)⟩⟩
    ·rw [if_neg c7] at H
     have c7b0 : ((bt a0 0) == 43) = false := beq_eq_false_iff_ne.mpr c7
     have c7b1 : ((bt a0 0) != 43) = true := bne_iff_ne.mpr c7
     have H' := za.mk H
     clear H
     have p6 : 0 ≤ (0 : Int) := (by omega)
     have q6 : 0 < a0.size := (by have : (0 : Int) < (a0.size : Int) := of_decide_eq_true (by (with_reducible assumption)); omega)
     have hx6 : ∀ h : 0 < a0.size, ((a0[0]'h).toNat : Int) = bt a0 0 := bt_at a0 0
     clear p6
     have qi6 : (0 < (a0.size : Int)) = True := eq_true (of_decide_eq_true (by (with_reducible assumption)))
     replace q6 := eq_true q6
     have p8 : 0 ≤ (0 : Int) := (by omega)
     have q8 : 0 < a0.size := (by have : (0 : Int) < (a0.size : Int) := of_decide_eq_true (by (with_reducible assumption)); omega)
     have hx8 : ∀ h : 0 < a0.size, ((a0[0]'h).toNat : Int) = bt a0 0 := bt_at a0 0
     clear p8
     have qi8 : (0 < (a0.size : Int)) = True := eq_true (of_decide_eq_true (by (with_reducible assumption)))
     replace q8 := eq_true q8
     go_wp2
     repeat (go_quiet (fail); try go_wp2)
     go_meet
     case rel => exact ⟨_, (((bt a0 0) == 45)), (by rfl), H', ⟨by omega⟩, ⟨by exact BK131.out⟩, ⟨by (with_reducible exact HB.out)⟩⟩
   ·rw [if_neg c5] at H
    exact absurd H (by simp)
  ·rw [if_neg c4] at H
   have c4b0 : decide (0 < (a0.size : Int)) = false := decide_eq_false c4
   have c4b1 : decide (0 < a0.size) = false := decide_eq_false (by omega)
   clear c4
   (first | rw [c4b0] | (simp only [i64_w, i32_w]; rw [c4b0]) | skip)
   have H' := za.mk H
   clear H
   go_wp2
   repeat (go_quiet (fail); try go_wp2)
   go_meet
   case rel => exact ⟨_, (false), (by rfl), H', ⟨by omega⟩, ⟨by exact BK131.out⟩, ⟨by (with_reducible exact HB.out)⟩⟩
 case rest =>
  clear HC2
  obtain ⟨kq, x17_1, rfl, HA, HJ1, BK131, HB⟩ := hcut
  cases kq with
  | zero => exact absurd HA.out (by simp [znb.j0])
  | succ kj1 =>
   have H := HA.out
   clear HA
   simp only [znb.j0] at H
   have HC9 := za.mk H
   clear H
   go_upto_if 17 with (fail)
   repeat (go_quiet (fail); go_upto_if 17 with (fail))
   go_cut [0, 4, 17] (fun v0 v4 v17 wc => ∃ (kq : Nat) (x0_8 : ByteArray) (x4_8 : Bool), v0 = .string x0_8 ∧ v4 = .bool x4_8 ∧ za (znb.j1 kq x0_8 x4_8 = some (r1, r2, r3)) ∧ za (kq ≤ kj1) ∧ za (wc.heap[gb131]? = some (.cells #[.bool false, .string ⟨#[]⟩] 29 (0, 0))) ∧ za (Below w.heap.size w wc))
   case first =>
    have H := HC9.out
    clear HC9
    by_cases c10 : x17_1 = true
    ·subst c10
     have H1 : (if 0 < (a0.size : Int) then (if 1 ≤ (a0.size : Int) then (znb.j1 kj1 (a0.extract 1 a0.size) ((bt a0 0) == 45)) else (none)) else (none)) = some (r1, r2, r3) := by rw [if_pos rfl] at H; exact H
     clear H
     have H := H1
     clear H1
     by_cases c11 : 0 < (a0.size : Int)
     ·rw [if_pos c11] at H
      have c11b0 : decide (0 < (a0.size : Int)) = true := decide_eq_true c11
      have c11b1 : decide (0 < a0.size) = true := decide_eq_true (by omega)
      clear c11
      (first | rw [c11b0] | (simp only [i64_w, i32_w]; rw [c11b0]) | skip)
      by_cases c13 : 1 ≤ (a0.size : Int)
      ·rw [if_pos c13] at H
       have c13b0 := eq_true c13
       have c13b1 : decide (1 ≤ (a0.size : Int)) = true := decide_eq_true c13
       clear c13
       have H' := za.mk H
       clear H
       have p12 : 0 ≤ (0 : Int) := (by omega)
       have q12 : 0 < a0.size := (by have : (0 : Int) < (a0.size : Int) := of_decide_eq_true (by (with_reducible assumption)); omega)
       have hx12 : ∀ h : 0 < a0.size, ((a0[0]'h).toNat : Int) = bt a0 0 := bt_at a0 0
       clear p12
       have qi12 : (0 < (a0.size : Int)) = True := eq_true (of_decide_eq_true (by (with_reducible assumption)))
       replace q12 := eq_true q12
       go_wp2
       repeat (go_quiet (fail); try go_wp2)
       go_meet
       case rel => exact ⟨_, (a0.extract 1 a0.size), (((bt a0 0) == 45)), (by rfl), (by rfl), (by exact H'), ⟨by have := HJ1.out; first | omega | exact Nat.le_refl _⟩, ⟨by (with_reducible (refine zw ?_ _)); exact BK131.out⟩, ⟨by (with_reducible apply zg; with_reducible exact HB.out)⟩⟩
      ·rw [if_neg c13] at H
       exact absurd H (by simp)
     ·rw [if_neg c11] at H
      exact absurd H (by simp)
    ·replace c10 := Bool.eq_false_iff.mpr c10
     subst c10
     have H1 : (znb.j1 kj1 a0 false) = some (r1, r2, r3) := by rw [if_neg (show ¬ (false = true) by decide)] at H; exact H
     clear H
     have H := H1
     clear H1
     have H' := za.mk H
     clear H
     go_wp2
     repeat (go_quiet (fail); try go_wp2)
     go_meet
     case rel => exact ⟨_, (a0), (false), (by rfl), (by rfl), (by exact H'), ⟨by have := HJ1.out; first | omega | exact Nat.le_refl _⟩, ⟨by exact BK131.out⟩, ⟨by (with_reducible exact HB.out)⟩⟩
   case rest =>
    clear HC9
    obtain ⟨kq, x0_8, x4_8, rfl, rfl, HA, HJ8, BK131, HB⟩ := hcut
    cases kq with
    | zero => exact absurd HA.out (by simp [znb.j1])
    | succ kj8 =>
     have H := HA.out
     clear HA
     simp only [znb.j1] at H
     replace H := Option.bind_eq_some_iff.mp H
     obtain ⟨t132, A140, H⟩ := H
     replace H : (if t132 = true then ((zfb.f kj8 x0_8).bind fun bt133 => (if x4_8 = true then (some ((bt133.2.toList != ([] : List UInt8)), bt133.2, true)) else (some (false, bt133.2, true)))) else (some (false, (⟨#[]⟩ : ByteArray), false))) = some (r1, r2, r3) := H
     have A14 := za.mk A140
     clear A140
     by_cases c15 : t132 = true
     ·subst c15
      have H1 : ((zfb.f kj8 x0_8).bind fun bt133 => (if x4_8 = true then (some ((bt133.2.toList != ([] : List UInt8)), bt133.2, true)) else (some (false, bt133.2, true)))) = some (r1, r2, r3) := by rw [if_pos rfl] at H; exact H
      clear H
      have H := H1
      clear H1
      replace H := Option.bind_eq_some_iff.mp H
      obtain ⟨⟨t133, t134⟩, A160, H⟩ := H
      replace H : (if x4_8 = true then (some ((t134.toList != ([] : List UInt8)), t134, true)) else (some (false, t134, true))) = some (r1, r2, r3) := H
      have A16 := za.mk A160
      clear A160
      by_cases c17 : x4_8 = true
      ·subst c17
       have H1 : (some ((t134.toList != ([] : List UInt8)), t134, true)) = some (r1, r2, r3) := by rw [if_pos rfl] at H; exact H
       clear H
       have H := H1
       clear H1
       simp only [Option.some.injEq, Prod.mk.injEq] at H
       obtain ⟨rfl, rfl, rfl⟩ := H
       go_wp2_with (first | (go_at_call 86; (with_reducible refine (zmb.calls kj8 x0_8 true _ A14.out).mono ?_); rintro e w' ⟨rfl, ⟨nd, rfl⟩⟩; (try first | exact ⟨rfl, _, World.drewN_drewN _ _ _⟩ | exact ⟨rfl, _, Eq.trans (World.drewN_drewN _ _ _) (congrArg (World.drewN _) (Nat.add_assoc _ _ _))⟩)) | (go_at_call 114; (with_reducible refine (zfb.calls kj8 x0_8 t133 t134 _ A16.out).mono ?_); rintro e w18 ⟨rfl, hb⟩; replace BK131 := za.mk (zh (g := gb131) (o := .cells #[.bool false, .string ⟨#[]⟩] 29 (0, 0)) (by (with_reducible (refine zw ?_ _)); exact BK131.out) hb); replace HB := za.mk (zeb (by (with_reducible apply zg; with_reducible exact HB.out)) hb); (try clear hb); (try clear hb2); (try clear hk); (try clear hi); obtain ⟨hcz19_0, hcz19_1, hfz19_0, hfz19_1⟩ := cl2 BK131.out))
       repeat (go_quiet (fail); try go_wp2_with (fail))
       refine bodyPost_ret (zbg rfl _ _ gb131 29 #[.bool (t134.toList != ([] : List UInt8)), .string t134] (0, 0) _ rfl (by refine zl (cs := #[.bool (t134.toList != ([] : List UInt8)), .string t134]) ?_ 1 _ (by rfl); refine zl (cs := #[.bool (t134.toList != ([] : List UInt8)), .string t134]) ?_ 0 _ (by (simp [zk]; done)); refine zl (cs := #[.bool t133, .string t134]) ?_ 0 _ (by (simp [zk]; done)); refine zl (cs := #[.bool t133, .string ⟨#[]⟩]) ?_ 1 _ (by rfl); refine zl (cs := #[.bool false, .string ⟨#[]⟩]) ?_ 0 _ (by rfl); exact BK131.out) Tryz.underlying29 rfl (by kernel_rfl)) rfl ?_
       exact ⟨by rfl, by repeat (first | (with_reducible first | exact HB.out | apply zm | apply zg | apply zu | refine zbb ?_ GE131.out) | exact HB.out)⟩
      ·replace c17 := Bool.eq_false_iff.mpr c17
       subst c17
       have H1 : (some (false, t134, true)) = some (r1, r2, r3) := by rw [if_neg (show ¬ (false = true) by decide)] at H; exact H
       clear H
       have H := H1
       clear H1
       simp only [Option.some.injEq, Prod.mk.injEq] at H
       obtain ⟨rfl, rfl, rfl⟩ := H
       go_wp2_with (first | (go_at_call 86; (with_reducible refine (zmb.calls kj8 x0_8 true _ A14.out).mono ?_); rintro e w' ⟨rfl, ⟨nd, rfl⟩⟩; (try first | exact ⟨rfl, _, World.drewN_drewN _ _ _⟩ | exact ⟨rfl, _, Eq.trans (World.drewN_drewN _ _ _) (congrArg (World.drewN _) (Nat.add_assoc _ _ _))⟩)) | (go_at_call 114; (with_reducible refine (zfb.calls kj8 x0_8 t133 t134 _ A16.out).mono ?_); rintro e w20 ⟨rfl, hb⟩; replace BK131 := za.mk (zh (g := gb131) (o := .cells #[.bool false, .string ⟨#[]⟩] 29 (0, 0)) (by (with_reducible (refine zw ?_ _)); exact BK131.out) hb); replace HB := za.mk (zeb (by (with_reducible apply zg; with_reducible exact HB.out)) hb); (try clear hb); (try clear hb2); (try clear hk); (try clear hi); obtain ⟨hcz21_0, hcz21_1, hfz21_0, hfz21_1⟩ := cl2 BK131.out))
       repeat (go_quiet (fail); try go_wp2_with (fail))
       refine bodyPost_ret (zbg rfl _ _ gb131 29 #[.bool false, .string t134] (0, 0) _ rfl (by refine zl (cs := #[.bool false, .string t134]) ?_ 1 _ rfl; refine zl (cs := #[.bool false, .string t134]) ?_ 0 _ rfl; refine zl (cs := #[.bool t133, .string t134]) ?_ 0 _ rfl; refine zl (cs := #[.bool t133, .string ⟨#[]⟩]) ?_ 1 _ rfl; refine zl (cs := #[.bool false, .string ⟨#[]⟩]) ?_ 0 _ rfl; exact BK131.out) Tryz.underlying29 rfl (by kernel_rfl)) rfl ?_
       exact ⟨by rfl, by repeat (first | (with_reducible first | exact HB.out | apply zm | apply zg | apply zu | refine zbb ?_ GE131.out) | exact HB.out)⟩
     ·replace c15 := Bool.eq_false_iff.mpr c15
      subst c15
      have H1 : (some (false, (⟨#[]⟩ : ByteArray), false)) = some (r1, r2, r3) := by rw [if_neg (show ¬ (false = true) by decide)] at H; exact H
      clear H
      have H := H1
      clear H1
      simp only [Option.some.injEq, Prod.mk.injEq] at H
      obtain ⟨rfl, rfl, rfl⟩ := H
      go_wp2_with ((go_at_call 86; (with_reducible refine (zmb.calls kj8 x0_8 false _ A14.out).mono ?_); rintro e w' ⟨rfl, ⟨nd, rfl⟩⟩; (try first | exact ⟨rfl, _, World.drewN_drewN _ _ _⟩ | exact ⟨rfl, _, Eq.trans (World.drewN_drewN _ _ _) (congrArg (World.drewN _) (Nat.add_assoc _ _ _))⟩); obtain ⟨hcz22_0, hcz22_1, hfz22_0, hfz22_1⟩ := cl2 BK131.out))
      repeat (go_quiet (fail); try go_wp2_with (fail))
      refine bodyPost_ret (zbg rfl _ _ gb131 29 #[.bool false, .string ⟨#[]⟩] (0, 0) _ rfl (by refine zl (cs := #[.bool false, .string ⟨#[]⟩]) ?_ 1 _ rfl; refine zl (cs := #[.bool false, .string ⟨#[]⟩]) ?_ 0 _ rfl; (with_reducible (refine zw ?_ _)); exact BK131.out) Tryz.underlying29 rfl (by kernel_rfl)) rfl ?_
      exact ⟨by rfl, by (with_reducible refine zbb ?_ GE131.out; with_reducible refine zbb ?_ GE131.out; with_reducible apply zg; with_reducible exact HB.out)⟩
def zpd.f (k : Nat) (a0 : ByteArray) : Option (Bool × ByteArray × Bool) := (znb.f k a0).bind fun bt136 => (some (bt136.1, bt136.2.1, bt136.2.2))
theorem zpd.calls (k : Nat) (a0 : ByteArray) (r1 : Bool) (r2 : ByteArray) (r3 : Bool) (w : World) (h : zpd.f k a0 = some (r1, r2, r3)) :
  Calls Tryz.prog 65 #[.string a0] w fun e w' => e = .returned (.tuple #[.agg #[.bool r1, .string r2], .bool r3]) ∧ Below w.heap.size w w' := by
 have hu29 := Tryz.underlying29
 have HB := za.mk (Below.refl w.heap.size w)
 have H : ((znb.f k a0).bind fun bt136 => (some (bt136.1, bt136.2.1, bt136.2.2))) = some (r1, r2, r3) := h
 clear h
 replace H := Option.bind_eq_some_iff.mp H
 obtain ⟨⟨t136, t137, t138⟩, A20, H⟩ := H
 replace H : (some (t136, t137, t138)) = some (r1, r2, r3) := H
 have A2 := za.mk A20
 clear A20
 simp only [Option.some.injEq, Prod.mk.injEq] at H
 obtain ⟨rfl, rfl, rfl⟩ := H
 go_enter Tryz.func65, Tryz.ntmps65
 go_wp2_with (first | ((with_reducible refine zxc (N := 2) rfl ?_); refine zld ?hg (N := 2) ?hd (cs := #[.bool false, .string ⟨#[]⟩]) (t := 29) ?hr ?_; (case hd => rfl); (case hg => rfl); (case hr => first | (go_simp; done) | (go_simp; rfl)); intro gb135 hg w3 hbox hb; have BK135 := za.mk hbox; have GW135 := za.mk ((by rw [hg]; exact (zdb (by (with_reducible exact HB.out))) : w.heap.size ≤ gb135)); have GE135 := za.mk ((by rw [hg]; exact (zdb (by (with_reducible exact HB.out))) : w.heap.size ≤ gb135)); replace HB := za.mk (zeb (by (with_reducible exact HB.out)) hb); clear hb hbox hg) | ((with_reducible refine zcb (f := 95) rfl ?_); refine zxb (some 5) rfl rfl Tryz.func95 (by kernel_rfl) rfl #[.string a0] rfl (by (try simp only [List.map_toArray, List.map_cons, List.map_nil]); first | done | rfl | (simp only [List.length_drop, List.length_take]; rfl)) ?_; (with_reducible refine (znb.calls k a0 t136 t137 t138 _ A2.out).mono ?_); rintro e w4 ⟨rfl, hb⟩; refine ⟨_, rfl, ?_⟩; replace BK135 := za.mk (zh (g := gb135) (o := .cells #[.bool false, .string ⟨#[]⟩] 29 (0, 0)) (by exact BK135.out) hb); replace HB := za.mk (zeb (by (with_reducible exact HB.out)) hb); (try clear hb); (try clear hb2); (try clear hk); (try clear hi); obtain ⟨hcz5_0, hcz5_1, hfz5_0, hfz5_1⟩ := cl2 BK135.out))
 refine bodyPost_ret (zbg rfl _ _ gb135 29 #[.bool t136, .string t137] (0, 0) _ rfl (by refine zl (cs := #[.bool t136, .string ⟨#[]⟩]) ?_ 1 _ rfl; refine zl (cs := #[.bool false, .string ⟨#[]⟩]) ?_ 0 _ rfl; exact BK135.out) Tryz.underlying29 rfl (by kernel_rfl)) rfl ?_
 exact ⟨by rfl, by (with_reducible refine zbb ?_ GE135.out; with_reducible refine zbb ?_ GE135.out; with_reducible exact HB.out)⟩
def ztb.f (k : Nat) (a0 : ByteArray) : Option (Bool × ByteArray) := (zpd.f k a0).bind fun bt140 => (some (bt140.1, bt140.2.1))
theorem ztb.calls (k : Nat) (a0 : ByteArray) (r1 : Bool) (r2 : ByteArray) (w : World) (h : ztb.f k a0 = some (r1, r2)) :
  Calls Tryz.prog 36 #[.string a0] w fun e w' => e = .returned (.agg #[.bool r1, .string r2]) ∧ Below w.heap.size w w' := by
 have hu29 := Tryz.underlying29
 have HB := za.mk (Below.refl w.heap.size w)
 have H : ((zpd.f k a0).bind fun bt140 => (some (bt140.1, bt140.2.1))) = some (r1, r2) := h
 clear h
 replace H := Option.bind_eq_some_iff.mp H
 obtain ⟨⟨t140, t141, t142⟩, A20, H⟩ := H
 replace H : (some (t140, t141)) = some (r1, r2) := H
 have A2 := za.mk A20
 clear A20
 simp only [Option.some.injEq, Prod.mk.injEq] at H
 obtain ⟨rfl, rfl⟩ := H
 go_enter Tryz.func36, Tryz.ntmps36
 go_wp2_with (first | ((with_reducible refine zxc (N := 2) rfl ?_); refine zld ?hg (N := 2) ?hd (cs := #[.bool false, .string ⟨#[]⟩]) (t := 29) ?hr ?_; (case hd => rfl); (case hg => rfl); (case hr => first | (go_simp; done) | (go_simp; rfl)); intro gb139 hg w3 hbox hb; have BK139 := za.mk hbox; have GW139 := za.mk ((by rw [hg]; exact (zdb (by (with_reducible exact HB.out))) : w.heap.size ≤ gb139)); have GE139 := za.mk ((by rw [hg]; exact (zdb (by (with_reducible exact HB.out))) : w.heap.size ≤ gb139)); replace HB := za.mk (zeb (by (with_reducible exact HB.out)) hb); clear hb hbox hg) | ((with_reducible refine zcb (f := 65) rfl ?_); refine zxb (some 7) rfl rfl Tryz.func65 (by kernel_rfl) rfl #[.string a0] rfl (by (try simp only [List.map_toArray, List.map_cons, List.map_nil]); first | done | rfl | (simp only [List.length_drop, List.length_take]; rfl)) ?_; (with_reducible refine (zpd.calls k a0 t140 t141 t142 _ A2.out).mono ?_); rintro e w4 ⟨rfl, hb⟩; refine ⟨_, rfl, ?_⟩; replace BK139 := za.mk (zh (g := gb139) (o := .cells #[.bool false, .string ⟨#[]⟩] 29 (0, 0)) (by exact BK139.out) hb); replace HB := za.mk (zeb (by (with_reducible exact HB.out)) hb); (try clear hb); (try clear hb2); (try clear hk); (try clear hi)) | ((with_reducible refine zxc (N := 3) rfl ?_); refine zld ?hg (N := 3) ?hd (cs := #[.bool false, .string ⟨#[]⟩]) (t := 29) ?hr ?_; (case hd => rfl); (case hg => rfl); (case hr => first | (go_simp; done) | (go_simp; rfl)); intro gb143 hg w5 hbox hb; have n0_ := za.mk (zh (g := gb139) (o := .cells #[.bool false, .string ⟨#[]⟩] 29 (0, 0)) (by exact BK139.out) hb); have n1_ := za.mk (zeb (by (with_reducible exact HB.out)) hb); have n2_ := za.mk hbox; have n3_ := za.mk ((by rw [hg]; exact (zdb (by (with_reducible exact HB.out))) : w.heap.size ≤ gb143)); have n4_ := za.mk ((by rw [hg]; exact (zdb (by (with_reducible exact HB.out))) : w.heap.size ≤ gb143)); have n5_ := za.mk ((by rw [hg]; exact Nat.ne_of_lt (zqe (g := gb139) (o := .cells #[.bool false, .string ⟨#[]⟩] 29 (0, 0)) (by exact BK139.out)) : gb139 ≠ gb143)); have n6_ := za.mk ((by rw [hg]; exact Nat.ne_of_gt (zqe (g := gb139) (o := .cells #[.bool false, .string ⟨#[]⟩] 29 (0, 0)) (by exact BK139.out)) : gb143 ≠ gb139)); clear BK139; clear HB; have BK139 := n0_; have HB := n1_; have BK143 := n2_; have GW143 := n3_; have GE143 := n4_; have NB139_143 := n5_; have NB143_139 := n6_; clear n0_ n1_ n2_ n3_ n4_ n5_ n6_; clear hb hbox hg; have hnb6 := NB143_139.out; have hnc6 := NB139_143.out; obtain ⟨hcz7_0, hcz7_1, _⟩ := cl2 BK143.out; obtain ⟨hcz8_0, hcz8_1, hfz8_0, hfz8_1⟩ := cl2 BK139.out))
 refine bodyPost_ret (results_cell_row rfl _ _ gb139 29 #[.bool t140, .string t141] (0, 0) _ rfl (by refine zl (cs := #[.bool t140, .string ⟨#[]⟩]) ?_ 1 _ rfl; refine zl (cs := #[.bool false, .string ⟨#[]⟩]) ?_ 0 _ rfl; refine zcc ?_ NB139_143.out _; refine zcc ?_ NB139_143.out _; exact BK139.out) Tryz.underlying29 rfl (by kernel_rfl)) rfl ?_
 exact ⟨by rfl, by repeat (first | (with_reducible first | exact HB.out | apply zm | apply zg | apply zu | refine zbb ?_ GE139.out | refine zbb ?_ GE143.out) | exact HB.out)⟩
end Go.Proofs.YtlijjnjpomnphaaGreatDoor.Q
end
section
namespace Go.Proofs.YtlijjnjpomnphaaGreatDoor.Q
open Go.RowKit YtlijjnjpomnphaaGreatDoorH YtlijjnjpomnphaaGreatDoorG YtlijjnjpomnphaaGreatDoorW.PrintWords YtlijjnjpomnphaaGreatDoorW.PrintLast YtlijjnjpomnphaaGreatDoorW.PrintMore
attribute [local go_sem] zhd zid zud ztd ztc zuc zgd zkd
def zfd.l0 : Nat → ByteArray → Int → Option (Bool)
 | 0, _, _ => none
 | k + 1, x0, x3 => if x3 < (x0.size : Int) then (if 0 ≤ x3 then (if (bt x0 x3) < 48 then (some false) else (if (bt x0 x3) > 57 then (some false) else (zfd.l0 k x0 (wrap64 (x3 + 1))))) else (none)) else (some (x0.toList != ([] : List UInt8)))
def zfd.f (k : Nat) (a0 : ByteArray) : Option (Bool) := zfd.l0 k a0 0
def zcd.l0 : Nat → ByteArray → Int → Option (Bool)
 | 0, _, _ => none
 | k + 1, x0, x3 => if x3 < (x0.size : Int) then (if 0 ≤ x3 then (if (bt x0 x3) ≥ 97 then (if (bt x0 x3) ≤ 122 then (zcd.l0 k x0 (wrap64 (x3 + 1))) else (if (bt x0 x3) ≥ 65 then (if ((bt x0 x3) ≤ 90) then (zcd.l0 k x0 (wrap64 (x3 + 1))) else (some false)) else (some false))) else (if (bt x0 x3) ≥ 65 then (if ((bt x0 x3) ≤ 90) then (zcd.l0 k x0 (wrap64 (x3 + 1))) else (some false)) else (some false))) else (none)) else (some (x0.toList != ([] : List UInt8)))
def zcd.f (k : Nat) (a0 : ByteArray) : Option (Bool) := zcd.l0 k a0 0
end Go.Proofs.YtlijjnjpomnphaaGreatDoor.Q
end
section
namespace Go.Proofs.YtlijjnjpomnphaaGreatDoor.Q
open Go.RowKit YtlijjnjpomnphaaGreatDoorH YtlijjnjpomnphaaGreatDoorG YtlijjnjpomnphaaGreatDoorW.PrintWords YtlijjnjpomnphaaGreatDoorW.PrintLast YtlijjnjpomnphaaGreatDoorW.PrintMore
attribute [local go_sem] zhd zid zud ztd ztc zuc zgd zkd
mutual
def ze.j0 : Nat → Bool → Int → List Int → Int → Int → Int → Int → Bool → Bool → List ByteArray → Option (ByteArray × Bool × ByteArray × (List (S29)) × Bool × ByteArray × Bool × ByteArray × Bool × ByteArray × Bool × ByteArray × Bool × ByteArray × Bool × ByteArray × List ByteArray × List ByteArray × Bool)
 | 0, _, _, _, _, _, _, _, _, _, _ => none
 | k + 1, x27, x145000, x145001, x145002, x145003, x145004, x145005, x145006, x145007, x145008 => if x27 = true then (some ((⟨#[]⟩ : ByteArray), false, (⟨#[]⟩ : ByteArray), ([] : List (S29)), false, (⟨#[]⟩ : ByteArray), false, (⟨#[]⟩ : ByteArray), false, (⟨#[]⟩ : ByteArray), false, (⟨#[]⟩ : ByteArray), false, (⟨#[]⟩ : ByteArray), false, (⟨#[]⟩ : ByteArray), ([] : List ByteArray), ([] : List ByteArray), false)) else ((zab.f k x145000).bind fun t147 => ((ztb.f k t147).bind fun bt148 => ((some (([(⟨#[]⟩ : ByteArray)] : List ByteArray) : List ByteArray)).bind fun y150 => (if x145000 > 0 then ((zab.f k x145000).bind fun t154 => (if t154.size + 1 ≤ 9223372036854775807 then (ze.j1 k (t154 ++ (⟨#[33]⟩ : ByteArray)) x145000 x145001 x145002 x145003 x145004 x145005 x145006 x145007 x145008 bt148.1 bt148.2 false (⟨#[]⟩ : ByteArray) false (⟨#[]⟩ : ByteArray) false (⟨#[]⟩ : ByteArray) false (⟨#[]⟩ : ByteArray) false (⟨#[]⟩ : ByteArray) false (⟨#[]⟩ : ByteArray) y150) else (none))) else (ze.j1 k (⟨#[]⟩ : ByteArray) x145000 x145001 x145002 x145003 x145004 x145005 x145006 x145007 x145008 bt148.1 bt148.2 false (⟨#[]⟩ : ByteArray) false (⟨#[]⟩ : ByteArray) false (⟨#[]⟩ : ByteArray) false (⟨#[]⟩ : ByteArray) false (⟨#[]⟩ : ByteArray) false (⟨#[]⟩ : ByteArray) y150)))))
def ze.j1 : Nat → ByteArray → Int → List Int → Int → Int → Int → Int → Bool → Bool → List ByteArray → Bool → ByteArray → Bool → ByteArray → Bool → ByteArray → Bool → ByteArray → Bool → ByteArray → Bool → ByteArray → Bool → ByteArray → List ByteArray → Option (ByteArray × Bool × ByteArray × (List (S29)) × Bool × ByteArray × Bool × ByteArray × Bool × ByteArray × Bool × ByteArray × Bool × ByteArray × Bool × ByteArray × List ByteArray × List ByteArray × Bool)
 | 0, _, _, _, _, _, _, _, _, _, _, _, _, _, _, _, _, _, _, _, _, _, _, _, _, _ => none
 | k + 1, x6, x145000, x145001, x145002, x145003, x145004, x145005, x145006, x145007, x145008, x154000, x154001, x154003, x154004, x154005, x154006, x154007, x154008, x154009, x154010, x154011, x154012, x154013, x154014, x154015 => ze.l0 k x6 x145001 (x145001.length : Int) 0 x145000 x145001 x145002 x145003 x145004 x145005 x145006 x145007 x145008 x154000 x154001 ([] : List (S29)) x154003 x154004 x154005 x154006 x154007 x154008 x154009 x154010 x154011 x154012 x154013 x154014 x154015
def ze.l0 : Nat → ByteArray → List Int → Int → Int → Int → List Int → Int → Int → Int → Int → Bool → Bool → List ByteArray → Bool → ByteArray → List (S29) → Bool → ByteArray → Bool → ByteArray → Bool → ByteArray → Bool → ByteArray → Bool → ByteArray → Bool → ByteArray → List ByteArray → Option (ByteArray × Bool × ByteArray × (List (S29)) × Bool × ByteArray × Bool × ByteArray × Bool × ByteArray × Bool × ByteArray × Bool × ByteArray × Bool × ByteArray × List ByteArray × List ByteArray × Bool)
 | 0, _, _, _, _, _, _, _, _, _, _, _, _, _, _, _, _, _, _, _, _, _, _, _, _, _, _, _, _, _ => none
 | k + 1, x6, x43, x44, x45, x145000, x145001, x145002, x145003, x145004, x145005, x145006, x145007, x145008, x154000, x154001, x154002, x154003, x154004, x154005, x154006, x154007, x154008, x154009, x154010, x154011, x154012, x154013, x154014, x154015 => if x45 < x44 then (if 0 ≤ x45 then (if x45 < (x43.length : Int) then (if x45 > 0 then (if x6.size + 1 ≤ 9223372036854775807 then ((zab.f k (rd x43 x45)).bind fun t156 => (if (x6 ++ (⟨#[46]⟩ : ByteArray)).size + t156.size ≤ 9223372036854775807 then ((zab.f k (rd x43 x45)).bind fun t157 => ((ztb.f k t157).bind fun bt158 => (if x154002.length < 5864062014805 then (ze.l0 k ((x6 ++ (⟨#[46]⟩ : ByteArray)) ++ t156) x43 x44 (wrap64 (x45 + 1)) x145000 x145001 x145002 x145003 x145004 x145005 x145006 x145007 x145008 x154000 x154001 (x154002 ++ [(⟨bt158.1, bt158.2⟩ : S29)]) x154003 x154004 x154005 x154006 x154007 x154008 x154009 x154010 x154011 x154012 x154013 x154014 x154015) else (none)))) else (none))) else (none)) else ((zab.f k (rd x43 x45)).bind fun t163 => (if x6.size + t163.size ≤ 9223372036854775807 then ((zab.f k (rd x43 x45)).bind fun t164 => ((ztb.f k t164).bind fun bt165 => (if x154002.length < 5864062014805 then (ze.l0 k (x6 ++ t163) x43 x44 (wrap64 (x45 + 1)) x145000 x145001 x145002 x145003 x145004 x145005 x145006 x145007 x145008 x154000 x154001 (x154002 ++ [(⟨bt165.1, bt165.2⟩ : S29)]) x154003 x154004 x154005 x154006 x154007 x154008 x154009 x154010 x154011 x154012 x154013 x154014 x154015) else (none)))) else (none)))) else (none)) else (none)) else (if (Int.tmod x145002 4) > 0 then ((some (([(⟨#[97]⟩ : ByteArray), (⟨#[98]⟩ : ByteArray), (⟨#[114, 99]⟩ : ByteArray)] : List ByteArray) : List ByteArray)).bind fun y170 => (if 0 ≤ (((Int.tmod x145002 4) - 1) % 256) then (if (((Int.tmod x145002 4) - 1) % 256) < (y170.length : Int) then ((zab.f k x145003).bind fun t174 => ((ztb.f k t174).bind fun bt175 => ((zab.f k x145003).bind fun t177 => (if (rdOf ByteArray.empty y170 (((Int.tmod x145002 4) - 1) % 256)).size + t177.size ≤ 9223372036854775807 then (if x6.size + ((rdOf ByteArray.empty y170 (((Int.tmod x145002 4) - 1) % 256)) ++ t177).size ≤ 9223372036854775807 then (ze.j3 k (x6 ++ ((rdOf ByteArray.empty y170 (((Int.tmod x145002 4) - 1) % 256)) ++ t177)) x145000 x145001 x145002 x145003 x145004 x145005 x145006 x145007 x145008 x154000 x154001 x154002 true (rdOf ByteArray.empty y170 (((Int.tmod x145002 4) - 1) % 256)) bt175.1 bt175.2 x154007 x154008 x154009 x154010 x154011 x154012 x154013 x154014 x154015) else (none)) else (none))))) else (none)) else (none))) else (ze.j3 k x6 x145000 x145001 x145002 x145003 x145004 x145005 x145006 x145007 x145008 x154000 x154001 x154002 x154003 x154004 x154005 x154006 x154007 x154008 x154009 x154010 x154011 x154012 x154013 x154014 x154015))
def ze.j3 : Nat → ByteArray → Int → List Int → Int → Int → Int → Int → Bool → Bool → List ByteArray → Bool → ByteArray → List (S29) → Bool → ByteArray → Bool → ByteArray → Bool → ByteArray → Bool → ByteArray → Bool → ByteArray → Bool → ByteArray → List ByteArray → Option (ByteArray × Bool × ByteArray × (List (S29)) × Bool × ByteArray × Bool × ByteArray × Bool × ByteArray × Bool × ByteArray × Bool × ByteArray × Bool × ByteArray × List ByteArray × List ByteArray × Bool)
 | 0, _, _, _, _, _, _, _, _, _, _, _, _, _, _, _, _, _, _, _, _, _, _, _, _, _, _ => none
 | k + 1, x6, x145000, x145001, x145002, x145003, x145004, x145005, x145006, x145007, x145008, x154000, x154001, x154002, x154003, x154004, x154005, x154006, x154007, x154008, x154009, x154010, x154011, x154012, x154013, x154014, x154015 => if x145006 = true then ((zab.f k x145004).bind fun t178 => ((ztb.f k t178).bind fun bt179 => ((zab.f k x145004).bind fun t181 => (if 5 + t181.size ≤ 9223372036854775807 then (if x6.size + ((⟨#[46, 112, 111, 115, 116]⟩ : ByteArray) ++ t181).size ≤ 9223372036854775807 then (ze.j4 k (x6 ++ ((⟨#[46, 112, 111, 115, 116]⟩ : ByteArray) ++ t181)) x145000 x145001 x145002 x145003 x145004 x145005 x145006 x145007 x145008 x154000 x154001 x154002 x154003 x154004 x154005 x154006 true (⟨#[112, 111, 115, 116]⟩ : ByteArray) bt179.1 bt179.2 x154011 x154012 x154013 x154014 x154015) else (none)) else (none))))) else (ze.j4 k x6 x145000 x145001 x145002 x145003 x145004 x145005 x145006 x145007 x145008 x154000 x154001 x154002 x154003 x154004 x154005 x154006 x154007 x154008 x154009 x154010 x154011 x154012 x154013 x154014 x154015)
def ze.j4 : Nat → ByteArray → Int → List Int → Int → Int → Int → Int → Bool → Bool → List ByteArray → Bool → ByteArray → List (S29) → Bool → ByteArray → Bool → ByteArray → Bool → ByteArray → Bool → ByteArray → Bool → ByteArray → Bool → ByteArray → List ByteArray → Option (ByteArray × Bool × ByteArray × (List (S29)) × Bool × ByteArray × Bool × ByteArray × Bool × ByteArray × Bool × ByteArray × Bool × ByteArray × Bool × ByteArray × List ByteArray × List ByteArray × Bool)
 | 0, _, _, _, _, _, _, _, _, _, _, _, _, _, _, _, _, _, _, _, _, _, _, _, _, _, _ => none
 | k + 1, x6, x145000, x145001, x145002, x145003, x145004, x145005, x145006, x145007, x145008, x154000, x154001, x154002, x154003, x154004, x154005, x154006, x154007, x154008, x154009, x154010, x154011, x154012, x154013, x154014, x154015 => if x145007 = true then ((zab.f k x145005).bind fun t182 => ((ztb.f k t182).bind fun bt183 => ((zab.f k x145005).bind fun t185 => (if 4 + t185.size ≤ 9223372036854775807 then (if x6.size + ((⟨#[46, 100, 101, 118]⟩ : ByteArray) ++ t185).size ≤ 9223372036854775807 then (ze.j5 k (x6 ++ ((⟨#[46, 100, 101, 118]⟩ : ByteArray) ++ t185)) x145000 x145001 x145002 x145003 x145004 x145005 x145006 x145007 x145008 x154000 x154001 x154002 x154003 x154004 x154005 x154006 x154007 x154008 x154009 x154010 true (⟨#[100, 101, 118]⟩ : ByteArray) bt183.1 bt183.2 x154015) else (none)) else (none))))) else (ze.j5 k x6 x145000 x145001 x145002 x145003 x145004 x145005 x145006 x145007 x145008 x154000 x154001 x154002 x154003 x154004 x154005 x154006 x154007 x154008 x154009 x154010 x154011 x154012 x154013 x154014 x154015)
def ze.j5 : Nat → ByteArray → Int → List Int → Int → Int → Int → Int → Bool → Bool → List ByteArray → Bool → ByteArray → List (S29) → Bool → ByteArray → Bool → ByteArray → Bool → ByteArray → Bool → ByteArray → Bool → ByteArray → Bool → ByteArray → List ByteArray → Option (ByteArray × Bool × ByteArray × (List (S29)) × Bool × ByteArray × Bool × ByteArray × Bool × ByteArray × Bool × ByteArray × Bool × ByteArray × Bool × ByteArray × List ByteArray × List ByteArray × Bool)
 | 0, _, _, _, _, _, _, _, _, _, _, _, _, _, _, _, _, _, _, _, _, _, _, _, _, _, _ => none
 | k + 1, x6, x145000, x145001, x145002, x145003, x145004, x145005, x145006, x145007, x145008, x154000, x154001, x154002, x154003, x154004, x154005, x154006, x154007, x154008, x154009, x154010, x154011, x154012, x154013, x154014, x154015 => ze.l1 k x6 x145008 (x145008.length : Int) 0 x154000 x154001 x154002 x154003 x154004 x154005 x154006 x154007 x154008 x154009 x154010 x154011 x154012 x154013 x154014 x154015
def ze.l1 : Nat → ByteArray → List ByteArray → Int → Int → Bool → ByteArray → List (S29) → Bool → ByteArray → Bool → ByteArray → Bool → ByteArray → Bool → ByteArray → Bool → ByteArray → Bool → ByteArray → List ByteArray → Option (ByteArray × Bool × ByteArray × (List (S29)) × Bool × ByteArray × Bool × ByteArray × Bool × ByteArray × Bool × ByteArray × Bool × ByteArray × Bool × ByteArray × List ByteArray × List ByteArray × Bool)
 | 0, _, _, _, _, _, _, _, _, _, _, _, _, _, _, _, _, _, _, _, _ => none
 | k + 1, x6, x121, x122, x123, x154000, x154001, x154002, x154003, x154004, x154005, x154006, x154007, x154008, x154009, x154010, x154011, x154012, x154013, x154014, x154015 => if x123 < x122 then (if 0 ≤ x123 then (if x123 < (x121.length : Int) then (if x123 = 0 then (if x6.size + 1 ≤ 9223372036854775807 then (ze.j7 k (x6 ++ (⟨#[43]⟩ : ByteArray)) (rdOf ByteArray.empty x121 x123) x121 x122 x123 x154000 x154001 x154002 x154003 x154004 x154005 x154006 x154007 x154008 x154009 x154010 x154011 x154012 x154013 x154014 ([] : List ByteArray)) else (none)) else (if x6.size + 1 ≤ 9223372036854775807 then (ze.j7 k (x6 ++ (⟨#[46]⟩ : ByteArray)) (rdOf ByteArray.empty x121 x123) x121 x122 x123 x154000 x154001 x154002 x154003 x154004 x154005 x154006 x154007 x154008 x154009 x154010 x154011 x154012 x154013 x154014 x154015) else (none))) else (none)) else (none)) else (some (x6, x154000, x154001, x154002, x154003, x154004, x154005, x154006, x154007, x154008, x154009, x154010, x154011, x154012, x154013, x154014, x154015, ([] : List ByteArray), true))
def ze.j7 : Nat → ByteArray → ByteArray → List ByteArray → Int → Int → Bool → ByteArray → List (S29) → Bool → ByteArray → Bool → ByteArray → Bool → ByteArray → Bool → ByteArray → Bool → ByteArray → Bool → ByteArray → List ByteArray → Option (ByteArray × Bool × ByteArray × (List (S29)) × Bool × ByteArray × Bool × ByteArray × Bool × ByteArray × Bool × ByteArray × Bool × ByteArray × Bool × ByteArray × List ByteArray × List ByteArray × Bool)
 | 0, _, _, _, _, _, _, _, _, _, _, _, _, _, _, _, _, _, _, _, _, _ => none
 | k + 1, x6, x11, x121, x122, x123, x154000, x154001, x154002, x154003, x154004, x154005, x154006, x154007, x154008, x154009, x154010, x154011, x154012, x154013, x154014, x154015 => (zfd.f k x11).bind fun t187 => (if t187 = true then (if x6.size + x11.size ≤ 9223372036854775807 then ((zpc.f k x11).bind fun t188 => (if x154015.length < 8796093022208 then (ze.l1 k (x6 ++ x11) x121 x122 (wrap64 (x123 + 1)) x154000 x154001 x154002 x154003 x154004 x154005 x154006 x154007 x154008 x154009 x154010 x154011 x154012 x154013 x154014 (x154015 ++ [t188])) else (none))) else (none)) else ((zcd.f k x11).bind fun t192 => (if t192 = true then (if x6.size + x11.size ≤ 9223372036854775807 then ((zpc.f k x11).bind fun t193 => (if x154015.length < 8796093022208 then (ze.l1 k (x6 ++ x11) x121 x122 (wrap64 (x123 + 1)) x154000 x154001 x154002 x154003 x154004 x154005 x154006 x154007 x154008 x154009 x154010 x154011 x154012 x154013 x154014 (x154015 ++ [t193])) else (none))) else (none)) else (some ((⟨#[]⟩ : ByteArray), false, (⟨#[]⟩ : ByteArray), ([] : List (S29)), false, (⟨#[]⟩ : ByteArray), false, (⟨#[]⟩ : ByteArray), false, (⟨#[]⟩ : ByteArray), false, (⟨#[]⟩ : ByteArray), false, (⟨#[]⟩ : ByteArray), false, (⟨#[]⟩ : ByteArray), ([] : List ByteArray), ([] : List ByteArray), false)))))
end
def ze.f (k : Nat) (a0_0 : Int) (l0_1 : List Int) (a0_2 : Int) (a0_3 : Int) (a0_4 : Int) (a0_5 : Int) (a0_6 : Bool) (a0_7 : Bool) (l0_8 : List ByteArray) : Option (ByteArray × Bool × ByteArray × (List (S29)) × Bool × ByteArray × Bool × ByteArray × Bool × ByteArray × Bool × ByteArray × Bool × ByteArray × Bool × ByteArray × List ByteArray × List ByteArray × Bool) := if (l0_1.length : Int) = 0 then (ze.j0 k true a0_0 l0_1 a0_2 a0_3 a0_4 a0_5 a0_6 a0_7 l0_8) else (if (l0_1.length : Int) > 60 then (ze.j0 k true a0_0 l0_1 a0_2 a0_3 a0_4 a0_5 a0_6 a0_7 l0_8) else ((zfc.f k l0_8).bind fun t146 => (ze.j0 k (!t146) a0_0 l0_1 a0_2 a0_3 a0_4 a0_5 a0_6 a0_7 l0_8)))
def ze.T13 : Bool × List (List Nat × List Nat) := (true, [([], []), ([0], [0]), ([], []), ([2], [2]), ([3, 3], [3]), ([4], [4]), ([1, 5, 4], [1, 5]), ([0, 1, 2, 3, 4, 5, 6], []), ([7, 6, 6, 0, 1, 2, 3, 4, 5, 6], [6, 7])])
def ze.B13 : List Nat := [0, 1, 0, 4, 12, 28, 63, 127, 255]
theorem ze.tab13 : rtab .any (opsOf Tryz.f15 13) = ze.T13 := by kernel_rfl
theorem ze.bits13 : waitsOk ze.T13.2 ze.B13 = true := by kernel_rfl
end Go.Proofs.YtlijjnjpomnphaaGreatDoor.Q
end
section
namespace Go.Proofs.YtlijjnjpomnphaaGreatDoorH
open Go.RowKit YtlijjnjpomnphaaGreatDoorC YtlijjnjpomnphaaGreatDoorW.PrintWords YtlijjnjpomnphaaGreatDoorW.PrintLast
theorem there_blk {w : World} {b : Nat} {cs : Array Value} {t : TypeId} {n : Nat} (hb : w.heap[b]? = some (.cells cs t (0, 0))) (hn : n = cs.size) : w.there b 0 n := fun j hj => by
 rw [Nat.zero_add]
 refine ⟨?_, zj hb j⟩
 rw [zd hb j]
 simp only [Array.getElem?_eq_getElem (show j < cs.size by omega), Option.isSome_some]
theorem zwf {P : Program} {ops : Array Oper} {rest : List Oper} {op : Oper} {a : Act} {w : World} {Q : Exit → Act → World → Prop} (hgd : op.guard = none) (ty : TypeId) (x y : Operand) (ho : op.op = .store ty x y)
    (b : Nat) (cs bs : Array Value) (t : TypeId) (hx : a.eval x = .pointer (some ⟨b, 0, none⟩)) (hy : a.eval y = .agg bs) (hb : w.heap[b]? = some (.cells cs t (0, 0))) (hn : bs.size = cs.size)
    (hi : (P.info? ty).map (·.size) = some bs.size) (h1 : bs.toList.all (·.oneCell') = true) (h : wpList P ops Q rest (a.put op.dst undef) (w.setCells b 0 bs.toList)) : wpList P ops Q (op :: rest) a w :=
  wpList_store_mid hgd ty x y ho b 0 bs hx hy (there_blk hb hn) hi (by rw [← Array.all_toList]; exact h1) h
theorem exec_blk {P : Program} {op : Oper} {a : Act} {w : World} (ty : TypeId) (x y : Operand) (ho : op.op = .store ty x y)
    (b : Nat) (cs bs : Array Value) (t : TypeId) (hx : a.eval x = .pointer (some ⟨b, 0, none⟩)) (hy : a.eval y = .agg bs) (hb : w.heap[b]? = some (.cells cs t (0, 0))) (hn : bs.size = cs.size)
    (hi : (P.info? ty).map (·.size) = some bs.size) (h1 : bs.toList.all (·.oneCell') = true) : (execOp a.eval op).run P w = .ok .skip (w.setCells b 0 bs.toList) := by
  unfold execOp
  simp only [ho, hx, hy, Sem.run_bind, Sem.run_pure, Result.andThen_ok, run_storeAt_mid w b 0 ty bs (there_blk hb hn) hi (by rw [← Array.all_toList]; exact h1)]
theorem exec17 {P : Program} {op : Oper} {a : Act} {w : World} (ty : TypeId) (x y : Operand) (ho : op.op = .store ty x y)
    (g : Nat) {a0 a1 a2 a3 a4 a5 a6 a7 a8 a9 a10 a11 a12 a13 a14 a15 a16 b0 b1 b2 b3 b4 b5 b6 b7 b8 b9 b10 b11 b12 b13 b14 b15 b16 : Value} (t : TypeId) (hx : a.eval x = .pointer (some ⟨g, 0, none⟩)) (hy : a.eval y = .agg #[b0, b1, b2, b3, b4, b5, b6, b7, b8, b9, b10, b11, b12, b13, b14, b15, b16]) (hb : w.heap[g]? = some (.cells #[a0, a1, a2, a3, a4, a5, a6, a7, a8, a9, a10, a11, a12, a13, a14, a15, a16] t (0, 0)))
    (hi : (P.info? ty).map (·.size) = some 17) (h1 : #[b0, b1, b2, b3, b4, b5, b6, b7, b8, b9, b10, b11, b12, b13, b14, b15, b16].toList.all (·.oneCell') = true) : (execOp a.eval op).run P w = .ok .skip (((((((((((((((((w.setCell ⟨g, 0, none⟩ b0).setCell ⟨g, 1, none⟩ b1).setCell ⟨g, 2, none⟩ b2).setCell ⟨g, 3, none⟩ b3).setCell ⟨g, 4, none⟩ b4).setCell ⟨g, 5, none⟩ b5).setCell ⟨g, 6, none⟩ b6).setCell ⟨g, 7, none⟩ b7).setCell ⟨g, 8, none⟩ b8).setCell ⟨g, 9, none⟩ b9).setCell ⟨g, 10, none⟩ b10).setCell ⟨g, 11, none⟩ b11).setCell ⟨g, 12, none⟩ b12).setCell ⟨g, 13, none⟩ b13).setCell ⟨g, 14, none⟩ b14).setCell ⟨g, 15, none⟩ b15).setCell ⟨g, 16, none⟩ b16) :=
  exec_blk ty x y ho g #[a0, a1, a2, a3, a4, a5, a6, a7, a8, a9, a10, a11, a12, a13, a14, a15, a16] #[b0, b1, b2, b3, b4, b5, b6, b7, b8, b9, b10, b11, b12, b13, b14, b15, b16] t hx hy hb rfl hi h1
end Go.Proofs.YtlijjnjpomnphaaGreatDoorH
end
section
namespace Go.Proofs.YtlijjnjpomnphaaGreatDoor.Q
open Go.RowKit YtlijjnjpomnphaaGreatDoorH YtlijjnjpomnphaaGreatDoorG YtlijjnjpomnphaaGreatDoorW.PrintWords YtlijjnjpomnphaaGreatDoorW.PrintLast YtlijjnjpomnphaaGreatDoorW.PrintMore YtlijjnjpomnphaaGreatDoorC YtlijjnjpomnphaaGreatDoorC
attribute [local go_sem] zhd zid zud ztd ztc zuc zgd zkd
theorem size34_ : (Tryz.prog.info? 34).map (·.size) = some 17 := by kernel_rfl
theorem ze.calls0 (k : Nat) (a0_0 : Int) (A0_1 : Option Addr) (c0_1 : Nat) (l0_1 : List Int) (a0_2 : Int) (a0_3 : Int) (a0_4 : Int) (a0_5 : Int) (a0_6 : Bool) (a0_7 : Bool) (A0_8 : Option Addr) (c0_8 : Nat) (l0_8 : List ByteArray) (r1 : ByteArray) (r2 : Bool) (r3 : ByteArray) (r4 : List (S29)) (r5 : Bool) (r6 : ByteArray) (r7 : Bool) (r8 : ByteArray) (r9 : Bool) (r10 : ByteArray) (r11 : Bool) (r12 : ByteArray) (r13 : Bool) (r14 : ByteArray) (r15 : Bool) (r16 : ByteArray) (r17 : List ByteArray) (r18 : List ByteArray) (r19 : Bool) (w : World) (hr0_1 : Kd.C (Kd.int .u16) w A0_1 l0_1.length l0_1) (hc0_1 : l0_1.length ≤ c0_1) (hr0_8 : Kd.C Kd.string w A0_8 l0_8.length l0_8) (hc0_8 : l0_8.length ≤ c0_8) (h : ze.f k a0_0 l0_1 a0_2 a0_3 a0_4 a0_5 a0_6 a0_7 l0_8 = some (r1, r2, r3, r4, r5, r6, r7, r8, r9, r10, r11, r12, r13, r14, r15, r16, r17, r18, r19)) (hz : a0_0 = 0 ∧ a0_2 = 0 ∧ a0_6 = false ∧ a0_7 = false ∧ l0_8 = []) :
  Calls Tryz.prog 15 #[.agg #[.int .u16 a0_0, .slice A0_1 l0_1.length c0_1, .int .u8 a0_2, .int .u16 a0_3, .int .u16 a0_4, .int .u16 a0_5, .bool a0_6, .bool a0_7, .slice A0_8 l0_8.length c0_8]] w fun e w' => ∃ v3_ v16_ v17_ : Value, e = .returned (.tuple #[.string r1, .agg #[.bool r2, .string r3, v3_, .bool r5, .string r6, .bool r7, .string r8, .bool r9, .string r10, .bool r11, .string r12, .bool r13, .string r14, .bool r15, .string r16, v16_, v17_], .bool r19]) ∧ Kd.R k29 29 w' w.heap.size (fun _ => True) v3_ r4 ∧ Kd.R Kd.string 9 w' w.heap.size (fun k_ => some k_ ≠ (v17_ : Value).ownBlock) v16_ r17 ∧ Kd.R Kd.string 9 w' w.heap.size (fun k_ => some k_ ≠ (v16_ : Value).ownBlock) v17_ r18 ∧ Below w.heap.size w w' := by
 have HZ := za.mk hz
 clear hz
 have hu26 := Tryz.underlying26
 have hu34 := Tryz.underlying34
 have hu32 := Tryz.underlying32
 have HR0_1 := za.mk hr0_1
 have HC0_1 := za.mk hc0_1
 clear hr0_1 hc0_1
 have HR0_8 := za.mk hr0_8
 have HC0_8 := za.mk hc0_8
 clear hr0_8 hc0_8
 have HB := za.mk (Below.refl w.heap.size w)
 have H : (if (l0_1.length : Int) = 0 then (ze.j0 k true a0_0 l0_1 a0_2 a0_3 a0_4 a0_5 a0_6 a0_7 l0_8) else (if (l0_1.length : Int) > 60 then (ze.j0 k true a0_0 l0_1 a0_2 a0_3 a0_4 a0_5 a0_6 a0_7 l0_8) else ((zfc.f k l0_8).bind fun t146 => (ze.j0 k (!t146) a0_0 l0_1 a0_2 a0_3 a0_4 a0_5 a0_6 a0_7 l0_8)))) = some (r1, r2, r3, r4, r5, r6, r7, r8, r9, r10, r11, r12, r13, r14, r15, r16, r17, r18, r19) := h
 clear h
 have HC2 := za.mk H
 clear H
 go_enter Tryz.func15, Tryz.ntmps15
 go_upto_region 1 with (first | ((with_reducible refine zxc (N := 1) rfl ?_); (try (refine zkc (by rfl) ?_; dsimp only)); refine zld ?hg (N := 1) ?hd (cs := #[.int .u16 a0_0, .slice A0_1 l0_1.length c0_1, .int .u8 a0_2, .int .u16 a0_3, .int .u16 a0_4, .int .u16 a0_5, .bool a0_6, .bool a0_7, .slice A0_8 l0_8.length c0_8]) (t := 26) ?hr ?_; (case hd => rfl); (case hg => rfl); (case hr => first | (go_simp; done) | (go_simp; rfl)); intro gb144 hg w3 hbox hb; have BK144 := za.mk hbox; have GW144 := za.mk ((by rw [hg]; exact (zdb (by (with_reducible exact HB.out))) : w.heap.size ≤ gb144)); have GE144 := za.mk ((by rw [hg]; exact (zdb (by (with_reducible exact HB.out))) : w.heap.size ≤ gb144)); replace HB := za.mk (zeb (by (with_reducible exact HB.out)) hb); clear hb hbox hg) | ((with_reducible refine zxc (N := 3) rfl ?_); (try (refine zkc (by rfl) ?_; dsimp only)); refine zld ?hg (N := 3) ?hd (cs := #[.bool false, .string ⟨#[]⟩, .slice none 0 0, .bool false, .string ⟨#[]⟩, .bool false, .string ⟨#[]⟩, .bool false, .string ⟨#[]⟩, .bool false, .string ⟨#[]⟩, .bool false, .string ⟨#[]⟩, .bool false, .string ⟨#[]⟩, .slice none 0 0, .slice none 0 0]) (t := 34) ?hr ?_; (case hd => rfl); (case hg => rfl); (case hr => first | (go_simp; done) | (go_simp; rfl)); intro gb145 hg w4 hbox hb; have n0_ := za.mk (zh BK144.out hb); have n1_ := za.mk (zeb (by (with_reducible exact HB.out)) hb); have n2_ := za.mk hbox; have n3_ := za.mk ((by rw [hg]; exact (zdb (by (with_reducible exact HB.out))) : w.heap.size ≤ gb145)); have n4_ := za.mk ((by rw [hg]; exact (zdb (by (with_reducible exact HB.out))) : w.heap.size ≤ gb145)); have n5_ := za.mk ((by rw [hg]; exact Nat.ne_of_lt (zqe BK144.out) : gb144 ≠ gb145)); have n6_ := za.mk ((by rw [hg]; exact Nat.ne_of_gt (zqe BK144.out) : gb145 ≠ gb144)); clear BK144; clear HB; have BK144 := n0_; have HB := n1_; have BK145 := n2_; have GW145 := n3_; have GE145 := n4_; have NB144_145 := n5_; have NB145_144 := n6_; clear n0_ n1_ n2_ n3_ n4_ n5_ n6_; clear hb hbox hg))
 (try simp only [Act.put, List.setIfInBounds_toArray, List.set_cons_zero, List.set_cons_succ])
 go_cut [27] (fun v27 wc => ∃ (kq : Nat) (x27_1 : Bool), v27 = .bool x27_1 ∧ za (ze.j0 kq x27_1 a0_0 l0_1 a0_2 a0_3 a0_4 a0_5 a0_6 a0_7 l0_8 = some (r1, r2, r3, r4, r5, r6, r7, r8, r9, r10, r11, r12, r13, r14, r15, r16, r17, r18, r19)) ∧ za (kq ≤ k) ∧ za (wc.heap[gb144]? = some (.cells #[.int .u16 a0_0, (.slice A0_1 l0_1.length c0_1), .int .u8 a0_2, .int .u16 a0_3, .int .u16 a0_4, .int .u16 a0_5, .bool a0_6, .bool a0_7, (.slice A0_8 l0_8.length c0_8)] 26 (0, 0))) ∧ za (wc.heap[gb145]? = some (.cells #[.bool false, .string ⟨#[]⟩, (.slice none 0 0), .bool false, .string ⟨#[]⟩, .bool false, .string ⟨#[]⟩, .bool false, .string ⟨#[]⟩, .bool false, .string ⟨#[]⟩, .bool false, .string ⟨#[]⟩, .bool false, .string ⟨#[]⟩, (.slice none 0 0), (.slice none 0 0)] 34 (0, 0))) ∧ za (Below w.heap.size w wc))
 case first =>
  have H := HC2.out
  clear HC2
  by_cases c5 : (l0_1.length : Int) = 0
  ·rw [if_pos c5] at H
   have c5b0 : ((l0_1.length : Int) == 0) = true := beq_iff_eq.mpr c5
   have c5b1 : ((l0_1.length : Int) != 0) = false := bne_eq_false_iff_eq.mpr c5
   clear c5
   (first | rw [c5b0] | (simp only [i64_w, i32_w]; rw [c5b0]) | skip)
   have H' := za.mk H
   clear H
   have hnb6 := NB144_145.out
   have hnc6 := NB145_144.out
   obtain ⟨hcz7_0, hcz7_1, hcz7_2, hcz7_3, hcz7_4, hcz7_5, hcz7_6, hcz7_7, hcz7_8, hfz7_0, hfz7_1, hfz7_2, hfz7_3, hfz7_4, hfz7_5, hfz7_6, hfz7_7, hfz7_8⟩ := cl9 BK144.out
   go_wp2_with (fail)
   go_meet
   case rel => exact ⟨_, (true), (by rfl), H', ⟨by omega⟩, ⟨by exact BK144.out⟩, ⟨by exact BK145.out⟩, ⟨by (with_reducible exact HB.out)⟩⟩
  ·rw [if_neg c5] at H
   have c5b0 : ((l0_1.length : Int) == 0) = false := beq_eq_false_iff_ne.mpr c5
   have c5b1 : ((l0_1.length : Int) != 0) = true := bne_iff_ne.mpr c5
   have c5b2 : ¬ (l0_1 = []) := fun h_ => c5 (by rw [h_]; rfl)
   (first | rw [c5b0] | (simp only [i64_w, i32_w]; rw [c5b0]) | skip)
   by_cases c8 : (l0_1.length : Int) > 60
   ·rw [if_pos c8] at H
    have c8b0 : decide (60 < (l0_1.length : Int)) = true := decide_eq_true c8
    have c8b1 : decide (60 < l0_1.length) = true := decide_eq_true (by omega)
    clear c8
    have H' := za.mk H
    clear H
    have hnb9 := NB144_145.out
    have hnc9 := NB145_144.out
    obtain ⟨hcz10_0, hcz10_1, hcz10_2, hcz10_3, hcz10_4, hcz10_5, hcz10_6, hcz10_7, hcz10_8, hfz10_0, hfz10_1, hfz10_2, hfz10_3, hfz10_4, hfz10_5, hfz10_6, hfz10_7, hfz10_8⟩ := cl9 BK144.out
    go_wp2_with (fail)
    go_meet
    case rel => exact ⟨_, (true), (by rfl), H', ⟨by omega⟩, ⟨by exact BK144.out⟩, ⟨by exact BK145.out⟩, ⟨by (with_reducible exact HB.out)⟩⟩
   ·rw [if_neg c8] at H
    have c8b0 : decide (60 < (l0_1.length : Int)) = false := decide_eq_false c8
    have c8b1 : decide (60 < l0_1.length) = false := decide_eq_false (by omega)
    clear c8
    replace H := Option.bind_eq_some_iff.mp H
    obtain ⟨t146, A110, H⟩ := H
    replace H : (ze.j0 k (!t146) a0_0 l0_1 a0_2 a0_3 a0_4 a0_5 a0_6 a0_7 l0_8) = some (r1, r2, r3, r4, r5, r6, r7, r8, r9, r10, r11, r12, r13, r14, r15, r16, r17, r18, r19) := H
    have A11 := za.mk A110
    clear A110
    have H' := za.mk H
    clear H
    have hnb12 := NB144_145.out
    have hnc12 := NB145_144.out
    obtain ⟨hcz13_0, hcz13_1, hcz13_2, hcz13_3, hcz13_4, hcz13_5, hcz13_6, hcz13_7, hcz13_8, hfz13_0, hfz13_1, hfz13_2, hfz13_3, hfz13_4, hfz13_5, hfz13_6, hfz13_7, hfz13_8⟩ := cl9 BK144.out
    go_wp2_with ((go_at_call 18; (with_reducible refine (zfc.calls k _ _ l0_8 t146 _ ?side1 ?side2 A11.out).mono ?_); (case side1 => repeat (first | exact (Kd.C_below HR0_8.out HB.out) | (with_reducible refine Kd.C_alloc ?_ _) | (with_reducible refine Kd.C_drewN ?_ _) | (with_reducible refine Kd.C_drew ?_))); (case side2 => exact HC0_8.out); rintro e w' ⟨rfl, ⟨nd, rfl⟩⟩))
    go_meet
    case rel => exact ⟨_, (!t146), (by rfl), H', ⟨by omega⟩, ⟨by (with_reducible (refine zw ?_ _)); exact BK144.out⟩, ⟨by (with_reducible (refine zw ?_ _)); exact BK145.out⟩, ⟨by (with_reducible apply zg; with_reducible exact HB.out)⟩⟩
 case rest =>
  clear HC2
  obtain ⟨kq, x27_1, rfl, HA, HJ1, BK144, BK145, HB⟩ := hcut
  cases kq with
  | zero => exact absurd HA.out (by simp [ze.j0])
  | succ kj1 =>
   have H := HA.out
   clear HA
   simp only [ze.j0] at H
   by_cases c14 : x27_1 = true
   ·subst c14
    have H1 : (some ((⟨#[]⟩ : ByteArray), false, (⟨#[]⟩ : ByteArray), ([] : List (S29)), false, (⟨#[]⟩ : ByteArray), false, (⟨#[]⟩ : ByteArray), false, (⟨#[]⟩ : ByteArray), false, (⟨#[]⟩ : ByteArray), false, (⟨#[]⟩ : ByteArray), false, (⟨#[]⟩ : ByteArray), ([] : List ByteArray), ([] : List ByteArray), false)) = some (r1, r2, r3, r4, r5, r6, r7, r8, r9, r10, r11, r12, r13, r14, r15, r16, r17, r18, r19) := by rw [if_pos rfl] at H; exact H
    clear H
    have H := H1
    clear H1
    simp only [Option.some.injEq, Prod.mk.injEq] at H
    obtain ⟨rfl, rfl, rfl, rfl, rfl, rfl, rfl, rfl, rfl, rfl, rfl, rfl, rfl, rfl, rfl, rfl, rfl, rfl, rfl⟩ := H
    have hnb15 := NB145_144.out
    have hnc15 := NB144_145.out
    have hcz16_0 : wc.cell? ⟨gb145, 0, none⟩ = some (.bool false) := (zd BK145.out 0).trans rfl
    have hcz16_1 : wc.cell? ⟨gb145, 1, none⟩ = some (.string ⟨#[]⟩) := (zd BK145.out 1).trans rfl
    have hcz16_2 : wc.cell? ⟨gb145, 2, none⟩ = some (.slice none 0 0) := (zd BK145.out 2).trans rfl
    have hcz16_3 : wc.cell? ⟨gb145, 3, none⟩ = some (.bool false) := (zd BK145.out 3).trans rfl
    have hcz16_4 : wc.cell? ⟨gb145, 4, none⟩ = some (.string ⟨#[]⟩) := (zd BK145.out 4).trans rfl
    have hcz16_5 : wc.cell? ⟨gb145, 5, none⟩ = some (.bool false) := (zd BK145.out 5).trans rfl
    have hcz16_6 : wc.cell? ⟨gb145, 6, none⟩ = some (.string ⟨#[]⟩) := (zd BK145.out 6).trans rfl
    have hcz16_7 : wc.cell? ⟨gb145, 7, none⟩ = some (.bool false) := (zd BK145.out 7).trans rfl
    have hcz16_8 : wc.cell? ⟨gb145, 8, none⟩ = some (.string ⟨#[]⟩) := (zd BK145.out 8).trans rfl
    have hcz16_9 : wc.cell? ⟨gb145, 9, none⟩ = some (.bool false) := (zd BK145.out 9).trans rfl
    have hcz16_10 : wc.cell? ⟨gb145, 10, none⟩ = some (.string ⟨#[]⟩) := (zd BK145.out 10).trans rfl
    have hcz16_11 : wc.cell? ⟨gb145, 11, none⟩ = some (.bool false) := (zd BK145.out 11).trans rfl
    have hcz16_12 : wc.cell? ⟨gb145, 12, none⟩ = some (.string ⟨#[]⟩) := (zd BK145.out 12).trans rfl
    have hcz16_13 : wc.cell? ⟨gb145, 13, none⟩ = some (.bool false) := (zd BK145.out 13).trans rfl
    have hcz16_14 : wc.cell? ⟨gb145, 14, none⟩ = some (.string ⟨#[]⟩) := (zd BK145.out 14).trans rfl
    have hcz16_15 : wc.cell? ⟨gb145, 15, none⟩ = some (.slice none 0 0) := (zd BK145.out 15).trans rfl
    have hcz16_16 : wc.cell? ⟨gb145, 16, none⟩ = some (.slice none 0 0) := (zd BK145.out 16).trans rfl
    have hfz16_0 := zj BK145.out 0
    have hfz16_1 := zj BK145.out 1
    have hfz16_2 := zj BK145.out 2
    have hfz16_3 := zj BK145.out 3
    have hfz16_4 := zj BK145.out 4
    have hfz16_5 := zj BK145.out 5
    have hfz16_6 := zj BK145.out 6
    have hfz16_7 := zj BK145.out 7
    have hfz16_8 := zj BK145.out 8
    have hfz16_9 := zj BK145.out 9
    have hfz16_10 := zj BK145.out 10
    have hfz16_11 := zj BK145.out 11
    have hfz16_12 := zj BK145.out 12
    have hfz16_13 := zj BK145.out 13
    have hfz16_14 := zj BK145.out 14
    have hfz16_15 := zj BK145.out 15
    have hfz16_16 := zj BK145.out 16
    go_wp2_with (((with_reducible refine zfe (t := 34) rfl ?_); refine zwf rfl 34 _ _ rfl _ _ #[_, _, _, _, _, _, _, _, _, _, _, _, _, _, _, _, _] 34 rfl rfl (by first | with_reducible exact BK144.out | with_reducible exact BK145.out | with_reducible exact BK153.out) (by rfl) size34_ rfl ?_; simp only [World.setCells, List.toList_toArray, Nat.zero_add, Nat.reduceAdd]))
    refine bodyPost_ret (zph (rs := [.tmp 2, .cell 3 34, .tmp 4]) rfl (by simp) (.tmp (.cell gb145 34 #[.bool false, .string ⟨#[]⟩, .slice none 0 0, .bool false, .string ⟨#[]⟩, .bool false, .string ⟨#[]⟩, .bool false, .string ⟨#[]⟩, .bool false, .string ⟨#[]⟩, .bool false, .string ⟨#[]⟩, .bool false, .string ⟨#[]⟩, .slice none 0 0, .slice none 0 0] (0, 0) _ rfl (by refine zl (cs := #[.bool false, .string ⟨#[]⟩, .slice none 0 0, .bool false, .string ⟨#[]⟩, .bool false, .string ⟨#[]⟩, .bool false, .string ⟨#[]⟩, .bool false, .string ⟨#[]⟩, .bool false, .string ⟨#[]⟩, .bool false, .string ⟨#[]⟩, .slice none 0 0, .slice none 0 0]) ?_ 16 _ rfl; refine zl (cs := #[.bool false, .string ⟨#[]⟩, .slice none 0 0, .bool false, .string ⟨#[]⟩, .bool false, .string ⟨#[]⟩, .bool false, .string ⟨#[]⟩, .bool false, .string ⟨#[]⟩, .bool false, .string ⟨#[]⟩, .bool false, .string ⟨#[]⟩, .slice none 0 0, .slice none 0 0]) ?_ 15 _ rfl; refine zl (cs := #[.bool false, .string ⟨#[]⟩, .slice none 0 0, .bool false, .string ⟨#[]⟩, .bool false, .string ⟨#[]⟩, .bool false, .string ⟨#[]⟩, .bool false, .string ⟨#[]⟩, .bool false, .string ⟨#[]⟩, .bool false, .string ⟨#[]⟩, .slice none 0 0, .slice none 0 0]) ?_ 14 _ rfl; refine zl (cs := #[.bool false, .string ⟨#[]⟩, .slice none 0 0, .bool false, .string ⟨#[]⟩, .bool false, .string ⟨#[]⟩, .bool false, .string ⟨#[]⟩, .bool false, .string ⟨#[]⟩, .bool false, .string ⟨#[]⟩, .bool false, .string ⟨#[]⟩, .slice none 0 0, .slice none 0 0]) ?_ 13 _ rfl; refine zl (cs := #[.bool false, .string ⟨#[]⟩, .slice none 0 0, .bool false, .string ⟨#[]⟩, .bool false, .string ⟨#[]⟩, .bool false, .string ⟨#[]⟩, .bool false, .string ⟨#[]⟩, .bool false, .string ⟨#[]⟩, .bool false, .string ⟨#[]⟩, .slice none 0 0, .slice none 0 0]) ?_ 12 _ rfl; refine zl (cs := #[.bool false, .string ⟨#[]⟩, .slice none 0 0, .bool false, .string ⟨#[]⟩, .bool false, .string ⟨#[]⟩, .bool false, .string ⟨#[]⟩, .bool false, .string ⟨#[]⟩, .bool false, .string ⟨#[]⟩, .bool false, .string ⟨#[]⟩, .slice none 0 0, .slice none 0 0]) ?_ 11 _ rfl; refine zl (cs := #[.bool false, .string ⟨#[]⟩, .slice none 0 0, .bool false, .string ⟨#[]⟩, .bool false, .string ⟨#[]⟩, .bool false, .string ⟨#[]⟩, .bool false, .string ⟨#[]⟩, .bool false, .string ⟨#[]⟩, .bool false, .string ⟨#[]⟩, .slice none 0 0, .slice none 0 0]) ?_ 10 _ rfl; refine zl (cs := #[.bool false, .string ⟨#[]⟩, .slice none 0 0, .bool false, .string ⟨#[]⟩, .bool false, .string ⟨#[]⟩, .bool false, .string ⟨#[]⟩, .bool false, .string ⟨#[]⟩, .bool false, .string ⟨#[]⟩, .bool false, .string ⟨#[]⟩, .slice none 0 0, .slice none 0 0]) ?_ 9 _ rfl; refine zl (cs := #[.bool false, .string ⟨#[]⟩, .slice none 0 0, .bool false, .string ⟨#[]⟩, .bool false, .string ⟨#[]⟩, .bool false, .string ⟨#[]⟩, .bool false, .string ⟨#[]⟩, .bool false, .string ⟨#[]⟩, .bool false, .string ⟨#[]⟩, .slice none 0 0, .slice none 0 0]) ?_ 8 _ rfl; refine zl (cs := #[.bool false, .string ⟨#[]⟩, .slice none 0 0, .bool false, .string ⟨#[]⟩, .bool false, .string ⟨#[]⟩, .bool false, .string ⟨#[]⟩, .bool false, .string ⟨#[]⟩, .bool false, .string ⟨#[]⟩, .bool false, .string ⟨#[]⟩, .slice none 0 0, .slice none 0 0]) ?_ 7 _ rfl; refine zl (cs := #[.bool false, .string ⟨#[]⟩, .slice none 0 0, .bool false, .string ⟨#[]⟩, .bool false, .string ⟨#[]⟩, .bool false, .string ⟨#[]⟩, .bool false, .string ⟨#[]⟩, .bool false, .string ⟨#[]⟩, .bool false, .string ⟨#[]⟩, .slice none 0 0, .slice none 0 0]) ?_ 6 _ rfl; refine zl (cs := #[.bool false, .string ⟨#[]⟩, .slice none 0 0, .bool false, .string ⟨#[]⟩, .bool false, .string ⟨#[]⟩, .bool false, .string ⟨#[]⟩, .bool false, .string ⟨#[]⟩, .bool false, .string ⟨#[]⟩, .bool false, .string ⟨#[]⟩, .slice none 0 0, .slice none 0 0]) ?_ 5 _ rfl; refine zl (cs := #[.bool false, .string ⟨#[]⟩, .slice none 0 0, .bool false, .string ⟨#[]⟩, .bool false, .string ⟨#[]⟩, .bool false, .string ⟨#[]⟩, .bool false, .string ⟨#[]⟩, .bool false, .string ⟨#[]⟩, .bool false, .string ⟨#[]⟩, .slice none 0 0, .slice none 0 0]) ?_ 4 _ rfl; refine zl (cs := #[.bool false, .string ⟨#[]⟩, .slice none 0 0, .bool false, .string ⟨#[]⟩, .bool false, .string ⟨#[]⟩, .bool false, .string ⟨#[]⟩, .bool false, .string ⟨#[]⟩, .bool false, .string ⟨#[]⟩, .bool false, .string ⟨#[]⟩, .slice none 0 0, .slice none 0 0]) ?_ 3 _ rfl; refine zl (cs := #[.bool false, .string ⟨#[]⟩, .slice none 0 0, .bool false, .string ⟨#[]⟩, .bool false, .string ⟨#[]⟩, .bool false, .string ⟨#[]⟩, .bool false, .string ⟨#[]⟩, .bool false, .string ⟨#[]⟩, .bool false, .string ⟨#[]⟩, .slice none 0 0, .slice none 0 0]) ?_ 2 _ rfl; refine zl (cs := #[.bool false, .string ⟨#[]⟩, .slice none 0 0, .bool false, .string ⟨#[]⟩, .bool false, .string ⟨#[]⟩, .bool false, .string ⟨#[]⟩, .bool false, .string ⟨#[]⟩, .bool false, .string ⟨#[]⟩, .bool false, .string ⟨#[]⟩, .slice none 0 0, .slice none 0 0]) ?_ 1 _ rfl; refine zl (cs := #[.bool false, .string ⟨#[]⟩, .slice none 0 0, .bool false, .string ⟨#[]⟩, .bool false, .string ⟨#[]⟩, .bool false, .string ⟨#[]⟩, .bool false, .string ⟨#[]⟩, .bool false, .string ⟨#[]⟩, .bool false, .string ⟨#[]⟩, .slice none 0 0, .slice none 0 0]) ?_ 0 _ rfl; exact BK145.out) Tryz.underlying34 rfl (by kernel_rfl) (.tmp .nil)))) rfl ?_
    exact ⟨_, _, _, by rfl, by exact Kd.R_nil _ _ _ _ _, by exact Kd.R_nil _ _ _ _ _, by exact Kd.R_nil _ _ _ _ _, by repeat (first | (with_reducible first | exact HB.out | apply zm | apply zg | apply zu | refine zbb ?_ GE144.out | refine zbb ?_ GE145.out) | exact HB.out)⟩
   ·replace c14 := Bool.eq_false_iff.mpr c14
    subst c14
    have H1 : ((zab.f kj1 a0_0).bind fun t147 => ((ztb.f kj1 t147).bind fun bt148 => ((some (([(⟨#[]⟩ : ByteArray)] : List ByteArray) : List ByteArray)).bind fun y150 => (if a0_0 > 0 then ((zab.f kj1 a0_0).bind fun t154 => (if t154.size + 1 ≤ 9223372036854775807 then (ze.j1 kj1 (t154 ++ (⟨#[33]⟩ : ByteArray)) a0_0 l0_1 a0_2 a0_3 a0_4 a0_5 a0_6 a0_7 l0_8 bt148.1 bt148.2 false (⟨#[]⟩ : ByteArray) false (⟨#[]⟩ : ByteArray) false (⟨#[]⟩ : ByteArray) false (⟨#[]⟩ : ByteArray) false (⟨#[]⟩ : ByteArray) false (⟨#[]⟩ : ByteArray) y150) else (none))) else (ze.j1 kj1 (⟨#[]⟩ : ByteArray) a0_0 l0_1 a0_2 a0_3 a0_4 a0_5 a0_6 a0_7 l0_8 bt148.1 bt148.2 false (⟨#[]⟩ : ByteArray) false (⟨#[]⟩ : ByteArray) false (⟨#[]⟩ : ByteArray) false (⟨#[]⟩ : ByteArray) false (⟨#[]⟩ : ByteArray) false (⟨#[]⟩ : ByteArray) y150))))) = some (r1, r2, r3, r4, r5, r6, r7, r8, r9, r10, r11, r12, r13, r14, r15, r16, r17, r18, r19) := by rw [if_neg (show ¬ (false = true) by decide)] at H; exact H
    clear H
    have H := H1
    clear H1
    replace H := Option.bind_eq_some_iff.mp H
    obtain ⟨t147, A170, H⟩ := H
    replace H : ((ztb.f kj1 t147).bind fun bt148 => ((some (([(⟨#[]⟩ : ByteArray)] : List ByteArray) : List ByteArray)).bind fun y150 => (if a0_0 > 0 then ((zab.f kj1 a0_0).bind fun t154 => (if t154.size + 1 ≤ 9223372036854775807 then (ze.j1 kj1 (t154 ++ (⟨#[33]⟩ : ByteArray)) a0_0 l0_1 a0_2 a0_3 a0_4 a0_5 a0_6 a0_7 l0_8 bt148.1 bt148.2 false (⟨#[]⟩ : ByteArray) false (⟨#[]⟩ : ByteArray) false (⟨#[]⟩ : ByteArray) false (⟨#[]⟩ : ByteArray) false (⟨#[]⟩ : ByteArray) false (⟨#[]⟩ : ByteArray) y150) else (none))) else (ze.j1 kj1 (⟨#[]⟩ : ByteArray) a0_0 l0_1 a0_2 a0_3 a0_4 a0_5 a0_6 a0_7 l0_8 bt148.1 bt148.2 false (⟨#[]⟩ : ByteArray) false (⟨#[]⟩ : ByteArray) false (⟨#[]⟩ : ByteArray) false (⟨#[]⟩ : ByteArray) false (⟨#[]⟩ : ByteArray) false (⟨#[]⟩ : ByteArray) y150)))) = some (r1, r2, r3, r4, r5, r6, r7, r8, r9, r10, r11, r12, r13, r14, r15, r16, r17, r18, r19) := H
    have A17 := za.mk A170
    clear A170
    replace H := Option.bind_eq_some_iff.mp H
    obtain ⟨⟨t148, t149⟩, A180, H⟩ := H
    replace H : ((some (([(⟨#[]⟩ : ByteArray)] : List ByteArray) : List ByteArray)).bind fun y150 => (if a0_0 > 0 then ((zab.f kj1 a0_0).bind fun t154 => (if t154.size + 1 ≤ 9223372036854775807 then (ze.j1 kj1 (t154 ++ (⟨#[33]⟩ : ByteArray)) a0_0 l0_1 a0_2 a0_3 a0_4 a0_5 a0_6 a0_7 l0_8 t148 t149 false (⟨#[]⟩ : ByteArray) false (⟨#[]⟩ : ByteArray) false (⟨#[]⟩ : ByteArray) false (⟨#[]⟩ : ByteArray) false (⟨#[]⟩ : ByteArray) false (⟨#[]⟩ : ByteArray) y150) else (none))) else (ze.j1 kj1 (⟨#[]⟩ : ByteArray) a0_0 l0_1 a0_2 a0_3 a0_4 a0_5 a0_6 a0_7 l0_8 t148 t149 false (⟨#[]⟩ : ByteArray) false (⟨#[]⟩ : ByteArray) false (⟨#[]⟩ : ByteArray) false (⟨#[]⟩ : ByteArray) false (⟨#[]⟩ : ByteArray) false (⟨#[]⟩ : ByteArray) y150))) = some (r1, r2, r3, r4, r5, r6, r7, r8, r9, r10, r11, r12, r13, r14, r15, r16, r17, r18, r19) := H
    have A18 := za.mk A180
    clear A180
    obtain ⟨y150, hy150⟩ : ∃ y_ : List ByteArray, y_ = (([(⟨#[]⟩ : ByteArray)] : List ByteArray)) := ⟨_, rfl⟩
    replace H : (if a0_0 > 0 then ((zab.f kj1 a0_0).bind fun t154 => (if t154.size + 1 ≤ 9223372036854775807 then (ze.j1 kj1 (t154 ++ (⟨#[33]⟩ : ByteArray)) a0_0 l0_1 a0_2 a0_3 a0_4 a0_5 a0_6 a0_7 l0_8 t148 t149 false (⟨#[]⟩ : ByteArray) false (⟨#[]⟩ : ByteArray) false (⟨#[]⟩ : ByteArray) false (⟨#[]⟩ : ByteArray) false (⟨#[]⟩ : ByteArray) false (⟨#[]⟩ : ByteArray) y150) else (none))) else (ze.j1 kj1 (⟨#[]⟩ : ByteArray) a0_0 l0_1 a0_2 a0_3 a0_4 a0_5 a0_6 a0_7 l0_8 t148 t149 false (⟨#[]⟩ : ByteArray) false (⟨#[]⟩ : ByteArray) false (⟨#[]⟩ : ByteArray) false (⟨#[]⟩ : ByteArray) false (⟨#[]⟩ : ByteArray) false (⟨#[]⟩ : ByteArray) y150)) = some (r1, r2, r3, r4, r5, r6, r7, r8, r9, r10, r11, r12, r13, r14, r15, r16, r17, r18, r19) := by (have H2_ := (Option.bind_some _ _).symm.trans H; rw [hy150]; with_reducible exact H2_)
    have Ny150 := za.mk hy150
    clear hy150
    have HC19 := za.mk H
    clear H
    have hnb20 := NB144_145.out
    have hnc20 := NB145_144.out
    obtain ⟨hcz21_0, hcz21_1, hcz21_2, hcz21_3, hcz21_4, hcz21_5, hcz21_6, hcz21_7, hcz21_8, hfz21_0, hfz21_1, hfz21_2, hfz21_3, hfz21_4, hfz21_5, hfz21_6, hfz21_7, hfz21_8⟩ := cl9 BK144.out
    go_upto_if 37 with (first | ((with_reducible refine zcb (f := 21) rfl ?_); refine zxb (some 31) rfl rfl Tryz.func21 (by kernel_rfl) rfl #[.int .u16 a0_0] rfl (by (try simp only [List.map_toArray, List.map_cons, List.map_nil]); first | done | rfl | (simp only [List.length_drop, List.length_take]; rfl)) ?_; (with_reducible refine (zab.calls kj1 a0_0 t147 _ A17.out).mono ?_); rintro e w' ⟨rfl, ⟨nd, rfl⟩⟩; refine ⟨_, rfl, ?_⟩; (try (rw [zjc wc]; generalize hq_ : World.drewN wc _ = wc; have n0_ : za (wc.heap[gb144]? = some (.cells #[.int .u16 a0_0, .slice A0_1 l0_1.length c0_1, .int .u8 a0_2, .int .u16 a0_3, .int .u16 a0_4, .int .u16 a0_5, .bool a0_6, .bool a0_7, .slice A0_8 l0_8.length c0_8] 26 (0, 0))) := ⟨by rw [← hq_]; exact (by (with_reducible (refine zw ?_ _)); exact BK144.out)⟩; have n1_ : za (wc.heap[gb145]? = some (.cells #[.bool false, .string ⟨#[]⟩, .slice none 0 0, .bool false, .string ⟨#[]⟩, .bool false, .string ⟨#[]⟩, .bool false, .string ⟨#[]⟩, .bool false, .string ⟨#[]⟩, .bool false, .string ⟨#[]⟩, .bool false, .string ⟨#[]⟩, .slice none 0 0, .slice none 0 0] 34 (0, 0))) := ⟨by rw [← hq_]; exact (by (with_reducible (refine zw ?_ _)); exact BK145.out)⟩; have n2_ : za (Below w.heap.size w wc) := ⟨by rw [← hq_]; exact (by (with_reducible apply zg; with_reducible exact HB.out))⟩; clear BK144 BK145 HB hq_; have BK144 := n0_; have BK145 := n1_; have HB := n2_; clear n0_ n1_ n2_))) | ((with_reducible refine zcb (f := 36) rfl ?_); refine zxb (some 32) rfl rfl Tryz.func36 (by kernel_rfl) rfl #[.string t147] rfl (by (try simp only [List.map_toArray, List.map_cons, List.map_nil]); first | done | rfl | (simp only [List.length_drop, List.length_take]; rfl)) ?_; (with_reducible refine (ztb.calls kj1 t147 t148 t149 _ A18.out).mono ?_); rintro e w22 ⟨rfl, hb⟩; refine ⟨_, rfl, ?_⟩; replace BK144 := za.mk (zh BK144.out hb); replace BK145 := za.mk (zh BK145.out hb); replace HB := za.mk (zeb (by (with_reducible exact HB.out)) hb); (try clear hb); (try clear hb2); (try clear hk); (try clear hi)) | ((with_reducible refine zxc (N := 33) rfl ?_); (try (refine zkc (by rfl) ?_; dsimp only)); refine Kd.R_lit Kd.string _ 9 ?hg (N := 33) ?hd (xs := ([(⟨#[]⟩ : ByteArray)] : List ByteArray)) (inner := [.string ⟨#[]⟩]) (ok := fun _ => True) (okp := fun _ => True) ?hr ?hp (fun _ hk => hk) trivial (Below.refl _ _) (Nat.le_refl _) (by simp) ?_; (case hd => rfl); (case hg => rfl); (case hr => first | (go_simp; done) | (go_simp; rfl)); (case hp => exact (Reps.one (show Kd.M Kd.string _ _ _ (⟨#[]⟩ : ByteArray) [.string ⟨#[]⟩] from rfl) (Reps.none _ _))); intro v151 w23 ho24 hb hg_ hnew_; clear hg_ hnew_; (first | rw [← Ny150.out] at ho24 | (simp only [Int.reduceToNat] at ho24; rw [← Ny150.out] at ho24)); have HO152 := za.mk (Kd.R_lower ho24 (zdb (by (with_reducible exact HB.out)))); replace BK144 := za.mk (zh BK144.out hb); replace BK145 := za.mk (zh BK145.out hb); replace HB := za.mk (zeb (by (with_reducible exact HB.out)) hb); clear hb ho24; obtain ⟨Ao25, co25, eo25⟩ := Kd.R_slice HO152.out; subst eo25) | ((with_reducible refine zxc (N := 5) rfl ?_); (try (refine zkc (by rfl) ?_; dsimp only)); refine zld ?hg (N := 5) ?hd (cs := #[.bool false, .string ⟨#[]⟩, .slice none 0 0, .bool false, .string ⟨#[]⟩, .bool false, .string ⟨#[]⟩, .bool false, .string ⟨#[]⟩, .bool false, .string ⟨#[]⟩, .bool false, .string ⟨#[]⟩, .bool false, .string ⟨#[]⟩, .slice none 0 0, .slice none 0 0]) (t := 34) ?hr ?_; (case hd => rfl); (case hg => rfl); (case hr => first | (go_simp; done) | (go_simp; rfl)); intro gb153 hg w26 hbox hb; have n0_ := za.mk (Kd.R_below (by (with_reducible repeat (first | apply Kd.R_alloc | apply Kd.R_drewN | apply Kd.R_drew)); exact HO152.out) hb); have n1_ := za.mk (zh BK144.out hb); have n2_ := za.mk (zh BK145.out hb); have n3_ := za.mk (zeb (by (with_reducible exact HB.out)) hb); have n4_ := za.mk hbox; have n5_ := za.mk ((by rw [hg]; exact (zdb (by (with_reducible exact HB.out))) : w.heap.size ≤ gb153)); have n6_ := za.mk ((by rw [hg]; exact (zdb (by (with_reducible exact HB.out))) : w.heap.size ≤ gb153)); have n7_ := za.mk ((by rw [hg]; exact Nat.ne_of_lt (zqe BK144.out) : gb144 ≠ gb153)); have n8_ := za.mk ((by rw [hg]; exact Nat.ne_of_gt (zqe BK144.out) : gb153 ≠ gb144)); have n9_ := za.mk ((by rw [hg]; exact Nat.ne_of_lt (zqe BK145.out) : gb145 ≠ gb153)); have n10_ := za.mk ((by rw [hg]; exact Nat.ne_of_gt (zqe BK145.out) : gb153 ≠ gb145)); clear HO152; clear BK144; clear BK145; clear HB; have HO152 := n0_; have BK144 := n1_; have BK145 := n2_; have HB := n3_; have BK153 := n4_; have GW153 := n5_; have GE153 := n6_; have NB144_153 := n7_; have NB153_144 := n8_; have NB145_153 := n9_; have NB153_145 := n10_; clear n0_ n1_ n2_ n3_ n4_ n5_ n6_ n7_ n8_ n9_ n10_; clear hb hbox hg; have hnb27 := NB153_144.out; have hnc27 := NB144_153.out; have hnb28 := NB153_145.out; have hnc28 := NB145_153.out; have hcz29_0 : w26.cell? ⟨gb153, 0, none⟩ = some (.bool false) := (zd BK153.out 0).trans rfl; have hcz29_1 : w26.cell? ⟨gb153, 1, none⟩ = some (.string ⟨#[]⟩) := (zd BK153.out 1).trans rfl; have hcz29_2 : w26.cell? ⟨gb153, 2, none⟩ = some (.slice none 0 0) := (zd BK153.out 2).trans rfl; have hcz29_3 : w26.cell? ⟨gb153, 3, none⟩ = some (.bool false) := (zd BK153.out 3).trans rfl; have hcz29_4 : w26.cell? ⟨gb153, 4, none⟩ = some (.string ⟨#[]⟩) := (zd BK153.out 4).trans rfl; have hcz29_5 : w26.cell? ⟨gb153, 5, none⟩ = some (.bool false) := (zd BK153.out 5).trans rfl; have hcz29_6 : w26.cell? ⟨gb153, 6, none⟩ = some (.string ⟨#[]⟩) := (zd BK153.out 6).trans rfl; have hcz29_7 : w26.cell? ⟨gb153, 7, none⟩ = some (.bool false) := (zd BK153.out 7).trans rfl; have hcz29_8 : w26.cell? ⟨gb153, 8, none⟩ = some (.string ⟨#[]⟩) := (zd BK153.out 8).trans rfl; have hcz29_9 : w26.cell? ⟨gb153, 9, none⟩ = some (.bool false) := (zd BK153.out 9).trans rfl; have hcz29_10 : w26.cell? ⟨gb153, 10, none⟩ = some (.string ⟨#[]⟩) := (zd BK153.out 10).trans rfl; have hcz29_11 : w26.cell? ⟨gb153, 11, none⟩ = some (.bool false) := (zd BK153.out 11).trans rfl; have hcz29_12 : w26.cell? ⟨gb153, 12, none⟩ = some (.string ⟨#[]⟩) := (zd BK153.out 12).trans rfl; have hcz29_13 : w26.cell? ⟨gb153, 13, none⟩ = some (.bool false) := (zd BK153.out 13).trans rfl; have hcz29_14 : w26.cell? ⟨gb153, 14, none⟩ = some (.string ⟨#[]⟩) := (zd BK153.out 14).trans rfl; have hcz29_15 : w26.cell? ⟨gb153, 15, none⟩ = some (.slice none 0 0) := (zd BK153.out 15).trans rfl; have hcz29_16 : w26.cell? ⟨gb153, 16, none⟩ = some (.slice none 0 0) := (zd BK153.out 16).trans rfl; have hfz29_0 := zj BK153.out 0; have hfz29_1 := zj BK153.out 1; have hfz29_2 := zj BK153.out 2; have hfz29_3 := zj BK153.out 3; have hfz29_4 := zj BK153.out 4; have hfz29_5 := zj BK153.out 5; have hfz29_6 := zj BK153.out 6; have hfz29_7 := zj BK153.out 7; have hfz29_8 := zj BK153.out 8; have hfz29_9 := zj BK153.out 9; have hfz29_10 := zj BK153.out 10; have hfz29_11 := zj BK153.out 11; have hfz29_12 := zj BK153.out 12; have hfz29_13 := zj BK153.out 13; have hfz29_14 := zj BK153.out 14; have hfz29_15 := zj BK153.out 15; have hfz29_16 := zj BK153.out 16; obtain ⟨hcz30_0, hcz30_1, hcz30_2, hcz30_3, hcz30_4, hcz30_5, hcz30_6, hcz30_7, hcz30_8, hfz30_0, hfz30_1, hfz30_2, hfz30_3, hfz30_4, hfz30_5, hfz30_6, hfz30_7, hfz30_8⟩ := cl9 BK144.out) | ((with_reducible refine zfe (t := 34) rfl ?_); refine zwf rfl 34 _ _ rfl _ _ #[_, _, _, _, _, _, _, _, _, _, _, _, _, _, _, _, _] 34 rfl rfl (by first | with_reducible exact BK144.out | with_reducible exact BK145.out | with_reducible exact BK153.out) (by rfl) size34_ rfl ?_; simp only [World.setCells, List.toList_toArray, Nat.zero_add, Nat.reduceAdd]))
    (try simp only [Act.put, List.setIfInBounds_toArray, List.set_cons_zero, List.set_cons_succ])
    go_cut [6, 37] (fun v6 v37 wc => ∃ (kq : Nat) (x6_18 : ByteArray), v6 = .string x6_18 ∧ za (ze.j1 kq x6_18 a0_0 l0_1 a0_2 a0_3 a0_4 a0_5 a0_6 a0_7 l0_8 t148 t149 false (⟨#[]⟩ : ByteArray) false (⟨#[]⟩ : ByteArray) false (⟨#[]⟩ : ByteArray) false (⟨#[]⟩ : ByteArray) false (⟨#[]⟩ : ByteArray) false (⟨#[]⟩ : ByteArray) y150 = some (r1, r2, r3, r4, r5, r6, r7, r8, r9, r10, r11, r12, r13, r14, r15, r16, r17, r18, r19)) ∧ za (kq ≤ kj1) ∧ za (Kd.R Kd.string 9 wc w.heap.size (fun _ => True) (.slice Ao25 y150.length co25) y150) ∧ za (wc.heap[gb144]? = some (.cells #[.int .u16 a0_0, (.slice A0_1 l0_1.length c0_1), .int .u8 a0_2, .int .u16 a0_3, .int .u16 a0_4, .int .u16 a0_5, .bool a0_6, .bool a0_7, (.slice A0_8 l0_8.length c0_8)] 26 (0, 0))) ∧ za (wc.heap[gb145]? = some (.cells #[.bool false, .string ⟨#[]⟩, (.slice none 0 0), .bool false, .string ⟨#[]⟩, .bool false, .string ⟨#[]⟩, .bool false, .string ⟨#[]⟩, .bool false, .string ⟨#[]⟩, .bool false, .string ⟨#[]⟩, .bool false, .string ⟨#[]⟩, (.slice none 0 0), (.slice none 0 0)] 34 (0, 0))) ∧ za (wc.heap[gb153]? = some (.cells #[.bool t148, .string t149, (.slice none 0 0), .bool false, .string ⟨#[]⟩, .bool false, .string ⟨#[]⟩, .bool false, .string ⟨#[]⟩, .bool false, .string ⟨#[]⟩, .bool false, .string ⟨#[]⟩, .bool false, .string ⟨#[]⟩, (.slice Ao25 y150.length co25), (.slice none 0 0)] 34 (0, 0))) ∧ za (Below w.heap.size w wc))
    case first =>
     have H := HC19.out
     clear HC19
     by_cases c31 : a0_0 > 0
     ·exact absurd c31 (by rw [HZ.out.1]; decide)
     ·rw [if_neg c31] at H
      have c31b0 : decide (0 < a0_0) = false := decide_eq_false c31
      clear c31
      (first | rw [c31b0] | (simp only [i64_w, i32_w]; rw [c31b0]) | skip)
      have H' := za.mk H
      clear H
      go_wp2_with (fail)
      go_meet
      case rel => exact ⟨_, ((⟨#[]⟩ : ByteArray)), (by rfl), (by exact H'), ⟨by have := HJ1.out; first | omega | exact Nat.le_refl _⟩, ⟨by (with_reducible repeat (first | apply Kd.R_alloc | apply Kd.R_drewN | apply Kd.R_drew)); exact Kd.R_mono (farC12 (farC5 (Kd.R_types HO152.out BK153.out (by decide)))) (fun _ hk => trivial)⟩, ⟨by (iterate 17 refine zcc ?_ NB144_153.out _); exact BK144.out⟩, ⟨by (iterate 17 refine zcc ?_ NB145_153.out _); exact BK145.out⟩, ⟨by refine zl (cs := #[.bool t148, .string t149, .slice none 0 0, .bool false, .string ⟨#[]⟩, .bool false, .string ⟨#[]⟩, .bool false, .string ⟨#[]⟩, .bool false, .string ⟨#[]⟩, .bool false, .string ⟨#[]⟩, .bool false, .string ⟨#[]⟩, .slice Ao25 y150.length co25, .slice none 0 0]) ?_ 16 _ rfl; refine zl (cs := #[.bool t148, .string t149, .slice none 0 0, .bool false, .string ⟨#[]⟩, .bool false, .string ⟨#[]⟩, .bool false, .string ⟨#[]⟩, .bool false, .string ⟨#[]⟩, .bool false, .string ⟨#[]⟩, .bool false, .string ⟨#[]⟩, .slice none 0 0, .slice none 0 0]) ?_ 15 _ rfl; refine zl (cs := #[.bool t148, .string t149, .slice none 0 0, .bool false, .string ⟨#[]⟩, .bool false, .string ⟨#[]⟩, .bool false, .string ⟨#[]⟩, .bool false, .string ⟨#[]⟩, .bool false, .string ⟨#[]⟩, .bool false, .string ⟨#[]⟩, .slice none 0 0, .slice none 0 0]) ?_ 14 _ rfl; refine zl (cs := #[.bool t148, .string t149, .slice none 0 0, .bool false, .string ⟨#[]⟩, .bool false, .string ⟨#[]⟩, .bool false, .string ⟨#[]⟩, .bool false, .string ⟨#[]⟩, .bool false, .string ⟨#[]⟩, .bool false, .string ⟨#[]⟩, .slice none 0 0, .slice none 0 0]) ?_ 13 _ rfl; refine zl (cs := #[.bool t148, .string t149, .slice none 0 0, .bool false, .string ⟨#[]⟩, .bool false, .string ⟨#[]⟩, .bool false, .string ⟨#[]⟩, .bool false, .string ⟨#[]⟩, .bool false, .string ⟨#[]⟩, .bool false, .string ⟨#[]⟩, .slice none 0 0, .slice none 0 0]) ?_ 12 _ rfl; refine zl (cs := #[.bool t148, .string t149, .slice none 0 0, .bool false, .string ⟨#[]⟩, .bool false, .string ⟨#[]⟩, .bool false, .string ⟨#[]⟩, .bool false, .string ⟨#[]⟩, .bool false, .string ⟨#[]⟩, .bool false, .string ⟨#[]⟩, .slice none 0 0, .slice none 0 0]) ?_ 11 _ rfl; refine zl (cs := #[.bool t148, .string t149, .slice none 0 0, .bool false, .string ⟨#[]⟩, .bool false, .string ⟨#[]⟩, .bool false, .string ⟨#[]⟩, .bool false, .string ⟨#[]⟩, .bool false, .string ⟨#[]⟩, .bool false, .string ⟨#[]⟩, .slice none 0 0, .slice none 0 0]) ?_ 10 _ rfl; refine zl (cs := #[.bool t148, .string t149, .slice none 0 0, .bool false, .string ⟨#[]⟩, .bool false, .string ⟨#[]⟩, .bool false, .string ⟨#[]⟩, .bool false, .string ⟨#[]⟩, .bool false, .string ⟨#[]⟩, .bool false, .string ⟨#[]⟩, .slice none 0 0, .slice none 0 0]) ?_ 9 _ rfl; refine zl (cs := #[.bool t148, .string t149, .slice none 0 0, .bool false, .string ⟨#[]⟩, .bool false, .string ⟨#[]⟩, .bool false, .string ⟨#[]⟩, .bool false, .string ⟨#[]⟩, .bool false, .string ⟨#[]⟩, .bool false, .string ⟨#[]⟩, .slice none 0 0, .slice none 0 0]) ?_ 8 _ rfl; refine zl (cs := #[.bool t148, .string t149, .slice none 0 0, .bool false, .string ⟨#[]⟩, .bool false, .string ⟨#[]⟩, .bool false, .string ⟨#[]⟩, .bool false, .string ⟨#[]⟩, .bool false, .string ⟨#[]⟩, .bool false, .string ⟨#[]⟩, .slice none 0 0, .slice none 0 0]) ?_ 7 _ rfl; refine zl (cs := #[.bool t148, .string t149, .slice none 0 0, .bool false, .string ⟨#[]⟩, .bool false, .string ⟨#[]⟩, .bool false, .string ⟨#[]⟩, .bool false, .string ⟨#[]⟩, .bool false, .string ⟨#[]⟩, .bool false, .string ⟨#[]⟩, .slice none 0 0, .slice none 0 0]) ?_ 6 _ rfl; refine zl (cs := #[.bool t148, .string t149, .slice none 0 0, .bool false, .string ⟨#[]⟩, .bool false, .string ⟨#[]⟩, .bool false, .string ⟨#[]⟩, .bool false, .string ⟨#[]⟩, .bool false, .string ⟨#[]⟩, .bool false, .string ⟨#[]⟩, .slice none 0 0, .slice none 0 0]) ?_ 5 _ rfl; refine zl (cs := #[.bool t148, .string t149, .slice none 0 0, .bool false, .string ⟨#[]⟩, .bool false, .string ⟨#[]⟩, .bool false, .string ⟨#[]⟩, .bool false, .string ⟨#[]⟩, .bool false, .string ⟨#[]⟩, .bool false, .string ⟨#[]⟩, .slice none 0 0, .slice none 0 0]) ?_ 4 _ rfl; refine zl (cs := #[.bool t148, .string t149, .slice none 0 0, .bool false, .string ⟨#[]⟩, .bool false, .string ⟨#[]⟩, .bool false, .string ⟨#[]⟩, .bool false, .string ⟨#[]⟩, .bool false, .string ⟨#[]⟩, .bool false, .string ⟨#[]⟩, .slice none 0 0, .slice none 0 0]) ?_ 3 _ rfl; refine zl (cs := #[.bool t148, .string t149, .slice none 0 0, .bool false, .string ⟨#[]⟩, .bool false, .string ⟨#[]⟩, .bool false, .string ⟨#[]⟩, .bool false, .string ⟨#[]⟩, .bool false, .string ⟨#[]⟩, .bool false, .string ⟨#[]⟩, .slice none 0 0, .slice none 0 0]) ?_ 2 _ rfl; refine zl (cs := #[.bool t148, .string ⟨#[]⟩, .slice none 0 0, .bool false, .string ⟨#[]⟩, .bool false, .string ⟨#[]⟩, .bool false, .string ⟨#[]⟩, .bool false, .string ⟨#[]⟩, .bool false, .string ⟨#[]⟩, .bool false, .string ⟨#[]⟩, .slice none 0 0, .slice none 0 0]) ?_ 1 _ rfl; refine zl (cs := #[.bool false, .string ⟨#[]⟩, .slice none 0 0, .bool false, .string ⟨#[]⟩, .bool false, .string ⟨#[]⟩, .bool false, .string ⟨#[]⟩, .bool false, .string ⟨#[]⟩, .bool false, .string ⟨#[]⟩, .bool false, .string ⟨#[]⟩, .slice none 0 0, .slice none 0 0]) ?_ 0 _ rfl; exact BK153.out⟩, ⟨by repeat (first | (with_reducible first | exact HB.out | apply zm | apply zg | apply zu | refine zbb ?_ GE144.out | refine zbb ?_ GE145.out | refine zbb ?_ GE153.out) | exact HB.out)⟩⟩
    case rest =>
     clear HC19
     clear hcz21_0 hcz21_1 hcz21_2 hcz21_3 hcz21_4 hcz21_5 hcz21_6 hcz21_7 hcz21_8 hcz29_0 hcz29_1 hcz29_10 hcz29_11 hcz29_12 hcz29_13 hcz29_14 hcz29_15 hcz29_16 hcz29_2 hcz29_3 hcz29_4 hcz29_5 hcz29_6 hcz29_7 hcz29_8 hcz29_9 hcz30_0 hcz30_1 hcz30_2 hcz30_3 hcz30_4 hcz30_5 hcz30_6 hcz30_7 hcz30_8 hfz21_0 hfz21_1 hfz21_2 hfz21_3 hfz21_4 hfz21_5 hfz21_6 hfz21_7 hfz21_8 hfz29_0 hfz29_1 hfz29_10 hfz29_11 hfz29_12 hfz29_13 hfz29_14 hfz29_15 hfz29_16 hfz29_2 hfz29_3 hfz29_4 hfz29_5 hfz29_6 hfz29_7 hfz29_8 hfz29_9 hfz30_0 hfz30_1 hfz30_2 hfz30_3 hfz30_4 hfz30_5 hfz30_6 hfz30_7 hfz30_8
     obtain ⟨kq, x6_18, rfl, HA, HJ18, HO_154015, BK144, BK145, BK153, HB⟩ := hcut
     cases kq with
     | zero => exact absurd HA.out (by simp [ze.j1])
     | succ kj18 =>
      have H := HA.out
      clear HA
      simp only [ze.j1] at H
      have H' := za.mk H
      clear H
      have hnb37 := NB144_145.out
      have hnc37 := NB145_144.out
      have hnb38 := NB144_153.out
      have hnc38 := NB153_144.out
      obtain ⟨hcz39_0, hcz39_1, hcz39_2, hcz39_3, hcz39_4, hcz39_5, hcz39_6, hcz39_7, hcz39_8, hfz39_0, hfz39_1, hfz39_2, hfz39_3, hfz39_4, hfz39_5, hfz39_6, hfz39_7, hfz39_8⟩ := cl9 BK144.out
      go_wp2_with (fail)
      (try simp only [Act.put, List.setIfInBounds_toArray, List.set_cons_zero, List.set_cons_succ])
      go_loopg [6, 45] kj18 (fun kq v6 v45 w' => ∃ (x6_3 : ByteArray) (x45_3 : Int) (x154002_3 : List (S29)) (u154002 : Value), v6 = .string x6_3 ∧ v45 = .int .i64 x45_3 ∧ za (ze.l0 kq x6_3 l0_1 (l0_1.length : Int) x45_3 a0_0 l0_1 a0_2 a0_3 a0_4 a0_5 a0_6 a0_7 l0_8 t148 t149 x154002_3 false (⟨#[]⟩ : ByteArray) false (⟨#[]⟩ : ByteArray) false (⟨#[]⟩ : ByteArray) false (⟨#[]⟩ : ByteArray) false (⟨#[]⟩ : ByteArray) false (⟨#[]⟩ : ByteArray) y150 = some (r1, r2, r3, r4, r5, r6, r7, r8, r9, r10, r11, r12, r13, r14, r15, r16, r17, r18, r19)) ∧ za (kq ≤ kj18) ∧ za (Kd.R k29 29 w' w.heap.size (fun _ => True) u154002 x154002_3) ∧ za (Kd.R Kd.string 9 w' w.heap.size (fun _ => True) (.slice Ao25 y150.length co25) y150) ∧ za (w'.heap[gb144]? = some (.cells #[.int .u16 a0_0, (.slice A0_1 l0_1.length c0_1), .int .u8 a0_2, .int .u16 a0_3, .int .u16 a0_4, .int .u16 a0_5, .bool a0_6, .bool a0_7, (.slice A0_8 l0_8.length c0_8)] 26 (0, 0))) ∧ za (w'.heap[gb145]? = some (.cells #[.bool false, .string ⟨#[]⟩, (.slice none 0 0), .bool false, .string ⟨#[]⟩, .bool false, .string ⟨#[]⟩, .bool false, .string ⟨#[]⟩, .bool false, .string ⟨#[]⟩, .bool false, .string ⟨#[]⟩, .bool false, .string ⟨#[]⟩, (.slice none 0 0), (.slice none 0 0)] 34 (0, 0))) ∧ za (w'.heap[gb153]? = some (.cells #[.bool t148, .string t149, u154002, .bool false, .string ⟨#[]⟩, .bool false, .string ⟨#[]⟩, .bool false, .string ⟨#[]⟩, .bool false, .string ⟨#[]⟩, .bool false, .string ⟨#[]⟩, .bool false, .string ⟨#[]⟩, (.slice Ao25 y150.length co25), (.slice none 0 0)] 34 (0, 0))) ∧ za (Below w.heap.size w w'))
      case atStart => exact ⟨(x6_18), (0), (([] : List (S29))), (.slice none 0 0), (by rfl), (by rfl), H', ⟨Nat.le_refl _⟩, ⟨by exact Kd.R_nil _ _ _ _ _⟩, ⟨by (with_reducible repeat (first | apply Kd.R_alloc | apply Kd.R_drewN | apply Kd.R_drew)); exact HO_154015.out⟩, ⟨by exact BK144.out⟩, ⟨by exact BK145.out⟩, ⟨by exact BK153.out⟩, ⟨by (with_reducible exact HB.out)⟩⟩
      case round =>
       clear H'
       clear hcz39_0 hcz39_1 hcz39_2 hcz39_3 hcz39_4 hcz39_5 hcz39_6 hcz39_7 hcz39_8 hfz39_0 hfz39_1 hfz39_2 hfz39_3 hfz39_4 hfz39_5 hfz39_6 hfz39_7 hfz39_8
       obtain ⟨x6_3, x45_3, x154002_3, u154002, rfl, rfl, HA, HK3, HO_154002, HO_154015, BK144, BK145, BK153, HB⟩ := hrel
       cases gk with
       | zero => exact absurd HA.out (by simp [ze.l0])
       | succ k3 =>
        have H := HA.out
        clear HA
        simp only [ze.l0] at H
        by_cases c40 : x45_3 < (l0_1.length : Int)
        ·rw [if_pos c40] at H
         have c40b0 : decide (x45_3 < (l0_1.length : Int)) = true := decide_eq_true c40
         clear c40
         by_cases c41 : 0 ≤ x45_3
         ·rw [if_pos c41] at H
          have c41b0 : decide (0 ≤ x45_3) = true := decide_eq_true c41
          clear c41
          by_cases c42 : x45_3 < (l0_1.length : Int)
          ·rw [if_pos c42] at H
           have c42b0 : decide (x45_3 < (l0_1.length : Int)) = true := decide_eq_true c42
           clear c42
           by_cases c43 : x45_3 > 0
           ·rw [if_pos c43] at H
            have c43b0 : decide (0 < x45_3) = true := decide_eq_true c43
            clear c43
            by_cases c44 : x6_3.size + 1 ≤ 9223372036854775807
            ·rw [if_pos c44] at H
             have c44b0 := eq_true c44
             have c44b1 : decide (x6_3.size + 1 ≤ 9223372036854775807) = true := decide_eq_true c44
             try have c44b2 : (9223372036854775807 < x6_3.size + 1) = False := eq_false (Nat.not_lt.2 c44)
             replace H := Option.bind_eq_some_iff.mp H
             obtain ⟨t156, A450, H⟩ := H
             replace H : (if (x6_3 ++ (⟨#[46]⟩ : ByteArray)).size + t156.size ≤ 9223372036854775807 then ((zab.f k3 (rd l0_1 x45_3)).bind fun t157 => ((ztb.f k3 t157).bind fun bt158 => (if x154002_3.length < 5864062014805 then (ze.l0 k3 ((x6_3 ++ (⟨#[46]⟩ : ByteArray)) ++ t156) l0_1 (l0_1.length : Int) (wrap64 (x45_3 + 1)) a0_0 l0_1 a0_2 a0_3 a0_4 a0_5 a0_6 a0_7 l0_8 t148 t149 (x154002_3 ++ [(⟨bt158.1, bt158.2⟩ : S29)]) false (⟨#[]⟩ : ByteArray) false (⟨#[]⟩ : ByteArray) false (⟨#[]⟩ : ByteArray) false (⟨#[]⟩ : ByteArray) false (⟨#[]⟩ : ByteArray) false (⟨#[]⟩ : ByteArray) y150) else (none)))) else (none)) = some (r1, r2, r3, r4, r5, r6, r7, r8, r9, r10, r11, r12, r13, r14, r15, r16, r17, r18, r19) := H
             have A45 := za.mk A450
             clear A450
             by_cases c46 : (x6_3 ++ (⟨#[46]⟩ : ByteArray)).size + t156.size ≤ 9223372036854775807
             ·rw [if_pos c46] at H
              have c46b0 := eq_true c46
              have c46b1 : decide ((x6_3 ++ (⟨#[46]⟩ : ByteArray)).size + t156.size ≤ 9223372036854775807) = true := decide_eq_true c46
              try have c46b2 : (9223372036854775807 < (x6_3 ++ (⟨#[46]⟩ : ByteArray)).size + t156.size) = False := eq_false (Nat.not_lt.2 c46)
              try have c46b3 : (9223372036854775807 < x6_3.size + 1 + t156.size) = False := eq_false (by have h_ := c46; simp only [ByteArray.size_append] at h_; have e0_ : (⟨#[46]⟩ : ByteArray).size = 1 := rfl; omega)
              try have c46b4 : (x6_3.size + 1 + t156.size ≤ 9223372036854775807) = True := eq_true (by have h_ := c46; simp only [ByteArray.size_append] at h_; have e0_ : (⟨#[46]⟩ : ByteArray).size = 1 := rfl; omega)
              replace H := Option.bind_eq_some_iff.mp H
              obtain ⟨t157, A470, H⟩ := H
              replace H : ((ztb.f k3 t157).bind fun bt158 => (if x154002_3.length < 5864062014805 then (ze.l0 k3 ((x6_3 ++ (⟨#[46]⟩ : ByteArray)) ++ t156) l0_1 (l0_1.length : Int) (wrap64 (x45_3 + 1)) a0_0 l0_1 a0_2 a0_3 a0_4 a0_5 a0_6 a0_7 l0_8 t148 t149 (x154002_3 ++ [(⟨bt158.1, bt158.2⟩ : S29)]) false (⟨#[]⟩ : ByteArray) false (⟨#[]⟩ : ByteArray) false (⟨#[]⟩ : ByteArray) false (⟨#[]⟩ : ByteArray) false (⟨#[]⟩ : ByteArray) false (⟨#[]⟩ : ByteArray) y150) else (none))) = some (r1, r2, r3, r4, r5, r6, r7, r8, r9, r10, r11, r12, r13, r14, r15, r16, r17, r18, r19) := H
              have A47 := za.mk A470
              clear A470
              replace H := Option.bind_eq_some_iff.mp H
              obtain ⟨⟨t158, t159⟩, A480, H⟩ := H
              replace H : (if x154002_3.length < 5864062014805 then (ze.l0 k3 ((x6_3 ++ (⟨#[46]⟩ : ByteArray)) ++ t156) l0_1 (l0_1.length : Int) (wrap64 (x45_3 + 1)) a0_0 l0_1 a0_2 a0_3 a0_4 a0_5 a0_6 a0_7 l0_8 t148 t149 (x154002_3 ++ [(⟨t158, t159⟩ : S29)]) false (⟨#[]⟩ : ByteArray) false (⟨#[]⟩ : ByteArray) false (⟨#[]⟩ : ByteArray) false (⟨#[]⟩ : ByteArray) false (⟨#[]⟩ : ByteArray) false (⟨#[]⟩ : ByteArray) y150) else (none)) = some (r1, r2, r3, r4, r5, r6, r7, r8, r9, r10, r11, r12, r13, r14, r15, r16, r17, r18, r19) := H
              have A48 := za.mk A480
              clear A480
              by_cases c49 : x154002_3.length < 5864062014805
              ·rw [if_pos c49] at H
               have LMc49 := za.mk c49
               clear c49
               obtain ⟨y160, hy160⟩ : ∃ y_ : List (S29), y_ = (x154002_3 ++ [(⟨t158, t159⟩ : S29)]) := ⟨_, rfl⟩
               replace H : (ze.l0 k3 ((x6_3 ++ (⟨#[46]⟩ : ByteArray)) ++ t156) l0_1 (l0_1.length : Int) (wrap64 (x45_3 + 1)) a0_0 l0_1 a0_2 a0_3 a0_4 a0_5 a0_6 a0_7 l0_8 t148 t149 y160 false (⟨#[]⟩ : ByteArray) false (⟨#[]⟩ : ByteArray) false (⟨#[]⟩ : ByteArray) false (⟨#[]⟩ : ByteArray) false (⟨#[]⟩ : ByteArray) false (⟨#[]⟩ : ByteArray) y150) = some (r1, r2, r3, r4, r5, r6, r7, r8, r9, r10, r11, r12, r13, r14, r15, r16, r17, r18, r19) := by (rw [hy160]; with_reducible exact H)
               have Ny160 := za.mk hy160
               clear hy160
               have H' := za.mk H
               clear H
               have p155 : 0 ≤ (x45_3 : Int) := of_decide_eq_true (by (with_reducible assumption))
               have q155 : x45_3 < (l0_1.length : Int) := of_decide_eq_true (by (with_reducible assumption))
               obtain ⟨ad155, e155, hx155_0⟩ := Kd.at_int HR0_1.out x45_3 p155 q155
               cases e155
               replace hx155_0 := (HB.out.cell (World.block_lt_of_cell? w _ hx155_0)).trans hx155_0
               replace p155 := eq_true p155
               replace q155 := eq_true q155
               try go_wp2_with (((with_reducible refine zcb (f := 21) rfl ?_); refine zxb (some 56) rfl rfl Tryz.func21 (by kernel_rfl) rfl #[.int .u16 (rd l0_1 x45_3)] rfl (by (try simp only [List.map_toArray, List.map_cons, List.map_nil]); first | done | rfl | (simp only [List.length_drop, List.length_take]; rfl)) ?_; (with_reducible refine (zab.calls k3 (rd l0_1 x45_3) t156 _ A45.out).mono ?_); rintro e w' ⟨rfl, ⟨nd, rfl⟩⟩; refine ⟨_, rfl, ?_⟩; (try (rw [zjc wr]; generalize hq_ : World.drewN wr _ = wr; have n0_ : za (Kd.R k29 29 wr w.heap.size (fun _ => True) u154002 x154002_3) := ⟨by rw [← hq_]; exact (by (with_reducible repeat (first | apply Kd.R_alloc | apply Kd.R_drewN | apply Kd.R_drew)); exact HO_154002.out)⟩; have n1_ : za (Kd.R Kd.string 9 wr w.heap.size (fun _ => True) (.slice Ao25 y150.length co25) y150) := ⟨by rw [← hq_]; exact (by (with_reducible repeat (first | apply Kd.R_alloc | apply Kd.R_drewN | apply Kd.R_drew)); exact HO_154015.out)⟩; have n2_ : za (wr.heap[gb144]? = some (.cells #[.int .u16 a0_0, .slice (some ad155) l0_1.length c0_1, .int .u8 a0_2, .int .u16 a0_3, .int .u16 a0_4, .int .u16 a0_5, .bool a0_6, .bool a0_7, .slice A0_8 l0_8.length c0_8] 26 (0, 0))) := ⟨by rw [← hq_]; exact (by (with_reducible (refine zw ?_ _)); exact BK144.out)⟩; have n3_ : za (wr.heap[gb145]? = some (.cells #[.bool false, .string ⟨#[]⟩, .slice none 0 0, .bool false, .string ⟨#[]⟩, .bool false, .string ⟨#[]⟩, .bool false, .string ⟨#[]⟩, .bool false, .string ⟨#[]⟩, .bool false, .string ⟨#[]⟩, .bool false, .string ⟨#[]⟩, .slice none 0 0, .slice none 0 0] 34 (0, 0))) := ⟨by rw [← hq_]; exact (by (with_reducible (refine zw ?_ _)); exact BK145.out)⟩; have n4_ : za (wr.heap[gb153]? = some (.cells #[.bool t148, .string t149, u154002, .bool false, .string ⟨#[]⟩, .bool false, .string ⟨#[]⟩, .bool false, .string ⟨#[]⟩, .bool false, .string ⟨#[]⟩, .bool false, .string ⟨#[]⟩, .bool false, .string ⟨#[]⟩, .slice Ao25 y150.length co25, .slice none 0 0] 34 (0, 0))) := ⟨by rw [← hq_]; exact (by (with_reducible (refine zw ?_ _)); exact BK153.out)⟩; have n5_ : za (Below w.heap.size w wr) := ⟨by rw [← hq_]; exact (by (with_reducible apply zg; with_reducible exact HB.out))⟩; clear HO_154002 HO_154015 BK144 BK145 BK153 HB hq_; have HO_154002 := n0_; have HO_154015 := n1_; have BK144 := n2_; have BK145 := n3_; have BK153 := n4_; have HB := n5_; clear n0_ n1_ n2_ n3_ n4_ n5_))))
               replace HO_154002 := za.mk (Kd.R_drew HO_154002.out)
               replace HO_154015 := za.mk (Kd.R_drew HO_154015.out)
               replace BK144 := za.mk (zjd BK144.out)
               replace BK145 := za.mk (zjd BK145.out)
               replace BK153 := za.mk (zjd BK153.out)
               replace HB := za.mk (zu HB.out)
               refine start_ (n := 9) (S := fun w' => w'.cell? ⟨gb153, 0, none⟩ = some (.bool t148) ∧ w'.cell? ⟨gb153, 1, none⟩ = some (.string t149) ∧ w'.cell? ⟨gb153, 2, none⟩ = some (u154002) ∧ w'.cell? ⟨gb153, 3, none⟩ = some (.bool false) ∧ w'.cell? ⟨gb153, 4, none⟩ = some (.string ⟨#[]⟩) ∧ w'.cell? ⟨gb153, 5, none⟩ = some (.bool false) ∧ w'.cell? ⟨gb153, 6, none⟩ = some (.string ⟨#[]⟩) ∧ w'.cell? ⟨gb153, 7, none⟩ = some (.bool false) ∧ w'.cell? ⟨gb153, 8, none⟩ = some (.string ⟨#[]⟩) ∧ w'.cell? ⟨gb153, 9, none⟩ = some (.bool false) ∧ w'.cell? ⟨gb153, 10, none⟩ = some (.string ⟨#[]⟩) ∧ w'.cell? ⟨gb153, 11, none⟩ = some (.bool false) ∧ w'.cell? ⟨gb153, 12, none⟩ = some (.string ⟨#[]⟩) ∧ w'.cell? ⟨gb153, 13, none⟩ = some (.bool false) ∧ w'.cell? ⟨gb153, 14, none⟩ = some (.string ⟨#[]⟩) ∧ w'.cell? ⟨gb153, 15, none⟩ = some (.slice Ao25 y150.length co25) ∧ w'.cell? ⟨gb153, 16, none⟩ = some (.slice none 0 0)) (ds := [8]) #[false, false, false, false, false, false, false, false, false] (by kernel_rfl) rfl rfl ⟨(zd BK153.out 0).trans rfl, (zd BK153.out 1).trans rfl, (zd BK153.out 2).trans rfl, (zd BK153.out 3).trans rfl, (zd BK153.out 4).trans rfl, (zd BK153.out 5).trans rfl, (zd BK153.out 6).trans rfl, (zd BK153.out 7).trans rfl, (zd BK153.out 8).trans rfl, (zd BK153.out 9).trans rfl, (zd BK153.out 10).trans rfl, (zd BK153.out 11).trans rfl, (zd BK153.out 12).trans rfl, (zd BK153.out 13).trans rfl, (zd BK153.out 14).trans rfl, (zd BK153.out 15).trans rfl, (zd BK153.out 16).trans rfl⟩ (fun hHeld => ?_); refine zxf ze.tab13 ze.bits13 (fun HT_ HW_ => ?_)
               generalize wr.drew = w50 at HO_154002 HO_154015 BK144 BK145 BK153 HB hHeld ⊢
               refine pure_ (i := 0) (N := some 58) (v := ?_) (a' := ?_) #[true, false, false, false, false, false, false, false, false] rfl rfl (zhc HT_.out (by kernel_rfl)) (fun _ _ _ h => h) (Or.inl ⟨by rfl, ?_⟩) ?_ ?_
               rotate_left
               ·intro w'
                go_simp
                with_reducible rfl
               rotate_left
               ·simp only [Act.put, List.setIfInBounds_toArray, List.set_cons_zero, List.set_cons_succ, i64_w, i32_w]
                rfl
               refine pure_ (i := 2) (N := some 60) (v := ?_) (a' := ?_) #[true, false, true, false, false, false, false, false, false] rfl rfl (zhc HT_.out (by kernel_rfl)) (fun _ _ _ h => h) (Or.inl ⟨by rfl, ?_⟩) ?_ ?_
               rotate_left
               ·intro w'
                go_simp
                with_reducible rfl
               rotate_left
               ·simp only [Act.put, List.setIfInBounds_toArray, List.set_cons_zero, List.set_cons_succ, i64_w, i32_w]
                rfl
               refine take_ (i := 1) (N := some 59) (v := ?_) (a' := ?_) #[true, true, true, false, false, false, false, false, false] rfl rfl (zpe HT_.out HW_.out (by kernel_rfl)) (fun _ _ _ h => h) (Or.inl ⟨by rfl, ?_⟩) hHeld ?_ ?_
               rotate_left
               ·rintro w' ⟨s0, s1, s2, s3, s4, s5, s6, s7, s8, s9, s10, s11, s12, s13, s14, s15, s16⟩
                go_simp
                with_reducible rfl
               rotate_left
               ·simp only [Act.put, List.setIfInBounds_toArray, List.set_cons_zero, List.set_cons_succ, i64_w, i32_w]
                rfl
               refine one_ (i := 3) (N := some 61) #[true, true, true, true, false, false, false, false, false] rfl rfl (zye HT_.out (by kernel_rfl)) (by decide) (fun K hK => ?_)
               refine goes_ Tryz.func21 (by kernel_rfl) rfl #[.int .u16 (rd l0_1 x45_3)] (by rfl) rfl rfl (by (try simp only [List.map_toArray, List.map_cons, List.map_nil]); first | done | rfl | (simp only [List.length_drop, List.length_take]; rfl)) ?_
               with_reducible refine (zab.calls k3 (rd l0_1 x45_3) t157 _ A47.out).mono ?_
               rintro e w' ⟨rfl, ⟨nd, rfl⟩⟩
               refine ⟨_, rfl, ?_⟩
               refine hK.out _ _ ⟨(zd BK153.out 0).trans rfl, (zd BK153.out 1).trans rfl, (zd BK153.out 2).trans rfl, (zd BK153.out 3).trans rfl, (zd BK153.out 4).trans rfl, (zd BK153.out 5).trans rfl, (zd BK153.out 6).trans rfl, (zd BK153.out 7).trans rfl, (zd BK153.out 8).trans rfl, (zd BK153.out 9).trans rfl, (zd BK153.out 10).trans rfl, (zd BK153.out 11).trans rfl, (zd BK153.out 12).trans rfl, (zd BK153.out 13).trans rfl, (zd BK153.out 14).trans rfl, (zd BK153.out 15).trans rfl, (zd BK153.out 16).trans rfl⟩ (fun hHeld => ?_)
               clear hK K
               refine norm_ (a' := ?_) ?_ ?_
               rotate_left
               ·show Act.put _ (some 61) _ = _
                simp only [Act.put, List.setIfInBounds_toArray, List.set_cons_zero, List.set_cons_succ, i64_w, i32_w]
                rfl
               refine one_ (i := 4) (N := some 62) #[true, true, true, true, true, false, false, false, false] rfl rfl (zye HT_.out (by kernel_rfl)) (by decide) (fun K hK => ?_)
               refine goes_ Tryz.func36 (by kernel_rfl) rfl #[.string t157] (by rfl) rfl rfl (by (try simp only [List.map_toArray, List.map_cons, List.map_nil]); first | done | rfl | (simp only [List.length_drop, List.length_take]; rfl)) ?_
               with_reducible refine (ztb.calls k3 t157 t158 t159 _ A48.out).mono ?_
               rintro e w51 ⟨rfl, hb⟩
               refine ⟨_, rfl, ?_⟩
               replace HO_154002 := za.mk (Kd.R_below (by (with_reducible repeat (first | apply Kd.R_alloc | apply Kd.R_drewN | apply Kd.R_drew)); exact HO_154002.out) hb)
               replace HO_154015 := za.mk (Kd.R_below (by (with_reducible repeat (first | apply Kd.R_alloc | apply Kd.R_drewN | apply Kd.R_drew)); exact HO_154015.out) hb)
               replace BK144 := za.mk (zh (zw BK144.out _) hb)
               replace BK145 := za.mk (zh (zw BK145.out _) hb)
               replace BK153 := za.mk (zh (zw BK153.out _) hb)
               replace HB := za.mk (zeb (by (with_reducible apply zg; with_reducible exact HB.out)) hb)
               (try clear hb)
               (try clear hb2)
               (try clear hk)
               (try clear hi)
               refine hK.out _ _ ⟨(zd BK153.out 0).trans rfl, (zd BK153.out 1).trans rfl, (zd BK153.out 2).trans rfl, (zd BK153.out 3).trans rfl, (zd BK153.out 4).trans rfl, (zd BK153.out 5).trans rfl, (zd BK153.out 6).trans rfl, (zd BK153.out 7).trans rfl, (zd BK153.out 8).trans rfl, (zd BK153.out 9).trans rfl, (zd BK153.out 10).trans rfl, (zd BK153.out 11).trans rfl, (zd BK153.out 12).trans rfl, (zd BK153.out 13).trans rfl, (zd BK153.out 14).trans rfl, (zd BK153.out 15).trans rfl, (zd BK153.out 16).trans rfl⟩ (fun hHeld => ?_)
               clear hK K
               refine norm_ (a' := ?_) ?_ ?_
               rotate_left
               ·show Act.put _ (some 62) _ = _
                simp only [Act.put, List.setIfInBounds_toArray, List.set_cons_zero, List.set_cons_succ, i64_w, i32_w]
                rfl
               refine one_ (i := 5) (N := some 63) #[true, true, true, true, true, true, false, false, false] rfl rfl (zye HT_.out (by kernel_rfl)) (by decide) (fun K hK => ?_)
               refine value_ (w1 := ?_) (v := ?_) (by rfl) rfl ?_ ?_
               rotate_left 2
               ·go_simp
                constructor
                ·rfl
                ·rfl
               refine hK.out _ _ ⟨(zd (zgb BK153.out _) 0).trans rfl, (zd (zgb BK153.out _) 1).trans rfl, (zd (zgb BK153.out _) 2).trans rfl, (zd (zgb BK153.out _) 3).trans rfl, (zd (zgb BK153.out _) 4).trans rfl, (zd (zgb BK153.out _) 5).trans rfl, (zd (zgb BK153.out _) 6).trans rfl, (zd (zgb BK153.out _) 7).trans rfl, (zd (zgb BK153.out _) 8).trans rfl, (zd (zgb BK153.out _) 9).trans rfl, (zd (zgb BK153.out _) 10).trans rfl, (zd (zgb BK153.out _) 11).trans rfl, (zd (zgb BK153.out _) 12).trans rfl, (zd (zgb BK153.out _) 13).trans rfl, (zd (zgb BK153.out _) 14).trans rfl, (zd (zgb BK153.out _) 15).trans rfl, (zd (zgb BK153.out _) 16).trans rfl⟩ (fun hHeld => ?_)
               clear hK K
               refine norm_ (a' := ?_) ?_ ?_
               rotate_left
               ·show Act.put _ (some 63) _ = _
                simp only [Act.put, List.setIfInBounds_toArray, List.set_cons_zero, List.set_cons_succ, i64_w, i32_w]
                rfl
               refine one_ (i := 6) (N := some 64) #[true, true, true, true, true, true, true, false, false] rfl rfl (zye HT_.out (by kernel_rfl)) (by decide) (fun K hK => ?_)
               refine Kd.R_append_step k29 (w0 := w) w.heap.size (by rfl) (.tmp 59) (.tmp 63) 30 29 (.agg #[(.bool false), (.string ⟨#[]⟩)]) 24 rfl Tryz.underlying30 info29 rfl (by decide) (by omega) u154002 x154002_3 (⟨t158, t159⟩ : S29) [.bool t158, .string t159] (fun _ => True) (fun _ => False) rfl rfl ?aP (fun _ hk => hk.elim) ?aF ?aO ?aB ?aS ?aL ?_
               (case aP => exact k29_mkM _ _ _ (⟨t158, t159⟩ : S29))
               (case aB => exact (by (with_reducible exact HB.out)))
               (case aF => exact (fun _ _ => trivial))
               (case aO => exact (by (with_reducible repeat (first | apply Kd.R_alloc | apply Kd.R_drewN | apply Kd.R_drew)); exact HO_154002.out))
               (case aS => exact (zdb (by (with_reducible exact HB.out))))
               (case aL => have := LMc49.out; omega)
               intro v161 w52 ho hb hg hat
               rw [← Ny160.out] at ho
               replace HO_154015 := za.mk (Kd.R_over' (by (with_reducible repeat (first | apply Kd.R_alloc | apply Kd.R_drewN | apply Kd.R_drew)); exact HO_154015.out) (Kd.R_typed (by (with_reducible repeat (first | apply Kd.R_alloc | apply Kd.R_drewN | apply Kd.R_drew)); exact HO_154002.out)) (by decide) hg)
               replace BK144 := za.mk (zae BK144.out hg (Kd.R_ne HO_154002.out BK144.out (by decide)))
               replace BK145 := za.mk (zae BK145.out hg (Kd.R_ne HO_154002.out BK145.out (by decide)))
               replace BK153 := za.mk (zae BK153.out hg (Kd.R_ne HO_154002.out BK153.out (by decide)))
               have HO162 := za.mk ho
               replace HB := za.mk hb
               clear HO_154002
               clear ho hb hg hat
               obtain ⟨Ao53, co53, eo53⟩ := Kd.R_slice HO162.out
               (first | subst eo53 | (injection eo53 with f1_ f2_ f3_; have f4_ := f1_.symm; have f5_ := f3_.symm; clear f1_ f2_ f3_; subst f4_; subst f5_))
               refine hK.out _ _ ⟨(zd BK153.out 0).trans rfl, (zd BK153.out 1).trans rfl, (zd BK153.out 2).trans rfl, (zd BK153.out 3).trans rfl, (zd BK153.out 4).trans rfl, (zd BK153.out 5).trans rfl, (zd BK153.out 6).trans rfl, (zd BK153.out 7).trans rfl, (zd BK153.out 8).trans rfl, (zd BK153.out 9).trans rfl, (zd BK153.out 10).trans rfl, (zd BK153.out 11).trans rfl, (zd BK153.out 12).trans rfl, (zd BK153.out 13).trans rfl, (zd BK153.out 14).trans rfl, (zd BK153.out 15).trans rfl, (zd BK153.out 16).trans rfl⟩ (fun hHeld => ?_)
               clear hK K
               refine norm_ (a' := ?_) ?_ ?_
               rotate_left
               ·show Act.put _ (some 64) _ = _
                simp only [Act.put, List.setIfInBounds_toArray, List.set_cons_zero, List.set_cons_succ, i64_w, i32_w]
                rfl
               refine pure_ (i := 7) (N := some 65) (v := ?_) (a' := ?_) #[true, true, true, true, true, true, true, true, false] rfl rfl (zhc HT_.out (by kernel_rfl)) (fun _ _ _ h => h) (Or.inl ⟨by rfl, ?_⟩) ?_ ?_
               rotate_left
               ·intro w'
                go_simp
                with_reducible rfl
               rotate_left
               ·simp only [Act.put, List.setIfInBounds_toArray, List.set_cons_zero, List.set_cons_succ, i64_w, i32_w]
                rfl
               refine last_ (i := 8) (N := none) #[true, true, true, true, true, true, true, true, true] rfl rfl (zye HT_.out (by kernel_rfl)) (by decide) (fun K hK => ?_)
               have hs54 : w52.cell? ⟨gb153, 2, none⟩ = some (u154002) := (zd BK153.out 2).trans rfl
               have hfs54 := zj BK153.out 2
               have hns54_0 := NB144_153.out
               have hns54_1 := NB145_153.out
               have hms54_0 := NB153_144.out
               have hms54_1 := NB153_145.out
               refine skip_ (w1 := ?_) (by rfl) rfl ?_ ?_
               rotate_left
               ·go_simp
                rfl
               refine hK.out _ _ ?_
               clear hK K
               refine done_ (done_of HT_.out (by kernel_rfl)) ?_
               try go_wp2_with (fail)
               go_roundg k3
               case measure => have := HJ1.out; have := HJ18.out; have := HK3.out; omega
               case rel => exact ⟨((x6_3 ++ (⟨#[46]⟩ : ByteArray)) ++ t156), (wrap64 (x45_3 + 1)), (y160), (.slice Ao53 y160.length co53), (by rfl), (by rfl), (by exact H'), ⟨by have := HJ1.out; have := HJ18.out; have := HK3.out; omega⟩, ⟨by (with_reducible repeat (first | apply Kd.R_alloc | apply Kd.R_drewN | apply Kd.R_drew)); exact Kd.R_mono (farC (Kd.R_types HO162.out BK153.out (by decide))) (fun _ hk => trivial)⟩, ⟨by (with_reducible repeat (first | apply Kd.R_alloc | apply Kd.R_drewN | apply Kd.R_drew)); exact Kd.R_mono (farC (Kd.R_types HO_154015.out BK153.out (by decide))) (fun _ hk => trivial)⟩, ⟨by refine zcc ?_ NB144_153.out _; exact BK144.out⟩, ⟨by refine zcc ?_ NB145_153.out _; exact BK145.out⟩, ⟨by refine zl (cs := #[.bool t148, .string t149, u154002, .bool false, .string ⟨#[]⟩, .bool false, .string ⟨#[]⟩, .bool false, .string ⟨#[]⟩, .bool false, .string ⟨#[]⟩, .bool false, .string ⟨#[]⟩, .bool false, .string ⟨#[]⟩, .slice Ao25 y150.length co25, .slice none 0 0]) ?_ 2 _ rfl; exact BK153.out⟩, ⟨by (with_reducible refine zbb ?_ GE153.out; with_reducible exact HB.out)⟩⟩
              ·rw [if_neg c49] at H
               exact absurd H (by simp)
             ·rw [if_neg c46] at H
              exact absurd H (by simp)
            ·rw [if_neg c44] at H
             exact absurd H (by simp)
           ·rw [if_neg c43] at H
            have c43b0 : decide (0 < x45_3) = false := decide_eq_false c43
            clear c43
            replace H := Option.bind_eq_some_iff.mp H
            obtain ⟨t163, A550, H⟩ := H
            replace H : (if x6_3.size + t163.size ≤ 9223372036854775807 then ((zab.f k3 (rd l0_1 x45_3)).bind fun t164 => ((ztb.f k3 t164).bind fun bt165 => (if x154002_3.length < 5864062014805 then (ze.l0 k3 (x6_3 ++ t163) l0_1 (l0_1.length : Int) (wrap64 (x45_3 + 1)) a0_0 l0_1 a0_2 a0_3 a0_4 a0_5 a0_6 a0_7 l0_8 t148 t149 (x154002_3 ++ [(⟨bt165.1, bt165.2⟩ : S29)]) false (⟨#[]⟩ : ByteArray) false (⟨#[]⟩ : ByteArray) false (⟨#[]⟩ : ByteArray) false (⟨#[]⟩ : ByteArray) false (⟨#[]⟩ : ByteArray) false (⟨#[]⟩ : ByteArray) y150) else (none)))) else (none)) = some (r1, r2, r3, r4, r5, r6, r7, r8, r9, r10, r11, r12, r13, r14, r15, r16, r17, r18, r19) := H
            have A55 := za.mk A550
            clear A550
            by_cases c56 : x6_3.size + t163.size ≤ 9223372036854775807
            ·rw [if_pos c56] at H
             have c56b0 := eq_true c56
             have c56b1 : decide (x6_3.size + t163.size ≤ 9223372036854775807) = true := decide_eq_true c56
             try have c56b2 : (9223372036854775807 < x6_3.size + t163.size) = False := eq_false (Nat.not_lt.2 c56)
             replace H := Option.bind_eq_some_iff.mp H
             obtain ⟨t164, A570, H⟩ := H
             replace H : ((ztb.f k3 t164).bind fun bt165 => (if x154002_3.length < 5864062014805 then (ze.l0 k3 (x6_3 ++ t163) l0_1 (l0_1.length : Int) (wrap64 (x45_3 + 1)) a0_0 l0_1 a0_2 a0_3 a0_4 a0_5 a0_6 a0_7 l0_8 t148 t149 (x154002_3 ++ [(⟨bt165.1, bt165.2⟩ : S29)]) false (⟨#[]⟩ : ByteArray) false (⟨#[]⟩ : ByteArray) false (⟨#[]⟩ : ByteArray) false (⟨#[]⟩ : ByteArray) false (⟨#[]⟩ : ByteArray) false (⟨#[]⟩ : ByteArray) y150) else (none))) = some (r1, r2, r3, r4, r5, r6, r7, r8, r9, r10, r11, r12, r13, r14, r15, r16, r17, r18, r19) := H
             have A57 := za.mk A570
             clear A570
             replace H := Option.bind_eq_some_iff.mp H
             obtain ⟨⟨t165, t166⟩, A580, H⟩ := H
             replace H : (if x154002_3.length < 5864062014805 then (ze.l0 k3 (x6_3 ++ t163) l0_1 (l0_1.length : Int) (wrap64 (x45_3 + 1)) a0_0 l0_1 a0_2 a0_3 a0_4 a0_5 a0_6 a0_7 l0_8 t148 t149 (x154002_3 ++ [(⟨t165, t166⟩ : S29)]) false (⟨#[]⟩ : ByteArray) false (⟨#[]⟩ : ByteArray) false (⟨#[]⟩ : ByteArray) false (⟨#[]⟩ : ByteArray) false (⟨#[]⟩ : ByteArray) false (⟨#[]⟩ : ByteArray) y150) else (none)) = some (r1, r2, r3, r4, r5, r6, r7, r8, r9, r10, r11, r12, r13, r14, r15, r16, r17, r18, r19) := H
             have A58 := za.mk A580
             clear A580
             by_cases c59 : x154002_3.length < 5864062014805
             ·rw [if_pos c59] at H
              have LMc59 := za.mk c59
              clear c59
              obtain ⟨y167, hy167⟩ : ∃ y_ : List (S29), y_ = (x154002_3 ++ [(⟨t165, t166⟩ : S29)]) := ⟨_, rfl⟩
              replace H : (ze.l0 k3 (x6_3 ++ t163) l0_1 (l0_1.length : Int) (wrap64 (x45_3 + 1)) a0_0 l0_1 a0_2 a0_3 a0_4 a0_5 a0_6 a0_7 l0_8 t148 t149 y167 false (⟨#[]⟩ : ByteArray) false (⟨#[]⟩ : ByteArray) false (⟨#[]⟩ : ByteArray) false (⟨#[]⟩ : ByteArray) false (⟨#[]⟩ : ByteArray) false (⟨#[]⟩ : ByteArray) y150) = some (r1, r2, r3, r4, r5, r6, r7, r8, r9, r10, r11, r12, r13, r14, r15, r16, r17, r18, r19) := by (rw [hy167]; with_reducible exact H)
              have Ny167 := za.mk hy167
              clear hy167
              have H' := za.mk H
              clear H
              have p155 : 0 ≤ (x45_3 : Int) := of_decide_eq_true (by (with_reducible assumption))
              have q155 : x45_3 < (l0_1.length : Int) := of_decide_eq_true (by (with_reducible assumption))
              obtain ⟨ad155, e155, hx155_0⟩ := Kd.at_int HR0_1.out x45_3 p155 q155
              cases e155
              replace hx155_0 := (HB.out.cell (World.block_lt_of_cell? w _ hx155_0)).trans hx155_0
              replace p155 := eq_true p155
              replace q155 := eq_true q155
              try go_wp2_with (((with_reducible refine zcb (f := 21) rfl ?_); refine zxb (some 56) rfl rfl Tryz.func21 (by kernel_rfl) rfl #[.int .u16 (rd l0_1 x45_3)] rfl (by (try simp only [List.map_toArray, List.map_cons, List.map_nil]); first | done | rfl | (simp only [List.length_drop, List.length_take]; rfl)) ?_; (with_reducible refine (zab.calls k3 (rd l0_1 x45_3) t163 _ A55.out).mono ?_); rintro e w' ⟨rfl, ⟨nd, rfl⟩⟩; refine ⟨_, rfl, ?_⟩; (try (rw [zjc wr]; generalize hq_ : World.drewN wr _ = wr; have n0_ : za (Kd.R k29 29 wr w.heap.size (fun _ => True) u154002 x154002_3) := ⟨by rw [← hq_]; exact (by (with_reducible repeat (first | apply Kd.R_alloc | apply Kd.R_drewN | apply Kd.R_drew)); exact HO_154002.out)⟩; have n1_ : za (Kd.R Kd.string 9 wr w.heap.size (fun _ => True) (.slice Ao25 y150.length co25) y150) := ⟨by rw [← hq_]; exact (by (with_reducible repeat (first | apply Kd.R_alloc | apply Kd.R_drewN | apply Kd.R_drew)); exact HO_154015.out)⟩; have n2_ : za (wr.heap[gb144]? = some (.cells #[.int .u16 a0_0, .slice (some ad155) l0_1.length c0_1, .int .u8 a0_2, .int .u16 a0_3, .int .u16 a0_4, .int .u16 a0_5, .bool a0_6, .bool a0_7, .slice A0_8 l0_8.length c0_8] 26 (0, 0))) := ⟨by rw [← hq_]; exact (by (with_reducible (refine zw ?_ _)); exact BK144.out)⟩; have n3_ : za (wr.heap[gb145]? = some (.cells #[.bool false, .string ⟨#[]⟩, .slice none 0 0, .bool false, .string ⟨#[]⟩, .bool false, .string ⟨#[]⟩, .bool false, .string ⟨#[]⟩, .bool false, .string ⟨#[]⟩, .bool false, .string ⟨#[]⟩, .bool false, .string ⟨#[]⟩, .slice none 0 0, .slice none 0 0] 34 (0, 0))) := ⟨by rw [← hq_]; exact (by (with_reducible (refine zw ?_ _)); exact BK145.out)⟩; have n4_ : za (wr.heap[gb153]? = some (.cells #[.bool t148, .string t149, u154002, .bool false, .string ⟨#[]⟩, .bool false, .string ⟨#[]⟩, .bool false, .string ⟨#[]⟩, .bool false, .string ⟨#[]⟩, .bool false, .string ⟨#[]⟩, .bool false, .string ⟨#[]⟩, .slice Ao25 y150.length co25, .slice none 0 0] 34 (0, 0))) := ⟨by rw [← hq_]; exact (by (with_reducible (refine zw ?_ _)); exact BK153.out)⟩; have n5_ : za (Below w.heap.size w wr) := ⟨by rw [← hq_]; exact (by (with_reducible apply zg; with_reducible exact HB.out))⟩; clear HO_154002 HO_154015 BK144 BK145 BK153 HB hq_; have HO_154002 := n0_; have HO_154015 := n1_; have BK144 := n2_; have BK145 := n3_; have BK153 := n4_; have HB := n5_; clear n0_ n1_ n2_ n3_ n4_ n5_))))
              replace HO_154002 := za.mk (Kd.R_drew HO_154002.out)
              replace HO_154015 := za.mk (Kd.R_drew HO_154015.out)
              replace BK144 := za.mk (zjd BK144.out)
              replace BK145 := za.mk (zjd BK145.out)
              replace BK153 := za.mk (zjd BK153.out)
              replace HB := za.mk (zu HB.out)
              refine start_ (n := 9) (S := fun w' => w'.cell? ⟨gb153, 0, none⟩ = some (.bool t148) ∧ w'.cell? ⟨gb153, 1, none⟩ = some (.string t149) ∧ w'.cell? ⟨gb153, 2, none⟩ = some (u154002) ∧ w'.cell? ⟨gb153, 3, none⟩ = some (.bool false) ∧ w'.cell? ⟨gb153, 4, none⟩ = some (.string ⟨#[]⟩) ∧ w'.cell? ⟨gb153, 5, none⟩ = some (.bool false) ∧ w'.cell? ⟨gb153, 6, none⟩ = some (.string ⟨#[]⟩) ∧ w'.cell? ⟨gb153, 7, none⟩ = some (.bool false) ∧ w'.cell? ⟨gb153, 8, none⟩ = some (.string ⟨#[]⟩) ∧ w'.cell? ⟨gb153, 9, none⟩ = some (.bool false) ∧ w'.cell? ⟨gb153, 10, none⟩ = some (.string ⟨#[]⟩) ∧ w'.cell? ⟨gb153, 11, none⟩ = some (.bool false) ∧ w'.cell? ⟨gb153, 12, none⟩ = some (.string ⟨#[]⟩) ∧ w'.cell? ⟨gb153, 13, none⟩ = some (.bool false) ∧ w'.cell? ⟨gb153, 14, none⟩ = some (.string ⟨#[]⟩) ∧ w'.cell? ⟨gb153, 15, none⟩ = some (.slice Ao25 y150.length co25) ∧ w'.cell? ⟨gb153, 16, none⟩ = some (.slice none 0 0)) (ds := [8]) #[false, false, false, false, false, false, false, false, false] (by kernel_rfl) rfl rfl ⟨(zd BK153.out 0).trans rfl, (zd BK153.out 1).trans rfl, (zd BK153.out 2).trans rfl, (zd BK153.out 3).trans rfl, (zd BK153.out 4).trans rfl, (zd BK153.out 5).trans rfl, (zd BK153.out 6).trans rfl, (zd BK153.out 7).trans rfl, (zd BK153.out 8).trans rfl, (zd BK153.out 9).trans rfl, (zd BK153.out 10).trans rfl, (zd BK153.out 11).trans rfl, (zd BK153.out 12).trans rfl, (zd BK153.out 13).trans rfl, (zd BK153.out 14).trans rfl, (zd BK153.out 15).trans rfl, (zd BK153.out 16).trans rfl⟩ (fun hHeld => ?_); refine zxf ze.tab13 ze.bits13 (fun HT_ HW_ => ?_)
              generalize wr.drew = w60 at HO_154002 HO_154015 BK144 BK145 BK153 HB hHeld ⊢
              refine pure_ (i := 0) (N := some 58) (v := ?_) (a' := ?_) #[true, false, false, false, false, false, false, false, false] rfl rfl (zhc HT_.out (by kernel_rfl)) (fun _ _ _ h => h) (Or.inl ⟨by rfl, ?_⟩) ?_ ?_
              rotate_left
              ·intro w'
               go_simp
               with_reducible rfl
              rotate_left
              ·simp only [Act.put, List.setIfInBounds_toArray, List.set_cons_zero, List.set_cons_succ, i64_w, i32_w]
               rfl
              refine pure_ (i := 2) (N := some 60) (v := ?_) (a' := ?_) #[true, false, true, false, false, false, false, false, false] rfl rfl (zhc HT_.out (by kernel_rfl)) (fun _ _ _ h => h) (Or.inl ⟨by rfl, ?_⟩) ?_ ?_
              rotate_left
              ·intro w'
               go_simp
               with_reducible rfl
              rotate_left
              ·simp only [Act.put, List.setIfInBounds_toArray, List.set_cons_zero, List.set_cons_succ, i64_w, i32_w]
               rfl
              refine take_ (i := 1) (N := some 59) (v := ?_) (a' := ?_) #[true, true, true, false, false, false, false, false, false] rfl rfl (zpe HT_.out HW_.out (by kernel_rfl)) (fun _ _ _ h => h) (Or.inl ⟨by rfl, ?_⟩) hHeld ?_ ?_
              rotate_left
              ·rintro w' ⟨s0, s1, s2, s3, s4, s5, s6, s7, s8, s9, s10, s11, s12, s13, s14, s15, s16⟩
               go_simp
               with_reducible rfl
              rotate_left
              ·simp only [Act.put, List.setIfInBounds_toArray, List.set_cons_zero, List.set_cons_succ, i64_w, i32_w]
               rfl
              refine one_ (i := 3) (N := some 61) #[true, true, true, true, false, false, false, false, false] rfl rfl (zye HT_.out (by kernel_rfl)) (by decide) (fun K hK => ?_)
              refine goes_ Tryz.func21 (by kernel_rfl) rfl #[.int .u16 (rd l0_1 x45_3)] (by rfl) rfl rfl (by (try simp only [List.map_toArray, List.map_cons, List.map_nil]); first | done | rfl | (simp only [List.length_drop, List.length_take]; rfl)) ?_
              with_reducible refine (zab.calls k3 (rd l0_1 x45_3) t164 _ A57.out).mono ?_
              rintro e w' ⟨rfl, ⟨nd, rfl⟩⟩
              refine ⟨_, rfl, ?_⟩
              refine hK.out _ _ ⟨(zd BK153.out 0).trans rfl, (zd BK153.out 1).trans rfl, (zd BK153.out 2).trans rfl, (zd BK153.out 3).trans rfl, (zd BK153.out 4).trans rfl, (zd BK153.out 5).trans rfl, (zd BK153.out 6).trans rfl, (zd BK153.out 7).trans rfl, (zd BK153.out 8).trans rfl, (zd BK153.out 9).trans rfl, (zd BK153.out 10).trans rfl, (zd BK153.out 11).trans rfl, (zd BK153.out 12).trans rfl, (zd BK153.out 13).trans rfl, (zd BK153.out 14).trans rfl, (zd BK153.out 15).trans rfl, (zd BK153.out 16).trans rfl⟩ (fun hHeld => ?_)
              clear hK K
              refine norm_ (a' := ?_) ?_ ?_
              rotate_left
              ·show Act.put _ (some 61) _ = _
               simp only [Act.put, List.setIfInBounds_toArray, List.set_cons_zero, List.set_cons_succ, i64_w, i32_w]
               rfl
              refine one_ (i := 4) (N := some 62) #[true, true, true, true, true, false, false, false, false] rfl rfl (zye HT_.out (by kernel_rfl)) (by decide) (fun K hK => ?_)
              refine goes_ Tryz.func36 (by kernel_rfl) rfl #[.string t164] (by rfl) rfl rfl (by (try simp only [List.map_toArray, List.map_cons, List.map_nil]); first | done | rfl | (simp only [List.length_drop, List.length_take]; rfl)) ?_
              with_reducible refine (ztb.calls k3 t164 t165 t166 _ A58.out).mono ?_
              rintro e w61 ⟨rfl, hb⟩
              refine ⟨_, rfl, ?_⟩
              replace HO_154002 := za.mk (Kd.R_below (by (with_reducible repeat (first | apply Kd.R_alloc | apply Kd.R_drewN | apply Kd.R_drew)); exact HO_154002.out) hb)
              replace HO_154015 := za.mk (Kd.R_below (by (with_reducible repeat (first | apply Kd.R_alloc | apply Kd.R_drewN | apply Kd.R_drew)); exact HO_154015.out) hb)
              replace BK144 := za.mk (zh (zw BK144.out _) hb)
              replace BK145 := za.mk (zh (zw BK145.out _) hb)
              replace BK153 := za.mk (zh (zw BK153.out _) hb)
              replace HB := za.mk (zeb (by (with_reducible apply zg; with_reducible exact HB.out)) hb)
              (try clear hb)
              (try clear hb2)
              (try clear hk)
              (try clear hi)
              refine hK.out _ _ ⟨(zd BK153.out 0).trans rfl, (zd BK153.out 1).trans rfl, (zd BK153.out 2).trans rfl, (zd BK153.out 3).trans rfl, (zd BK153.out 4).trans rfl, (zd BK153.out 5).trans rfl, (zd BK153.out 6).trans rfl, (zd BK153.out 7).trans rfl, (zd BK153.out 8).trans rfl, (zd BK153.out 9).trans rfl, (zd BK153.out 10).trans rfl, (zd BK153.out 11).trans rfl, (zd BK153.out 12).trans rfl, (zd BK153.out 13).trans rfl, (zd BK153.out 14).trans rfl, (zd BK153.out 15).trans rfl, (zd BK153.out 16).trans rfl⟩ (fun hHeld => ?_)
              clear hK K
              refine norm_ (a' := ?_) ?_ ?_
              rotate_left
              ·show Act.put _ (some 62) _ = _
               simp only [Act.put, List.setIfInBounds_toArray, List.set_cons_zero, List.set_cons_succ, i64_w, i32_w]
               rfl
              refine one_ (i := 5) (N := some 63) #[true, true, true, true, true, true, false, false, false] rfl rfl (zye HT_.out (by kernel_rfl)) (by decide) (fun K hK => ?_)
              refine value_ (w1 := ?_) (v := ?_) (by rfl) rfl ?_ ?_
              rotate_left 2
              ·go_simp
               constructor
               ·rfl
               ·rfl
              refine hK.out _ _ ⟨(zd (zgb BK153.out _) 0).trans rfl, (zd (zgb BK153.out _) 1).trans rfl, (zd (zgb BK153.out _) 2).trans rfl, (zd (zgb BK153.out _) 3).trans rfl, (zd (zgb BK153.out _) 4).trans rfl, (zd (zgb BK153.out _) 5).trans rfl, (zd (zgb BK153.out _) 6).trans rfl, (zd (zgb BK153.out _) 7).trans rfl, (zd (zgb BK153.out _) 8).trans rfl, (zd (zgb BK153.out _) 9).trans rfl, (zd (zgb BK153.out _) 10).trans rfl, (zd (zgb BK153.out _) 11).trans rfl, (zd (zgb BK153.out _) 12).trans rfl, (zd (zgb BK153.out _) 13).trans rfl, (zd (zgb BK153.out _) 14).trans rfl, (zd (zgb BK153.out _) 15).trans rfl, (zd (zgb BK153.out _) 16).trans rfl⟩ (fun hHeld => ?_)
              clear hK K
              refine norm_ (a' := ?_) ?_ ?_
              rotate_left
              ·show Act.put _ (some 63) _ = _
               simp only [Act.put, List.setIfInBounds_toArray, List.set_cons_zero, List.set_cons_succ, i64_w, i32_w]
               rfl
              refine one_ (i := 6) (N := some 64) #[true, true, true, true, true, true, true, false, false] rfl rfl (zye HT_.out (by kernel_rfl)) (by decide) (fun K hK => ?_)
              refine Kd.R_append_step k29 (w0 := w) w.heap.size (by rfl) (.tmp 59) (.tmp 63) 30 29 (.agg #[(.bool false), (.string ⟨#[]⟩)]) 24 rfl Tryz.underlying30 info29 rfl (by decide) (by omega) u154002 x154002_3 (⟨t165, t166⟩ : S29) [.bool t165, .string t166] (fun _ => True) (fun _ => False) rfl rfl ?aP (fun _ hk => hk.elim) ?aF ?aO ?aB ?aS ?aL ?_
              (case aP => exact k29_mkM _ _ _ (⟨t165, t166⟩ : S29))
              (case aB => exact (by (with_reducible exact HB.out)))
              (case aF => exact (fun _ _ => trivial))
              (case aO => exact (by (with_reducible repeat (first | apply Kd.R_alloc | apply Kd.R_drewN | apply Kd.R_drew)); exact HO_154002.out))
              (case aS => exact (zdb (by (with_reducible exact HB.out))))
              (case aL => have := LMc59.out; omega)
              intro v168 w62 ho hb hg hat
              rw [← Ny167.out] at ho
              replace HO_154015 := za.mk (Kd.R_over' (by (with_reducible repeat (first | apply Kd.R_alloc | apply Kd.R_drewN | apply Kd.R_drew)); exact HO_154015.out) (Kd.R_typed (by (with_reducible repeat (first | apply Kd.R_alloc | apply Kd.R_drewN | apply Kd.R_drew)); exact HO_154002.out)) (by decide) hg)
              replace BK144 := za.mk (zae BK144.out hg (Kd.R_ne HO_154002.out BK144.out (by decide)))
              replace BK145 := za.mk (zae BK145.out hg (Kd.R_ne HO_154002.out BK145.out (by decide)))
              replace BK153 := za.mk (zae BK153.out hg (Kd.R_ne HO_154002.out BK153.out (by decide)))
              have HO169 := za.mk ho
              replace HB := za.mk hb
              clear HO_154002
              clear ho hb hg hat
              obtain ⟨Ao63, co63, eo63⟩ := Kd.R_slice HO169.out
              (first | subst eo63 | (injection eo63 with f1_ f2_ f3_; have f4_ := f1_.symm; have f5_ := f3_.symm; clear f1_ f2_ f3_; subst f4_; subst f5_))
              refine hK.out _ _ ⟨(zd BK153.out 0).trans rfl, (zd BK153.out 1).trans rfl, (zd BK153.out 2).trans rfl, (zd BK153.out 3).trans rfl, (zd BK153.out 4).trans rfl, (zd BK153.out 5).trans rfl, (zd BK153.out 6).trans rfl, (zd BK153.out 7).trans rfl, (zd BK153.out 8).trans rfl, (zd BK153.out 9).trans rfl, (zd BK153.out 10).trans rfl, (zd BK153.out 11).trans rfl, (zd BK153.out 12).trans rfl, (zd BK153.out 13).trans rfl, (zd BK153.out 14).trans rfl, (zd BK153.out 15).trans rfl, (zd BK153.out 16).trans rfl⟩ (fun hHeld => ?_)
              clear hK K
              refine norm_ (a' := ?_) ?_ ?_
              rotate_left
              ·show Act.put _ (some 64) _ = _
               simp only [Act.put, List.setIfInBounds_toArray, List.set_cons_zero, List.set_cons_succ, i64_w, i32_w]
               rfl
              refine pure_ (i := 7) (N := some 65) (v := ?_) (a' := ?_) #[true, true, true, true, true, true, true, true, false] rfl rfl (zhc HT_.out (by kernel_rfl)) (fun _ _ _ h => h) (Or.inl ⟨by rfl, ?_⟩) ?_ ?_
              rotate_left
              ·intro w'
               go_simp
               with_reducible rfl
              rotate_left
              ·simp only [Act.put, List.setIfInBounds_toArray, List.set_cons_zero, List.set_cons_succ, i64_w, i32_w]
               rfl
              refine last_ (i := 8) (N := none) #[true, true, true, true, true, true, true, true, true] rfl rfl (zye HT_.out (by kernel_rfl)) (by decide) (fun K hK => ?_)
              have hs64 : w62.cell? ⟨gb153, 2, none⟩ = some (u154002) := (zd BK153.out 2).trans rfl
              have hfs64 := zj BK153.out 2
              have hns64_0 := NB144_153.out
              have hns64_1 := NB145_153.out
              have hms64_0 := NB153_144.out
              have hms64_1 := NB153_145.out
              refine skip_ (w1 := ?_) (by rfl) rfl ?_ ?_
              rotate_left
              ·go_simp
               rfl
              refine hK.out _ _ ?_
              clear hK K
              refine done_ (done_of HT_.out (by kernel_rfl)) ?_
              try go_wp2_with (fail)
              go_roundg k3
              case measure => have := HJ1.out; have := HJ18.out; have := HK3.out; omega
              case rel => exact ⟨(x6_3 ++ t163), (wrap64 (x45_3 + 1)), (y167), (.slice Ao63 y167.length co63), (by rfl), (by rfl), (by exact H'), ⟨by have := HJ1.out; have := HJ18.out; have := HK3.out; omega⟩, ⟨by (with_reducible repeat (first | apply Kd.R_alloc | apply Kd.R_drewN | apply Kd.R_drew)); exact Kd.R_mono (farC (Kd.R_types HO169.out BK153.out (by decide))) (fun _ hk => trivial)⟩, ⟨by (with_reducible repeat (first | apply Kd.R_alloc | apply Kd.R_drewN | apply Kd.R_drew)); exact Kd.R_mono (farC (Kd.R_types HO_154015.out BK153.out (by decide))) (fun _ hk => trivial)⟩, ⟨by refine zcc ?_ NB144_153.out _; exact BK144.out⟩, ⟨by refine zcc ?_ NB145_153.out _; exact BK145.out⟩, ⟨by refine zl (cs := #[.bool t148, .string t149, u154002, .bool false, .string ⟨#[]⟩, .bool false, .string ⟨#[]⟩, .bool false, .string ⟨#[]⟩, .bool false, .string ⟨#[]⟩, .bool false, .string ⟨#[]⟩, .bool false, .string ⟨#[]⟩, .slice Ao25 y150.length co25, .slice none 0 0]) ?_ 2 _ rfl; exact BK153.out⟩, ⟨by (with_reducible refine zbb ?_ GE153.out; with_reducible exact HB.out)⟩⟩
             ·rw [if_neg c59] at H
              exact absurd H (by simp)
            ·rw [if_neg c56] at H
             exact absurd H (by simp)
          ·rw [if_neg c42] at H
           exact absurd H (by simp)
         ·rw [if_neg c41] at H
          exact absurd H (by simp)
        ·rw [if_neg c40] at H
         have c40b0 : decide (x45_3 < (l0_1.length : Int)) = false := decide_eq_false c40
         clear c40
         have HC65 := za.mk H
         clear H
         have hnb66 := NB144_145.out
         have hnc66 := NB145_144.out
         have hnb67 := NB144_153.out
         have hnc67 := NB153_144.out
         obtain ⟨hcz68_0, hcz68_1, hcz68_2, hcz68_3, hcz68_4, hcz68_5, hcz68_6, hcz68_7, hcz68_8, hfz68_0, hfz68_1, hfz68_2, hfz68_3, hfz68_4, hfz68_5, hfz68_6, hfz68_7, hfz68_8⟩ := cl9 BK144.out
         go_upto_if 71 with (first | ((with_reducible refine zfe (t := 34) rfl ?_); refine zwf rfl 34 _ _ rfl _ _ #[_, _, _, _, _, _, _, _, _, _, _, _, _, _, _, _, _] 34 rfl rfl (by (with_reducible repeat (first | refine zw ?_ _ | refine zjd ?_ | refine zgb ?_ _)); first | with_reducible exact BK144.out | with_reducible exact BK145.out | with_reducible exact BK153.out) (by rfl) size34_ rfl ?_; simp only [World.setCells, List.toList_toArray, Nat.zero_add, Nat.reduceAdd]))
         go_cut [6, 71] (fun v6 v71 wc => ∃ (kq : Nat) (x6_64 : ByteArray) (x154003_64 : Bool) (x154004_64 : ByteArray) (x154005_64 : Bool) (x154006_64 : ByteArray), v6 = .string x6_64 ∧ za (ze.j3 kq x6_64 a0_0 l0_1 a0_2 a0_3 a0_4 a0_5 a0_6 a0_7 l0_8 t148 t149 x154002_3 x154003_64 x154004_64 x154005_64 x154006_64 false (⟨#[]⟩ : ByteArray) false (⟨#[]⟩ : ByteArray) false (⟨#[]⟩ : ByteArray) false (⟨#[]⟩ : ByteArray) y150 = some (r1, r2, r3, r4, r5, r6, r7, r8, r9, r10, r11, r12, r13, r14, r15, r16, r17, r18, r19)) ∧ za (kq ≤ k3) ∧ za (Kd.R k29 29 wc w.heap.size (fun _ => True) u154002 x154002_3) ∧ za (Kd.R Kd.string 9 wc w.heap.size (fun _ => True) (.slice Ao25 y150.length co25) y150) ∧ za (wc.heap[gb144]? = some (.cells #[.int .u16 a0_0, (.slice A0_1 l0_1.length c0_1), .int .u8 a0_2, .int .u16 a0_3, .int .u16 a0_4, .int .u16 a0_5, .bool a0_6, .bool a0_7, (.slice A0_8 l0_8.length c0_8)] 26 (0, 0))) ∧ za (wc.heap[gb145]? = some (.cells #[.bool false, .string ⟨#[]⟩, (.slice none 0 0), .bool false, .string ⟨#[]⟩, .bool false, .string ⟨#[]⟩, .bool false, .string ⟨#[]⟩, .bool false, .string ⟨#[]⟩, .bool false, .string ⟨#[]⟩, .bool false, .string ⟨#[]⟩, (.slice none 0 0), (.slice none 0 0)] 34 (0, 0))) ∧ za (wc.heap[gb153]? = some (.cells #[.bool t148, .string t149, u154002, .bool x154003_64, .string x154004_64, .bool x154005_64, .string x154006_64, .bool false, .string ⟨#[]⟩, .bool false, .string ⟨#[]⟩, .bool false, .string ⟨#[]⟩, .bool false, .string ⟨#[]⟩, (.slice Ao25 y150.length co25), (.slice none 0 0)] 34 (0, 0))) ∧ za (Below w.heap.size w wc))
         case first =>
          have H := HC65.out
          clear HC65
          by_cases c69 : (Int.tmod a0_2 4) > 0
          ·exact absurd c69 (by rw [HZ.out.2.1]; decide)
          ·rw [if_neg c69] at H
           have c69b0 : decide (0 < (Int.tmod a0_2 4)) = false := decide_eq_false c69
           clear c69
           (first | rw [c69b0] | (simp only [i64_w, i32_w]; rw [c69b0]) | skip)
           have H' := za.mk H
           clear H
           go_wp2_with (fail)
           go_meet
           case rel => exact ⟨_, (x6_3), (false), ((⟨#[]⟩ : ByteArray)), (false), ((⟨#[]⟩ : ByteArray)), (by rfl), (by exact H'), ⟨by have := HJ1.out; have := HJ18.out; have := HK3.out; first | omega | exact Nat.le_refl _⟩, ⟨by (with_reducible repeat (first | apply Kd.R_alloc | apply Kd.R_drewN | apply Kd.R_drew)); exact HO_154002.out⟩, ⟨by (with_reducible repeat (first | apply Kd.R_alloc | apply Kd.R_drewN | apply Kd.R_drew)); exact HO_154015.out⟩, ⟨by exact BK144.out⟩, ⟨by exact BK145.out⟩, ⟨by exact BK153.out⟩, ⟨by (with_reducible exact HB.out)⟩⟩
         case rest =>
          clear HC65
          obtain ⟨kq, x6_64, x154003_64, x154004_64, x154005_64, x154006_64, rfl, HA, HJ64, HO_154002, HO_154015, BK144, BK145, BK153, HB⟩ := hcut
          cases kq with
          | zero => exact absurd HA.out (by simp [ze.j3])
          | succ kj64 =>
           have H := HA.out
           clear HA
           simp only [ze.j3] at H
           have HC91 := za.mk H
           clear H
           have hnb92 := NB144_145.out
           have hnc92 := NB145_144.out
           have hnb93 := NB144_153.out
           have hnc93 := NB153_144.out
           obtain ⟨hcz94_0, hcz94_1, hcz94_2, hcz94_3, hcz94_4, hcz94_5, hcz94_6, hcz94_7, hcz94_8, hfz94_0, hfz94_1, hfz94_2, hfz94_3, hfz94_4, hfz94_5, hfz94_6, hfz94_7, hfz94_8⟩ := cl9 BK144.out
           go_upto_if 93 with (first | ((with_reducible refine zfe (t := 34) rfl ?_); refine zwf rfl 34 _ _ rfl _ _ #[_, _, _, _, _, _, _, _, _, _, _, _, _, _, _, _, _] 34 rfl rfl (by (with_reducible repeat (first | refine zw ?_ _ | refine zjd ?_ | refine zgb ?_ _)); first | with_reducible exact BK144.out | with_reducible exact BK145.out | with_reducible exact BK153.out) (by rfl) size34_ rfl ?_; simp only [World.setCells, List.toList_toArray, Nat.zero_add, Nat.reduceAdd]))
           go_cut [6, 93] (fun v6 v93 wc => ∃ (kq : Nat) (x6_90 : ByteArray) (x154007_90 : Bool) (x154008_90 : ByteArray) (x154009_90 : Bool) (x154010_90 : ByteArray), v6 = .string x6_90 ∧ za (ze.j4 kq x6_90 a0_0 l0_1 a0_2 a0_3 a0_4 a0_5 a0_6 a0_7 l0_8 t148 t149 x154002_3 x154003_64 x154004_64 x154005_64 x154006_64 x154007_90 x154008_90 x154009_90 x154010_90 false (⟨#[]⟩ : ByteArray) false (⟨#[]⟩ : ByteArray) y150 = some (r1, r2, r3, r4, r5, r6, r7, r8, r9, r10, r11, r12, r13, r14, r15, r16, r17, r18, r19)) ∧ za (kq ≤ kj64) ∧ za (Kd.R k29 29 wc w.heap.size (fun _ => True) u154002 x154002_3) ∧ za (Kd.R Kd.string 9 wc w.heap.size (fun _ => True) (.slice Ao25 y150.length co25) y150) ∧ za (wc.heap[gb144]? = some (.cells #[.int .u16 a0_0, (.slice A0_1 l0_1.length c0_1), .int .u8 a0_2, .int .u16 a0_3, .int .u16 a0_4, .int .u16 a0_5, .bool a0_6, .bool a0_7, (.slice A0_8 l0_8.length c0_8)] 26 (0, 0))) ∧ za (wc.heap[gb145]? = some (.cells #[.bool false, .string ⟨#[]⟩, (.slice none 0 0), .bool false, .string ⟨#[]⟩, .bool false, .string ⟨#[]⟩, .bool false, .string ⟨#[]⟩, .bool false, .string ⟨#[]⟩, .bool false, .string ⟨#[]⟩, .bool false, .string ⟨#[]⟩, (.slice none 0 0), (.slice none 0 0)] 34 (0, 0))) ∧ za (wc.heap[gb153]? = some (.cells #[.bool t148, .string t149, u154002, .bool x154003_64, .string x154004_64, .bool x154005_64, .string x154006_64, .bool x154007_90, .string x154008_90, .bool x154009_90, .string x154010_90, .bool false, .string ⟨#[]⟩, .bool false, .string ⟨#[]⟩, (.slice Ao25 y150.length co25), (.slice none 0 0)] 34 (0, 0))) ∧ za (Below w.heap.size w wc))
           case first =>
            have H := HC91.out
            clear HC91
            by_cases c95 : a0_6 = true
            ·exact absurd c95 (by rw [HZ.out.2.2.1]; decide)
            ·replace c95 := Bool.eq_false_iff.mpr c95
             subst c95
             have H1 : (ze.j4 kj64 x6_64 a0_0 l0_1 a0_2 a0_3 a0_4 a0_5 false a0_7 l0_8 t148 t149 x154002_3 x154003_64 x154004_64 x154005_64 x154006_64 false (⟨#[]⟩ : ByteArray) false (⟨#[]⟩ : ByteArray) false (⟨#[]⟩ : ByteArray) false (⟨#[]⟩ : ByteArray) y150) = some (r1, r2, r3, r4, r5, r6, r7, r8, r9, r10, r11, r12, r13, r14, r15, r16, r17, r18, r19) := by rw [if_neg (show ¬ (false = true) by decide)] at H; exact H
             clear H
             have H := H1
             clear H1
             have H' := za.mk H
             clear H
             go_wp2_with (fail)
             go_meet
             case rel => exact ⟨_, (x6_64), (false), ((⟨#[]⟩ : ByteArray)), (false), ((⟨#[]⟩ : ByteArray)), (by rfl), (by exact H'), ⟨by have := HJ1.out; have := HJ18.out; have := HK3.out; have := HJ64.out; first | omega | exact Nat.le_refl _⟩, ⟨by (with_reducible repeat (first | apply Kd.R_alloc | apply Kd.R_drewN | apply Kd.R_drew)); exact HO_154002.out⟩, ⟨by (with_reducible repeat (first | apply Kd.R_alloc | apply Kd.R_drewN | apply Kd.R_drew)); exact HO_154015.out⟩, ⟨by exact BK144.out⟩, ⟨by exact BK145.out⟩, ⟨by exact BK153.out⟩, ⟨by (with_reducible exact HB.out)⟩⟩
           case rest =>
            clear HC91
            clear hcz94_0 hcz94_1 hcz94_2 hcz94_3 hcz94_4 hcz94_5 hcz94_6 hcz94_7 hcz94_8 hfz94_0 hfz94_1 hfz94_2 hfz94_3 hfz94_4 hfz94_5 hfz94_6 hfz94_7 hfz94_8
            obtain ⟨kq, x6_90, x154007_90, x154008_90, x154009_90, x154010_90, rfl, HA, HJ90, HO_154002, HO_154015, BK144, BK145, BK153, HB⟩ := hcut
            cases kq with
            | zero => exact absurd HA.out (by simp [ze.j4])
            | succ kj90 =>
             have H := HA.out
             clear HA
             simp only [ze.j4] at H
             have HC108 := za.mk H
             clear H
             have hnb109 := NB144_145.out
             have hnc109 := NB145_144.out
             have hnb110 := NB144_153.out
             have hnc110 := NB153_144.out
             obtain ⟨hcz111_0, hcz111_1, hcz111_2, hcz111_3, hcz111_4, hcz111_5, hcz111_6, hcz111_7, hcz111_8, hfz111_0, hfz111_1, hfz111_2, hfz111_3, hfz111_4, hfz111_5, hfz111_6, hfz111_7, hfz111_8⟩ := cl9 BK144.out
             go_upto_if 107 with (first | ((with_reducible refine zfe (t := 34) rfl ?_); refine zwf rfl 34 _ _ rfl _ _ #[_, _, _, _, _, _, _, _, _, _, _, _, _, _, _, _, _] 34 rfl rfl (by (with_reducible repeat (first | refine zw ?_ _ | refine zjd ?_ | refine zgb ?_ _)); first | with_reducible exact BK144.out | with_reducible exact BK145.out | with_reducible exact BK153.out) (by rfl) size34_ rfl ?_; simp only [World.setCells, List.toList_toArray, Nat.zero_add, Nat.reduceAdd]))
             go_cut [6, 107] (fun v6 v107 wc => ∃ (kq : Nat) (x6_107 : ByteArray) (x154011_107 : Bool) (x154012_107 : ByteArray) (x154013_107 : Bool) (x154014_107 : ByteArray), v6 = .string x6_107 ∧ za (ze.j5 kq x6_107 a0_0 l0_1 a0_2 a0_3 a0_4 a0_5 a0_6 a0_7 l0_8 t148 t149 x154002_3 x154003_64 x154004_64 x154005_64 x154006_64 x154007_90 x154008_90 x154009_90 x154010_90 x154011_107 x154012_107 x154013_107 x154014_107 y150 = some (r1, r2, r3, r4, r5, r6, r7, r8, r9, r10, r11, r12, r13, r14, r15, r16, r17, r18, r19)) ∧ za (kq ≤ kj90) ∧ za (Kd.R k29 29 wc w.heap.size (fun _ => True) u154002 x154002_3) ∧ za (Kd.R Kd.string 9 wc w.heap.size (fun _ => True) (.slice Ao25 y150.length co25) y150) ∧ za (wc.heap[gb144]? = some (.cells #[.int .u16 a0_0, (.slice A0_1 l0_1.length c0_1), .int .u8 a0_2, .int .u16 a0_3, .int .u16 a0_4, .int .u16 a0_5, .bool a0_6, .bool a0_7, (.slice A0_8 l0_8.length c0_8)] 26 (0, 0))) ∧ za (wc.heap[gb145]? = some (.cells #[.bool false, .string ⟨#[]⟩, (.slice none 0 0), .bool false, .string ⟨#[]⟩, .bool false, .string ⟨#[]⟩, .bool false, .string ⟨#[]⟩, .bool false, .string ⟨#[]⟩, .bool false, .string ⟨#[]⟩, .bool false, .string ⟨#[]⟩, (.slice none 0 0), (.slice none 0 0)] 34 (0, 0))) ∧ za (wc.heap[gb153]? = some (.cells #[.bool t148, .string t149, u154002, .bool x154003_64, .string x154004_64, .bool x154005_64, .string x154006_64, .bool x154007_90, .string x154008_90, .bool x154009_90, .string x154010_90, .bool x154011_107, .string x154012_107, .bool x154013_107, .string x154014_107, (.slice Ao25 y150.length co25), (.slice none 0 0)] 34 (0, 0))) ∧ za (Below w.heap.size w wc))
             case first =>
              have H := HC108.out
              clear HC108
              by_cases c112 : a0_7 = true
              ·exact absurd c112 (by rw [HZ.out.2.2.2.1]; decide)
              ·replace c112 := Bool.eq_false_iff.mpr c112
               subst c112
               have H1 : (ze.j5 kj90 x6_90 a0_0 l0_1 a0_2 a0_3 a0_4 a0_5 a0_6 false l0_8 t148 t149 x154002_3 x154003_64 x154004_64 x154005_64 x154006_64 x154007_90 x154008_90 x154009_90 x154010_90 false (⟨#[]⟩ : ByteArray) false (⟨#[]⟩ : ByteArray) y150) = some (r1, r2, r3, r4, r5, r6, r7, r8, r9, r10, r11, r12, r13, r14, r15, r16, r17, r18, r19) := by rw [if_neg (show ¬ (false = true) by decide)] at H; exact H
               clear H
               have H := H1
               clear H1
               have H' := za.mk H
               clear H
               go_wp2_with (fail)
               go_meet
               case rel => exact ⟨_, (x6_90), (false), ((⟨#[]⟩ : ByteArray)), (false), ((⟨#[]⟩ : ByteArray)), (by rfl), (by exact H'), ⟨by have := HJ1.out; have := HJ18.out; have := HK3.out; have := HJ64.out; have := HJ90.out; first | omega | exact Nat.le_refl _⟩, ⟨by (with_reducible repeat (first | apply Kd.R_alloc | apply Kd.R_drewN | apply Kd.R_drew)); exact HO_154002.out⟩, ⟨by (with_reducible repeat (first | apply Kd.R_alloc | apply Kd.R_drewN | apply Kd.R_drew)); exact HO_154015.out⟩, ⟨by exact BK144.out⟩, ⟨by exact BK145.out⟩, ⟨by exact BK153.out⟩, ⟨by (with_reducible exact HB.out)⟩⟩
             case rest =>
              clear HC108
              clear hcz111_0 hcz111_1 hcz111_2 hcz111_3 hcz111_4 hcz111_5 hcz111_6 hcz111_7 hcz111_8 hfz111_0 hfz111_1 hfz111_2 hfz111_3 hfz111_4 hfz111_5 hfz111_6 hfz111_7 hfz111_8
              obtain ⟨kq, x6_107, x154011_107, x154012_107, x154013_107, x154014_107, rfl, HA, HJ107, HO_154002, HO_154015, BK144, BK145, BK153, HB⟩ := hcut
              cases kq with
              | zero => exact absurd HA.out (by simp [ze.j5])
              | succ kj107 =>
               have H := HA.out
               clear HA
               simp only [ze.j5] at H
               have H' := za.mk H
               clear H
               have hnb125 := NB144_145.out
               have hnc125 := NB145_144.out
               have hnb126 := NB144_153.out
               have hnc126 := NB153_144.out
               obtain ⟨hcz127_0, hcz127_1, hcz127_2, hcz127_3, hcz127_4, hcz127_5, hcz127_6, hcz127_7, hcz127_8, hfz127_0, hfz127_1, hfz127_2, hfz127_3, hfz127_4, hfz127_5, hfz127_6, hfz127_7, hfz127_8⟩ := cl9 BK144.out
               go_wp2_with (fail)
               (try simp only [Act.put, List.setIfInBounds_toArray, List.set_cons_zero, List.set_cons_succ])
               go_loopg [6, 123] kj107 (fun kq v6 v123 w' => ∃ (x6_7 : ByteArray) (x123_7 : Int) (x146000_7 : Bool) (x146001_7 : ByteArray) (x146003_7 : Bool) (x146004_7 : ByteArray) (x146005_7 : Bool) (x146006_7 : ByteArray) (x146007_7 : Bool) (x146008_7 : ByteArray) (x146009_7 : Bool) (x146010_7 : ByteArray) (x146011_7 : Bool) (x146012_7 : ByteArray) (x146013_7 : Bool) (x146014_7 : ByteArray) (x154015_7 : List ByteArray) (u154015 : Value), v6 = .string x6_7 ∧ v123 = .int .i64 x123_7 ∧ za (ze.l1 kq x6_7 l0_8 (l0_8.length : Int) x123_7 t148 t149 x154002_3 x154003_64 x154004_64 x154005_64 x154006_64 x154007_90 x154008_90 x154009_90 x154010_90 x154011_107 x154012_107 x154013_107 x154014_107 x154015_7 = some (r1, r2, r3, r4, r5, r6, r7, r8, r9, r10, r11, r12, r13, r14, r15, r16, r17, r18, r19)) ∧ za (kq ≤ kj107) ∧ za (Kd.R k29 29 w' w.heap.size (fun _ => True) u154002 x154002_3) ∧ za (Kd.R Kd.string 9 w' w.heap.size (fun _ => True) u154015 x154015_7) ∧ za (w'.heap[gb144]? = some (.cells #[.int .u16 a0_0, (.slice A0_1 l0_1.length c0_1), .int .u8 a0_2, .int .u16 a0_3, .int .u16 a0_4, .int .u16 a0_5, .bool a0_6, .bool a0_7, (.slice A0_8 l0_8.length c0_8)] 26 (0, 0))) ∧ za (w'.heap[gb145]? = some (.cells #[.bool x146000_7, .string x146001_7, (.slice none 0 0), .bool x146003_7, .string x146004_7, .bool x146005_7, .string x146006_7, .bool x146007_7, .string x146008_7, .bool x146009_7, .string x146010_7, .bool x146011_7, .string x146012_7, .bool x146013_7, .string x146014_7, (.slice none 0 0), (.slice none 0 0)] 34 (0, 0))) ∧ za (w'.heap[gb153]? = some (.cells #[.bool t148, .string t149, u154002, .bool x154003_64, .string x154004_64, .bool x154005_64, .string x154006_64, .bool x154007_90, .string x154008_90, .bool x154009_90, .string x154010_90, .bool x154011_107, .string x154012_107, .bool x154013_107, .string x154014_107, u154015, (.slice none 0 0)] 34 (0, 0))) ∧ za (Below w.heap.size w w'))
               case atStart => exact ⟨(x6_107), (0), (false), ((⟨#[]⟩ : ByteArray)), (false), ((⟨#[]⟩ : ByteArray)), (false), ((⟨#[]⟩ : ByteArray)), (false), ((⟨#[]⟩ : ByteArray)), (false), ((⟨#[]⟩ : ByteArray)), (false), ((⟨#[]⟩ : ByteArray)), (false), ((⟨#[]⟩ : ByteArray)), (y150), (.slice Ao25 y150.length co25), (by rfl), (by rfl), H', ⟨Nat.le_refl _⟩, ⟨by (with_reducible repeat (first | apply Kd.R_alloc | apply Kd.R_drewN | apply Kd.R_drew)); exact HO_154002.out⟩, ⟨by (with_reducible repeat (first | apply Kd.R_alloc | apply Kd.R_drewN | apply Kd.R_drew)); exact HO_154015.out⟩, ⟨by exact BK144.out⟩, ⟨by exact BK145.out⟩, ⟨by exact BK153.out⟩, ⟨by (with_reducible exact HB.out)⟩⟩
               case round =>
                clear H'
                clear hcz127_0 hcz127_1 hcz127_2 hcz127_3 hcz127_4 hcz127_5 hcz127_6 hcz127_7 hcz127_8 hfz127_0 hfz127_1 hfz127_2 hfz127_3 hfz127_4 hfz127_5 hfz127_6 hfz127_7 hfz127_8
                obtain ⟨x6_7, x123_7, x146000_7, x146001_7, x146003_7, x146004_7, x146005_7, x146006_7, x146007_7, x146008_7, x146009_7, x146010_7, x146011_7, x146012_7, x146013_7, x146014_7, x154015_7, u154015, rfl, rfl, HA, HK7, HO_154002, HO_154015, BK144, BK145, BK153, HB⟩ := hrel
                cases gk with
                | zero => exact absurd HA.out (by simp [ze.l1])
                | succ k7 =>
                 have H := HA.out
                 clear HA
                 simp only [ze.l1] at H
                 by_cases c128 : x123_7 < (l0_8.length : Int)
                 ·rw [if_pos c128] at H
                  have c128K := c128
                  have c128b0 : decide (x123_7 < (l0_8.length : Int)) = true := decide_eq_true c128
                  clear c128
                  by_cases c129 : 0 ≤ x123_7
                  ·exact absurd (Int.lt_of_le_of_lt c129 c128K) (by rw [HZ.out.2.2.2.2]; decide)
                  ·rw [if_neg c129] at H
                   exact absurd H (by simp)
                 ·rw [if_neg c128] at H
                  have c128b0 : decide (x123_7 < (l0_8.length : Int)) = false := decide_eq_false c128
                  clear c128
                  simp only [Option.some.injEq, Prod.mk.injEq] at H
                  obtain ⟨rfl, rfl, rfl, rfl, rfl, rfl, rfl, rfl, rfl, rfl, rfl, rfl, rfl, rfl, rfl, rfl, rfl, rfl, rfl⟩ := H
                  try go_wp2_with (fail)
                  replace HO_154002 := za.mk (Kd.R_drew HO_154002.out)
                  replace HO_154015 := za.mk (Kd.R_drew HO_154015.out)
                  replace BK144 := za.mk (zjd BK144.out)
                  replace BK145 := za.mk (zjd BK145.out)
                  replace BK153 := za.mk (zjd BK153.out)
                  replace HB := za.mk (zu HB.out)
                  obtain ⟨Ao162, co162, eo162⟩ := Kd.R_slice HO_154002.out
                  (first | subst eo162 | (injection eo162 with f1_ f2_ f3_; have f4_ := f1_.symm; have f5_ := f3_.symm; clear f1_ f2_ f3_; subst f4_; subst f5_))
                  obtain ⟨Ao176, co176, eo176⟩ := Kd.R_slice HO_154015.out
                  (first | subst eo176 | (injection eo176 with f1_ f2_ f3_; have f4_ := f1_.symm; have f5_ := f3_.symm; clear f1_ f2_ f3_; subst f4_; subst f5_))
                  refine start_ (n := 5) (S := fun w' => w'.cell? ⟨gb153, 0, none⟩ = some (.bool t148) ∧ w'.cell? ⟨gb153, 1, none⟩ = some (.string t149) ∧ w'.cell? ⟨gb153, 2, none⟩ = some (.slice Ao162 x154002_3.length co162) ∧ w'.cell? ⟨gb153, 3, none⟩ = some (.bool x154003_64) ∧ w'.cell? ⟨gb153, 4, none⟩ = some (.string x154004_64) ∧ w'.cell? ⟨gb153, 5, none⟩ = some (.bool x154005_64) ∧ w'.cell? ⟨gb153, 6, none⟩ = some (.string x154006_64) ∧ w'.cell? ⟨gb153, 7, none⟩ = some (.bool x154007_90) ∧ w'.cell? ⟨gb153, 8, none⟩ = some (.string x154008_90) ∧ w'.cell? ⟨gb153, 9, none⟩ = some (.bool x154009_90) ∧ w'.cell? ⟨gb153, 10, none⟩ = some (.string x154010_90) ∧ w'.cell? ⟨gb153, 11, none⟩ = some (.bool x154011_107) ∧ w'.cell? ⟨gb153, 12, none⟩ = some (.string x154012_107) ∧ w'.cell? ⟨gb153, 13, none⟩ = some (.bool x154013_107) ∧ w'.cell? ⟨gb153, 14, none⟩ = some (.string x154014_107) ∧ w'.cell? ⟨gb153, 15, none⟩ = some (.slice Ao176 x154015_7.length co176) ∧ w'.cell? ⟨gb153, 16, none⟩ = some (.slice none 0 0)) (ds := [3]) #[false, false, false, false, false] (by kernel_rfl) rfl rfl ⟨(zd BK153.out 0).trans rfl, (zd BK153.out 1).trans rfl, (zd BK153.out 2).trans rfl, (zd BK153.out 3).trans rfl, (zd BK153.out 4).trans rfl, (zd BK153.out 5).trans rfl, (zd BK153.out 6).trans rfl, (zd BK153.out 7).trans rfl, (zd BK153.out 8).trans rfl, (zd BK153.out 9).trans rfl, (zd BK153.out 10).trans rfl, (zd BK153.out 11).trans rfl, (zd BK153.out 12).trans rfl, (zd BK153.out 13).trans rfl, (zd BK153.out 14).trans rfl, (zd BK153.out 15).trans rfl, (zd BK153.out 16).trans rfl⟩ (fun hHeld => ?_)
                  generalize wr.drew = w159 at HO_154002 HO_154015 BK144 BK145 BK153 HB hHeld ⊢
                  refine pure_ (i := 0) (N := some 155) (v := ?_) (a' := ?_) #[true, false, false, false, false] rfl rfl (by kernel_rfl) (fun _ _ _ h => h) (Or.inl ⟨by rfl, ?_⟩) ?_ ?_
                  rotate_left
                  · intro w'
                    go_simp
                    with_reducible rfl
                  rotate_left
                  · simp only [Act.put, List.setIfInBounds_toArray, List.set_cons_zero, List.set_cons_succ, i64_w, i32_w]
                    rfl
                  refine pure_ (i := 2) (N := some 2) (v := ?_) (a' := ?_) #[true, false, true, false, false] rfl rfl (by kernel_rfl) (fun _ _ _ h => h) (Or.inl ⟨by rfl, ?_⟩) ?_ ?_
                  rotate_left
                  · intro w'
                    go_simp
                    with_reducible rfl
                  rotate_left
                  · simp only [Act.put, List.setIfInBounds_toArray, List.set_cons_zero, List.set_cons_succ, i64_w, i32_w]
                    rfl
                  refine take_ (i := 1) (N := some 156) (v := ?_) (a' := ?_) #[true, true, true, false, false] rfl rfl (by kernel_rfl) (fun _ _ _ h => h) (Or.inl ⟨by rfl, ?_⟩) hHeld ?_ ?_
                  rotate_left
                  · rintro w' ⟨s0, s1, s2, s3, s4, s5, s6, s7, s8, s9, s10, s11, s12, s13, s14, s15, s16⟩
                    go_simp
                    with_reducible rfl
                  rotate_left
                  · simp only [Act.put, List.setIfInBounds_toArray, List.set_cons_zero, List.set_cons_succ, i64_w, i32_w]
                    rfl
                  refine last_ (i := 3) (N := none) #[true, true, true, true, false] rfl rfl (by kernel_rfl) (by decide) (fun K hK => ?_)
                  refine skip_ (w1 := ?_) (by rfl) rfl ?_ ?_
                  rotate_left
                  · (refine Eq.trans (exec17 34 (.tmp _) (.tmp _) rfl _ 34 (by rfl) (by rfl) BK145.out size34_ (by rfl)) ?_; rfl)
                  refine hK.out _ _ ?_
                  clear hK K
                  refine pure_ (i := 4) (N := some 4) (v := ?_) (a' := ?_) #[true, true, true, true, true] rfl rfl (by kernel_rfl) (fun _ _ _ h => h) (Or.inl ⟨by rfl, ?_⟩) ?_ ?_
                  rotate_left
                  · intro w'
                    go_simp
                    with_reducible rfl
                  rotate_left
                  · simp only [Act.put, List.setIfInBounds_toArray, List.set_cons_zero, List.set_cons_succ, i64_w, i32_w]
                    rfl
                  refine done_ (by kernel_rfl) ?_
                  try go_wp2_with (fail)
                  refine bodyPost_ret (zph (rs := [.tmp 2, .cell 3 34, .tmp 4]) rfl (by simp) (.tmp (.cell gb145 34 #[.bool t148, .string t149, .slice Ao162 x154002_3.length co162, .bool x154003_64, .string x154004_64, .bool x154005_64, .string x154006_64, .bool x154007_90, .string x154008_90, .bool x154009_90, .string x154010_90, .bool x154011_107, .string x154012_107, .bool x154013_107, .string x154014_107, .slice Ao176 x154015_7.length co176, .slice none 0 0] (0, 0) _ rfl (by refine zl (cs := #[.bool t148, .string t149, .slice Ao162 x154002_3.length co162, .bool x154003_64, .string x154004_64, .bool x154005_64, .string x154006_64, .bool x154007_90, .string x154008_90, .bool x154009_90, .string x154010_90, .bool x154011_107, .string x154012_107, .bool x154013_107, .string x154014_107, .slice Ao176 x154015_7.length co176, .slice none 0 0]) ?_ 16 _ rfl; refine zl (cs := #[.bool t148, .string t149, .slice Ao162 x154002_3.length co162, .bool x154003_64, .string x154004_64, .bool x154005_64, .string x154006_64, .bool x154007_90, .string x154008_90, .bool x154009_90, .string x154010_90, .bool x154011_107, .string x154012_107, .bool x154013_107, .string x154014_107, .slice none 0 0, .slice none 0 0]) ?_ 15 _ rfl; refine zl (cs := #[.bool t148, .string t149, .slice Ao162 x154002_3.length co162, .bool x154003_64, .string x154004_64, .bool x154005_64, .string x154006_64, .bool x154007_90, .string x154008_90, .bool x154009_90, .string x154010_90, .bool x154011_107, .string x154012_107, .bool x154013_107, .string x146014_7, .slice none 0 0, .slice none 0 0]) ?_ 14 _ rfl; refine zl (cs := #[.bool t148, .string t149, .slice Ao162 x154002_3.length co162, .bool x154003_64, .string x154004_64, .bool x154005_64, .string x154006_64, .bool x154007_90, .string x154008_90, .bool x154009_90, .string x154010_90, .bool x154011_107, .string x154012_107, .bool x146013_7, .string x146014_7, .slice none 0 0, .slice none 0 0]) ?_ 13 _ rfl; refine zl (cs := #[.bool t148, .string t149, .slice Ao162 x154002_3.length co162, .bool x154003_64, .string x154004_64, .bool x154005_64, .string x154006_64, .bool x154007_90, .string x154008_90, .bool x154009_90, .string x154010_90, .bool x154011_107, .string x146012_7, .bool x146013_7, .string x146014_7, .slice none 0 0, .slice none 0 0]) ?_ 12 _ rfl; refine zl (cs := #[.bool t148, .string t149, .slice Ao162 x154002_3.length co162, .bool x154003_64, .string x154004_64, .bool x154005_64, .string x154006_64, .bool x154007_90, .string x154008_90, .bool x154009_90, .string x154010_90, .bool x146011_7, .string x146012_7, .bool x146013_7, .string x146014_7, .slice none 0 0, .slice none 0 0]) ?_ 11 _ rfl; refine zl (cs := #[.bool t148, .string t149, .slice Ao162 x154002_3.length co162, .bool x154003_64, .string x154004_64, .bool x154005_64, .string x154006_64, .bool x154007_90, .string x154008_90, .bool x154009_90, .string x146010_7, .bool x146011_7, .string x146012_7, .bool x146013_7, .string x146014_7, .slice none 0 0, .slice none 0 0]) ?_ 10 _ rfl; refine zl (cs := #[.bool t148, .string t149, .slice Ao162 x154002_3.length co162, .bool x154003_64, .string x154004_64, .bool x154005_64, .string x154006_64, .bool x154007_90, .string x154008_90, .bool x146009_7, .string x146010_7, .bool x146011_7, .string x146012_7, .bool x146013_7, .string x146014_7, .slice none 0 0, .slice none 0 0]) ?_ 9 _ rfl; refine zl (cs := #[.bool t148, .string t149, .slice Ao162 x154002_3.length co162, .bool x154003_64, .string x154004_64, .bool x154005_64, .string x154006_64, .bool x154007_90, .string x146008_7, .bool x146009_7, .string x146010_7, .bool x146011_7, .string x146012_7, .bool x146013_7, .string x146014_7, .slice none 0 0, .slice none 0 0]) ?_ 8 _ rfl; refine zl (cs := #[.bool t148, .string t149, .slice Ao162 x154002_3.length co162, .bool x154003_64, .string x154004_64, .bool x154005_64, .string x154006_64, .bool x146007_7, .string x146008_7, .bool x146009_7, .string x146010_7, .bool x146011_7, .string x146012_7, .bool x146013_7, .string x146014_7, .slice none 0 0, .slice none 0 0]) ?_ 7 _ rfl; refine zl (cs := #[.bool t148, .string t149, .slice Ao162 x154002_3.length co162, .bool x154003_64, .string x154004_64, .bool x154005_64, .string x146006_7, .bool x146007_7, .string x146008_7, .bool x146009_7, .string x146010_7, .bool x146011_7, .string x146012_7, .bool x146013_7, .string x146014_7, .slice none 0 0, .slice none 0 0]) ?_ 6 _ rfl; refine zl (cs := #[.bool t148, .string t149, .slice Ao162 x154002_3.length co162, .bool x154003_64, .string x154004_64, .bool x146005_7, .string x146006_7, .bool x146007_7, .string x146008_7, .bool x146009_7, .string x146010_7, .bool x146011_7, .string x146012_7, .bool x146013_7, .string x146014_7, .slice none 0 0, .slice none 0 0]) ?_ 5 _ rfl; refine zl (cs := #[.bool t148, .string t149, .slice Ao162 x154002_3.length co162, .bool x154003_64, .string x146004_7, .bool x146005_7, .string x146006_7, .bool x146007_7, .string x146008_7, .bool x146009_7, .string x146010_7, .bool x146011_7, .string x146012_7, .bool x146013_7, .string x146014_7, .slice none 0 0, .slice none 0 0]) ?_ 4 _ rfl; refine zl (cs := #[.bool t148, .string t149, .slice Ao162 x154002_3.length co162, .bool x146003_7, .string x146004_7, .bool x146005_7, .string x146006_7, .bool x146007_7, .string x146008_7, .bool x146009_7, .string x146010_7, .bool x146011_7, .string x146012_7, .bool x146013_7, .string x146014_7, .slice none 0 0, .slice none 0 0]) ?_ 3 _ rfl; refine zl (cs := #[.bool t148, .string t149, .slice none 0 0, .bool x146003_7, .string x146004_7, .bool x146005_7, .string x146006_7, .bool x146007_7, .string x146008_7, .bool x146009_7, .string x146010_7, .bool x146011_7, .string x146012_7, .bool x146013_7, .string x146014_7, .slice none 0 0, .slice none 0 0]) ?_ 2 _ rfl; refine zl (cs := #[.bool t148, .string x146001_7, .slice none 0 0, .bool x146003_7, .string x146004_7, .bool x146005_7, .string x146006_7, .bool x146007_7, .string x146008_7, .bool x146009_7, .string x146010_7, .bool x146011_7, .string x146012_7, .bool x146013_7, .string x146014_7, .slice none 0 0, .slice none 0 0]) ?_ 1 _ rfl; refine zl (cs := #[.bool x146000_7, .string x146001_7, .slice none 0 0, .bool x146003_7, .string x146004_7, .bool x146005_7, .string x146006_7, .bool x146007_7, .string x146008_7, .bool x146009_7, .string x146010_7, .bool x146011_7, .string x146012_7, .bool x146013_7, .string x146014_7, .slice none 0 0, .slice none 0 0]) ?_ 0 _ rfl; exact BK145.out) Tryz.underlying34 rfl (by kernel_rfl) (.tmp .nil)))) rfl ?_
                  exact ⟨_, _, _, by rfl, by (with_reducible repeat (first | apply Kd.R_alloc | apply Kd.R_drewN | apply Kd.R_drew)); exact Kd.R_mono (farC12 (farC5 (Kd.R_types HO_154002.out BK145.out (by decide)))) (fun _ hk => trivial), by (with_reducible repeat (first | apply Kd.R_alloc | apply Kd.R_drewN | apply Kd.R_drew)); exact Kd.R_mono (farC12 (farC5 (Kd.R_types HO_154015.out BK145.out (by decide)))) (fun _ hk => (by simp [Value.ownBlock])), by exact Kd.R_nil _ _ _ _ _, by repeat (first | (with_reducible first | exact HB.out | apply zm | apply zg | apply zu | refine zbb ?_ GE144.out | refine zbb ?_ GE145.out | refine zbb ?_ GE153.out) | exact HB.out)⟩
end Go.Proofs.YtlijjnjpomnphaaGreatDoor.Q
end
