/- Proved here, for the row of the law FnPyPINumbers: contracts of the Go functions that it reaches, each as its theorem 'calls' says, and the words and plain laws that they need (YL, YM, YN, ZA, ZB, Y10, Qx0, Qx3, Qx4, Qx5, ZC, YR, SA, HS, SB, NA). -/
import Derived.Test.YtlijjnjpomnphaaGreatDoorFnPyPINumbersD
import Derived.Below
import Derived.Deep.Draws
import Derived.Deep.AppendLies
import Derived.Maps.AppendAt
import Derived.OwnWalk
import Derived.Laws.BytesArg
import Derived.Laws.MakeOwn
import Derived.Laws.OwnMore
import Derived.Deep.OwnRows
import Derived.Tactics
import Derived.Lib.ConvBytes
import Derived.Laws.Slices
import Derived.WalkKit
import Derived.KernelRfl
import Derived.RowKit3
import Derived.Deep.LoopGhost
import Derived.Deep.QuietTactic
import Derived.BigQuiet
import Derived.WideLaws
import Derived.Deep.DeepCutAuto
import Derived.Deep.CutBlock
import Derived.Deep.RegionHeld3
import Derived.Laws.Rows
import Derived.Lib.AppendStr
import Derived.ArgAppend
import Derived.Laws.IdiomCopy
import Derived.RowKit
import Derived.Test.YtlijjnjpomnphaaGreatDoorProg
import Derived.OrdersHeld
import Derived.Laws.BitsLemmas
import Derived.Deep.MidRow
set_option linter.unusedVariables false
set_option linter.unusedSimpArgs false
set_option maxHeartbeats 8000000
set_option maxRecDepth 100000
section
namespace Go.Proofs.YtlijjnjpomnphaaGreatDoorY
open Go.RowKit YtlijjnjpomnphaaGreatDoorG YtlijjnjpomnphaaGreatDoorH YtlijjnjpomnphaaGreatDoorB YtlijjnjpomnphaaGreatDoorM YtlijjnjpomnphaaGreatDoorP YtlijjnjpomnphaaGreatDoor.S YtlijjnjpomnphaaGreatDoorW.PrintWords YtlijjnjpomnphaaGreatDoorW.PrintLast
theorem plain_dig {d : ByteArray} (h : zic d) (hs : d.size ≤ 1000000) : Plain d := by
 have := h.2 0 h.1
 unfold Dig at this
 have e : bt d ((0 : Nat) : Int) = bt d 0 := rfl
 rw [e] at this
 exact ⟨hs, by omega, by omega⟩
theorem dv_decL (s : ByteArray) : ∀ k, k ≤ s.size → dv s k = decL ((bytesOf s).take k)
 | 0, _ => rfl
 | k + 1, h => by
  have hl : k < (bytesOf s).length := by rw [bytesOf_length]; omega
  have e : (bytesOf s).take (k + 1) = (bytesOf s).take k ++ [(bytesOf s).getD k 0] := by
   rw [List.take_add_one, List.getElem?_eq_getElem hl, List.getD_eq_getElem?_getD, List.getElem?_eq_getElem hl]
   rfl
  rw [e, decL_snoc, ← dv_decL s k (by omega)]
  show dv s k * 10 + (bt s (k : Int) - 48).toNat = _
  rw [zed]
  omega
theorem dv_all (s : ByteArray) : dv s s.size = decL (bytesOf s) := by
 rw [dv_decL s s.size (Nat.le_refl _), List.take_of_length_le (by rw [bytesOf_length]; exact Nat.le_refl _)]
theorem zhg {s : ByteArray} (h : ∀ c ∈ bytesOf s, isD c = true) (h0 : bytesOf s ≠ []) (hs : s.size ≤ 1000000) : Plain s ∧ zic s := by
 have hA : zic s := by
  refine ⟨by rw [sz_B]; exact List.length_pos_iff.2 h0, fun j hj => ?_⟩
  rw [zed]
  have hl : j < (bytesOf s).length := by rw [bytesOf_length]; exact hj
  have hm : (bytesOf s).getD j 0 ∈ bytesOf s := by
   rw [List.getD_eq_getElem?_getD, List.getElem?_eq_getElem hl]
   exact List.getElem_mem hl
  have h2 := h _ hm
  unfold isD at h2
  exact of_decide_eq_true h2
 exact ⟨plain_dig hA hs, hA⟩
theorem or0_B (d : ByteArray) : bytesOf (or0 d) = if bytesOf d = [] then [48] else bytesOf d := by
 unfold or0
 by_cases h : bytesOf d = []
 ·rw [if_pos ((zjc d).2 h), if_pos h]; rfl
 ·rw [if_neg (fun e => h ((zjc d).1 e)), if_neg h]
theorem or0_num {d : ByteArray} (h : ∀ c ∈ bytesOf d, isD c = true) (hs : d.size ≤ 1000000) : Plain (or0 d) ∧ zic (or0 d) := by
 by_cases h0 : bytesOf d = []
 ·have e : or0 d = ⟨#[48]⟩ := by unfold or0; rw [if_pos ((zjc d).2 h0)]
  rw [e]
  exact zhg (by decide) (by decide) (by decide)
 ·have e : or0 d = d := by unfold or0; rw [if_neg (fun e => h0 ((zjc d).1 e))]
  rw [e]
  exact zhg h h0 hs
theorem letW_word {l d : ByteArray} (hl : l ∈ wsPre ∨ l ∈ wsPost ∨ l ∈ wsDev) (h : ∀ c ∈ bytesOf d, isD c = true) (hs : d.size ≤ 1000000) : ∃ x, letW l d = some (some (x, or0 d)) ∧ bytesOf x = spell (bytesOf l) := by
 have hn := or0_num h hs
 have key : ∀ x : ByteArray, l ≠ ⟨#[]⟩ → (∃ p, wordsB.find? (fun p => decide (p.1 = l)) = some p ∧ p.2 = x) → letW l d = some (some (x, or0 d)) := by
  rintro x h0 ⟨p, hp, rfl⟩
  unfold letW
  rw [if_neg h0, hp]
  simp only [Option.bind_some]
  rw [if_pos hn]
 simp only [wsPre, wsPost, wsDev, List.mem_cons, List.not_mem_nil, or_false] at hl
 rcases hl with (rfl | rfl | rfl | rfl | rfl | rfl | rfl | rfl) | (rfl | rfl | rfl) | rfl
 all_goals exact ⟨_, key _ (by decide) ⟨_, by rfl, rfl⟩, by decide⟩
theorem dg_D (l : List Int) : ∀ c ∈ dg l, isD c = true := fun c hc => run_mem hc
theorem zjh {ws : List (List Int)} {l w d : List Int} (h : (zzc ws l).1 = some (w, d)) : ∀ c ∈ d, isD c = true := by
 unfold zzc at h
 cases hw : zad ws (unmk l) with
 | none => rw [hw] at h; cases h
 | some v =>
  rw [hw] at h
  have h2 : some (v, dg (unmk ((unmk l).drop v.length))) = some (w, d) := h
  injection h2 with h2
  injection h2 with _ h2
  rw [← h2]
  exact dg_D _
theorem gpost_D {l w d : List Int} (h : (gpost l).1 = some (w, d)) : ∀ c ∈ d, isD c = true := by
 unfold gpost at h
 cases hh : hyph l with
 | none => rw [hh] at h; exact zjh h
 | some x =>
  rw [hh] at h
  obtain ⟨c, r, _, _, rfl⟩ := zyg hh
  have h2 : some (wPost, dg (c :: r)) = some (w, d) := h
  injection h2 with h2
  injection h2 with _ h2
  rw [← h2]
  exact dg_D _
theorem rels_D : ∀ (n : Nat) (l : List Int), run isD l ≠ 0 → ∀ d ∈ (rels n l).1, d ≠ [] ∧ ∀ c ∈ d, isD c = true
 | 0, l, h, d, hd => by
  have : d = dg l := by simpa [rels] using hd
  rw [this]
  exact ⟨dg_ne h, dg_D l⟩
 | n + 1, l, h, d, hd => by
  have hE : rels (n + 1) l = (match dr l with
    | [] => ([dg l], [])
    | c :: r => if c = 46 ∧ run isD r ≠ 0 then (dg l :: (rels n r).1, (rels n r).2) else ([dg l], c :: r)) := rfl
  rw [hE] at hd
  cases hq : dr l with
  | nil =>
   rw [hq] at hd
   have : d = dg l := by simpa using hd
   rw [this]
   exact ⟨dg_ne h, dg_D l⟩
  | cons c r =>
   rw [hq] at hd
   by_cases hc : c = 46 ∧ run isD r ≠ 0
   ·simp only [if_pos hc] at hd
    rcases List.mem_cons.1 hd with rfl | hd
    ·exact ⟨dg_ne h, dg_D l⟩
    ·exact rels_D n r hc.2 d hd
   ·simp only [if_neg hc] at hd
    have : d = dg l := by simpa using hd
    rw [this]
    exact ⟨dg_ne h, dg_D l⟩
structure Dgs (v : PV) : Prop where
 ep : ∀ c ∈ v.ep, isD c = true
 rel : ∀ d ∈ v.rel, d ≠ [] ∧ ∀ c ∈ d, isD c = true
 pre : ∀ w d, v.pre = some (w, d) → ∀ c ∈ d, isD c = true
 post : ∀ w d, v.post = some (w, d) → ∀ c ∈ d, isD c = true
 dev : ∀ w d, v.dev = some (w, d) → ∀ c ∈ d, isD c = true
theorem codeV_D {t : List Int} {v : PV} (h : codeV t = some v) : Dgs v := by
 unfold codeV headP at h
 by_cases h0 : run isD (unE t) = 0
 ·rw [if_pos h0] at h; cases h
 ·rw [if_neg h0] at h
  simp only [Option.bind_some] at h
  obtain ⟨r, _, h2⟩ := Option.bind_eq_some_iff.mp h
  by_cases hb : r.2.all isBl = true
  ·rw [if_pos hb] at h2
   injection h2 with h2
   subst h2
   refine ⟨?_, rels_D _ _ h0, fun w d e => zjh e, fun w d e => gpost_D e, fun w d e => zjh e⟩
   intro c hc
   unfold epP at hc
   split at hc
   ·exact dg_D _ c hc
   ·cases hc
  ·rw [if_neg hb] at h2; cases h2
def toldL (p : List Int × List Int) : ByteArray × Nat := (strOfNums (spell p.1), decL p.2)
structure NumTold (x : YD) (v : PV) : Prop where
 ep : dvB x.ep = decL v.ep
 rel : x.rel.map dvB = v.rel.map decL
 pre : letN x.pre = v.pre.map toldL
 post : letN x.post = v.post.map toldL
 dev : letN x.dev = v.dev.map toldL
 loc : x.loc.map bytesOf = v.loc.map (List.map low)
 leg : x.leg = []
theorem or0_dv {d : ByteArray} : dvB (or0 d) = decL (bytesOf d) := by
 unfold dvB
 rw [dv_all, or0_B]
 by_cases h : bytesOf d = []
 ·rw [if_pos h, h]; rfl
 ·rw [if_neg h]
theorem letW_opt {s l d : ByteArray} {ws : List ByteArray} (hws : ∀ w ∈ ws, w ∈ wsPre ∨ w ∈ wsPost ∨ w ∈ wsDev) (h : WordM s ws l d) (hs : s.size ≤ 1000000) (hD : ∀ w e, optW (bytesOf l) (bytesOf d) = some (w, e) → ∀ c ∈ e, isD c = true) :
  ∃ o, letW l d = some o ∧ letN o = (optW (bytesOf l) (bytesOf d)).map toldL := by
 by_cases h0 : bytesOf l = []
 ·have e1 : l = ⟨#[]⟩ := B_inj h0
  have e2 : d = ⟨#[]⟩ := B_inj (h.2.1 h0)
  subst e1
  subst e2
  refine ⟨none, ?_, by rfl⟩
  unfold letW
  rw [if_pos rfl, if_pos ((zjc _).2 rfl), if_pos rfl]
 ·have hm := h.2.2.resolve_left h0
  have hD2 : ∀ c ∈ bytesOf d, isD c = true := hD (bytesOf l) (bytesOf d) (by unfold optW; rw [if_neg h0])
  obtain ⟨x, h1, h2⟩ := letW_word (hws l hm) hD2 (Nat.le_trans h.1 hs)
  refine ⟨_, h1, ?_⟩
  unfold letN optW
  rw [if_neg h0]
  show some (x, dv (or0 d) (or0 d).size) = some (strOfNums (spell (bytesOf l)), decL (bytesOf d))
  rw [← h2, str_B]
  have := or0_dv (d := d)
  unfold dvB at this
  rw [this]
theorem dvB_all (d : ByteArray) : dvB d = decL (bytesOf d) := dv_all d
theorem numY_ev {s : ByteArray} (hs : s.size ≤ 100000) {v : PV} (hv : Dgs v) {ep rel pl pn n1 n2 l dl dn lo : ByteArray} (h : Told s v ep rel pl pn n1 n2 l dl dn lo) (ha : ∀ x ∈ bytesOf s, x ≤ 127) :
  ∃ x, Ev (fun k => numY k ep rel pl pn n1 n2 l dl dn lo) x ∧ NumTold x v := by
 obtain ⟨rs, hr1, hr2⟩ := split_ev rel (by have := h.srel; omega)
 rw [h.hrel] at hr2
 obtain ⟨ls, hl1, hl2⟩ := local_ev lo (by have := h.sloc; omega) (fun x hx => ha x (h.slo x hx))
 rw [h.hloc] at hl2
 obtain ⟨p, hp1, hp2⟩ := letW_opt (fun w hw => .inl hw) h.wpre (by omega) (by rw [h.hpre]; exact hv.pre)
 rw [h.hpre] at hp2
 obtain ⟨d, hd1, hd2⟩ := letW_opt (fun w hw => .inr (.inr hw)) h.wdev (by omega) (by rw [h.hdev]; exact hv.dev)
 rw [h.hdev] at hd2
 have hq : ∃ q, letW l (if n1.toList = [] then n2 else n1) = some q ∧ letN q = v.post.map toldL := by
  rcases h.wpost with ⟨w1, w2, rfl, rfl⟩ | ⟨rfl, w⟩
  ·have hpo := h.hpost
   unfold postW at hpo
   rw [if_pos w1] at hpo
   have hD := hv.post wPost (bytesOf n1) hpo.symm
   have hn : n1.toList ≠ [] := fun e => w1 ((zjc n1).1 e)
   rw [if_neg hn, ← hpo]
   have hnum := zhg hD w1 (by omega)
   refine ⟨some (⟨#[112, 111, 115, 116]⟩, n1), ?_, ?_⟩
   ·unfold letW
    rw [if_pos rfl, if_neg hn, if_pos hnum]
   ·show some ((⟨#[112, 111, 115, 116]⟩ : ByteArray), dv n1 n1.size) = some (strOfNums (spell wPost), decL (bytesOf n1))
    rw [dv_all]
    rfl
  ·have hpo := h.hpost
   unfold postW at hpo
   rw [if_neg (fun e => e rfl)] at hpo
   rw [if_pos ((zjc _).2 rfl)]
   obtain ⟨q, hq1, hq2⟩ := letW_opt (fun w hw => .inr (.inl hw)) w (by omega) (by rw [hpo]; exact hv.post)
   rw [hpo] at hq2
   exact ⟨q, hq1, hq2⟩
 obtain ⟨q, hq1, hq2⟩ := hq
 have hep : ep.toList = [] ∨ NumOk ep := by
  by_cases h0 : bytesOf ep = []
  ·exact .inl ((zjc ep).2 h0)
  ·exact .inr (zhg (by rw [h.hep]; exact hv.ep) h0 (by have := h.sep; omega))
 have hrs : rs.length ≤ 1000000 ∧ ∀ d ∈ rs, NumOk d := by
  constructor
  ·have e := congrArg List.length hr2
   rw [List.length_map, ← h.hrel] at e
   have e2 := zof isPt (bytesOf rel)
   rw [bytesOf_length] at e2
   have := h.srel
   omega
  ·intro d hd
   have hm : bytesOf d ∈ v.rel := by rw [← hr2]; exact List.mem_map_of_mem hd
   have hz := hv.rel _ hm
   have hsz := zsg isPt (bytesOf rel) (bytesOf d) (by rw [h.hrel]; exact hm)
   rw [bytesOf_length, bytesOf_length] at hsz
   exact zhg hz.2 hz.1 (by have := h.srel; omega)
 have hls : ls.length ≤ 1000000 := by
  have e := congrArg List.length hl2
  rw [List.length_map, List.length_map, ← h.hloc] at e
  have e2 := zof isMk (bytesOf lo)
  rw [bytesOf_length] at e2
  have := h.sloc
  omega
 refine ⟨⟨if ep.toList = [] then ⟨#[]⟩ else ep, rs, p, q, d, ls, []⟩, ?_, ?_, ?_, hp2, hq2, hd2, hl2, rfl⟩
 ·unfold numY
  refine Ev.pos (fun _ => hep) ?_
  refine Ev.bind hr1 ?_
  refine Ev.pos (fun _ => hrs) ?_
  refine Ev.bind0 hp1 ?_
  refine Ev.bind0 hq1 ?_
  refine Ev.bind0 hd1 ?_
  refine Ev.bind hl1 ?_
  refine Ev.pos (fun _ => hls) ?_
  exact Ev.now _
 ·show dvB (if ep.toList = [] then ⟨#[]⟩ else ep) = _
  rw [dvB_all]
  by_cases h0 : bytesOf ep = []
  ·rw [if_pos ((zjc ep).2 h0), ← h.hep, h0]; rfl
  ·rw [if_neg (fun e => h0 ((zjc ep).1 e)), h.hep]
 ·show rs.map dvB = _
  rw [← hr2, List.map_map]
  exact List.map_congr_left (fun d _ => dvB_all d)
theorem step_ne (out : List (List Int)) (t : List Int) : step out t ≠ [] := by
 unfold step
 split <;> (try split) <;> simp
theorem parts_ne (l : List Int) : parts l ≠ [] := by
 unfold parts steps
 have : (toks l.length l ++ [final_]).filter (fun t => decide (t ≠ [46])) = (toks l.length l).filter (fun t => decide (t ≠ [46])) ++ [final_] := by
  rw [List.filter_append]
  rfl
 rw [this, List.foldl_append, List.foldl_cons, List.foldl_nil]
 exact step_ne _ _
theorem parseY_ev (s : ByteArray) (hs : s.size ≤ 100000) (ha : ∀ x ∈ bytesOf s, x ≤ 127) : ∃ x, Ev (fun k => parseY k s) x ∧
  (match codeV (unV (((bytesOf s).map low).drop (run isBl ((bytesOf s).map low)))) with
   | some v => NumTold x v
   | none => x = ⟨⟨#[]⟩, [], none, none, none, [], x.leg⟩ ∧ x.leg ≠ [] ∧ x.leg.map bytesOf = parts ((bytesOf s).map low)) := by
 obtain ⟨t, ht, hb⟩ := toLower_eq s (by omega) ha
 have hts : t.size = s.size := by rw [sz_B, hb, List.length_map, bytesOf_length]
 have hta : ∀ x ∈ bytesOf t, x ≤ 127 := by
  intro x hx
  rw [hb] at hx
  obtain ⟨y, hy, rfl⟩ := List.mem_map.1 hx
  exact (low_le ⟨(B_range s y hy).1, ha y hy⟩).2
 obtain ⟨M, h1, h2⟩ := match_ev t (by omega)
 rw [hb] at h2
 cases hv : codeV (unV (((bytesOf s).map low).drop (run isBl ((bytesOf s).map low)))) with
 | none =>
  rw [hv] at h2
  have h3 : M = noM := h2
  subst h3
  obtain ⟨l, hl, hl1, hl2⟩ := parts_ev t (by omega)
  rw [hb] at hl1
  have hne : l ≠ [] := fun e => by rw [e] at hl1; exact parts_ne _ hl1.symm
  refine ⟨⟨⟨#[]⟩, [], none, none, none, [], l⟩, ?_, rfl, hne, hl1⟩
  unfold parseY
  refine Ev.bind0 ht ?_
  refine Ev.bind h1 ?_
  refine Ev.neg (fun _ => Bool.false_ne_true) ?_
  unfold legY
  refine Ev.bind hl ?_
  refine Ev.pos (fun _ => ⟨by omega, hne⟩) ?_
  exact Ev.now _
 | some v =>
  rw [hv] at h2
  obtain ⟨ep, rel, pl, pn, n1, n2, l, dl, dn, lo, rfl, hT⟩ := h2
  obtain ⟨x, hx1, hx2⟩ := numY_ev (by omega) (codeV_D hv) hT hta
  refine ⟨x, ?_, hx2⟩
  unfold parseY
  refine Ev.bind0 ht ?_
  refine Ev.bind h1 ?_
  refine Ev.pos (fun _ => rfl) ?_
  exact hx1
end Go.Proofs.YtlijjnjpomnphaaGreatDoorY
end
section
namespace Go.Proofs.YtlijjnjpomnphaaGreatDoorG
open Go.RowKit YtlijjnjpomnphaaGreatDoorH YtlijjnjpomnphaaGreatDoorB YtlijjnjpomnphaaGreatDoorC YtlijjnjpomnphaaGreatDoorM YtlijjnjpomnphaaGreatDoorP YtlijjnjpomnphaaGreatDoorY YtlijjnjpomnphaaGreatDoor.S YtlijjnjpomnphaaGreatDoorW.PrintWords YtlijjnjpomnphaaGreatDoorW.PrintLast
def txtL (l : List Int) : List Int := unV ((l.map low).drop (run isBl (l.map low)))
def valP (v : Go.Proofs.YtlijjnjpomnphaaGreatDoorY.PV) : YV := ⟨decL v.ep, v.rel.map decL, v.pre.map toldL, v.post.map toldL, v.dev.map toldL, (v.loc.map (List.map low)).map strOfNums, []⟩
def valL (l : List Int) : YV := match codeV (txtL l) with
 | some v => valP v
 | none => ⟨0, [], none, none, none, [], (parts (l.map low)).map strOfNums⟩
theorem map_str {l : List ByteArray} {m : List (List Int)} (h : l.map bytesOf = m) : l = m.map strOfNums := by
 rw [← h, List.map_map]
 symm
 calc l.map (strOfNums ∘ bytesOf) = l.map id := List.map_congr_left (fun x _ => str_B x)
  _ = l := List.map_id l
theorem parseY_val (s : ByteArray) (hs : s.size ≤ 100000) (ha : ∀ x ∈ bytesOf s, x ≤ 127) : ∃ x, Ev (fun k => parseY k s) x ∧ x.num = valL (bytesOf s) := by
 obtain ⟨x, h1, h2⟩ := parseY_ev s hs ha
 refine ⟨x, h1, ?_⟩
 unfold valL txtL
 cases hv : codeV (unV (((bytesOf s).map low).drop (run isBl ((bytesOf s).map low)))) with
 | none =>
  rw [hv] at h2
  obtain ⟨h3, _, h5⟩ := h2
  rw [h3]
  show (⟨dvB ⟨#[]⟩, [], none, none, none, [], x.leg⟩ : YV) = ⟨0, [], none, none, none, [], _⟩
  rw [map_str h5]
  rfl
 | some v =>
  rw [hv] at h2
  have h3 : NumTold x v := h2
  show (⟨dvB x.ep, x.rel.map dvB, letN x.pre, letN x.post, letN x.dev, x.loc, x.leg⟩ : YV) = valP v
  rw [h3.ep, h3.rel, h3.pre, h3.post, h3.dev, h3.leg, map_str h3.loc]
  rfl
end Go.Proofs.YtlijjnjpomnphaaGreatDoorG
end
section
namespace Go.Proofs.YtlijjnjpomnphaaGreatDoorY
open Go.RowKit YtlijjnjpomnphaaGreatDoorH YtlijjnjpomnphaaGreatDoorB YtlijjnjpomnphaaGreatDoorM YtlijjnjpomnphaaGreatDoorP YtlijjnjpomnphaaGreatDoor.S YtlijjnjpomnphaaGreatDoorW.PrintWords YtlijjnjpomnphaaGreatDoorW.PrintLast
theorem zhh {ws : List (List Int)} {l w d : List Int} (h : (zzc ws l).1 = some (w, d)) : w ∈ ws := by
 unfold zzc at h
 cases hw : zad ws (unmk l) with
 | none => rw [hw] at h; cases h
 | some v =>
  rw [hw] at h
  have h2 : some (v, dg (unmk ((unmk l).drop v.length))) = some (w, d) := h
  injection h2 with h2
  injection h2 with h2 _
  rw [← h2]
  exact (zng hw).1
theorem gpost_W {l w d : List Int} (h : (gpost l).1 = some (w, d)) : w ∈ postC := by
 unfold gpost at h
 cases hh : hyph l with
 | none => rw [hh] at h; exact zhh h
 | some x =>
  rw [hh] at h
  obtain ⟨c, r, _, _, rfl⟩ := zyg hh
  have h2 : some (wPost, dg (c :: r)) = some (w, d) := h
  injection h2 with h2
  injection h2 with h2 _
  rw [← h2]
  decide
theorem anMore_mem : ∀ (n : Nat) (l : List Int), ∀ c ∈ l.take (zcd n l), isAn c = true ∨ isMk c = true
 | 0, l, c, h => by simp [zcd] at h
 | n + 1, [], c, h => by simp at h
 | n + 1, x :: r, c, h => by
  simp only [zcd] at h
  by_cases hx : isMk x = true ∧ run isAn r ≠ 0
  ·rw [if_pos hx, show 1 + run isAn r + zcd n (r.drop (run isAn r)) = (run isAn r + zcd n (r.drop (run isAn r))) + 1 by omega, List.take_succ_cons, List.take_add] at h
   rcases List.mem_cons.1 h with rfl | h
   ·exact .inr hx.1
   ·rcases List.mem_append.1 h with h | h
    ·exact .inl (run_mem h)
    ·exact anMore_mem n _ c h
  ·rw [if_neg hx] at h; simp at h
theorem locR_mem {x : List Int} {r : List Int × List Int} (h : locR x = some r) : ∀ c ∈ r.1, isAn c = true ∨ isMk c = true := by
 cases x with
 | nil => have e : r = ([], []) := (Option.some.inj h).symm; subst e; intro c hc; simp at hc
 | cons a t =>
  simp only [locR] at h
  by_cases ha : a = 43
  ·rw [if_pos ha] at h
   by_cases h0 : run isAn t = 0
   ·rw [if_pos h0] at h; cases h
   ·rw [if_neg h0] at h
    cases h
    intro c hc
    have hc2 : c ∈ t.take (zze t) := hc
    unfold zze at hc2
    rw [List.take_add] at hc2
    rcases List.mem_append.1 hc2 with hc2 | hc2
    ·exact .inl (run_mem hc2)
    ·exact anMore_mem _ _ c hc2
  ·rw [if_neg ha] at h
   cases h
   intro c hc; simp at hc
theorem zpf (p : Int → Bool) : ∀ (l : List Int), ∀ w ∈ zrb p l, ∀ x ∈ w, p x = false
 | [], w, hw, x, hx => by
  have : w = [] := by simpa [zrb] using hw
  subst this; simp at hx
 | c :: r, w, hw, x, hx => by
  simp only [zrb] at hw
  by_cases hc : p c = true
  ·rw [if_pos hc] at hw
   rcases List.mem_cons.1 hw with rfl | hw
   ·simp at hx
   ·exact zpf p r w hw x hx
  ·rw [if_neg hc] at hw
   cases hs : zrb p r with
   | nil => exact absurd hs (zbe p r)
   | cons a t =>
    rw [hs] at hw
    simp only [glue] at hw
    rcases List.mem_cons.1 hw with rfl | hw
    ·rcases List.mem_append.1 hx with hx | hx
     ·rw [List.mem_singleton.1 hx]; simpa using hc
     ·exact zpf p r a (by rw [hs]; exact List.mem_cons_self) x hx
    ·exact zpf p r w (by rw [hs]; exact List.mem_cons_of_mem _ hw) x hx
structure Wds (n : Nat) (v : PV) : Prop where
 pre : ∀ w d, v.pre = some (w, d) → w ∈ preC
 post : ∀ w d, v.post = some (w, d) → w ∈ postC
 dev : ∀ w d, v.dev = some (w, d) → w ∈ devC
 loc : ∀ w ∈ v.loc, w.length ≤ n ∧ ∀ c ∈ w, isAn c = true
theorem codeV_W {t : List Int} {v : PV} (h : codeV t = some v) : Wds t.length v := by
 unfold codeV at h
 obtain ⟨q, hq, h1⟩ := Option.bind_eq_some_iff.mp h
 obtain ⟨r, hr, h2⟩ := Option.bind_eq_some_iff.mp h1
 by_cases hb : r.2.all isBl = true
 ·rw [if_pos hb] at h2
  injection h2 with h2
  subst h2
  refine ⟨fun w d e => zhh e, fun w d e => gpost_W e, fun w d e => zhh e, fun w hw => ⟨?_, fun c hc => ?_⟩⟩
  ·have l1 := zsg isMk r.1 w hw
   have l2 := locR_len hr
   have l3 := (suf_code3 q.2.2).length_le
   have l4 := (suf_head hq).length_le
   omega
  ·have hm := splitP_mem isMk r.1 w hw c hc
   have hf := zpf isMk r.1 w hw c hc
   rcases locR_mem hr c hm with hx | hx
   ·exact hx
   ·rw [hf] at hx; cases hx
 ·rw [if_neg hb] at h2; cases h2
def tot : List (List Int) → Nat
 | [] => 0
 | w :: l => w.length + tot l
theorem tot_app : ∀ a b : List (List Int), tot (a ++ b) = tot a + tot b
 | [], b => by simp [tot]
 | x :: a, b => by simp only [List.cons_append, tot, tot_app a b]; omega
theorem tot_take : ∀ (n : Nat) (l : List (List Int)), tot (l.take n) ≤ tot l
 | 0, l => by simp [tot]
 | n + 1, [] => by simp [tot]
 | n + 1, x :: l => by simp only [List.take_succ_cons, tot]; have := tot_take n l; omega
theorem tot_pop (x : List Int) : ∀ (n : Nat) (l : List (List Int)), tot (pop x n l) ≤ tot l
 | 0, l => Nat.le_refl _
 | n + 1, l => by
  simp only [pop]
  split
  ·exact Nat.le_trans (tot_pop x n _) (tot_take _ _)
  ·exact Nat.le_refl _
theorem tot_step (out : List (List Int)) (t : List Int) : tot (step out t) ≤ tot out + t.length + 8 := by
 have hn := norm_length t
 unfold step
 split
 ·rw [tot_app]
  have h1 : tot (if lt_ (norm t) fin = true then pop fm out.length out else out) ≤ tot out := by
   split
   ·exact tot_pop _ _ _
   ·exact Nat.le_refl _
  have h2 := tot_pop zz (if lt_ (norm t) fin = true then pop fm out.length out else out).length (if lt_ (norm t) fin = true then pop fm out.length out else out)
  simp only [tot]
  omega
 ·rw [tot_app]
  simp only [tot]
  omega
theorem tot_fold : ∀ (ts out : List (List Int)), tot (ts.foldl step out) ≤ tot out + tot ts + 8 * ts.length
 | [], out => by simp [tot]
 | t :: ts, out => by
  have h1 := tot_fold ts (step out t)
  have h2 := tot_step out t
  simp only [List.foldl_cons, tot, List.length_cons]
  omega
theorem tot_filter (p : List Int → Bool) : ∀ l : List (List Int), tot (l.filter p) ≤ tot l ∧ (l.filter p).length ≤ l.length
 | [] => ⟨Nat.le_refl _, Nat.le_refl _⟩
 | x :: l => by
  have h := tot_filter p l
  rw [List.filter_cons]
  split
  ·simp only [tot, List.length_cons]; omega
  ·simp only [tot, List.length_cons]; omega
theorem toks_tot : ∀ (n : Nat) (l : List Int), tot (toks n l) ≤ l.length ∧ (toks n l).length ≤ l.length
 | 0, l => by simp [toks, tot]
 | n + 1, [] => by simp [toks, tot]
 | n + 1, c :: r => by
  simp only [toks]
  by_cases hc : isD c = true
  ·rw [if_pos hc]
   have h := toks_tot n ((c :: r).drop (run isD (c :: r)))
   have hl := zyd isD (c :: r)
   have h0 : 0 < run isD (c :: r) := by rw [zfd hc]; omega
   simp only [tot, List.length_cons, List.length_take, List.length_drop] at h hl ⊢
   omega
  ·rw [if_neg hc]
   by_cases hL : isL c = true
   ·rw [if_pos hL]
    have h := toks_tot n ((c :: r).drop (run isL (c :: r)))
    have hl := zyd isL (c :: r)
    have h0 : 0 < run isL (c :: r) := by rw [zfd hL]; omega
    simp only [tot, List.length_cons, List.length_take, List.length_drop] at h hl ⊢
    omega
   ·rw [if_neg hL]
    have h := toks_tot n r
    split
    ·simp only [tot, List.length_cons, List.length_nil] at h ⊢; omega
    ·simp only [List.length_cons]; omega
theorem parts_tot (l : List Int) : tot (parts l) ≤ 9 * l.length + 13 := by
 unfold parts steps
 have h1 := toks_tot l.length l
 have h2 := tot_filter (fun t => decide (t ≠ [46])) (toks l.length l ++ [final_])
 have h3 := tot_fold ((toks l.length l ++ [final_]).filter (fun t => decide (t ≠ [46]))) []
 have h4 : tot (toks l.length l ++ [final_]) = tot (toks l.length l) + 5 := by rw [tot_app]; rfl
 have h5 : (toks l.length l ++ [final_]).length = (toks l.length l).length + 1 := by simp
 simp only [tot] at h3
 omega
end Go.Proofs.YtlijjnjpomnphaaGreatDoorY
namespace Go.Proofs.YtlijjnjpomnphaaGreatDoorG
open Go.RowKit YtlijjnjpomnphaaGreatDoorH YtlijjnjpomnphaaGreatDoorB YtlijjnjpomnphaaGreatDoorC YtlijjnjpomnphaaGreatDoorM YtlijjnjpomnphaaGreatDoorP YtlijjnjpomnphaaGreatDoorY YtlijjnjpomnphaaGreatDoor.S YtlijjnjpomnphaaGreatDoorW.PrintWords YtlijjnjpomnphaaGreatDoorW.PrintLast
theorem str_size (l : List Int) : (strOfNums l).size = l.length := by
 show (strOfNums l).data.size = _
 simp [strOfNums]
theorem joinB_tot : ∀ l : List (List Int), (joinB (l.map strOfNums)).size = tot l
 | [] => rfl
 | w :: l => by
  have h := joinB_tot l
  unfold joinB at h ⊢
  simp only [List.map_cons, List.foldr_cons, tot]
  rw [ByteArray.size_append, h, str_size]
theorem isAn_iff {c : Int} (h : isAn c = true) : (48 ≤ c ∧ c ≤ 57) ∨ (97 ≤ c ∧ c ≤ 122) := by
 unfold isAn isD isL at h
 rw [Bool.or_eq_true, decide_eq_true_eq, decide_eq_true_eq] at h
 exact h
theorem isAn_low {c : Int} (h : isAn c = true) : low c = c := by
 have := isAn_iff h
 unfold low
 rw [if_neg (by omega)]
theorem an_low {w : List Int} (h : ∀ c ∈ w, isAn c = true) : w.map low = w := by
 calc w.map low = w.map id := List.map_congr_left (fun c hc => isAn_low (h c hc))
  _ = w := List.map_id w
theorem plain_an {w : List Int} (h : ∀ c ∈ w, isAn c = true) (hl : w.length ≤ 1000000) : Plain (strOfNums w) := by
 have hb : bytesOf (strOfNums w) = w := B_str (fun c hc => by have := isAn_iff (h c hc); omega)
 have e : bt (strOfNums w) 0 = w.getD 0 0 := by
  have := zed (strOfNums w) 0
  rw [hb] at this
  exact this
 unfold Plain
 rw [e, str_size]
 cases w with
 | nil => exact ⟨hl, by decide, by decide⟩
 | cons c r =>
  have := isAn_iff (h c List.mem_cons_self)
  exact ⟨hl, by show c ≠ 45; omega, by show c ≠ 43; omega⟩
theorem spell_pos {w : List Int} (h : w ∈ Go.Proofs.YtlijjnjpomnphaaGreatDoorY.preC) : 0 < (strOfNums (spell w)).size := by
 rw [str_size]
 simp only [Go.Proofs.YtlijjnjpomnphaaGreatDoorY.preC, List.mem_cons, List.not_mem_nil, or_false] at h
 rcases h with rfl | rfl | rfl | rfl | rfl | rfl | rfl | rfl <;> decide
theorem txtL_len (l : List Int) : (txtL l).length ≤ l.length := by
 unfold txtL
 have h1 := (unV_suf ((l.map low).drop (run isBl (l.map low)))).length_le
 rw [List.length_drop, List.length_map] at h1
 omega
theorem valL_ok (l : List Int) (hl : l.length ≤ 100000) : YOk (valL l) := by
 unfold valL
 cases hv : codeV (txtL l) with
 | none =>
  refine ⟨fun p e => (by cases e), fun s hs => (by cases hs), ?_, fun _ => rfl⟩
  show (joinB ((parts (l.map low)).map strOfNums)).size ≤ _
  rw [joinB_tot]
  have := parts_tot (l.map low)
  rw [List.length_map] at this
  omega
 | some v =>
  have hw := codeV_W hv
  have ht := txtL_len l
  refine ⟨fun p e => ?_, fun s hs => ?_, ?_, fun e => absurd rfl e⟩
  ·have e2 : v.pre.map toldL = some p := e
   cases hp : v.pre with
   | none => rw [hp] at e2; cases e2
   | some x =>
    obtain ⟨w, d⟩ := x
    rw [hp] at e2
    injection e2 with e2
    subst e2
    exact spell_pos (hw.pre w d hp)
  ·have hs2 : s ∈ (v.loc.map (List.map low)).map strOfNums := hs
   obtain ⟨a, ha, rfl⟩ := List.mem_map.1 hs2
   obtain ⟨w, hw2, rfl⟩ := List.mem_map.1 ha
   have h3 := hw.loc w hw2
   rw [an_low h3.2]
   exact plain_an h3.2 (by omega)
  ·show (joinB []).size ≤ _
   decide
def GL (w : World) : Prop := GLe w
theorem GL.at {w w' : World} (h : GL w) (hb : Below w.heap.size w w') : GL w' := GLe.below h hb (Nat.le_refl _)
def ascL (l : List Int) : Bool := l.all fun c => decide (c ≤ 127)
theorem ascL_mem {l : List Int} (h : ascL l = true) : ∀ c ∈ l, c ≤ 127 := fun c hc => of_decide_eq_true (List.all_eq_true.1 h c hc)
def POk (s : ByteArray) : Prop := s.size ≤ 100000 ∧ ascL (bytesOf s) = true
instance (s : ByteArray) : Decidable (POk s) := inferInstanceAs (Decidable (_ ∧ _))
theorem POk.ev {s : ByteArray} (h : POk s) : ∃ x, Ev (fun k => parseY k s) x ∧ x.num = valL (bytesOf s) := parseY_val s h.1 (ascL_mem h.2)
theorem POk.ok {s : ByteArray} (h : POk s) : YOk (valL (bytesOf s)) := valL_ok _ (by rw [bytesOf_length]; exact h.1)
def ztb.f (a0 a1 : ByteArray) : Option (Int × Bool) := if POk a0 ∧ POk a1 then some (yC (valL (bytesOf a0)) (valL (bytesOf a1)), true) else none
theorem ztb.calls (a0 a1 : ByteArray) (r1 : Int) (r2 : Bool) (w : World) (h : ztb.f a0 a1 = some (r1, r2)) (hG : GL w) :
  Calls Tryz.prog 23 #[.string a0, .string a1] w fun e w' => e = .returned (.tuple #[.int .i64 r1, .bool r2]) ∧ Below w.heap.size w w' := by
 unfold ztb.f at h
 by_cases hc : POk a0 ∧ POk a1
 ·rw [if_pos hc] at h
  have h2 := Option.some.inj h
  injection h2 with e1 e2
  subst e1
  subst e2
  obtain ⟨x, ⟨k1, h1⟩, n1⟩ := hc.1.ev
  obtain ⟨y, ⟨k2, h2⟩, n2⟩ := hc.2.ev
  have o1 := hc.1.ok
  have o2 := hc.2.ok
  rw [← n1] at o1 ⊢
  rw [← n2] at o2 ⊢
  exact compareText_ w a0 a1 _ _ (max k1 k2) hG (h1 _ (Nat.le_max_left _ _)) (h2 _ (Nat.le_max_right _ _)) o1 o2
 ·rw [if_neg hc] at h
  cases h
end Go.Proofs.YtlijjnjpomnphaaGreatDoorG
end
section
namespace Go.Proofs.YtlijjnjpomnphaaGreatDoorG
open Go.RowKit YtlijjnjpomnphaaGreatDoorH YtlijjnjpomnphaaGreatDoorB YtlijjnjpomnphaaGreatDoorM YtlijjnjpomnphaaGreatDoorP YtlijjnjpomnphaaGreatDoorY YtlijjnjpomnphaaGreatDoorW.PrintWords YtlijjnjpomnphaaGreatDoorW.PrintLast
def Lw (l : List Int) : Prop := ∀ c ∈ l, low c = c
theorem Lw.id {l : List Int} (h : Lw l) : l.map low = l := by
 calc l.map low = l.map _root_.id := List.map_congr_left (fun c hc => h c hc)
  _ = l := List.map_id _
theorem Lw.nil : Lw [] := fun c h => by simp at h
theorem Lw.app {a b : List Int} (h1 : Lw a) (h2 : Lw b) : Lw (a ++ b) := fun c hc => by
 rcases List.mem_append.1 hc with h | h
 ·exact h1 c h
 ·exact h2 c h
theorem Lw.cons {x : Int} {b : List Int} (h1 : low x = x) (h2 : Lw b) : Lw (x :: b) := fun c hc => by
 rcases List.mem_cons.1 hc with rfl | h
 ·exact h1
 ·exact h2 c h
theorem Lw.dig {d : List Int} (h : ∀ c ∈ d, isD c = true) : Lw d := fun c hc => by
 have := h c hc
 unfold isD at this
 have := of_decide_eq_true this
 unfold low
 rw [if_neg (by omega)]
theorem Lw.an {d : List Int} (h : ∀ c ∈ d, isAn c = true) : Lw d := fun c hc => isAn_low (h c hc)
theorem Lw.relT : ∀ {ds : List (List Int)}, (∀ d ∈ ds, Digs d) → Lw (relT ds)
 | [], _ => Lw.nil
 | [d], h => Lw.dig (h d List.mem_cons_self).2
 | d :: e :: ds, h => (Lw.dig (h d List.mem_cons_self).2).app (Lw.cons (by decide) (Lw.relT (fun x hx => h x (List.mem_cons_of_mem _ hx))))
theorem Lw.joinW : ∀ {ws : List (List Int)}, (∀ w ∈ ws, GoodW w) → Lw (joinW ws)
 | [], _ => Lw.nil
 | [w], h => Lw.an (h w List.mem_cons_self).an
 | w :: v :: ws, h => (Lw.an (h w List.mem_cons_self).an).app (Lw.cons (by decide) (Lw.joinW (fun x hx => h x (List.mem_cons_of_mem _ hx))))
theorem Lw.text {p : Parts} (h : p.Ok) : Lw p.text := by
 unfold Parts.text
 refine Lw.app ?_ ((Lw.relT h.rel.2).app (Lw.app ?_ (Lw.app ?_ (Lw.app ?_ ?_))))
 ·cases e : p.ep with
  | none => exact Lw.nil
  | some x => exact (Lw.dig (h.ep x e).2).app (Lw.cons (by decide) Lw.nil)
 ·cases e : p.pre with
  | none => exact Lw.nil
  | some x =>
   obtain ⟨h1, h2⟩ := h.pre x e
   refine Lw.app ?_ (Lw.dig h1.2)
   simp only [List.mem_cons, List.not_mem_nil, or_false] at h2
   rcases h2 with e | e | e <;> (rw [e]; unfold Lw; decide)
 ·cases e : p.post with
  | none => exact Lw.nil
  | some x => exact Lw.cons (by decide) (Lw.app (by unfold Lw; decide) (Lw.dig (h.post x e).2))
 ·cases e : p.dev with
  | none => exact Lw.nil
  | some x => exact Lw.cons (by decide) (Lw.app (by unfold Lw; decide) (Lw.dig (h.dev x e).2))
 ·unfold locT
  split
  ·exact Lw.nil
  ·rename_i w ws e
   exact Lw.cons (by decide) (Lw.joinW (fun x hx => h.loc x (by rw [e]; exact hx)))
theorem text_head {p : Parts} (h : p.Ok) : ∃ c r, p.text = c :: r ∧ isD c = true := by
 unfold Parts.text
 cases e : p.ep with
 | some x =>
  obtain ⟨c, r, rfl, hc⟩ := (h.ep x e).cons
  exact ⟨c, _, rfl, hc⟩
 | none =>
  cases e2 : p.rel with
  | nil => exact absurd e2 h.rel.1
  | cons d ds =>
   obtain ⟨c, r, rfl, hc⟩ := (h.rel.2 d (by rw [e2]; exact List.mem_cons_self)).cons
   cases ds with
   | nil => exact ⟨c, _, rfl, hc⟩
   | cons e ds => exact ⟨c, _, rfl, hc⟩
theorem txt_built {p : Parts} (h : p.Ok) {X : List Int} (hX : X.map low = p.text) : txtL X = p.text := by
 obtain ⟨c, r, e, hc⟩ := text_head h
 unfold txtL
 rw [hX, e]
 unfold isD at hc
 have hc := of_decide_eq_true hc
 have hb : isBl c = false := by unfold isBl; rw [decide_eq_false_iff_not]; omega
 rw [zsc hb, List.drop_zero]
 show (if c = 118 then r else c :: r) = c :: r
 rw [if_neg (by omega)]
theorem valL_built {p : Parts} (h : p.Ok) {X : List Int} (hX : X.map low = p.text) : valL X = valP p.told := by
 unfold valL
 rw [txt_built h hX, codeV_built h]
theorem valL_text {p : Parts} (h : p.Ok) : valL p.text = valP p.told := valL_built h (Lw.text h).id
theorem told_val {p : Parts} (h : p.Ok) : valP p.told = ⟨decL (p.ep.getD []), p.rel.map decL, p.pre.map toldL, p.post.map fun d => toldL (wPost, d), p.dev.map fun d => toldL (wDev, d), (if p.loc = [] then [[]] else p.loc).map strOfNums, []⟩ := by
 unfold valP Parts.told
 have e : ((if p.loc = [] then [[]] else p.loc).map (List.map low)) = if p.loc = [] then [[]] else p.loc := by
  by_cases h0 : p.loc = []
  ·rw [if_pos h0]; rfl
  ·rw [if_neg h0]
   calc p.loc.map (List.map low) = p.loc.map _root_.id := List.map_congr_left (fun w hw => an_low (h.loc w hw).an)
    _ = p.loc := List.map_id _
 simp only [e, Option.map_map]
 rfl
theorem text_byte {p : Parts} (h : p.Ok) : ∀ c ∈ p.text, 33 ≤ c ∧ c ≤ 122 := by
 have key : ∀ l : List Int, (∀ c ∈ l, isAn c = true ∨ c = 33 ∨ c = 46 ∨ c = 43) → ∀ c ∈ l, 33 ≤ c ∧ c ≤ 122 := by
  intro l hl c hc
  rcases hl c hc with h | h
  ·have := isAn_iff h; omega
  ·omega
 have dA : ∀ {d : List Int}, Digs d → ∀ c ∈ d, isAn c = true ∨ c = 33 ∨ c = 46 ∨ c = 43 := fun hd c hc => .inl (by unfold isAn; rw [hd.2 c hc]; rfl)
 have rT : ∀ ds : List (List Int), (∀ d ∈ ds, Digs d) → ∀ c ∈ relT ds, isAn c = true ∨ c = 33 ∨ c = 46 ∨ c = 43 := by
  intro ds
  induction ds with
  | nil => intro _ c hc; simp [relT] at hc
  | cons d ds ih =>
   intro hd c hc
   cases ds with
   | nil => exact dA (hd d List.mem_cons_self) c hc
   | cons e ds =>
    simp only [relT] at hc
    rcases List.mem_append.1 hc with hc | hc
    ·exact dA (hd d List.mem_cons_self) c hc
    ·rcases List.mem_cons.1 hc with hc | hc
     ·omega
     ·exact ih (fun x hx => hd x (List.mem_cons_of_mem _ hx)) c hc
 have jT : ∀ ws : List (List Int), (∀ w ∈ ws, GoodW w) → ∀ c ∈ joinW ws, isAn c = true ∨ c = 33 ∨ c = 46 ∨ c = 43 := by
  intro ws
  induction ws with
  | nil => intro _ c hc; simp [joinW] at hc
  | cons d ds ih =>
   intro hd c hc
   cases ds with
   | nil => exact .inl ((hd d List.mem_cons_self).an c hc)
   | cons e ds =>
    simp only [joinW] at hc
    rcases List.mem_append.1 hc with hc | hc
    ·exact .inl ((hd d List.mem_cons_self).an c hc)
    ·rcases List.mem_cons.1 hc with hc | hc
     ·omega
     ·exact ih (fun x hx => hd x (List.mem_cons_of_mem _ hx)) c hc
 refine key _ (fun c hc => ?_)
 unfold Parts.text at hc
 rcases List.mem_append.1 hc with hc | hc
 ·cases e : p.ep with
  | none => rw [e] at hc; simp [epT] at hc
  | some x =>
   rw [e] at hc
   rcases List.mem_append.1 hc with hc | hc
   ·exact dA (h.ep x e) c hc
   ·have := List.mem_singleton.1 hc; omega
 rcases List.mem_append.1 hc with hc | hc
 ·exact rT _ h.rel.2 c hc
 rcases List.mem_append.1 hc with hc | hc
 ·cases e : p.pre with
  | none => rw [e] at hc; simp [preT] at hc
  | some x =>
   rw [e] at hc
   obtain ⟨h1, h2⟩ := h.pre x e
   rcases List.mem_append.1 hc with hc | hc
   ·simp only [List.mem_cons, List.not_mem_nil, or_false] at h2
    refine .inl ?_
    have k1 : ∀ c ∈ ([97] : List Int), isAn c = true := by decide
    have k2 : ∀ c ∈ ([98] : List Int), isAn c = true := by decide
    have k3 : ∀ c ∈ wRc, isAn c = true := by decide
    rcases h2 with e | e | e
    ·rw [e] at hc; exact k1 c hc
    ·rw [e] at hc; exact k2 c hc
    ·rw [e] at hc; exact k3 c hc
   ·exact dA h1 c hc
 have wT : ∀ (w d : List Int) (hw : ∀ c ∈ w, isAn c = true) (ho : Digs d) (c : Int), c ∈ 46 :: (w ++ d) → isAn c = true ∨ c = 33 ∨ c = 46 ∨ c = 43 := by
  intro w d hw ho c hc
  rcases List.mem_cons.1 hc with hc | hc
  ·omega
  ·rcases List.mem_append.1 hc with hc | hc
   ·exact .inl (hw c hc)
   ·exact dA ho c hc
 rcases List.mem_append.1 hc with hc | hc
 ·cases e : p.post with
  | none => rw [e] at hc; simp [postT] at hc
  | some x => rw [e] at hc; exact wT wPost x (by decide) (h.post x e) c hc
 rcases List.mem_append.1 hc with hc | hc
 ·cases e : p.dev with
  | none => rw [e] at hc; simp [devT] at hc
  | some x => rw [e] at hc; exact wT wDev x (by decide) (h.dev x e) c hc
 ·unfold locT at hc
  split at hc
  ·simp at hc
  ·rename_i w ws e
   rcases List.mem_cons.1 hc with hc | hc
   ·omega
   ·exact jT (w :: ws) (fun x hx => h.loc x (by rw [e]; exact hx)) c hc
theorem asc_lw_text {p : Parts} (h : p.Ok) : ascL p.text = true := List.all_eq_true.2 (fun c hc => decide_eq_true (by have := text_byte h c hc; omega))
theorem low_byte {p : Parts} (h : p.Ok) {X : List Int} (hX : X.map low = p.text) : ∀ c ∈ X, 33 ≤ c ∧ c ≤ 122 := by
 intro c hc
 have h2 := text_byte h (low c) (by rw [← hX]; exact List.mem_map_of_mem hc)
 unfold low at h2
 split at h2 <;> omega
theorem relT_len : ∀ ds : List (List Int), (∀ d ∈ ds, d.length ≤ 5) → (relT ds).length ≤ 6 * ds.length
 | [], _ => Nat.le_refl _
 | [d], h => by have := h d List.mem_cons_self; simp only [relT, List.length_cons, List.length_nil]; omega
 | d :: e :: ds, h => by
  have h1 := h d List.mem_cons_self
  have h2 := relT_len (e :: ds) (fun x hx => h x (List.mem_cons_of_mem _ hx))
  simp only [relT, List.length_append, List.length_cons] at h2 ⊢
  omega
theorem joinW_len : ∀ ws : List (List Int), (∀ w ∈ ws, w.length ≤ 1200) → (joinW ws).length ≤ 1201 * ws.length
 | [], _ => Nat.le_refl _
 | [d], h => by have := h d List.mem_cons_self; simp only [joinW, List.length_cons, List.length_nil]; omega
 | d :: e :: ds, h => by
  have h1 := h d List.mem_cons_self
  have h2 := joinW_len (e :: ds) (fun x hx => h x (List.mem_cons_of_mem _ hx))
  simp only [joinW, List.length_append, List.length_cons] at h2 ⊢
  omega
theorem locT_len (ws : List (List Int)) (h : ∀ w ∈ ws, w.length ≤ 1200) : (locT ws).length ≤ 1201 * ws.length + 1 := by
 cases ws with
 | nil => exact Nat.zero_le _
 | cons w ws =>
  have := joinW_len (w :: ws) h
  show (43 :: joinW (w :: ws)).length ≤ _
  rw [List.length_cons]
  omega
end Go.Proofs.YtlijjnjpomnphaaGreatDoorG
end
section
namespace Go.Proofs.YtlijjnjpomnphaaGreatDoorG
open Go.RowKit YtlijjnjpomnphaaGreatDoorH YtlijjnjpomnphaaGreatDoorB YtlijjnjpomnphaaGreatDoorM YtlijjnjpomnphaaGreatDoorP YtlijjnjpomnphaaGreatDoorY YtlijjnjpomnphaaGreatDoorW.PrintWords YtlijjnjpomnphaaGreatDoorW.PrintLast
theorem zdh (a : Nat) : cmpN a a = 0 := by unfold cmpN; rw [if_neg (by omega), if_neg (by omega)]
theorem fromC_zero {d : Nat → Int} (h : ∀ k, d k = 0) (n k : Nat) : fromC d n k = 0 := fromC_end n k (fun j _ => h j)
theorem relC_self (l : List Nat) : relC l l = 0 := fromC_zero (fun k => zdh _) _ _
theorem strCmp_self (a : ByteArray) : strCmp a a = 0 := by
 have := strCmp_turn a a
 omega
theorem locD_self (a : ByteArray) : locD a a = 0 := by
 have := locD_turn a a
 omega
def stP (R : List (List Int)) (d : List Int) : Nat → Parts
 | 0 => ⟨none, R, none, none, some d, []⟩
 | 1 => ⟨none, R, some ([97], d), none, none, []⟩
 | 2 => ⟨none, R, some ([98], d), none, none, []⟩
 | 3 => ⟨none, R, some (wRc, d), none, none, []⟩
 | 4 => ⟨none, R, none, none, none, []⟩
 | 5 => ⟨none, R, none, none, none, [d]⟩
 | 6 => ⟨none, R, none, some d, none, []⟩
 | _ => ⟨some [49], R, none, none, none, []⟩
theorem digs_an {d : List Int} (h : Digs d) : GoodW d := by
 unfold GoodW goodW
 rw [Bool.and_eq_true, decide_eq_true_eq]
 exact ⟨h.1, List.all_eq_true.2 (fun c hc => by unfold isAn; rw [h.2 c hc]; rfl)⟩
theorem Parts.ok_of {e : Option (List Int)} {R : List (List Int)} {p : Option (List Int × List Int)} {q r : Option (List Int)} {L : List (List Int)} (h1 : ∀ x, e = some x → Digs x) (h2 : R ≠ [] ∧ ∀ x ∈ R, Digs x) (h3 : ∀ x, p = some x → Digs x.2 ∧ x.1 ∈ [[97], [98], wRc]) (h4 : ∀ x, q = some x → Digs x) (h5 : ∀ x, r = some x → Digs x) (h6 : ∀ x ∈ L, GoodW x) : Parts.Ok ⟨e, R, p, q, r, L⟩ := ⟨h1, h2, h3, h4, h5, h6⟩
theorem digs_one : Digs [49] := ⟨by decide, by decide⟩
theorem stP_ok {R : List (List Int)} (h0 : R ≠ []) (h : ∀ x ∈ R, Digs x) {d : List Int} (hd : Digs d) (i : Nat) : (stP R d i).Ok := by
 have hN : ∀ x, (none : Option (List Int)) = some x → Digs x := fun x e => by cases e
 have hP : ∀ x, (none : Option (List Int × List Int)) = some x → Digs x.2 ∧ x.1 ∈ [[97], [98], wRc] := fun x e => by cases e
 have hL : ∀ x ∈ ([] : List (List Int)), GoodW x := fun x e => by simp at e
 have hS : ∀ x, some d = some x → Digs x := fun x e => by cases e; exact hd
 have hQ : ∀ w : List Int, w ∈ [[97], [98], wRc] → ∀ x, some (w, d) = some x → Digs x.2 ∧ x.1 ∈ [[97], [98], wRc] := fun w hw x e => by cases e; exact ⟨hd, hw⟩
 unfold stP
 split
 ·exact Parts.ok_of hN ⟨h0, h⟩ hP hN hS hL
 ·exact Parts.ok_of hN ⟨h0, h⟩ (hQ _ (by decide)) hN hN hL
 ·exact Parts.ok_of hN ⟨h0, h⟩ (hQ _ (by decide)) hN hN hL
 ·exact Parts.ok_of hN ⟨h0, h⟩ (hQ _ (by decide)) hN hN hL
 ·exact Parts.ok_of hN ⟨h0, h⟩ hP hN hN hL
 ·exact Parts.ok_of hN ⟨h0, h⟩ hP hN hN (fun x hx => by rw [List.mem_singleton.1 hx]; exact digs_an hd)
 ·exact Parts.ok_of hN ⟨h0, h⟩ hP hS hN hL
 ·exact Parts.ok_of (fun x e => by cases e; exact digs_one) ⟨h0, h⟩ hP hN hN hL
def stV (R : List Nat) (n : Nat) (D : ByteArray) : Nat → YV
 | 0 => ⟨0, R, none, none, some (strOfNums wDev, n), [ByteArray.empty], []⟩
 | 1 => ⟨0, R, some (strOfNums [97], n), none, none, [ByteArray.empty], []⟩
 | 2 => ⟨0, R, some (strOfNums [98], n), none, none, [ByteArray.empty], []⟩
 | 3 => ⟨0, R, some (strOfNums wRc, n), none, none, [ByteArray.empty], []⟩
 | 4 => ⟨0, R, none, none, none, [ByteArray.empty], []⟩
 | 5 => ⟨0, R, none, none, none, [D], []⟩
 | 6 => ⟨0, R, none, some (strOfNums wPost, n), none, [ByteArray.empty], []⟩
 | _ => ⟨1, R, none, none, none, [ByteArray.empty], []⟩
theorem st_val {R : List (List Int)} (h0 : R ≠ []) (h : ∀ x ∈ R, Digs x) {d : List Int} (hd : Digs d) (i : Nat) : valL (stP R d i).text = stV (R.map decL) (decL d) (strOfNums d) i := by
 have hk := stP_ok h0 h hd i
 rw [valL_text hk, told_val hk]
 unfold stP stV
 split <;> rfl
theorem digs_bytes {d : List Int} (h : ∀ c ∈ d, isD c = true) : bytesOf (strOfNums d) = d := B_str (fun c hc => by
 have := h c hc
 unfold isD at this
 have := of_decide_eq_true this
 omega)
theorem digs_all {d : List Int} (h : Digs d) (hl : d.length ≤ 1000000) : zic (strOfNums d) :=
 (zhg (s := strOfNums d) (by rw [digs_bytes h.2]; exact h.2) (by rw [digs_bytes h.2]; exact h.1) (by rw [str_size]; exact hl)).2
end Go.Proofs.YtlijjnjpomnphaaGreatDoorG
end
section
namespace Go.Proofs.YtlijjnjpomnphaaGreatDoorG
open Go.RowKit YtlijjnjpomnphaaGreatDoorH YtlijjnjpomnphaaGreatDoorB YtlijjnjpomnphaaGreatDoorM YtlijjnjpomnphaaGreatDoorW.PrintWords YtlijjnjpomnphaaGreatDoorW.PrintLast
def BC (n : Int) : Value := .int .u8 n
def Bs (w : World) (B : Nat) (l : List Int) : Prop := w.heap[B]? = some (.cells (l.map BC).toArray 5 (0, 0))
theorem Bs.cell {w : World} {B : Nat} {l : List Int} (h : Bs w B l) (i : Nat) (hi : i < l.length) : w.cell? ⟨B, i, none⟩ = some (.int .u8 (l.getD i 0)) := by
 unfold Bs at h
 simp [World.cell?, h, hi, BC, List.getD_eq_getElem?_getD]
def zoe (L : Nat) (t : List Int) : List Int := List.replicate (L - t.length) 0 ++ t.reverse
theorem content_len {L : Nat} {t : List Int} (h : t.length ≤ L) : (zoe L t).length = L := by simp [zoe]; omega
theorem content_step {L : Nat} {t : List Int} (b : Int) (h : t.length < L) : (zoe L t).set (L - t.length - 1) b = zoe L (t ++ [b]) := by
 unfold zoe
 have e : L - t.length = (L - t.length - 1) + 1 := by omega
 have e2 : L - (t ++ [b]).length = L - t.length - 1 := by simp; omega
 rw [e2, e, List.replicate_succ', List.append_assoc, List.reverse_append]
 rw [List.set_append]
 simp
theorem content_done (L : Nat) {t : List Int} (h : t.length = L) : zoe L t = t.reverse := by
 unfold zoe
 rw [h, Nat.sub_self]
 rfl
end Go.Proofs.YtlijjnjpomnphaaGreatDoorG
end
section
namespace Go.Proofs.YtlijjnjpomnphaaGreatDoor.Q
open Go.RowKit YtlijjnjpomnphaaGreatDoorH YtlijjnjpomnphaaGreatDoorG YtlijjnjpomnphaaGreatDoorW.PrintWords YtlijjnjpomnphaaGreatDoorW.PrintLast YtlijjnjpomnphaaGreatDoorW.PrintMore
attribute [local go_sem] ztd zqd zke zje zgd zhd zrd zpd
def errW : Option Int → Value
 | none => .nilIface
 | some c => .iface 0 (.int .i64 c)
theorem zxb : errW none = .nilIface := rfl
theorem zwb (c : Int) : errW (some c) = .iface 0 (.int .i64 c) := rfl
theorem info5 : (Tryz.prog.info? 5).map (fun i => (i.zero, i.size, i.bytes)) = some (some (.int .u8 0), 1, 1) := by kernel_rfl
theorem info9 : (Tryz.prog.info? 9).map (fun i => (i.zero, i.size, i.bytes)) = some (some (.string ⟨#[]⟩), 1, 16) := by kernel_rfl
theorem info29 : (Tryz.prog.info? 29).map (fun i => (i.zero, i.size, i.bytes)) = some (some (.agg #[(.bool false), (.string ⟨#[]⟩)]), 2, 24) := by kernel_rfl
structure S77 where
 f0 : Bool
 f1 : ByteArray
def z77 : S77 := ⟨false, (⟨#[]⟩ : ByteArray)⟩
def rd_T77 (xs : List S77) (i : Int) : S77 := xs.getD i.toNat z77
structure S29 where
 f0 : Bool
 f1 : ByteArray
def z29 : S29 := ⟨false, (⟨#[]⟩ : ByteArray)⟩
def k29 : Kd S29 := Kd.iso (Kd.pair Kd.bool Kd.string) (fun x : S29 => (x.f0, x.f1))
theorem k29_mkM (w : World) (base : Nat) (ok : Nat → Prop) (x : S29)  : k29.M w base ok x [.bool x.f0, .string x.f1] := ⟨[.bool x.f0], [.string x.f1], rfl, rfl, rfl⟩
def rd_T29 (xs : List S29) (i : Int) : S29 := xs.getD i.toNat z29
end Go.Proofs.YtlijjnjpomnphaaGreatDoor.Q
end
section
namespace Go.Proofs.YtlijjnjpomnphaaGreatDoor.Q
open Go.RowKit YtlijjnjpomnphaaGreatDoorH YtlijjnjpomnphaaGreatDoorG YtlijjnjpomnphaaGreatDoorW.PrintWords YtlijjnjpomnphaaGreatDoorW.PrintLast YtlijjnjpomnphaaGreatDoorW.PrintMore
attribute [local go_sem] ztd zqd zke zje zgd zhd zrd zpd
def zmg.l0 : Nat → List (S29) → List (S77) → Int → Int → Option ((List (S29)))
 | 0, _, _, _, _ => none
 | k + 1, x3, x6, x7, x8 => if x8 < x7 then (if 0 ≤ x8 then (if x8 < (x6.length : Int) then (if x3.length < 5864062014805 then (zmg.l0 k (x3 ++ [(⟨(rd_T77 x6 x8).f0, (rd_T77 x6 x8).f1⟩ : S29)]) x6 x7 (wrap64 (x8 + 1))) else (none)) else (none)) else (none)) else (some x3)
def zmg.f (k : Nat) (l0 : List (S77)) : Option ((List (S29))) := zmg.l0 k ([] : List (S29)) l0 (l0.length : Int) 0
def impl_plainLetter.f (a0_0 : Bool) (a0_1 : ByteArray) (a0_2 : Bool) (a0_3 : ByteArray) : Option (Bool × ByteArray × Bool × ByteArray) := some (a0_0, a0_1, a0_2, a0_3)
def impl_bigs.l0 : Nat → List (S77) → List (S29) → Int → Int → Option ((List (S77)))
 | 0, _, _, _, _ => none
 | k + 1, x3, x6, x7, x8 => if x8 < x7 then (if 0 ≤ x8 then (if x8 < (x6.length : Int) then (if x3.length < 5864062014805 then (impl_bigs.l0 k (x3 ++ [(⟨(rd_T29 x6 x8).f0, (rd_T29 x6 x8).f1⟩ : S77)]) x6 x7 (wrap64 (x8 + 1))) else (none)) else (none)) else (none)) else (some x3)
def impl_bigs.f (k : Nat) (l0 : List (S29)) : Option ((List (S77))) := impl_bigs.l0 k ([] : List (S77)) l0 (l0.length : Int) 0
def impl_letter.f (a0_0 : Bool) (a0_1 : ByteArray) (a0_2 : Bool) (a0_3 : ByteArray) : Option (Bool × ByteArray × Bool × ByteArray) := some (a0_0, a0_1, a0_2, a0_3)
def zve.l0 : Nat → List ByteArray → Int → Int → Option (Bool)
 | 0, _, _, _ => none
 | k + 1, x8, x9, x10 => if x10 < x9 then (if 0 ≤ x10 then (if x10 < (x8.length : Int) then (if ((rdOf ByteArray.empty x8 x10).size : Int) > 2147483647 then (some false) else (zve.l0 k x8 x9 (wrap64 (x10 + 1)))) else (none)) else (none)) else (some true)
def zve.f (k : Nat) (l0 : List ByteArray) : Option (Bool) := if (l0.length : Int) > 2147483647 then (some false) else (zve.l0 k l0 (l0.length : Int) 0)
def laws_zzFits3.f (k : Nat) (a0_0 : Int) (l0_1 : List Int) (a0_2 : Int) (a0_3 : Int) (a0_4 : Int) (a0_5 : Int) (a0_6 : Bool) (a0_7 : Bool) (l0_8 : List ByteArray) : Option (Bool) := if (l0_1.length : Int) > 2147483647 then (some false) else ((zve.f k l0_8).bind fun t117 => (if t117 = true then (some true) else (some false)))
def znc.l0 : Nat → List ByteArray → List ByteArray → Int → Int → Option (Bool)
 | 0, _, _, _, _ => none
 | k + 1, x0, x5, x6, x7 => if x7 < x6 then (if 0 ≤ x7 then (if x7 < (x5.length : Int) then (if ((rdOf ByteArray.empty x5 x7).size : Int) > 1200 then (some false) else (znc.l0 k x0 x5 x6 (wrap64 (x7 + 1)))) else (none)) else (none)) else (some (decide ((x0.length : Int) ≤ 60)))
def znc.f (k : Nat) (l0 : List ByteArray) : Option (Bool) := znc.l0 k l0 l0 (l0.length : Int) 0
theorem znc.calls (k : Nat) (A0 : Option Addr) (c0 : Nat) (l0 : List ByteArray) (r : Bool) (w : World) (hr0 : Kd.C Kd.string w A0 l0.length l0) (hc0 : l0.length ≤ c0) (h : znc.f k l0 = some r) :
  Calls Tryz.prog 18 #[.slice A0 l0.length c0] w fun e w' => e = .returned (.bool r) ∧ zl w w' := by
 have HR0 := za.mk hr0
 have HC0 := za.mk hc0
 clear hr0 hc0
 have H : (znc.l0 k l0 l0 (l0.length : Int) 0) = some r := h
 clear h
 have H' := za.mk H
 clear H
 go_enter Tryz.func18, Tryz.ntmps18
 go_wp2
 (try simp only [Act.put, List.setIfInBounds_toArray, List.set_cons_zero, List.set_cons_succ])
 go_loopg [7] k (fun kq v7 w' => ∃ (x7_1 : Int), v7 = .int .i64 x7_1 ∧ za (znc.l0 kq l0 l0 (l0.length : Int) x7_1 = some r) ∧ za (kq ≤ k) ∧ zl w w')
 case atStart => exact ⟨(0), (by first | rfl | (simp; done) | (simp [*]; done) | (simp [zd]; done) | (simp [zd, *]; done)), H', ⟨Nat.le_refl _⟩, by repeat (first | exact zl.refl _ | apply zl.step)⟩
 case round =>
  clear H'
  try clear c1
  obtain ⟨x7_1, rfl, HA, HK1, ⟨m1, rfl⟩⟩ := hrel
  cases gk with
  | zero => exact absurd HA.out (by simp [znc.l0])
  | succ k1 =>
   have H := HA.out
   clear HA
   simp only [znc.l0] at H
   by_cases c2 : x7_1 < (l0.length : Int)
   ·rw [if_pos c2] at H
    have c2b0 : decide (x7_1 < (l0.length : Int)) = true := decide_eq_true c2
    clear c2
    by_cases c3 : 0 ≤ x7_1
    ·rw [if_pos c3] at H
     have c3b0 : decide (0 ≤ x7_1) = true := decide_eq_true c3
     clear c3
     by_cases c4 : x7_1 < (l0.length : Int)
     ·rw [if_pos c4] at H
      have c4b0 : decide (x7_1 < (l0.length : Int)) = true := decide_eq_true c4
      clear c4
      by_cases c5 : ((rdOf ByteArray.empty l0 x7_1).size : Int) > 1200
      ·rw [if_pos c5] at H
       have c5b0 : decide (1200 < ((rdOf ByteArray.empty l0 x7_1).size : Int)) = true := decide_eq_true c5
       have c5b1 : decide (1200 < (rdOf ByteArray.empty l0 x7_1).size) = true := decide_eq_true (by omega)
       clear c5
       obtain rfl := Option.some.inj H
       have p118 : 0 ≤ (x7_1 : Int) := of_decide_eq_true (by first | (with_reducible assumption) | assumption)
       have q118 : x7_1 < (l0.length : Int) := of_decide_eq_true (by first | (with_reducible assumption) | assumption)
       obtain ⟨ad118, e118, hx118_0⟩ := Kd.at_string HR0.out x7_1 p118 q118
       cases e118
       replace p118 := eq_true p118
       replace q118 := eq_true q118
       go_wp2
       go_ret
       exact ⟨by first | rfl | (simp; done) | (simp [*]; done) | (simp [zd]; done) | (simp [zd, *]; done), by repeat (first | exact zl.refl _ | apply zl.step)⟩
      ·rw [if_neg c5] at H
       have c5b0 : decide (1200 < ((rdOf ByteArray.empty l0 x7_1).size : Int)) = false := decide_eq_false c5
       have c5b1 : decide (1200 < (rdOf ByteArray.empty l0 x7_1).size) = false := decide_eq_false (by omega)
       clear c5
       have H' := za.mk H
       clear H
       have p118 : 0 ≤ (x7_1 : Int) := of_decide_eq_true (by first | (with_reducible assumption) | assumption)
       have q118 : x7_1 < (l0.length : Int) := of_decide_eq_true (by first | (with_reducible assumption) | assumption)
       obtain ⟨ad118, e118, hx118_0⟩ := Kd.at_string HR0.out x7_1 p118 q118
       cases e118
       replace p118 := eq_true p118
       replace q118 := eq_true q118
       go_wp2
       go_roundg k1
       case measure => have := HK1.out; omega
       case rel => exact ⟨(wrap64 (x7_1 + 1)), (by first | rfl | (simp; done) | (simp [*]; done) | (simp [zd]; done) | (simp [zd, *]; done)), H', ⟨by have := HK1.out; omega⟩, by repeat (first | exact zl.refl _ | apply zl.step)⟩
     ·rw [if_neg c4] at H
      exact absurd H (by simp)
    ·rw [if_neg c3] at H
     exact absurd H (by simp)
   ·rw [if_neg c2] at H
    have c2b0 : decide (x7_1 < (l0.length : Int)) = false := decide_eq_false c2
    clear c2
    obtain rfl := Option.some.inj H
    go_wp2
    go_ret
    exact ⟨by first | rfl | (simp; done) | (simp [*]; done) | (simp [zd]; done) | (simp [zd, *]; done), by repeat (first | exact zl.refl _ | apply zl.step)⟩
def zbc.l0 : Nat → Int → ByteArray → Option (ByteArray)
 | 0, _, _ => none
 | k + 1, x0, x3 => if (Utf8.encode (wrap32 (IntKind.u16.wrap (48 + (Int.tmod x0 10))))).size + x3.size ≤ 9223372036854775807 then (if (IntKind.u16.wrap (Int.tdiv x0 10)) = 0 then (some ((Utf8.encode (wrap32 (IntKind.u16.wrap (48 + (Int.tmod x0 10))))) ++ x3)) else (zbc.l0 k (IntKind.u16.wrap (Int.tdiv x0 10)) ((Utf8.encode (wrap32 (IntKind.u16.wrap (48 + (Int.tmod x0 10))))) ++ x3))) else (none)
def zbc.f (k : Nat) (a0 : Int) : Option (ByteArray) := zbc.l0 k a0 (⟨#[]⟩ : ByteArray)
theorem zbc.calls (k : Nat) (a0 : Int) (r : ByteArray) (w : World) (h : zbc.f k a0 = some r) :
  Calls Tryz.prog 21 #[.int .u16 a0] w fun e w' => e = .returned (.string r) ∧ zl w w' := by
 have H : (zbc.l0 k a0 (⟨#[]⟩ : ByteArray)) = some r := h
 clear h
 have H' := za.mk H
 clear H
 go_enter Tryz.func21, Tryz.ntmps21
 go_wp2
 (try simp only [Act.put, List.setIfInBounds_toArray, List.set_cons_zero, List.set_cons_succ])
 go_loopg [0, 3] k (fun kq v0 v3 w' => ∃ (x0_1 : Int) (x3_1 : ByteArray), v0 = .int .u16 x0_1 ∧ v3 = .string x3_1 ∧ za (zbc.l0 kq x0_1 x3_1 = some r) ∧ za (kq ≤ k) ∧ zl w w')
 case atStart => exact ⟨(a0), ((⟨#[]⟩ : ByteArray)), (by first | rfl | (simp; done) | (simp [*]; done) | (simp [zd]; done) | (simp [zd, *]; done)), (by first | rfl | (simp; done) | (simp [*]; done) | (simp [zd]; done) | (simp [zd, *]; done)), H', ⟨Nat.le_refl _⟩, by repeat (first | exact zl.refl _ | apply zl.step)⟩
 case round =>
  clear H'
  obtain ⟨x0_1, x3_1, rfl, rfl, HA, HK1, ⟨m1, rfl⟩⟩ := hrel
  cases gk with
  | zero => exact absurd HA.out (by simp [zbc.l0])
  | succ k1 =>
   have H := HA.out
   clear HA
   simp only [zbc.l0] at H
   by_cases c2 : (Utf8.encode (wrap32 (IntKind.u16.wrap (48 + (Int.tmod x0_1 10))))).size + x3_1.size ≤ 9223372036854775807
   ·rw [if_pos c2] at H
    have c2b0 := eq_true c2
    have c2b1 : decide ((Utf8.encode (wrap32 (IntKind.u16.wrap (48 + (Int.tmod x0_1 10))))).size + x3_1.size ≤ 9223372036854775807) = true := decide_eq_true c2
    try have c2b2 : (9223372036854775807 < (Utf8.encode (wrap32 (IntKind.u16.wrap (48 + (Int.tmod x0_1 10))))).size + x3_1.size) = False := eq_false (Nat.not_lt.2 c2)
    by_cases c3 : (IntKind.u16.wrap (Int.tdiv x0_1 10)) = 0
    ·rw [if_pos c3] at H
     have c3b0 : ((IntKind.u16.wrap (Int.tdiv x0_1 10)) == 0) = true := beq_iff_eq.mpr c3
     have c3b1 : ((IntKind.u16.wrap (Int.tdiv x0_1 10)) != 0) = false := bne_eq_false_iff_eq.mpr c3
     clear c3
     obtain rfl := Option.some.inj H
     have hcv4 := fun (W_ : World) => run_convert_int_string (P := Tryz.prog) W_ 21 9 .i32 (wrap32 (IntKind.u16.wrap (48 + (Int.tmod x0_1 10)))) (by rw [Tryz.underlying21]; rfl) Tryz.underlying9
     go_wp2
     go_ret
     exact ⟨by first | rfl | (simp; done) | (simp [*]; done) | (simp [zd]; done) | (simp [zd, *]; done), by repeat (first | exact zl.refl _ | apply zl.step)⟩
    ·rw [if_neg c3] at H
     have c3b0 : ((IntKind.u16.wrap (Int.tdiv x0_1 10)) == 0) = false := beq_eq_false_iff_ne.mpr c3
     have c3b1 : ((IntKind.u16.wrap (Int.tdiv x0_1 10)) != 0) = true := bne_iff_ne.mpr c3
     have H' := za.mk H
     clear H
     have hcv5 := fun (W_ : World) => run_convert_int_string (P := Tryz.prog) W_ 21 9 .i32 (wrap32 (IntKind.u16.wrap (48 + (Int.tmod x0_1 10)))) (by rw [Tryz.underlying21]; rfl) Tryz.underlying9
     go_wp2
     go_roundg k1
     case measure => have := HK1.out; omega
     case rel => exact ⟨(IntKind.u16.wrap (Int.tdiv x0_1 10)), ((Utf8.encode (wrap32 (IntKind.u16.wrap (48 + (Int.tmod x0_1 10))))) ++ x3_1), (by first | rfl | (simp; done) | (simp [*]; done) | (simp [zd]; done) | (simp [zd, *]; done)), (by first | rfl | (simp; done) | (simp [*]; done) | (simp [zd]; done) | (simp [zd, *]; done)), H', ⟨by have := HK1.out; omega⟩, by repeat (first | exact zl.refl _ | apply zl.step)⟩
   ·rw [if_neg c2] at H
    exact absurd H (by simp)
def zzb.l0 : Nat → ByteArray → ByteArray → Int → Option (ByteArray)
 | 0, _, _, _ => none
 | k + 1, x0, x3, x4 => if x4 < (x0.size : Int) then (if 0 ≤ x4 then (if (bt x0 x4) ≥ 65 then (if (bt x0 x4) ≤ 90 then (if x3.size + (Utf8.encode (((bt x0 x4) + 32) % 256)).size ≤ 9223372036854775807 then (zzb.l0 k x0 (x3 ++ (Utf8.encode (((bt x0 x4) + 32) % 256))) (wrap64 (x4 + 1))) else (none)) else (if x3.size + (Utf8.encode (wrap32 (bt x0 x4))).size ≤ 9223372036854775807 then (zzb.l0 k x0 (x3 ++ (Utf8.encode (wrap32 (bt x0 x4)))) (wrap64 (x4 + 1))) else (none))) else (if x3.size + (Utf8.encode (wrap32 (bt x0 x4))).size ≤ 9223372036854775807 then (zzb.l0 k x0 (x3 ++ (Utf8.encode (wrap32 (bt x0 x4)))) (wrap64 (x4 + 1))) else (none))) else (none)) else (some x3)
def zzb.f (k : Nat) (a0 : ByteArray) : Option (ByteArray) := zzb.l0 k a0 (⟨#[]⟩ : ByteArray) 0
theorem zzb.calls (k : Nat) (a0 : ByteArray) (r : ByteArray) (w : World) (h : zzb.f k a0 = some r) :
  Calls Tryz.prog 31 #[.string a0] w fun e w' => e = .returned (.string r) ∧ zl w w' := by
 have H : (zzb.l0 k a0 (⟨#[]⟩ : ByteArray) 0) = some r := h
 clear h
 have H' := za.mk H
 clear H
 go_enter Tryz.func31, Tryz.ntmps31
 go_wp2
 (try simp only [Act.put, List.setIfInBounds_toArray, List.set_cons_zero, List.set_cons_succ])
 go_loopg [3, 4] k (fun kq v3 v4 w' => ∃ (x3_1 : ByteArray) (x4_1 : Int), v3 = .string x3_1 ∧ v4 = .int .i64 x4_1 ∧ za (zzb.l0 kq a0 x3_1 x4_1 = some r) ∧ za (kq ≤ k) ∧ zl w w')
 case atStart => exact ⟨((⟨#[]⟩ : ByteArray)), (0), (by first | rfl | (simp; done) | (simp [*]; done) | (simp [zd]; done) | (simp [zd, *]; done)), (by first | rfl | (simp; done) | (simp [*]; done) | (simp [zd]; done) | (simp [zd, *]; done)), H', ⟨Nat.le_refl _⟩, by repeat (first | exact zl.refl _ | apply zl.step)⟩
 case round =>
  clear H'
  obtain ⟨x3_1, x4_1, rfl, rfl, HA, HK1, ⟨m1, rfl⟩⟩ := hrel
  cases gk with
  | zero => exact absurd HA.out (by simp [zzb.l0])
  | succ k1 =>
   have H := HA.out
   clear HA
   simp only [zzb.l0] at H
   by_cases c2 : x4_1 < (a0.size : Int)
   ·rw [if_pos c2] at H
    have c2b0 : decide (x4_1 < (a0.size : Int)) = true := decide_eq_true c2
    clear c2
    by_cases c3 : 0 ≤ x4_1
    ·rw [if_pos c3] at H
     have c3b0 : decide (0 ≤ x4_1) = true := decide_eq_true c3
     clear c3
     by_cases c5 : (bt a0 x4_1) ≥ 65
     ·rw [if_pos c5] at H
      have c5b0 : decide (65 ≤ (bt a0 x4_1)) = true := decide_eq_true c5
      clear c5
      by_cases c6 : (bt a0 x4_1) ≤ 90
      ·rw [if_pos c6] at H
       have c6b0 : decide ((bt a0 x4_1) ≤ 90) = true := decide_eq_true c6
       clear c6
       by_cases c7 : x3_1.size + (Utf8.encode (((bt a0 x4_1) + 32) % 256)).size ≤ 9223372036854775807
       ·rw [if_pos c7] at H
        have c7b0 := eq_true c7
        have c7b1 : decide (x3_1.size + (Utf8.encode (((bt a0 x4_1) + 32) % 256)).size ≤ 9223372036854775807) = true := decide_eq_true c7
        try have c7b2 : (9223372036854775807 < x3_1.size + (Utf8.encode (((bt a0 x4_1) + 32) % 256)).size) = False := eq_false (Nat.not_lt.2 c7)
        have H' := za.mk H
        clear H
        have p4 : 0 ≤ (x4_1 : Int) := of_decide_eq_true (by first | (with_reducible assumption) | assumption)
        have q4 : x4_1 < (a0.size : Int) := of_decide_eq_true (by first | (with_reducible assumption) | assumption)
        have hx4 := bt_at a0 x4_1
        replace p4 := eq_true p4
        replace q4 := eq_true q4
        have hcv8 := fun (W_ : World) => run_convert_int_string (P := Tryz.prog) W_ 21 9 .i32 (((bt a0 x4_1) + 32) % 256) (by rw [Tryz.underlying21]; rfl) Tryz.underlying9
        go_wp2
        go_roundg k1
        case measure => have := HK1.out; omega
        case rel => exact ⟨(x3_1 ++ (Utf8.encode (((bt a0 x4_1) + 32) % 256))), (wrap64 (x4_1 + 1)), (by first | rfl | (simp; done) | (simp [*]; done) | (simp [zd]; done) | (simp [zd, *]; done)), (by first | rfl | (simp; done) | (simp [*]; done) | (simp [zd]; done) | (simp [zd, *]; done)), H', ⟨by have := HK1.out; omega⟩, by repeat (first | exact zl.refl _ | apply zl.step)⟩
       ·rw [if_neg c7] at H
        exact absurd H (by simp)
      ·rw [if_neg c6] at H
       have c6b0 : decide ((bt a0 x4_1) ≤ 90) = false := decide_eq_false c6
       clear c6
       by_cases c9 : x3_1.size + (Utf8.encode (wrap32 (bt a0 x4_1))).size ≤ 9223372036854775807
       ·rw [if_pos c9] at H
        have c9b0 := eq_true c9
        have c9b1 : decide (x3_1.size + (Utf8.encode (wrap32 (bt a0 x4_1))).size ≤ 9223372036854775807) = true := decide_eq_true c9
        try have c9b2 : (9223372036854775807 < x3_1.size + (Utf8.encode (wrap32 (bt a0 x4_1))).size) = False := eq_false (Nat.not_lt.2 c9)
        have H' := za.mk H
        clear H
        have p4 : 0 ≤ (x4_1 : Int) := of_decide_eq_true (by first | (with_reducible assumption) | assumption)
        have q4 : x4_1 < (a0.size : Int) := of_decide_eq_true (by first | (with_reducible assumption) | assumption)
        have hx4 := bt_at a0 x4_1
        replace p4 := eq_true p4
        replace q4 := eq_true q4
        have hcv10 := fun (W_ : World) => run_convert_int_string (P := Tryz.prog) W_ 21 9 .i32 (wrap32 (bt a0 x4_1)) (by rw [Tryz.underlying21]; rfl) Tryz.underlying9
        go_wp2
        go_roundg k1
        case measure => have := HK1.out; omega
        case rel => exact ⟨(x3_1 ++ (Utf8.encode (wrap32 (bt a0 x4_1)))), (wrap64 (x4_1 + 1)), (by first | rfl | (simp; done) | (simp [*]; done) | (simp [zd]; done) | (simp [zd, *]; done)), (by first | rfl | (simp; done) | (simp [*]; done) | (simp [zd]; done) | (simp [zd, *]; done)), H', ⟨by have := HK1.out; omega⟩, by repeat (first | exact zl.refl _ | apply zl.step)⟩
       ·rw [if_neg c9] at H
        exact absurd H (by simp)
     ·rw [if_neg c5] at H
      have c5b0 : decide (65 ≤ (bt a0 x4_1)) = false := decide_eq_false c5
      clear c5
      by_cases c11 : x3_1.size + (Utf8.encode (wrap32 (bt a0 x4_1))).size ≤ 9223372036854775807
      ·rw [if_pos c11] at H
       have c11b0 := eq_true c11
       have c11b1 : decide (x3_1.size + (Utf8.encode (wrap32 (bt a0 x4_1))).size ≤ 9223372036854775807) = true := decide_eq_true c11
       try have c11b2 : (9223372036854775807 < x3_1.size + (Utf8.encode (wrap32 (bt a0 x4_1))).size) = False := eq_false (Nat.not_lt.2 c11)
       have H' := za.mk H
       clear H
       have p4 : 0 ≤ (x4_1 : Int) := of_decide_eq_true (by first | (with_reducible assumption) | assumption)
       have q4 : x4_1 < (a0.size : Int) := of_decide_eq_true (by first | (with_reducible assumption) | assumption)
       have hx4 := bt_at a0 x4_1
       replace p4 := eq_true p4
       replace q4 := eq_true q4
       have hcv12 := fun (W_ : World) => run_convert_int_string (P := Tryz.prog) W_ 21 9 .i32 (wrap32 (bt a0 x4_1)) (by rw [Tryz.underlying21]; rfl) Tryz.underlying9
       go_wp2
       go_roundg k1
       case measure => have := HK1.out; omega
       case rel => exact ⟨(x3_1 ++ (Utf8.encode (wrap32 (bt a0 x4_1)))), (wrap64 (x4_1 + 1)), (by first | rfl | (simp; done) | (simp [*]; done) | (simp [zd]; done) | (simp [zd, *]; done)), (by first | rfl | (simp; done) | (simp [*]; done) | (simp [zd]; done) | (simp [zd, *]; done)), H', ⟨by have := HK1.out; omega⟩, by repeat (first | exact zl.refl _ | apply zl.step)⟩
      ·rw [if_neg c11] at H
       exact absurd H (by simp)
    ·rw [if_neg c3] at H
     exact absurd H (by simp)
   ·rw [if_neg c2] at H
    have c2b0 : decide (x4_1 < (a0.size : Int)) = false := decide_eq_false c2
    clear c2
    obtain rfl := Option.some.inj H
    go_wp2
    go_ret
    exact ⟨by first | rfl | (simp; done) | (simp [*]; done) | (simp [zd]; done) | (simp [zd, *]; done), by repeat (first | exact zl.refl _ | apply zl.step)⟩
def zid.f (a0 : Int) : Option (Bool) := if a0 ≥ 48 then (some (decide (a0 ≤ 57))) else (some false)
theorem zid.calls (a0 : Int) (r : Bool) (w : World) (h : zid.f a0 = some r) :
  Calls Tryz.prog 115 #[.int .u8 a0] w fun e w' => e = .returned (.bool r) ∧ zl w w' := by
 have H : (if a0 ≥ 48 then (some (decide (a0 ≤ 57))) else (some false)) = some r := h
 clear h
 by_cases c2 : a0 ≥ 48
 ·rw [if_pos c2] at H
  have c2b0 : decide (48 ≤ a0) = true := decide_eq_true c2
  clear c2
  obtain rfl := Option.some.inj H
  go_enter Tryz.func115, Tryz.ntmps115
  go_wp2
  go_ret
  exact ⟨by first | rfl | (simp; done) | (simp [*]; done) | (simp [zd]; done) | (simp [zd, *]; done), by repeat (first | exact zl.refl _ | apply zl.step)⟩
 ·rw [if_neg c2] at H
  have c2b0 : decide (48 ≤ a0) = false := decide_eq_false c2
  clear c2
  obtain rfl := Option.some.inj H
  go_enter Tryz.func115, Tryz.ntmps115
  go_wp2
  go_ret
  exact ⟨by first | rfl | (simp; done) | (simp [*]; done) | (simp [zd]; done) | (simp [zd, *]; done), by repeat (first | exact zl.refl _ | apply zl.step)⟩
end Go.Proofs.YtlijjnjpomnphaaGreatDoor.Q
end
section
namespace Go.Proofs.YtlijjnjpomnphaaGreatDoor.Q
open Go.RowKit YtlijjnjpomnphaaGreatDoorH YtlijjnjpomnphaaGreatDoorG YtlijjnjpomnphaaGreatDoorW.PrintWords YtlijjnjpomnphaaGreatDoorW.PrintLast YtlijjnjpomnphaaGreatDoorW.PrintMore
attribute [local go_sem] ztd zqd zke zje zgd zhd zrd zpd
def zgb.l0 : Nat → ByteArray → Int → Option (Bool)
 | 0, _, _ => none
 | k + 1, x0, x3 => if x3 < (x0.size : Int) then (if 0 ≤ x3 then ((zid.f (bt x0 x3)).bind fun t119 => (if t119 = true then (zgb.l0 k x0 (wrap64 (x3 + 1))) else (some false))) else (none)) else (some (decide ((x0.size : Int) > 0)))
def zgb.f (k : Nat) (a0 : ByteArray) : Option (Bool) := zgb.l0 k a0 0
theorem zgb.calls (k : Nat) (a0 : ByteArray) (r : Bool) (w : World) (h : zgb.f k a0 = some r) :
  Calls Tryz.prog 86 #[.string a0] w fun e w' => e = .returned (.bool r) ∧ zl w w' := by
 have H : (zgb.l0 k a0 0) = some r := h
 clear h
 have H' := za.mk H
 clear H
 go_enter Tryz.func86, Tryz.ntmps86
 go_wp2
 (try simp only [Act.put, List.setIfInBounds_toArray, List.set_cons_zero, List.set_cons_succ])
 go_loopg [3] k (fun kq v3 w' => ∃ (x3_1 : Int), v3 = .int .i64 x3_1 ∧ za (zgb.l0 kq a0 x3_1 = some r) ∧ za (kq ≤ k) ∧ zl w w')
 case atStart => exact ⟨(0), (by first | rfl | (simp; done) | (simp [*]; done) | (simp [zd]; done) | (simp [zd, *]; done)), H', ⟨Nat.le_refl _⟩, by repeat (first | exact zl.refl _ | apply zl.step)⟩
 case round =>
  clear H'
  obtain ⟨x3_1, rfl, HA, HK1, ⟨m1, rfl⟩⟩ := hrel
  cases gk with
  | zero => exact absurd HA.out (by simp [zgb.l0])
  | succ k1 =>
   have H := HA.out
   clear HA
   simp only [zgb.l0] at H
   by_cases c2 : x3_1 < (a0.size : Int)
   ·rw [if_pos c2] at H
    have c2b0 : decide (x3_1 < (a0.size : Int)) = true := decide_eq_true c2
    clear c2
    by_cases c3 : 0 ≤ x3_1
    ·rw [if_pos c3] at H
     have c3b0 : decide (0 ≤ x3_1) = true := decide_eq_true c3
     clear c3
     replace H := Option.bind_eq_some_iff.mp H
     obtain ⟨t119, A50, H⟩ := H
     replace H : (if t119 = true then (zgb.l0 k1 a0 (wrap64 (x3_1 + 1))) else (some false)) = some r := H
     have A5 := za.mk A50
     clear A50
     by_cases c6 : t119 = true
     ·subst c6
      have H1 : (zgb.l0 k1 a0 (wrap64 (x3_1 + 1))) = some r := by rw [if_pos rfl] at H; exact H
      clear H
      have H := H1
      clear H1
      have H' := za.mk H
      clear H
      have p4 : 0 ≤ (x3_1 : Int) := of_decide_eq_true (by first | (with_reducible assumption) | assumption)
      have q4 : x3_1 < (a0.size : Int) := of_decide_eq_true (by first | (with_reducible assumption) | assumption)
      have hx4 := bt_at a0 x3_1
      replace p4 := eq_true p4
      replace q4 := eq_true q4
      go_wp2_with (first | ((with_reducible refine zeb (f := 115) rfl ?_); refine zhc (some 13) rfl rfl Tryz.func115 (by kernel_rfl) rfl #[.int .u8 (bt a0 x3_1)] rfl (by (try simp only [List.map_toArray, List.map_cons, List.map_nil]); first | done | rfl | (simp only [List.length_drop, List.length_take]; rfl)) ?_; (with_reducible refine (zid.calls (bt a0 x3_1) true _ A5.out).mono ?_); rintro e w' ⟨rfl, ⟨nd, rfl⟩⟩; refine ⟨_, rfl, ?_⟩))
      go_roundg k1
      case measure => have := HK1.out; omega
      case rel => exact ⟨(wrap64 (x3_1 + 1)), (by first | rfl | (simp; done) | (simp [*]; done) | (simp [zd]; done) | (simp [zd, *]; done)), H', ⟨by have := HK1.out; omega⟩, by repeat (first | exact zl.refl _ | apply zl.step)⟩
     ·replace c6 := Bool.eq_false_iff.mpr c6
      subst c6
      have H1 : (some false) = some r := by rw [if_neg (show ¬ (false = true) by decide)] at H; exact H
      clear H
      have H := H1
      clear H1
      obtain rfl := Option.some.inj H
      have p4 : 0 ≤ (x3_1 : Int) := of_decide_eq_true (by first | (with_reducible assumption) | assumption)
      have q4 : x3_1 < (a0.size : Int) := of_decide_eq_true (by first | (with_reducible assumption) | assumption)
      have hx4 := bt_at a0 x3_1
      replace p4 := eq_true p4
      replace q4 := eq_true q4
      go_wp2_with (first | ((with_reducible refine zeb (f := 115) rfl ?_); refine zhc (some 13) rfl rfl Tryz.func115 (by kernel_rfl) rfl #[.int .u8 (bt a0 x3_1)] rfl (by (try simp only [List.map_toArray, List.map_cons, List.map_nil]); first | done | rfl | (simp only [List.length_drop, List.length_take]; rfl)) ?_; (with_reducible refine (zid.calls (bt a0 x3_1) false _ A5.out).mono ?_); rintro e w' ⟨rfl, ⟨nd, rfl⟩⟩; refine ⟨_, rfl, ?_⟩))
      go_ret
      exact ⟨by first | rfl | (simp; done) | (simp [*]; done) | (simp [zd]; done) | (simp [zd, *]; done), by repeat (first | exact zl.refl _ | apply zl.step)⟩
    ·rw [if_neg c3] at H
     exact absurd H (by simp)
   ·rw [if_neg c2] at H
    have c2b0 : decide (x3_1 < (a0.size : Int)) = false := decide_eq_false c2
    clear c2
    obtain rfl := Option.some.inj H
    go_wp2
    go_ret
    exact ⟨by first | rfl | (simp; done) | (simp [*]; done) | (simp [zd]; done) | (simp [zd, *]; done), by repeat (first | exact zl.refl _ | apply zl.step)⟩
mutual
def zdb.l0 : Nat → ByteArray → List Int → Int → Option (Bool × ByteArray)
 | 0, _, _, _ => none
 | k + 1, x0, x3, x4 => if x4 < (x0.size : Int) then (if 0 ≤ x4 then (zdb.l1 k x0 x3 x4 (((bt x0 x4) - 48) % 256) 0) else (none)) else (if 0 ≤ (x3.length : Int) then (if ((x3.length : Int) : Int).toNat ≤ 281474976710656 then (zdb.l2 k x3 (List.replicate ((x3.length : Int) : Int).toNat 0) 0) else (none)) else (none))
def zdb.l1 : Nat → ByteArray → List Int → Int → Int → Int → Option (Bool × ByteArray)
 | 0, _, _, _, _, _ => none
 | k + 1, x0, x3, x4, x5, x6 => if x6 < (x3.length : Int) then (if 0 ≤ x6 then (zdb.l1 k x0 (x3.set (x6 : Int).toNat ((Int.tmod (wrap64 (x5 + (wrap64 (10 * (wrap64 (rd x3 x6)))))) 256) % 256)) x4 (wrap64 (Int.tdiv (wrap64 (x5 + (wrap64 (10 * (wrap64 (rd x3 x6)))))) 256)) (wrap64 (x6 + 1))) else (none)) else (if x5 > 0 then (if x3.length < 140737488355328 then (zdb.l0 k x0 (x3 ++ [(x5) % 256]) (wrap64 (x4 + 1))) else (none)) else (zdb.l0 k x0 x3 (wrap64 (x4 + 1))))
def zdb.l2 : Nat → List Int → List Int → Int → Option (Bool × ByteArray)
 | 0, _, _, _ => none
 | k + 1, x3, x7, x8 => if x8 < (x3.length : Int) then (if 0 ≤ x8 then (if 0 ≤ (wrap64 ((wrap64 ((x3.length : Int) - 1)) - x8)) then (if (wrap64 ((wrap64 ((x3.length : Int) - 1)) - x8)) < (x7.length : Int) then (zdb.l2 k x3 (x7.set ((wrap64 ((wrap64 ((x3.length : Int) - 1)) - x8)) : Int).toNat (rd x3 x8)) (wrap64 (x8 + 1))) else (none)) else (none)) else (none)) else (some (false, strOfNums x7))
end
def zdb.f (k : Nat) (a0 : ByteArray) : Option (Bool × ByteArray) := zdb.l0 k a0 ([] : List Int) 0
theorem zdb.calls (k : Nat) (a0 : ByteArray) (r1 : Bool) (r2 : ByteArray) (w : World) (h : zdb.f k a0 = some (r1, r2)) :
  Calls Tryz.prog 114 #[.string a0] w fun e w' => e = .returned (.agg #[.bool r1, .string r2]) ∧ Below w.heap.size w w' := by
 have hu29 := Tryz.underlying29
 have HB := za.mk (Below.refl w.heap.size w)
 have H : (zdb.l0 k a0 ([] : List Int) 0) = some (r1, r2) := h
 clear h
 have H' := za.mk H
 clear H
 go_enter Tryz.func114, Tryz.ntmps114
 go_wp2_with (first | ((with_reducible refine zvc (N := 2) rfl ?_); refine zdd ?hg (N := 2) ?hd (cs := #[.bool false, .string (⟨#[]⟩ : ByteArray)]) (t := 29) ?hr ?_; (case hd => rfl); (case hg => rfl); (case hr => first | (go_simp; done) | (go_simp; rfl)); intro gb120 hg w2 hbox hb; have n0_ := za.mk (zcb (by repeat (first | (with_reducible first | exact HB.out | apply zf | apply ze | apply zh) | exact HB.out)) hb); have n1_ := za.mk (hbox); have n2_ := za.mk ((by rw [hg]; exact (zib (by repeat (first | (with_reducible first | exact HB.out | apply zf | apply ze | apply zh) | exact HB.out))) : w.heap.size ≤ gb120)); have n3_ := za.mk ((by rw [hg]; exact (zib (by repeat (first | (with_reducible first | exact HB.out | apply zf | apply ze | apply zh) | exact HB.out))) : w.heap.size ≤ gb120)); clear HB; have HB := n0_; have BK120 := n1_; have GW120 := n2_; have GE120 := n3_; clear n0_ n1_ n2_ n3_; clear hb hbox hg))
 (try simp only [Act.put, List.setIfInBounds_toArray, List.set_cons_zero, List.set_cons_succ])
 go_loopg [3, 4] k (fun kq v3 v4 w' => ∃ (x3_1 : List Int) (x4_1 : Int), v4 = .int .i64 x4_1 ∧ za (zdb.l0 kq a0 x3_1 x4_1 = some (r1, r2)) ∧ za (kq ≤ k) ∧ za (Kd.R (Kd.int .u8) 5 w' w.heap.size (fun _ => True) v3 x3_1) ∧ za (w'.heap[gb120]? = some (.cells #[.bool false, .string (⟨#[]⟩ : ByteArray)] 29 (0, 0))) ∧ za (Below w.heap.size w w'))
 case atStart => exact ⟨(([] : List Int)), (0), (by first | rfl | (simp; done) | (simp [*]; done) | (simp [zd]; done) | (simp [zd, *]; done)), H', ⟨Nat.le_refl _⟩, ⟨by first | exact Kd.R_nil _ _ _ _ _ | exact Kd.N_nil _ _ _ _ _ | exact Kd.V_nil _ _ _ _ _ | exact Kd.Q_nil _ _ _ _ _ | exact Kd.S_nil _ _ _ _ _⟩, ⟨by (with_reducible repeat (first | refine zo ?_ _ | refine blk_drew ?_ | refine zab ?_ _)); exact BK120.out⟩, ⟨by repeat (first | (with_reducible first | exact HB.out | apply zf | apply ze | apply zh | refine zx ?_ GE120.out) | exact HB.out)⟩⟩
 case round =>
  clear H'
  try clear c1
  try clear p2
  obtain ⟨x3_1, x4_1, rfl, HA, HK1, HO_3, BK120, HB⟩ := hrel
  cases gk with
  | zero => exact absurd HA.out (by simp [zdb.l0])
  | succ k1 =>
   have H := HA.out
   clear HA
   simp only [zdb.l0] at H
   by_cases c3 : x4_1 < (a0.size : Int)
   ·rw [if_pos c3] at H
    have c3b0 : decide (x4_1 < (a0.size : Int)) = true := decide_eq_true c3
    clear c3
    by_cases c4 : 0 ≤ x4_1
    ·rw [if_pos c4] at H
     have c4b0 : decide (0 ≤ x4_1) = true := decide_eq_true c4
     clear c4
     have H' := za.mk H
     clear H
     have p5 : 0 ≤ (x4_1 : Int) := of_decide_eq_true (by first | (with_reducible assumption) | assumption)
     have q5 : x4_1 < (a0.size : Int) := of_decide_eq_true (by first | (with_reducible assumption) | assumption)
     have hx5 := bt_at a0 x4_1
     replace p5 := eq_true p5
     replace q5 := eq_true q5
     go_wp2
     (try simp only [Act.put, List.setIfInBounds_toArray, List.set_cons_zero, List.set_cons_succ])
     go_loopg [5, 6] k1 (fun kq v5 v6 w' => ∃ (x3_2 : List Int) (x5_2 : Int) (x6_2 : Int), v5 = .int .i64 x5_2 ∧ v6 = .int .i64 x6_2 ∧ za (zdb.l1 kq a0 x3_2 x4_1 x5_2 x6_2 = some (r1, r2)) ∧ za (kq ≤ k1) ∧ za (Kd.R (Kd.int .u8) 5 w' w.heap.size (fun _ => True) u3 x3_2) ∧ za (w'.heap[gb120]? = some (.cells #[.bool false, .string (⟨#[]⟩ : ByteArray)] 29 (0, 0))) ∧ za (Below w.heap.size w w'))
     case atStart => exact ⟨(x3_1), (((bt a0 x4_1) - 48) % 256), (0), (by first | rfl | (simp; done) | (simp [*]; done) | (simp [zd]; done) | (simp [zd, *]; done)), (by first | rfl | (simp; done) | (simp [*]; done) | (simp [zd]; done) | (simp [zd, *]; done)), H', ⟨Nat.le_refl _⟩, ⟨by (with_reducible repeat (first | apply Kd.R_alloc | apply Kd.R_drewN | apply Kd.R_drew)); exact HO_3.out⟩, ⟨by (with_reducible repeat (first | refine zo ?_ _ | refine blk_drew ?_ | refine zab ?_ _)); exact BK120.out⟩, ⟨by repeat (first | (with_reducible first | exact HB.out | apply zf | apply ze | apply zh | refine zx ?_ GE120.out) | exact HB.out)⟩⟩
     case round =>
      clear H'
      try clear c1
      try clear p2
      try clear c3
      try clear c3b0
      try clear c4
      try clear c4b0
      try clear p5
      try clear q5
      try clear hx5
      try clear p2
      try clear p5
      try clear q5
      obtain ⟨x3_2, x5_2, x6_2, rfl, rfl, HA, HK2, HO_3, BK120, HB⟩ := hrel
      cases gk with
      | zero => exact absurd HA.out (by simp [zdb.l1])
      | succ k2 =>
       have H := HA.out
       clear HA
       simp only [zdb.l1] at H
       by_cases c6 : x6_2 < (x3_2.length : Int)
       ·rw [if_pos c6] at H
        have c6b0 : decide (x6_2 < (x3_2.length : Int)) = true := decide_eq_true c6
        clear c6
        by_cases c7 : 0 ≤ x6_2
        ·rw [if_pos c7] at H
         have c7b0 : decide (0 ≤ x6_2) = true := decide_eq_true c7
         clear c7
         obtain ⟨y122, hy122⟩ : ∃ y_ : List Int, y_ = (x3_2.set (x6_2 : Int).toNat ((Int.tmod (wrap64 (x5_2 + (wrap64 (10 * (wrap64 (rd x3_2 x6_2)))))) 256) % 256)) := ⟨_, rfl⟩
         replace H : (zdb.l1 k2 a0 y122 x4_1 (wrap64 (Int.tdiv (wrap64 (x5_2 + (wrap64 (10 * (wrap64 (rd x3_2 x6_2)))))) 256)) (wrap64 (x6_2 + 1))) = some (r1, r2) := by first | (rw [hy122]; with_reducible exact H) | (have H2_ := (Option.bind_some _ _).symm.trans H; rw [hy122]; with_reducible exact H2_) | (have H2_ := (Option.bind_some _ _).symm.trans H; with_reducible exact H2_) | with_reducible exact H | (rw [hy122]; exact H) | exact H
         have Ny122 := za.mk hy122
         clear hy122
         have H' := za.mk H
         clear H
         obtain ⟨Ao9, co9, eo9⟩ := Kd.R_slice HO_3.out
         subst eo9
         have p121 : 0 ≤ (x6_2 : Int) := of_decide_eq_true (by first | (with_reducible assumption) | assumption)
         have q121 : x6_2 < (x3_2.length : Int) := of_decide_eq_true (by first | (with_reducible assumption) | assumption)
         obtain ⟨ad121, e121, hx121_0⟩ := Kd.at_int (Kd.R_reads' HO_3.out).2.2 x6_2 p121 q121
         cases e121
         replace p121 := eq_true p121
         replace q121 := eq_true q121
         have p8 : 0 ≤ (x6_2 : Int) := of_decide_eq_true (by first | (with_reducible assumption) | assumption)
         have q8 : (x6_2 : Int) < ((x3_2.length : Int) : Int) := of_decide_eq_true (by first | (with_reducible assumption) | assumption)
         obtain ⟨go8, co8, eo8, gb8, gl8, cl8, HG8⟩ := Kd.R_form HO_3.out (by omega)
         (first | cases eo8 | (injection eo8 with ea_ en_ ec_; (first | subst ea_ | (injection ea_ with ea_; subst ea_)); subst ec_; clear en_))
         have GB8 := za.mk gb8
         have GG8 := za.mk HG8
         clear gb8 gl8 HG8
         (first | simp only [add_plain] at hx121_0 | skip)
         obtain ⟨hx8_0, hf8_0⟩ := Kd.R_celln 0 HO_3.out (x6_2 : Int) p8 q8
         replace p8 := eq_true p8
         replace q8 := eq_true q8
         have HP10 := Kd.R_putg HO_3.out (x6_2 : Int) ((Int.tmod (wrap64 (x5_2 + (wrap64 (10 * (wrap64 (rd x3_2 x6_2)))))) 256) % 256)
         go_wp2_with (first | ((with_reducible refine zee (t := 5) (p := 39) rfl ?_); refine store_event (t := 5) (p := 39) (v := ?vo_w11) (w1 := (wr.setCell ⟨go8, (x6_2 : Int).toNat, none⟩ (.int .u8 ((Int.tmod (wrap64 (x5_2 + (wrap64 (10 * (wrap64 (rd x3_2 x6_2)))))) 256) % 256)))) ?hg ?ho ?hn ?hr ?_; (case ho => rfl); (case hg => rfl); (case hn => rfl); (case hr => first | (go_simp; done) | (go_simp; rfl)); intro w11 hw; have hg : wr.grownBy w11 (some go8) := (by rw [hw]; exact HP10.2); have hp_ : Kd.R (Kd.int .u8) 5 w11 w.heap.size (fun _ => True) (.slice (some ⟨go8, 0, none⟩) x3_2.length co9) y122 := (by rw [hw, Ny122.out]; exact HP10.1); clear HP10; have n0_ := za.mk (hp_); have n1_ := za.mk (blk_grown (g := gb120) (o := .cells #[.bool false, .string (⟨#[]⟩ : ByteArray)] 29 (0, 0)) (by (with_reducible repeat (first | refine zo ?_ _ | refine blk_drew ?_ | refine zab ?_ _)); exact BK120.out) hg (Kd.R_ne HO_3.out BK120.out (by decide))); have n2_ := za.mk ((by rw [hw]; exact zx (HB.out) GB8.out : Below w.heap.size w w11)); clear HO_3; clear BK120; clear HB; have HO_3 := n0_; have BK120 := n1_; have HB := n2_; clear n0_ n1_ n2_; clear hg hw hp_))
         go_roundg k2
         case measure => have := HK1.out; have := HK2.out; omega
         case rel => exact ⟨(y122), (wrap64 (Int.tdiv (wrap64 (x5_2 + (wrap64 (10 * (wrap64 (rd x3_2 x6_2)))))) 256)), (wrap64 (x6_2 + 1)), (by first | rfl | (simp; done) | (simp [*]; done) | (simp [zd]; done) | (simp [zd, *]; done)), (by first | rfl | (simp; done) | (simp [*]; done) | (simp [zd]; done) | (simp [zd, *]; done)), H', ⟨by have := HK1.out; have := HK2.out; omega⟩, ⟨by (with_reducible repeat (first | apply Kd.R_alloc | apply Kd.R_drewN | apply Kd.R_drew)); exact HO_3.out⟩, ⟨by (with_reducible repeat (first | refine zo ?_ _ | refine blk_drew ?_ | refine zab ?_ _)); exact BK120.out⟩, ⟨by repeat (first | (with_reducible first | exact HB.out | apply zf | apply ze | apply zh | refine zx ?_ GE120.out) | exact HB.out)⟩⟩
        ·rw [if_neg c7] at H
         exact absurd H (by simp)
       ·rw [if_neg c6] at H
        have c6b0 : decide (x6_2 < (x3_2.length : Int)) = false := decide_eq_false c6
        clear c6
        by_cases c12 : x5_2 > 0
        ·rw [if_pos c12] at H
         have c12b0 : decide (0 < x5_2) = true := decide_eq_true c12
         clear c12
         by_cases c13 : x3_2.length < 140737488355328
         ·rw [if_pos c13] at H
          have LMc13 := za.mk c13
          clear c13
          obtain ⟨y123, hy123⟩ : ∃ y_ : List Int, y_ = (x3_2 ++ [(x5_2) % 256]) := ⟨_, rfl⟩
          replace H : (zdb.l0 k2 a0 y123 (wrap64 (x4_1 + 1))) = some (r1, r2) := by first | (rw [hy123]; with_reducible exact H) | (have H2_ := (Option.bind_some _ _).symm.trans H; rw [hy123]; with_reducible exact H2_) | (have H2_ := (Option.bind_some _ _).symm.trans H; with_reducible exact H2_) | with_reducible exact H | (rw [hy123]; exact H) | exact H
          have Ny123 := za.mk hy123
          clear hy123
          have H' := za.mk H
          clear H
          obtain ⟨Ao14, co14, eo14⟩ := Kd.R_slice HO_3.out
          subst eo14
          go_wp2_with (first | ((with_reducible refine zvb (b := .append) (xs := #[.tmp 44, .tmp 47]) rfl ?_); at_builtin; refine Kd.R_append (Kd.int .u8) (w0 := w) w.heap.size rfl (.tmp 44) (.tmp 47) 116 5 (.int .u8 0) 1 rfl Tryz.underlying116 info5 rfl (by decide) (by omega) (.slice Ao14 x3_2.length co14) x3_2 ((x5_2) % 256) [.int .u8 ((x5_2) % 256)] (fun _ => True) (fun _ => False) rfl rfl ?aP (fun _ hk => hk.elim) ?aF ?aO ?aB ?aS ?aL ?_; (case aP => exact rfl); (case aB => exact (by repeat (first | (with_reducible first | exact HB.out | apply zf | apply ze | apply zh | refine zx ?_ GE120.out) | exact HB.out))); (case aF => exact (fun _ _ => trivial)); (case aO => exact (by (with_reducible repeat (first | apply Kd.R_alloc | apply Kd.R_drewN | apply Kd.R_drew)); exact HO_3.out)); (case aS => exact (zib (by repeat (first | (with_reducible first | exact HB.out | apply zf | apply ze | apply zh | refine zx ?_ GE120.out) | exact HB.out)))); (case aL => have := LMc13.out; omega); intro v124 w15 ho hb hg hat; rw [← Ny123.out] at ho; have n0_ := za.mk (blk_grown (g := gb120) (o := .cells #[.bool false, .string (⟨#[]⟩ : ByteArray)] 29 (0, 0)) (by (with_reducible repeat (first | refine zo ?_ _ | refine blk_drew ?_ | refine zab ?_ _)); exact BK120.out) hg (Kd.R_ne HO_3.out BK120.out (by decide))); have n1_ := za.mk (hb); have n2_ := za.mk (ho); clear BK120; clear HB; clear HO_3; have BK120 := n0_; have HB := n1_; have HO125 := n2_; clear n0_ n1_ n2_; clear ho hb hg hat))
          go_roundg k2
          case measure => have := HK1.out; have := HK2.out; omega
          case rel => exact ⟨(y123), (wrap64 (x4_1 + 1)), (by first | rfl | (simp; done) | (simp [*]; done) | (simp [zd]; done) | (simp [zd, *]; done)), H', ⟨by have := HK1.out; have := HK2.out; omega⟩, ⟨by (with_reducible repeat (first | apply Kd.R_alloc | apply Kd.R_drewN | apply Kd.R_drew)); exact HO125.out⟩, ⟨by (with_reducible repeat (first | refine zo ?_ _ | refine blk_drew ?_ | refine zab ?_ _)); exact BK120.out⟩, ⟨by repeat (first | (with_reducible first | exact HB.out | apply zf | apply ze | apply zh | refine zx ?_ GE120.out) | exact HB.out)⟩⟩
         ·rw [if_neg c13] at H
          exact absurd H (by simp)
        ·rw [if_neg c12] at H
         have c12b0 : decide (0 < x5_2) = false := decide_eq_false c12
         clear c12
         have H' := za.mk H
         clear H
         obtain ⟨Ao16, co16, eo16⟩ := Kd.R_slice HO_3.out
         subst eo16
         go_wp2
         go_roundg k2
         case measure => have := HK1.out; have := HK2.out; omega
         case rel => exact ⟨(x3_2), (wrap64 (x4_1 + 1)), (by first | rfl | (simp; done) | (simp [*]; done) | (simp [zd]; done) | (simp [zd, *]; done)), H', ⟨by have := HK1.out; have := HK2.out; omega⟩, ⟨by (with_reducible repeat (first | apply Kd.R_alloc | apply Kd.R_drewN | apply Kd.R_drew)); exact HO_3.out⟩, ⟨by (with_reducible repeat (first | refine zo ?_ _ | refine blk_drew ?_ | refine zab ?_ _)); exact BK120.out⟩, ⟨by repeat (first | (with_reducible first | exact HB.out | apply zf | apply ze | apply zh | refine zx ?_ GE120.out) | exact HB.out)⟩⟩
    ·rw [if_neg c4] at H
     exact absurd H (by simp)
   ·rw [if_neg c3] at H
    have c3b0 : decide (x4_1 < (a0.size : Int)) = false := decide_eq_false c3
    clear c3
    by_cases c17 : 0 ≤ (x3_1.length : Int)
    ·rw [if_pos c17] at H
     have c17b0 := eq_true c17
     have c17b1 : decide (0 ≤ (x3_1.length : Int)) = true := decide_eq_true c17
     clear c17
     by_cases c18 : ((x3_1.length : Int) : Int).toNat ≤ 281474976710656
     ·rw [if_pos c18] at H
      have c18b0 := eq_true c18
      have c18b1 : decide (((x3_1.length : Int) : Int).toNat ≤ 281474976710656) = true := decide_eq_true c18
      clear c18
      obtain ⟨y126, hy126⟩ : ∃ y_ : List Int, y_ = (List.replicate ((x3_1.length : Int) : Int).toNat 0) := ⟨_, rfl⟩
      replace H : (zdb.l2 k1 x3_1 y126 0) = some (r1, r2) := by first | (rw [hy126]; with_reducible exact H) | (have H2_ := (Option.bind_some _ _).symm.trans H; rw [hy126]; with_reducible exact H2_) | (have H2_ := (Option.bind_some _ _).symm.trans H; with_reducible exact H2_) | with_reducible exact H | (rw [hy126]; exact H) | exact H
      have Ny126 := za.mk hy126
      clear hy126
      have H' := za.mk H
      clear H
      obtain ⟨Ao19, co19, eo19⟩ := Kd.R_slice HO_3.out
      subst eo19
      go_wp2_with (first | ((with_reducible refine zvc (N := 51) rfl ?_); refine Kd.R_make (Kd.int .u8) _ 5 rfl (N := 51) rfl 116 _ _ rfl (x3_1.length : Int) rfl rfl Tryz.underlying116 (.int .u8 0) 1 info5 rfl (by decide) (by omega) 0 (ok := fun _ => True) (okp := fun _ => True) rfl (fun _ hk => hk) trivial (of_decide_eq_true (by first | (with_reducible assumption) | assumption)) (Nat.le_trans (Nat.mul_le_mul_right _ (of_decide_eq_true (by first | (with_reducible assumption) | assumption) : (x3_1.length : Int).toNat ≤ 281474976710656)) (by omega)) (Below.refl _ _) (Nat.le_refl _) ?_; intro v127 w20 ho21 hb hg_ hnew_; clear hg_ hnew_; (first | rw [← Ny126.out] at ho21 | (simp only [Int.reduceToNat] at ho21; rw [← Ny126.out] at ho21)); have n0_ := za.mk (Kd.R_elder' (by (with_reducible repeat (first | apply Kd.R_alloc | apply Kd.R_drewN | apply Kd.R_drew)); exact HO_3.out) (Kd.R_base ho21) hb); have n1_ := za.mk (Kd.R_lower (Kd.R_new' ho21 (Kd.R_lt (by (with_reducible repeat (first | apply Kd.R_alloc | apply Kd.R_drewN | apply Kd.R_drew)); exact HO_3.out))) (zib (by repeat (first | (with_reducible first | exact HB.out | apply zf | apply ze | apply zh | refine zx ?_ GE120.out) | exact HB.out)))); have n2_ := za.mk (zj (g := gb120) (o := .cells #[.bool false, .string (⟨#[]⟩ : ByteArray)] 29 (0, 0)) (by (with_reducible repeat (first | refine zo ?_ _ | refine blk_drew ?_ | refine zab ?_ _)); exact BK120.out) hb); have n3_ := za.mk (zcb (by repeat (first | (with_reducible first | exact HB.out | apply zf | apply ze | apply zh | refine zx ?_ GE120.out) | exact HB.out)) hb); clear HO_3; clear BK120; clear HB; have HO_3 := n0_; have HO128 := n1_; have BK120 := n2_; have HB := n3_; clear n0_ n1_ n2_ n3_; clear hb ho21))
      (try simp only [Act.put, List.setIfInBounds_toArray, List.set_cons_zero, List.set_cons_succ])
      go_loopg [8] k1 (fun kq v8 w' => ∃ (x7_2 : List Int) (x8_2 : Int), v8 = .int .i64 x8_2 ∧ za (zdb.l2 kq x3_1 x7_2 x8_2 = some (r1, r2)) ∧ za (kq ≤ k1) ∧ za (Kd.R (Kd.int .u8) 5 w' w.heap.size (fun k_ => some k_ ≠ (v127 : Value).ownBlock) (.slice Ao19 x3_1.length co19) x3_1) ∧ za (Kd.R (Kd.int .u8) 5 w' w.heap.size (fun k_ => some k_ ≠ ((.slice Ao19 x3_1.length co19) : Value).ownBlock) v127 x7_2) ∧ za (w'.heap[gb120]? = some (.cells #[.bool false, .string (⟨#[]⟩ : ByteArray)] 29 (0, 0))) ∧ za (Below w.heap.size w w'))
      case atStart => exact ⟨(y126), (0), (by first | rfl | (simp; done) | (simp [*]; done) | (simp [zd]; done) | (simp [zd, *]; done)), H', ⟨Nat.le_refl _⟩, ⟨by (with_reducible repeat (first | apply Kd.R_alloc | apply Kd.R_drewN | apply Kd.R_drew)); exact Kd.R_mono HO_3.out (fun _ hk => hk.2)⟩, ⟨by (with_reducible repeat (first | apply Kd.R_alloc | apply Kd.R_drewN | apply Kd.R_drew)); exact Kd.R_mono HO128.out (fun _ hk => hk.2)⟩, ⟨by (with_reducible repeat (first | refine zo ?_ _ | refine blk_drew ?_ | refine zab ?_ _)); exact BK120.out⟩, ⟨by repeat (first | (with_reducible first | exact HB.out | apply zf | apply ze | apply zh | refine zx ?_ GE120.out) | exact HB.out)⟩⟩
      case round =>
       clear H'
       try clear c1
       try clear p1
       try clear q1
       try clear hx1
       try clear p2
       try clear c3
       try clear c3b0
       try clear c4
       try clear c4b0
       try clear p5
       try clear q5
       try clear hx5
       try clear c6
       try clear c6b0
       try clear p6
       try clear c7
       try clear c7b0
       try clear p8
       try clear q8
       try clear hx8
       try clear hf8
       try clear c11
       try clear c12
       try clear c12b0
       try clear p12
       try clear q12
       try clear hx12
       try clear c13
       try clear c17
       try clear c17b0
       try clear c17b1
       try clear c18
       try clear c18b0
       try clear c18b1
       try clear hx121_0
       try clear hx8_0
       try clear p121
       try clear p2
       try clear p5
       try clear p8
       try clear q121
       try clear q5
       try clear q8
       obtain ⟨x7_2, x8_2, rfl, HA, HK2, HO_3, HO_7, BK120, HB⟩ := hrel
       cases gk with
       | zero => exact absurd HA.out (by simp [zdb.l2])
       | succ k2 =>
        have H := HA.out
        clear HA
        simp only [zdb.l2] at H
        by_cases c22 : x8_2 < (x3_1.length : Int)
        ·rw [if_pos c22] at H
         have c22b0 : decide (x8_2 < (x3_1.length : Int)) = true := decide_eq_true c22
         clear c22
         by_cases c23 : 0 ≤ x8_2
         ·rw [if_pos c23] at H
          have c23b0 : decide (0 ≤ x8_2) = true := decide_eq_true c23
          clear c23
          obtain ⟨ji24, hji24⟩ : ∃ j_ : Int, (wrap64 ((wrap64 ((x3_1.length : Int) - 1)) - x8_2)) = j_ := ⟨_, rfl⟩
          replace H : (if 0 ≤ (ji24) then (if (ji24) < (x7_2.length : Int) then (zdb.l2 k2 x3_1 (x7_2.set ((ji24) : Int).toNat (rd x3_1 x8_2)) (wrap64 (x8_2 + 1))) else (none)) else (none)) = some (r1, r2) := by first | (rw [hji24] at H; exact H) | (simp only [hji24] at H ⊢; exact H)
          have hji24w : (IntKind.i64.wrap ((wrap64 ((x3_1.length : Int) - 1)) - x8_2)) = ji24 := (i64_w _).trans hji24
          by_cases c25 : 0 ≤ (ji24)
          ·rw [if_pos c25] at H
           have c25b0 : decide (0 ≤ (ji24)) = true := decide_eq_true c25
           clear c25
           by_cases c26 : (ji24) < (x7_2.length : Int)
           ·rw [if_pos c26] at H
            have c26b0 : decide ((ji24) < (x7_2.length : Int)) = true := decide_eq_true c26
            clear c26
            obtain ⟨y130, hy130⟩ : ∃ y_ : List Int, y_ = (x7_2.set ((ji24) : Int).toNat (rd x3_1 x8_2)) := ⟨_, rfl⟩
            replace H : (zdb.l2 k2 x3_1 y130 (wrap64 (x8_2 + 1))) = some (r1, r2) := by first | (rw [hy130]; with_reducible exact H) | (have H2_ := (Option.bind_some _ _).symm.trans H; rw [hy130]; with_reducible exact H2_) | (have H2_ := (Option.bind_some _ _).symm.trans H; with_reducible exact H2_) | with_reducible exact H | (rw [hy130]; exact H) | exact H
            have Ny130 := za.mk hy130
            clear hy130
            have H' := za.mk H
            clear H
            have p129 : 0 ≤ (x8_2 : Int) := of_decide_eq_true (by first | (with_reducible assumption) | assumption)
            have q129 : x8_2 < (x3_1.length : Int) := of_decide_eq_true (by first | (with_reducible assumption) | assumption)
            obtain ⟨ad129, e129, hx129_0⟩ := Kd.at_int (Kd.R_reads' HO_3.out).2.2 x8_2 p129 q129
            cases e129
            replace p129 := eq_true p129
            replace q129 := eq_true q129
            have p27 : 0 ≤ ((ji24) : Int) := of_decide_eq_true (by first | (with_reducible assumption) | assumption)
            have q27 : ((ji24) : Int) < ((x7_2.length : Int) : Int) := of_decide_eq_true (by first | (with_reducible assumption) | assumption)
            obtain ⟨go27, co27, eo27, gb27, gl27, cl27, HG27⟩ := Kd.R_form HO_7.out (by omega)
            (first | cases eo27 | (injection eo27 with ea_ en_ ec_; (first | subst ea_ | (injection ea_ with ea_; subst ea_)); subst ec_; clear en_))
            have GB27 := za.mk gb27
            have GG27 := za.mk HG27
            clear gb27 gl27 HG27
            obtain ⟨hx27_0, hf27_0⟩ := Kd.R_celln 0 HO_7.out ((ji24) : Int) p27 q27
            replace p27 := eq_true p27
            replace q27 := eq_true q27
            have HP28 := Kd.R_putg HO_7.out ((ji24) : Int) (rd x3_1 x8_2)
            go_wp2_with (first | ((with_reducible refine zee (t := 5) (p := 68) rfl ?_); refine store_event (t := 5) (p := 68) (v := ?vo_w29) (w1 := (wr.setCell ⟨go27, ((ji24) : Int).toNat, none⟩ (.int .u8 (rd x3_1 x8_2)))) ?hg ?ho ?hn ?hr ?_; (case ho => rfl); (case hg => rfl); (case hn => rfl); (case hr => first | (go_simp; done) | (go_simp; rfl)); intro w29 hw; have hg : wr.grownBy w29 (some go27) := (by rw [hw]; exact HP28.2); have hp_ : Kd.R (Kd.int .u8) 5 w29 w.heap.size (fun k_ => some k_ ≠ (.slice (some ad129) x3_1.length co19 : Value).ownBlock) (.slice (some ⟨go27, 0, none⟩) x7_2.length co27) y130 := (by rw [hw, Ny130.out]; exact HP28.1); clear HP28; have n0_ := za.mk (Kd.R_after (v := (.slice (some ⟨go27, 0, none⟩) x7_2.length co27)) (v1 := (.slice (some ⟨go27, 0, none⟩) x7_2.length co27)) (ok := (fun _ => True)) (by (with_reducible repeat (first | apply Kd.R_alloc | apply Kd.R_drewN | apply Kd.R_drew)); exact Kd.R_mono HO_3.out (fun _ hk => ⟨trivial, hk⟩)) hg (.inl rfl)); have n1_ := za.mk (hp_); have n2_ := za.mk (blk_grown (g := gb120) (o := .cells #[.bool false, .string (⟨#[]⟩ : ByteArray)] 29 (0, 0)) (by (with_reducible repeat (first | refine zo ?_ _ | refine blk_drew ?_ | refine zab ?_ _)); exact BK120.out) hg (Kd.R_ne HO_7.out BK120.out (by decide))); have n3_ := za.mk ((by rw [hw]; exact zx (HB.out) GB27.out : Below w.heap.size w w29)); clear HO_3; clear HO_7; clear BK120; clear HB; have HO_3 := n0_; have HO_7 := n1_; have BK120 := n2_; have HB := n3_; clear n0_ n1_ n2_ n3_; clear hg hw hp_))
            go_roundg k2
            case measure => have := HK1.out; have := HK2.out; omega
            case rel => exact ⟨(y130), (wrap64 (x8_2 + 1)), (by first | rfl | (simp; done) | (simp [*]; done) | (simp [zd]; done) | (simp [zd, *]; done)), H', ⟨by have := HK1.out; have := HK2.out; omega⟩, ⟨by (with_reducible repeat (first | apply Kd.R_alloc | apply Kd.R_drewN | apply Kd.R_drew)); exact Kd.R_mono HO_3.out (fun _ hk => hk.2)⟩, ⟨by (with_reducible repeat (first | apply Kd.R_alloc | apply Kd.R_drewN | apply Kd.R_drew)); exact HO_7.out⟩, ⟨by (with_reducible repeat (first | refine zo ?_ _ | refine blk_drew ?_ | refine zab ?_ _)); exact BK120.out⟩, ⟨by repeat (first | (with_reducible first | exact HB.out | apply zf | apply ze | apply zh | refine zx ?_ GE120.out) | exact HB.out)⟩⟩
           ·rw [if_neg c26] at H
            exact absurd H (by simp)
          ·rw [if_neg c25] at H
           exact absurd H (by simp)
         ·rw [if_neg c23] at H
          exact absurd H (by simp)
        ·rw [if_neg c22] at H
         have c22b0 : decide (x8_2 < (x3_1.length : Int)) = false := decide_eq_false c22
         clear c22
         simp only [Option.some.injEq, Prod.mk.injEq] at H
         obtain ⟨rfl, rfl⟩ := H
         have hcv30 := own_string (P := Tryz.prog) Tryz.underlying116 Tryz.underlying5 Tryz.underlying9 (Kd.own_of_R HO_7.out)
         have hcz31_0 : wr.cell? ⟨gb120, 0, none⟩ = some (.bool false) := (zi BK120.out 0).trans rfl
         have hcz31_1 : wr.cell? ⟨gb120, 1, none⟩ = some (.string (⟨#[]⟩ : ByteArray)) := (zi BK120.out 1).trans rfl
         have hfz31_0 := zr BK120.out 0
         have hfz31_1 := zr BK120.out 1
         go_wp2
         refine bodyPost_ret (results_cell_row rfl _ _ gb120 29 #[.bool false, .string (strOfNums x7_2)] (0, 0) _ rfl (by (with_reducible repeat (first | refine zo ?_ _ | refine blk_drew ?_ | refine zab ?_ _)); refine zv (cs := #[.bool false, .string (⟨#[]⟩ : ByteArray)]) ?_ 1 _ rfl; (with_reducible repeat (first | refine zo ?_ _ | refine blk_drew ?_ | refine zab ?_ _)); refine zv (cs := #[.bool false, .string (⟨#[]⟩ : ByteArray)]) ?_ 0 _ rfl; (with_reducible repeat (first | refine zo ?_ _ | refine blk_drew ?_ | refine zab ?_ _)); exact BK120.out) Tryz.underlying29 rfl (by kernel_rfl)) rfl ?_
         exact ⟨by first | rfl | (simp [zxb, zwb] <;> rfl) | (simp [*, zxb, zwb] <;> rfl) | (simp [zd]; done), by repeat (first | (with_reducible first | exact HB.out | apply zf | apply ze | apply zh | refine zx ?_ GE120.out) | exact HB.out)⟩
     ·rw [if_neg c18] at H
      exact absurd H (by simp)
    ·rw [if_neg c17] at H
     exact absurd H (by simp)
mutual
def znb.j0 : Nat → ByteArray → Bool → Bool → Option (Bool × ByteArray × Bool)
 | 0, _, _, _ => none
 | k + 1, x0, x4, x17 => if x17 = true then (if 0 < (x0.size : Int) then (if 1 ≤ (x0.size : Int) then (znb.j1 k (x0.extract 1 x0.size) ((bt x0 0) == 45)) else (none)) else (none)) else (znb.j1 k x0 x4)
def znb.j1 : Nat → ByteArray → Bool → Option (Bool × ByteArray × Bool)
 | 0, _, _ => none
 | k + 1, x0, x4 => (zgb.f k x0).bind fun t132 => (if t132 = true then ((zdb.f k x0).bind fun bt133 => (if x4 = true then (some ((bt133.2.toList != ([] : List UInt8)), bt133.2, true)) else (some (false, bt133.2, true)))) else (some (false, (⟨#[]⟩ : ByteArray), false)))
end
def znb.f (k : Nat) (a0 : ByteArray) : Option (Bool × ByteArray × Bool) := if (a0.size : Int) > 0 then (if 0 < (a0.size : Int) then (if (bt a0 0) = 43 then (znb.j0 k a0 false true) else (znb.j0 k a0 false ((bt a0 0) == 45))) else (none)) else (znb.j0 k a0 false false)
theorem znb.calls (k : Nat) (a0 : ByteArray) (r1 : Bool) (r2 : ByteArray) (r3 : Bool) (w : World) (h : znb.f k a0 = some (r1, r2, r3)) :
  Calls Tryz.prog 95 #[.string a0] w fun e w' => e = .returned (.tuple #[.agg #[.bool r1, .string r2], .bool r3]) ∧ Below w.heap.size w w' := by
 have hu29 := Tryz.underlying29
 have HB := za.mk (Below.refl w.heap.size w)
 have H : (if (a0.size : Int) > 0 then (if 0 < (a0.size : Int) then (if (bt a0 0) = 43 then (znb.j0 k a0 false true) else (znb.j0 k a0 false ((bt a0 0) == 45))) else (none)) else (znb.j0 k a0 false false)) = some (r1, r2, r3) := h
 clear h
 have HC2 := za.mk H
 clear H
 go_enter Tryz.func95, Tryz.ntmps95
 go_upto_region 2 with (first | ((with_reducible refine zvc (N := 2) rfl ?_); refine zdd ?hg (N := 2) ?hd (cs := #[.bool false, .string (⟨#[]⟩ : ByteArray)]) (t := 29) ?hr ?_; (case hd => rfl); (case hg => rfl); (case hr => first | (go_simp; done) | (go_simp; rfl)); intro gb131 hg w3 hbox hb; have n0_ := za.mk (zcb (by repeat (first | (with_reducible first | exact HB.out | apply zf | apply ze | apply zh) | exact HB.out)) hb); have n1_ := za.mk (hbox); have n2_ := za.mk ((by rw [hg]; exact (zib (by repeat (first | (with_reducible first | exact HB.out | apply zf | apply ze | apply zh) | exact HB.out))) : w.heap.size ≤ gb131)); have n3_ := za.mk ((by rw [hg]; exact (zib (by repeat (first | (with_reducible first | exact HB.out | apply zf | apply ze | apply zh) | exact HB.out))) : w.heap.size ≤ gb131)); clear HB; have HB := n0_; have BK131 := n1_; have GW131 := n2_; have GE131 := n3_; clear n0_ n1_ n2_ n3_; clear hb hbox hg))
 repeat (go_quiet (first | ((with_reducible refine zvc (N := 2) rfl ?_); refine zdd ?hg (N := 2) ?hd (cs := #[.bool false, .string (⟨#[]⟩ : ByteArray)]) (t := 29) ?hr ?_; (case hd => rfl); (case hg => rfl); (case hr => first | (go_simp; done) | (go_simp; rfl)); intro gb131 hg w3 hbox hb; have n0_ := za.mk (zcb (by repeat (first | (with_reducible first | exact HB.out | apply zf | apply ze | apply zh) | exact HB.out)) hb); have n1_ := za.mk (hbox); have n2_ := za.mk ((by rw [hg]; exact (zib (by repeat (first | (with_reducible first | exact HB.out | apply zf | apply ze | apply zh) | exact HB.out))) : w.heap.size ≤ gb131)); have n3_ := za.mk ((by rw [hg]; exact (zib (by repeat (first | (with_reducible first | exact HB.out | apply zf | apply ze | apply zh) | exact HB.out))) : w.heap.size ≤ gb131)); clear HB; have HB := n0_; have BK131 := n1_; have GW131 := n2_; have GE131 := n3_; clear n0_ n1_ n2_ n3_; clear hb hbox hg)); go_upto_region 2 with (first | ((with_reducible refine zvc (N := 2) rfl ?_); refine zdd ?hg (N := 2) ?hd (cs := #[.bool false, .string (⟨#[]⟩ : ByteArray)]) (t := 29) ?hr ?_; (case hd => rfl); (case hg => rfl); (case hr => first | (go_simp; done) | (go_simp; rfl)); intro gb131 hg w3 hbox hb; have n0_ := za.mk (zcb (by repeat (first | (with_reducible first | exact HB.out | apply zf | apply ze | apply zh) | exact HB.out)) hb); have n1_ := za.mk (hbox); have n2_ := za.mk ((by rw [hg]; exact (zib (by repeat (first | (with_reducible first | exact HB.out | apply zf | apply ze | apply zh) | exact HB.out))) : w.heap.size ≤ gb131)); have n3_ := za.mk ((by rw [hg]; exact (zib (by repeat (first | (with_reducible first | exact HB.out | apply zf | apply ze | apply zh) | exact HB.out))) : w.heap.size ≤ gb131)); clear HB; have HB := n0_; have BK131 := n1_; have GW131 := n2_; have GE131 := n3_; clear n0_ n1_ n2_ n3_; clear hb hbox hg)))
 (try simp only [Act.put, List.setIfInBounds_toArray, List.set_cons_zero, List.set_cons_succ])
 go_cut [17] (fun v17 wc => ∃ (kq : Nat) (x17_1 : Bool), v17 = .bool x17_1 ∧ za (znb.j0 kq a0 false x17_1 = some (r1, r2, r3)) ∧ za (kq ≤ k) ∧ za (wc.heap[gb131]? = some (.cells #[.bool false, .string (⟨#[]⟩ : ByteArray)] 29 (0, 0))) ∧ za (Below w.heap.size w wc))
 case first =>
  have H := HC2.out
  clear HC2
  by_cases c4 : (a0.size : Int) > 0
  ·rw [if_pos c4] at H
   have c4b0 : decide (0 < (a0.size : Int)) = true := decide_eq_true c4
   have c4b1 : decide (0 < a0.size) = true := decide_eq_true (by omega)
   clear c4
   (first | rw [c4b0] | (simp only [i64_w, i32_w]; rw [c4b0]) | skip)
   by_cases c5 : 0 < (a0.size : Int)
   ·rw [if_pos c5] at H
    have c5b0 : decide (0 < (a0.size : Int)) = true := decide_eq_true c5
    have c5b1 : decide (0 < a0.size) = true := decide_eq_true (by omega)
    clear c5
    by_cases c7 : (bt a0 0) = 43
    ·rw [if_pos c7] at H
     have c7b0 : ((bt a0 0) == 43) = true := beq_iff_eq.mpr c7
     have c7b1 : ((bt a0 0) != 43) = false := bne_eq_false_iff_eq.mpr c7
     clear c7
     have H' := za.mk H
     clear H
     have p6 : 0 ≤ (0 : Int) := (by omega)
     have q6 : 0 < a0.size := (by have : (0 : Int) < (a0.size : Int) := of_decide_eq_true (by first | (with_reducible assumption) | assumption); omega)
     have hx6 : ∀ h : 0 < a0.size, ((a0[0]'h).toNat : Int) = bt a0 0 := bt_at a0 0
     clear p6
     have qi6 : (0 < (a0.size : Int)) = True := eq_true (of_decide_eq_true (by first | (with_reducible assumption) | assumption))
     replace q6 := eq_true q6
     go_wp2
     repeat (go_quiet (fail); try go_wp2)
     go_meet
     case rel => exact ⟨_, (true), (by first | rfl | (simp; done) | (simp [*]; done) | (simp [zd]; done) | (simp [zd, *]; done)), H', ⟨by first | omega | exact Nat.le_refl _⟩, ⟨by (with_reducible repeat (first | refine zo ?_ _ | refine blk_drew ?_ | refine zab ?_ _)); exact BK131.out⟩, ⟨by repeat (first | (with_reducible first | exact HB.out | apply zf | apply ze | apply zh | refine zx ?_ GE131.out) | exact HB.out)⟩⟩
    ·rw [if_neg c7] at H
     have c7b0 : ((bt a0 0) == 43) = false := beq_eq_false_iff_ne.mpr c7
     have c7b1 : ((bt a0 0) != 43) = true := bne_iff_ne.mpr c7
     have H' := za.mk H
     clear H
     have p6 : 0 ≤ (0 : Int) := (by omega)
     have q6 : 0 < a0.size := (by have : (0 : Int) < (a0.size : Int) := of_decide_eq_true (by first | (with_reducible assumption) | assumption); omega)
     have hx6 : ∀ h : 0 < a0.size, ((a0[0]'h).toNat : Int) = bt a0 0 := bt_at a0 0
     clear p6
     have qi6 : (0 < (a0.size : Int)) = True := eq_true (of_decide_eq_true (by first | (with_reducible assumption) | assumption))
     replace q6 := eq_true q6
     have p8 : 0 ≤ (0 : Int) := (by omega)
     have q8 : 0 < a0.size := (by have : (0 : Int) < (a0.size : Int) := of_decide_eq_true (by first | (with_reducible assumption) | assumption); omega)
     have hx8 : ∀ h : 0 < a0.size, ((a0[0]'h).toNat : Int) = bt a0 0 := bt_at a0 0
     clear p8
     have qi8 : (0 < (a0.size : Int)) = True := eq_true (of_decide_eq_true (by first | (with_reducible assumption) | assumption))
     replace q8 := eq_true q8
     go_wp2
     repeat (go_quiet (fail); try go_wp2)
     go_meet
     case rel => exact ⟨_, (((bt a0 0) == 45)), (by first | rfl | (simp; done) | (simp [*]; done) | (simp [zd]; done) | (simp [zd, *]; done)), H', ⟨by first | omega | exact Nat.le_refl _⟩, ⟨by (with_reducible repeat (first | refine zo ?_ _ | refine blk_drew ?_ | refine zab ?_ _)); exact BK131.out⟩, ⟨by repeat (first | (with_reducible first | exact HB.out | apply zf | apply ze | apply zh | refine zx ?_ GE131.out) | exact HB.out)⟩⟩
   ·rw [if_neg c5] at H
    exact absurd H (by simp)
  ·rw [if_neg c4] at H
   have c4b0 : decide (0 < (a0.size : Int)) = false := decide_eq_false c4
   have c4b1 : decide (0 < a0.size) = false := decide_eq_false (by omega)
   clear c4
   (first | rw [c4b0] | (simp only [i64_w, i32_w]; rw [c4b0]) | skip)
   have H' := za.mk H
   clear H
   go_wp2
   repeat (go_quiet (fail); try go_wp2)
   go_meet
   case rel => exact ⟨_, (false), (by first | rfl | (simp; done) | (simp [*]; done) | (simp [zd]; done) | (simp [zd, *]; done)), H', ⟨by first | omega | exact Nat.le_refl _⟩, ⟨by (with_reducible repeat (first | refine zo ?_ _ | refine blk_drew ?_ | refine zab ?_ _)); exact BK131.out⟩, ⟨by repeat (first | (with_reducible first | exact HB.out | apply zf | apply ze | apply zh | refine zx ?_ GE131.out) | exact HB.out)⟩⟩
 case rest =>
  clear HC2
  try clear p2
  try clear c4
  try clear c4b0
  try clear c4b1
  try clear c5
  try clear c5b0
  try clear c5b1
  try clear p6
  try clear q6
  try clear hx6
  try clear qi6
  try clear c7
  try clear c7b0
  try clear c7b1
  try clear p8
  try clear q8
  try clear hx8
  try clear qi8
  try clear p6
  try clear p8
  try clear q6
  try clear q8
  obtain ⟨kq, x17_1, rfl, HA, HJ1, BK131, HB⟩ := hcut
  cases kq with
  | zero => exact absurd HA.out (by simp [znb.j0])
  | succ kj1 =>
   have H := HA.out
   clear HA
   simp only [znb.j0] at H
   have HC9 := za.mk H
   clear H
   go_upto_if 17 with (fail)
   repeat (go_quiet (fail); go_upto_if 17 with (fail))
   go_cut [0, 4, 17] (fun v0 v4 v17 wc => ∃ (kq : Nat) (x0_8 : ByteArray) (x4_8 : Bool), v0 = .string x0_8 ∧ v4 = .bool x4_8 ∧ za (znb.j1 kq x0_8 x4_8 = some (r1, r2, r3)) ∧ za (kq ≤ kj1) ∧ za (wc.heap[gb131]? = some (.cells #[.bool false, .string (⟨#[]⟩ : ByteArray)] 29 (0, 0))) ∧ za (Below w.heap.size w wc))
   case first =>
    have H := HC9.out
    clear HC9
    by_cases c10 : x17_1 = true
    ·subst c10
     have H1 : (if 0 < (a0.size : Int) then (if 1 ≤ (a0.size : Int) then (znb.j1 kj1 (a0.extract 1 a0.size) ((bt a0 0) == 45)) else (none)) else (none)) = some (r1, r2, r3) := by rw [if_pos rfl] at H; exact H
     clear H
     have H := H1
     clear H1
     by_cases c11 : 0 < (a0.size : Int)
     ·rw [if_pos c11] at H
      have c11b0 : decide (0 < (a0.size : Int)) = true := decide_eq_true c11
      have c11b1 : decide (0 < a0.size) = true := decide_eq_true (by omega)
      clear c11
      (first | rw [c11b0] | (simp only [i64_w, i32_w]; rw [c11b0]) | skip)
      by_cases c13 : 1 ≤ (a0.size : Int)
      ·rw [if_pos c13] at H
       have c13b0 := eq_true c13
       have c13b1 : decide (1 ≤ (a0.size : Int)) = true := decide_eq_true c13
       clear c13
       have H' := za.mk H
       clear H
       have p12 : 0 ≤ (0 : Int) := (by omega)
       have q12 : 0 < a0.size := (by have : (0 : Int) < (a0.size : Int) := of_decide_eq_true (by first | (with_reducible assumption) | assumption); omega)
       have hx12 : ∀ h : 0 < a0.size, ((a0[0]'h).toNat : Int) = bt a0 0 := bt_at a0 0
       clear p12
       have qi12 : (0 < (a0.size : Int)) = True := eq_true (of_decide_eq_true (by first | (with_reducible assumption) | assumption))
       replace q12 := eq_true q12
       go_wp2
       repeat (go_quiet (fail); try go_wp2)
       go_meet
       case rel => exact ⟨_, (a0.extract 1 a0.size), (((bt a0 0) == 45)), (by first | rfl | (simp; done) | (simp [*]; done) | (simp [zd]; done) | (simp [zd, *]; done)), (by first | rfl | (simp; done) | (simp [*]; done) | (simp [zd]; done) | (simp [zd, *]; done)), (by first | exact H' | (rw [hji24]; exact H')), ⟨by have := HJ1.out; first | omega | exact Nat.le_refl _⟩, ⟨by (with_reducible repeat (first | refine zo ?_ _ | refine blk_drew ?_ | refine zab ?_ _)); exact BK131.out⟩, ⟨by repeat (first | (with_reducible first | exact HB.out | apply zf | apply ze | apply zh | refine zx ?_ GE131.out) | exact HB.out)⟩⟩
      ·rw [if_neg c13] at H
       exact absurd H (by simp)
     ·rw [if_neg c11] at H
      exact absurd H (by simp)
    ·replace c10 := Bool.eq_false_iff.mpr c10
     subst c10
     have H1 : (znb.j1 kj1 a0 false) = some (r1, r2, r3) := by rw [if_neg (show ¬ (false = true) by decide)] at H; exact H
     clear H
     have H := H1
     clear H1
     have H' := za.mk H
     clear H
     go_wp2
     repeat (go_quiet (fail); try go_wp2)
     go_meet
     case rel => exact ⟨_, (a0), (false), (by first | rfl | (simp; done) | (simp [*]; done) | (simp [zd]; done) | (simp [zd, *]; done)), (by first | rfl | (simp; done) | (simp [*]; done) | (simp [zd]; done) | (simp [zd, *]; done)), (by first | exact H' | (rw [hji24]; exact H')), ⟨by have := HJ1.out; first | omega | exact Nat.le_refl _⟩, ⟨by (with_reducible repeat (first | refine zo ?_ _ | refine blk_drew ?_ | refine zab ?_ _)); exact BK131.out⟩, ⟨by repeat (first | (with_reducible first | exact HB.out | apply zf | apply ze | apply zh | refine zx ?_ GE131.out) | exact HB.out)⟩⟩
   case rest =>
    clear HC9
    try clear c1
    try clear p1
    try clear q1
    try clear hx1
    try clear qi1
    try clear p2
    try clear c4
    try clear c4b0
    try clear c4b1
    try clear c5
    try clear c5b0
    try clear c5b1
    try clear p6
    try clear q6
    try clear hx6
    try clear qi6
    try clear c7
    try clear c7b0
    try clear c7b1
    try clear p8
    try clear q8
    try clear hx8
    try clear qi8
    try clear c9
    try clear c10
    try clear c11
    try clear c11b0
    try clear c11b1
    try clear p12
    try clear q12
    try clear hx12
    try clear qi12
    try clear c13
    try clear c13b0
    try clear c13b1
    try clear p12
    try clear p2
    try clear p6
    try clear p8
    try clear q12
    try clear q6
    try clear q8
    obtain ⟨kq, x0_8, x4_8, rfl, rfl, HA, HJ8, BK131, HB⟩ := hcut
    cases kq with
    | zero => exact absurd HA.out (by simp [znb.j1])
    | succ kj8 =>
     have H := HA.out
     clear HA
     simp only [znb.j1] at H
     replace H := Option.bind_eq_some_iff.mp H
     obtain ⟨t132, A140, H⟩ := H
     replace H : (if t132 = true then ((zdb.f kj8 x0_8).bind fun bt133 => (if x4_8 = true then (some ((bt133.2.toList != ([] : List UInt8)), bt133.2, true)) else (some (false, bt133.2, true)))) else (some (false, (⟨#[]⟩ : ByteArray), false))) = some (r1, r2, r3) := H
     have A14 := za.mk A140
     clear A140
     by_cases c15 : t132 = true
     ·subst c15
      have H1 : ((zdb.f kj8 x0_8).bind fun bt133 => (if x4_8 = true then (some ((bt133.2.toList != ([] : List UInt8)), bt133.2, true)) else (some (false, bt133.2, true)))) = some (r1, r2, r3) := by rw [if_pos rfl] at H; exact H
      clear H
      have H := H1
      clear H1
      replace H := Option.bind_eq_some_iff.mp H
      obtain ⟨⟨t133, t134⟩, A160, H⟩ := H
      replace H : (if x4_8 = true then (some ((t134.toList != ([] : List UInt8)), t134, true)) else (some (false, t134, true))) = some (r1, r2, r3) := H
      have A16 := za.mk A160
      clear A160
      by_cases c17 : x4_8 = true
      ·subst c17
       have H1 : (some ((t134.toList != ([] : List UInt8)), t134, true)) = some (r1, r2, r3) := by rw [if_pos rfl] at H; exact H
       clear H
       have H := H1
       clear H1
       simp only [Option.some.injEq, Prod.mk.injEq] at H
       obtain ⟨rfl, rfl, rfl⟩ := H
       go_wp2_with (first | (go_at_call 86; (with_reducible refine (zgb.calls kj8 x0_8 true _ A14.out).mono ?_); rintro e w' ⟨rfl, ⟨nd, rfl⟩⟩; (try first | exact ⟨rfl, _, World.drewN_drewN _ _ _⟩ | exact ⟨rfl, _, Eq.trans (World.drewN_drewN _ _ _) (congrArg (World.drewN _) (Nat.add_assoc _ _ _))⟩)) | (go_at_call 114; (with_reducible refine (zdb.calls kj8 x0_8 t133 t134 _ A16.out).mono ?_); rintro e w18 ⟨rfl, hb⟩; have n0_ := za.mk (zj (g := gb131) (o := .cells #[.bool false, .string (⟨#[]⟩ : ByteArray)] 29 (0, 0)) (by (with_reducible repeat (first | refine zo ?_ _ | refine blk_drew ?_ | refine zab ?_ _)); exact BK131.out) hb); have n1_ := za.mk (zcb (by repeat (first | (with_reducible first | exact HB.out | apply zf | apply ze | apply zh | refine zx ?_ GE131.out) | exact HB.out)) hb); clear BK131; clear HB; have BK131 := n0_; have HB := n1_; clear n0_ n1_; (try clear hb); (try clear hb2); (try clear hk); (try clear hi); have hcz19_0 : w18.cell? ⟨gb131, 0, none⟩ = some (.bool false) := (zi BK131.out 0).trans rfl; have hcz19_1 : w18.cell? ⟨gb131, 1, none⟩ = some (.string (⟨#[]⟩ : ByteArray)) := (zi BK131.out 1).trans rfl; have hfz19_0 := zr BK131.out 0; have hfz19_1 := zr BK131.out 1))
       repeat (go_quiet (first | (go_at_call 86; (with_reducible refine (zgb.calls kj8 x0_8 true _ A14.out).mono ?_); rintro e w' ⟨rfl, ⟨nd, rfl⟩⟩; (try first | exact ⟨rfl, _, World.drewN_drewN _ _ _⟩ | exact ⟨rfl, _, Eq.trans (World.drewN_drewN _ _ _) (congrArg (World.drewN _) (Nat.add_assoc _ _ _))⟩)) | (go_at_call 114; (with_reducible refine (zdb.calls kj8 x0_8 t133 t134 _ A16.out).mono ?_); rintro e w18 ⟨rfl, hb⟩; have n0_ := za.mk (zj (g := gb131) (o := .cells #[.bool false, .string (⟨#[]⟩ : ByteArray)] 29 (0, 0)) (by (with_reducible repeat (first | refine zo ?_ _ | refine blk_drew ?_ | refine zab ?_ _)); exact BK131.out) hb); have n1_ := za.mk (zcb (by repeat (first | (with_reducible first | exact HB.out | apply zf | apply ze | apply zh | refine zx ?_ GE131.out) | exact HB.out)) hb); clear BK131; clear HB; have BK131 := n0_; have HB := n1_; clear n0_ n1_; (try clear hb); (try clear hb2); (try clear hk); (try clear hi); have hcz19_0 : w18.cell? ⟨gb131, 0, none⟩ = some (.bool false) := (zi BK131.out 0).trans rfl; have hcz19_1 : w18.cell? ⟨gb131, 1, none⟩ = some (.string (⟨#[]⟩ : ByteArray)) := (zi BK131.out 1).trans rfl; have hfz19_0 := zr BK131.out 0; have hfz19_1 := zr BK131.out 1)); try go_wp2_with (first | (go_at_call 86; (with_reducible refine (zgb.calls kj8 x0_8 true _ A14.out).mono ?_); rintro e w' ⟨rfl, ⟨nd, rfl⟩⟩; (try first | exact ⟨rfl, _, World.drewN_drewN _ _ _⟩ | exact ⟨rfl, _, Eq.trans (World.drewN_drewN _ _ _) (congrArg (World.drewN _) (Nat.add_assoc _ _ _))⟩)) | (go_at_call 114; (with_reducible refine (zdb.calls kj8 x0_8 t133 t134 _ A16.out).mono ?_); rintro e w18 ⟨rfl, hb⟩; have n0_ := za.mk (zj (g := gb131) (o := .cells #[.bool false, .string (⟨#[]⟩ : ByteArray)] 29 (0, 0)) (by (with_reducible repeat (first | refine zo ?_ _ | refine blk_drew ?_ | refine zab ?_ _)); exact BK131.out) hb); have n1_ := za.mk (zcb (by repeat (first | (with_reducible first | exact HB.out | apply zf | apply ze | apply zh | refine zx ?_ GE131.out) | exact HB.out)) hb); clear BK131; clear HB; have BK131 := n0_; have HB := n1_; clear n0_ n1_; (try clear hb); (try clear hb2); (try clear hk); (try clear hi); have hcz19_0 : w18.cell? ⟨gb131, 0, none⟩ = some (.bool false) := (zi BK131.out 0).trans rfl; have hcz19_1 : w18.cell? ⟨gb131, 1, none⟩ = some (.string (⟨#[]⟩ : ByteArray)) := (zi BK131.out 1).trans rfl; have hfz19_0 := zr BK131.out 0; have hfz19_1 := zr BK131.out 1)))
       refine bodyPost_ret (zfg rfl _ _ gb131 29 #[.bool (t134.toList != ([] : List UInt8)), .string t134] (0, 0) _ rfl (by (with_reducible repeat (first | refine zo ?_ _ | refine blk_drew ?_ | refine zab ?_ _)); refine zv (cs := #[.bool (t134.toList != ([] : List UInt8)), .string t134]) ?_ 1 _ (by first | rfl | (simp [zd]; done)); (with_reducible repeat (first | refine zo ?_ _ | refine blk_drew ?_ | refine zab ?_ _)); refine zv (cs := #[.bool (t134.toList != ([] : List UInt8)), .string t134]) ?_ 0 _ (by first | rfl | (simp [zd]; done)); (with_reducible repeat (first | refine zo ?_ _ | refine blk_drew ?_ | refine zab ?_ _)); refine zv (cs := #[.bool t133, .string t134]) ?_ 0 _ (by first | rfl | (simp [zd]; done)); (with_reducible repeat (first | refine zo ?_ _ | refine blk_drew ?_ | refine zab ?_ _)); refine zv (cs := #[.bool t133, .string (⟨#[]⟩ : ByteArray)]) ?_ 1 _ (by first | rfl | (simp [zd]; done)); (with_reducible repeat (first | refine zo ?_ _ | refine blk_drew ?_ | refine zab ?_ _)); refine zv (cs := #[.bool false, .string (⟨#[]⟩ : ByteArray)]) ?_ 0 _ (by first | rfl | (simp [zd]; done)); (with_reducible repeat (first | refine zo ?_ _ | refine blk_drew ?_ | refine zab ?_ _)); exact BK131.out) Tryz.underlying29 rfl (by kernel_rfl)) rfl ?_
       exact ⟨by first | rfl | (simp [zxb, zwb] <;> rfl) | (simp [*, zxb, zwb] <;> rfl) | (simp [zd]; done), by repeat (first | (with_reducible first | exact HB.out | apply zf | apply ze | apply zh | refine zx ?_ GE131.out) | exact HB.out)⟩
      ·replace c17 := Bool.eq_false_iff.mpr c17
       subst c17
       have H1 : (some (false, t134, true)) = some (r1, r2, r3) := by rw [if_neg (show ¬ (false = true) by decide)] at H; exact H
       clear H
       have H := H1
       clear H1
       simp only [Option.some.injEq, Prod.mk.injEq] at H
       obtain ⟨rfl, rfl, rfl⟩ := H
       go_wp2_with (first | (go_at_call 86; (with_reducible refine (zgb.calls kj8 x0_8 true _ A14.out).mono ?_); rintro e w' ⟨rfl, ⟨nd, rfl⟩⟩; (try first | exact ⟨rfl, _, World.drewN_drewN _ _ _⟩ | exact ⟨rfl, _, Eq.trans (World.drewN_drewN _ _ _) (congrArg (World.drewN _) (Nat.add_assoc _ _ _))⟩)) | (go_at_call 114; (with_reducible refine (zdb.calls kj8 x0_8 t133 t134 _ A16.out).mono ?_); rintro e w20 ⟨rfl, hb⟩; have n0_ := za.mk (zj (g := gb131) (o := .cells #[.bool false, .string (⟨#[]⟩ : ByteArray)] 29 (0, 0)) (by (with_reducible repeat (first | refine zo ?_ _ | refine blk_drew ?_ | refine zab ?_ _)); exact BK131.out) hb); have n1_ := za.mk (zcb (by repeat (first | (with_reducible first | exact HB.out | apply zf | apply ze | apply zh | refine zx ?_ GE131.out) | exact HB.out)) hb); clear BK131; clear HB; have BK131 := n0_; have HB := n1_; clear n0_ n1_; (try clear hb); (try clear hb2); (try clear hk); (try clear hi); have hcz21_0 : w20.cell? ⟨gb131, 0, none⟩ = some (.bool false) := (zi BK131.out 0).trans rfl; have hcz21_1 : w20.cell? ⟨gb131, 1, none⟩ = some (.string (⟨#[]⟩ : ByteArray)) := (zi BK131.out 1).trans rfl; have hfz21_0 := zr BK131.out 0; have hfz21_1 := zr BK131.out 1))
       repeat (go_quiet (first | (go_at_call 86; (with_reducible refine (zgb.calls kj8 x0_8 true _ A14.out).mono ?_); rintro e w' ⟨rfl, ⟨nd, rfl⟩⟩; (try first | exact ⟨rfl, _, World.drewN_drewN _ _ _⟩ | exact ⟨rfl, _, Eq.trans (World.drewN_drewN _ _ _) (congrArg (World.drewN _) (Nat.add_assoc _ _ _))⟩)) | (go_at_call 114; (with_reducible refine (zdb.calls kj8 x0_8 t133 t134 _ A16.out).mono ?_); rintro e w20 ⟨rfl, hb⟩; have n0_ := za.mk (zj (g := gb131) (o := .cells #[.bool false, .string (⟨#[]⟩ : ByteArray)] 29 (0, 0)) (by (with_reducible repeat (first | refine zo ?_ _ | refine blk_drew ?_ | refine zab ?_ _)); exact BK131.out) hb); have n1_ := za.mk (zcb (by repeat (first | (with_reducible first | exact HB.out | apply zf | apply ze | apply zh | refine zx ?_ GE131.out) | exact HB.out)) hb); clear BK131; clear HB; have BK131 := n0_; have HB := n1_; clear n0_ n1_; (try clear hb); (try clear hb2); (try clear hk); (try clear hi); have hcz21_0 : w20.cell? ⟨gb131, 0, none⟩ = some (.bool false) := (zi BK131.out 0).trans rfl; have hcz21_1 : w20.cell? ⟨gb131, 1, none⟩ = some (.string (⟨#[]⟩ : ByteArray)) := (zi BK131.out 1).trans rfl; have hfz21_0 := zr BK131.out 0; have hfz21_1 := zr BK131.out 1)); try go_wp2_with (first | (go_at_call 86; (with_reducible refine (zgb.calls kj8 x0_8 true _ A14.out).mono ?_); rintro e w' ⟨rfl, ⟨nd, rfl⟩⟩; (try first | exact ⟨rfl, _, World.drewN_drewN _ _ _⟩ | exact ⟨rfl, _, Eq.trans (World.drewN_drewN _ _ _) (congrArg (World.drewN _) (Nat.add_assoc _ _ _))⟩)) | (go_at_call 114; (with_reducible refine (zdb.calls kj8 x0_8 t133 t134 _ A16.out).mono ?_); rintro e w20 ⟨rfl, hb⟩; have n0_ := za.mk (zj (g := gb131) (o := .cells #[.bool false, .string (⟨#[]⟩ : ByteArray)] 29 (0, 0)) (by (with_reducible repeat (first | refine zo ?_ _ | refine blk_drew ?_ | refine zab ?_ _)); exact BK131.out) hb); have n1_ := za.mk (zcb (by repeat (first | (with_reducible first | exact HB.out | apply zf | apply ze | apply zh | refine zx ?_ GE131.out) | exact HB.out)) hb); clear BK131; clear HB; have BK131 := n0_; have HB := n1_; clear n0_ n1_; (try clear hb); (try clear hb2); (try clear hk); (try clear hi); have hcz21_0 : w20.cell? ⟨gb131, 0, none⟩ = some (.bool false) := (zi BK131.out 0).trans rfl; have hcz21_1 : w20.cell? ⟨gb131, 1, none⟩ = some (.string (⟨#[]⟩ : ByteArray)) := (zi BK131.out 1).trans rfl; have hfz21_0 := zr BK131.out 0; have hfz21_1 := zr BK131.out 1)))
       refine bodyPost_ret (zfg rfl _ _ gb131 29 #[.bool false, .string t134] (0, 0) _ rfl (by (with_reducible repeat (first | refine zo ?_ _ | refine blk_drew ?_ | refine zab ?_ _)); refine zv (cs := #[.bool false, .string t134]) ?_ 1 _ rfl; (with_reducible repeat (first | refine zo ?_ _ | refine blk_drew ?_ | refine zab ?_ _)); refine zv (cs := #[.bool false, .string t134]) ?_ 0 _ rfl; (with_reducible repeat (first | refine zo ?_ _ | refine blk_drew ?_ | refine zab ?_ _)); refine zv (cs := #[.bool t133, .string t134]) ?_ 0 _ rfl; (with_reducible repeat (first | refine zo ?_ _ | refine blk_drew ?_ | refine zab ?_ _)); refine zv (cs := #[.bool t133, .string (⟨#[]⟩ : ByteArray)]) ?_ 1 _ rfl; (with_reducible repeat (first | refine zo ?_ _ | refine blk_drew ?_ | refine zab ?_ _)); refine zv (cs := #[.bool false, .string (⟨#[]⟩ : ByteArray)]) ?_ 0 _ rfl; (with_reducible repeat (first | refine zo ?_ _ | refine blk_drew ?_ | refine zab ?_ _)); exact BK131.out) Tryz.underlying29 rfl (by kernel_rfl)) rfl ?_
       exact ⟨by first | rfl | (simp [zxb, zwb] <;> rfl) | (simp [*, zxb, zwb] <;> rfl) | (simp [zd]; done), by repeat (first | (with_reducible first | exact HB.out | apply zf | apply ze | apply zh | refine zx ?_ GE131.out) | exact HB.out)⟩
     ·replace c15 := Bool.eq_false_iff.mpr c15
      subst c15
      have H1 : (some (false, (⟨#[]⟩ : ByteArray), false)) = some (r1, r2, r3) := by rw [if_neg (show ¬ (false = true) by decide)] at H; exact H
      clear H
      have H := H1
      clear H1
      simp only [Option.some.injEq, Prod.mk.injEq] at H
      obtain ⟨rfl, rfl, rfl⟩ := H
      go_wp2_with (first | (go_at_call 86; (with_reducible refine (zgb.calls kj8 x0_8 false _ A14.out).mono ?_); rintro e w' ⟨rfl, ⟨nd, rfl⟩⟩; (try first | exact ⟨rfl, _, World.drewN_drewN _ _ _⟩ | exact ⟨rfl, _, Eq.trans (World.drewN_drewN _ _ _) (congrArg (World.drewN _) (Nat.add_assoc _ _ _))⟩); have hcz22_0 : wc.cell? ⟨gb131, 0, none⟩ = some (.bool false) := (zi BK131.out 0).trans rfl; have hcz22_1 : wc.cell? ⟨gb131, 1, none⟩ = some (.string (⟨#[]⟩ : ByteArray)) := (zi BK131.out 1).trans rfl; have hfz22_0 := zr BK131.out 0; have hfz22_1 := zr BK131.out 1))
      repeat (go_quiet (first | (go_at_call 86; (with_reducible refine (zgb.calls kj8 x0_8 false _ A14.out).mono ?_); rintro e w' ⟨rfl, ⟨nd, rfl⟩⟩; (try first | exact ⟨rfl, _, World.drewN_drewN _ _ _⟩ | exact ⟨rfl, _, Eq.trans (World.drewN_drewN _ _ _) (congrArg (World.drewN _) (Nat.add_assoc _ _ _))⟩); have hcz22_0 : wc.cell? ⟨gb131, 0, none⟩ = some (.bool false) := (zi BK131.out 0).trans rfl; have hcz22_1 : wc.cell? ⟨gb131, 1, none⟩ = some (.string (⟨#[]⟩ : ByteArray)) := (zi BK131.out 1).trans rfl; have hfz22_0 := zr BK131.out 0; have hfz22_1 := zr BK131.out 1)); try go_wp2_with (first | (go_at_call 86; (with_reducible refine (zgb.calls kj8 x0_8 false _ A14.out).mono ?_); rintro e w' ⟨rfl, ⟨nd, rfl⟩⟩; (try first | exact ⟨rfl, _, World.drewN_drewN _ _ _⟩ | exact ⟨rfl, _, Eq.trans (World.drewN_drewN _ _ _) (congrArg (World.drewN _) (Nat.add_assoc _ _ _))⟩); have hcz22_0 : wc.cell? ⟨gb131, 0, none⟩ = some (.bool false) := (zi BK131.out 0).trans rfl; have hcz22_1 : wc.cell? ⟨gb131, 1, none⟩ = some (.string (⟨#[]⟩ : ByteArray)) := (zi BK131.out 1).trans rfl; have hfz22_0 := zr BK131.out 0; have hfz22_1 := zr BK131.out 1)))
      refine bodyPost_ret (zfg rfl _ _ gb131 29 #[.bool false, .string (⟨#[]⟩ : ByteArray)] (0, 0) _ rfl (by (with_reducible repeat (first | refine zo ?_ _ | refine blk_drew ?_ | refine zab ?_ _)); refine zv (cs := #[.bool false, .string (⟨#[]⟩ : ByteArray)]) ?_ 1 _ rfl; (with_reducible repeat (first | refine zo ?_ _ | refine blk_drew ?_ | refine zab ?_ _)); refine zv (cs := #[.bool false, .string (⟨#[]⟩ : ByteArray)]) ?_ 0 _ rfl; (with_reducible repeat (first | refine zo ?_ _ | refine blk_drew ?_ | refine zab ?_ _)); exact BK131.out) Tryz.underlying29 rfl (by kernel_rfl)) rfl ?_
      exact ⟨by first | rfl | (simp [zxb, zwb] <;> rfl) | (simp [*, zxb, zwb] <;> rfl) | (simp [zd]; done), by repeat (first | (with_reducible first | exact HB.out | apply zf | apply ze | apply zh | refine zx ?_ GE131.out) | exact HB.out)⟩
def zld.f (k : Nat) (a0 : ByteArray) : Option (Bool × ByteArray × Bool) := (znb.f k a0).bind fun bt136 => (some (bt136.1, bt136.2.1, bt136.2.2))
theorem zld.calls (k : Nat) (a0 : ByteArray) (r1 : Bool) (r2 : ByteArray) (r3 : Bool) (w : World) (h : zld.f k a0 = some (r1, r2, r3)) :
  Calls Tryz.prog 65 #[.string a0] w fun e w' => e = .returned (.tuple #[.agg #[.bool r1, .string r2], .bool r3]) ∧ Below w.heap.size w w' := by
 have hu29 := Tryz.underlying29
 have HB := za.mk (Below.refl w.heap.size w)
 have H : ((znb.f k a0).bind fun bt136 => (some (bt136.1, bt136.2.1, bt136.2.2))) = some (r1, r2, r3) := h
 clear h
 replace H := Option.bind_eq_some_iff.mp H
 obtain ⟨⟨t136, t137, t138⟩, A20, H⟩ := H
 replace H : (some (t136, t137, t138)) = some (r1, r2, r3) := H
 have A2 := za.mk A20
 clear A20
 simp only [Option.some.injEq, Prod.mk.injEq] at H
 obtain ⟨rfl, rfl, rfl⟩ := H
 go_enter Tryz.func65, Tryz.ntmps65
 go_wp2_with (first | ((with_reducible refine zvc (N := 2) rfl ?_); refine zdd ?hg (N := 2) ?hd (cs := #[.bool false, .string (⟨#[]⟩ : ByteArray)]) (t := 29) ?hr ?_; (case hd => rfl); (case hg => rfl); (case hr => first | (go_simp; done) | (go_simp; rfl)); intro gb135 hg w3 hbox hb; have n0_ := za.mk (zcb (by repeat (first | (with_reducible first | exact HB.out | apply zf | apply ze | apply zh) | exact HB.out)) hb); have n1_ := za.mk (hbox); have n2_ := za.mk ((by rw [hg]; exact (zib (by repeat (first | (with_reducible first | exact HB.out | apply zf | apply ze | apply zh) | exact HB.out))) : w.heap.size ≤ gb135)); have n3_ := za.mk ((by rw [hg]; exact (zib (by repeat (first | (with_reducible first | exact HB.out | apply zf | apply ze | apply zh) | exact HB.out))) : w.heap.size ≤ gb135)); clear HB; have HB := n0_; have BK135 := n1_; have GW135 := n2_; have GE135 := n3_; clear n0_ n1_ n2_ n3_; clear hb hbox hg) | ((with_reducible refine zeb (f := 95) rfl ?_); refine zhc (some 5) rfl rfl Tryz.func95 (by kernel_rfl) rfl #[.string a0] rfl (by (try simp only [List.map_toArray, List.map_cons, List.map_nil]); first | done | rfl | (simp only [List.length_drop, List.length_take]; rfl)) ?_; (with_reducible refine (znb.calls k a0 t136 t137 t138 _ A2.out).mono ?_); rintro e w4 ⟨rfl, hb⟩; refine ⟨_, rfl, ?_⟩; have n0_ := za.mk (zj (g := gb135) (o := .cells #[.bool false, .string (⟨#[]⟩ : ByteArray)] 29 (0, 0)) (by (with_reducible repeat (first | refine zo ?_ _ | refine blk_drew ?_ | refine zab ?_ _)); exact BK135.out) hb); have n1_ := za.mk (zcb (by repeat (first | (with_reducible first | exact HB.out | apply zf | apply ze | apply zh | refine zx ?_ GE135.out) | exact HB.out)) hb); clear BK135; clear HB; have BK135 := n0_; have HB := n1_; clear n0_ n1_; (try clear hb); (try clear hb2); (try clear hk); (try clear hi); have hcz5_0 : w4.cell? ⟨gb135, 0, none⟩ = some (.bool false) := (zi BK135.out 0).trans rfl; have hcz5_1 : w4.cell? ⟨gb135, 1, none⟩ = some (.string (⟨#[]⟩ : ByteArray)) := (zi BK135.out 1).trans rfl; have hfz5_0 := zr BK135.out 0; have hfz5_1 := zr BK135.out 1))
 refine bodyPost_ret (zfg rfl _ _ gb135 29 #[.bool t136, .string t137] (0, 0) _ rfl (by (with_reducible repeat (first | refine zo ?_ _ | refine blk_drew ?_ | refine zab ?_ _)); refine zv (cs := #[.bool t136, .string (⟨#[]⟩ : ByteArray)]) ?_ 1 _ rfl; (with_reducible repeat (first | refine zo ?_ _ | refine blk_drew ?_ | refine zab ?_ _)); refine zv (cs := #[.bool false, .string (⟨#[]⟩ : ByteArray)]) ?_ 0 _ rfl; (with_reducible repeat (first | refine zo ?_ _ | refine blk_drew ?_ | refine zab ?_ _)); exact BK135.out) Tryz.underlying29 rfl (by kernel_rfl)) rfl ?_
 exact ⟨by first | rfl | (simp [zxb, zwb] <;> rfl) | (simp [*, zxb, zwb] <;> rfl) | (simp [zd]; done), by repeat (first | (with_reducible first | exact HB.out | apply zf | apply ze | apply zh | refine zx ?_ GE135.out) | exact HB.out)⟩
def zce.f (k : Nat) (a0 : ByteArray) : Option (Bool × ByteArray) := (zld.f k a0).bind fun bt140 => (some (bt140.1, bt140.2.1))
theorem zce.calls (k : Nat) (a0 : ByteArray) (r1 : Bool) (r2 : ByteArray) (w : World) (h : zce.f k a0 = some (r1, r2)) :
  Calls Tryz.prog 36 #[.string a0] w fun e w' => e = .returned (.agg #[.bool r1, .string r2]) ∧ Below w.heap.size w w' := by
 have hu29 := Tryz.underlying29
 have HB := za.mk (Below.refl w.heap.size w)
 have H : ((zld.f k a0).bind fun bt140 => (some (bt140.1, bt140.2.1))) = some (r1, r2) := h
 clear h
 replace H := Option.bind_eq_some_iff.mp H
 obtain ⟨⟨t140, t141, t142⟩, A20, H⟩ := H
 replace H : (some (t140, t141)) = some (r1, r2) := H
 have A2 := za.mk A20
 clear A20
 simp only [Option.some.injEq, Prod.mk.injEq] at H
 obtain ⟨rfl, rfl⟩ := H
 go_enter Tryz.func36, Tryz.ntmps36
 go_wp2_with (first | ((with_reducible refine zvc (N := 2) rfl ?_); refine zdd ?hg (N := 2) ?hd (cs := #[.bool false, .string (⟨#[]⟩ : ByteArray)]) (t := 29) ?hr ?_; (case hd => rfl); (case hg => rfl); (case hr => first | (go_simp; done) | (go_simp; rfl)); intro gb139 hg w3 hbox hb; have n0_ := za.mk (zcb (by repeat (first | (with_reducible first | exact HB.out | apply zf | apply ze | apply zh) | exact HB.out)) hb); have n1_ := za.mk (hbox); have n2_ := za.mk ((by rw [hg]; exact (zib (by repeat (first | (with_reducible first | exact HB.out | apply zf | apply ze | apply zh) | exact HB.out))) : w.heap.size ≤ gb139)); have n3_ := za.mk ((by rw [hg]; exact (zib (by repeat (first | (with_reducible first | exact HB.out | apply zf | apply ze | apply zh) | exact HB.out))) : w.heap.size ≤ gb139)); clear HB; have HB := n0_; have BK139 := n1_; have GW139 := n2_; have GE139 := n3_; clear n0_ n1_ n2_ n3_; clear hb hbox hg) | ((with_reducible refine zeb (f := 65) rfl ?_); refine zhc (some 7) rfl rfl Tryz.func65 (by kernel_rfl) rfl #[.string a0] rfl (by (try simp only [List.map_toArray, List.map_cons, List.map_nil]); first | done | rfl | (simp only [List.length_drop, List.length_take]; rfl)) ?_; (with_reducible refine (zld.calls k a0 t140 t141 t142 _ A2.out).mono ?_); rintro e w4 ⟨rfl, hb⟩; refine ⟨_, rfl, ?_⟩; have n0_ := za.mk (zj (g := gb139) (o := .cells #[.bool false, .string (⟨#[]⟩ : ByteArray)] 29 (0, 0)) (by (with_reducible repeat (first | refine zo ?_ _ | refine blk_drew ?_ | refine zab ?_ _)); exact BK139.out) hb); have n1_ := za.mk (zcb (by repeat (first | (with_reducible first | exact HB.out | apply zf | apply ze | apply zh | refine zx ?_ GE139.out) | exact HB.out)) hb); clear BK139; clear HB; have BK139 := n0_; have HB := n1_; clear n0_ n1_; (try clear hb); (try clear hb2); (try clear hk); (try clear hi)) | ((with_reducible refine zvc (N := 3) rfl ?_); refine zdd ?hg (N := 3) ?hd (cs := #[.bool false, .string (⟨#[]⟩ : ByteArray)]) (t := 29) ?hr ?_; (case hd => rfl); (case hg => rfl); (case hr => first | (go_simp; done) | (go_simp; rfl)); intro gb143 hg w5 hbox hb; have n0_ := za.mk (zj (g := gb139) (o := .cells #[.bool false, .string (⟨#[]⟩ : ByteArray)] 29 (0, 0)) (by (with_reducible repeat (first | refine zo ?_ _ | refine blk_drew ?_ | refine zab ?_ _)); exact BK139.out) hb); have n1_ := za.mk (zcb (by repeat (first | (with_reducible first | exact HB.out | apply zf | apply ze | apply zh | refine zx ?_ GE139.out) | exact HB.out)) hb); have n2_ := za.mk (hbox); have n3_ := za.mk ((by rw [hg]; exact (zib (by repeat (first | (with_reducible first | exact HB.out | apply zf | apply ze | apply zh | refine zx ?_ GE139.out) | exact HB.out))) : w.heap.size ≤ gb143)); have n4_ := za.mk ((by rw [hg]; exact (zib (by repeat (first | (with_reducible first | exact HB.out | apply zf | apply ze | apply zh | refine zx ?_ GE139.out) | exact HB.out))) : w.heap.size ≤ gb143)); have n5_ := za.mk ((by rw [hg]; exact Nat.ne_of_lt (blk_lt (g := gb139) (o := .cells #[.bool false, .string (⟨#[]⟩ : ByteArray)] 29 (0, 0)) (by (with_reducible repeat (first | refine zo ?_ _ | refine blk_drew ?_ | refine zab ?_ _)); exact BK139.out)) : gb139 ≠ gb143)); have n6_ := za.mk ((by rw [hg]; exact Nat.ne_of_gt (blk_lt (g := gb139) (o := .cells #[.bool false, .string (⟨#[]⟩ : ByteArray)] 29 (0, 0)) (by (with_reducible repeat (first | refine zo ?_ _ | refine blk_drew ?_ | refine zab ?_ _)); exact BK139.out)) : gb143 ≠ gb139)); clear BK139; clear HB; have BK139 := n0_; have HB := n1_; have BK143 := n2_; have GW143 := n3_; have GE143 := n4_; have NB139_143 := n5_; have NB143_139 := n6_; clear n0_ n1_ n2_ n3_ n4_ n5_ n6_; clear hb hbox hg; have hnb6 := NB143_139.out; have hnc6 := NB139_143.out; have hcz7_0 : w5.cell? ⟨gb143, 0, none⟩ = some (.bool false) := (zi BK143.out 0).trans rfl; have hcz7_1 : w5.cell? ⟨gb143, 1, none⟩ = some (.string (⟨#[]⟩ : ByteArray)) := (zi BK143.out 1).trans rfl; have hfz7_0 := zr BK143.out 0; have hfz7_1 := zr BK143.out 1; have hcz8_0 : w5.cell? ⟨gb139, 0, none⟩ = some (.bool false) := (zi BK139.out 0).trans rfl; have hcz8_1 : w5.cell? ⟨gb139, 1, none⟩ = some (.string (⟨#[]⟩ : ByteArray)) := (zi BK139.out 1).trans rfl; have hfz8_0 := zr BK139.out 0; have hfz8_1 := zr BK139.out 1))
 refine bodyPost_ret (results_cell_row rfl _ _ gb139 29 #[.bool t140, .string t141] (0, 0) _ rfl (by (with_reducible repeat (first | refine zo ?_ _ | refine blk_drew ?_ | refine zab ?_ _)); refine zv (cs := #[.bool t140, .string (⟨#[]⟩ : ByteArray)]) ?_ 1 _ rfl; (with_reducible repeat (first | refine zo ?_ _ | refine blk_drew ?_ | refine zab ?_ _)); refine zv (cs := #[.bool false, .string (⟨#[]⟩ : ByteArray)]) ?_ 0 _ rfl; (with_reducible repeat (first | refine zo ?_ _ | refine blk_drew ?_ | refine zab ?_ _)); refine zlc ?_ NB139_143.out _; (with_reducible repeat (first | refine zo ?_ _ | refine blk_drew ?_ | refine zab ?_ _)); refine zlc ?_ NB139_143.out _; (with_reducible repeat (first | refine zo ?_ _ | refine blk_drew ?_ | refine zab ?_ _)); exact BK139.out) Tryz.underlying29 rfl (by kernel_rfl)) rfl ?_
 exact ⟨by first | rfl | (simp [zxb, zwb] <;> rfl) | (simp [*, zxb, zwb] <;> rfl) | (simp [zd]; done), by repeat (first | (with_reducible first | exact HB.out | apply zf | apply ze | apply zh | refine zx ?_ GE139.out | refine zx ?_ GE143.out) | exact HB.out)⟩
end Go.Proofs.YtlijjnjpomnphaaGreatDoor.Q
end
section
namespace Go.Proofs.YtlijjnjpomnphaaGreatDoor.Q
open Go.RowKit YtlijjnjpomnphaaGreatDoorH YtlijjnjpomnphaaGreatDoorG YtlijjnjpomnphaaGreatDoorW.PrintWords YtlijjnjpomnphaaGreatDoorW.PrintLast YtlijjnjpomnphaaGreatDoorW.PrintMore
attribute [local go_sem] ztd zqd zke zje zgd zhd zrd zpd
def zec.l0 : Nat → ByteArray → Int → Option (Bool)
 | 0, _, _ => none
 | k + 1, x0, x3 => if x3 < (x0.size : Int) then (if 0 ≤ x3 then (if (bt x0 x3) < 48 then (some false) else (if (bt x0 x3) > 57 then (some false) else (zec.l0 k x0 (wrap64 (x3 + 1))))) else (none)) else (some (x0.toList != ([] : List UInt8)))
def zec.f (k : Nat) (a0 : ByteArray) : Option (Bool) := zec.l0 k a0 0
theorem zec.calls (k : Nat) (a0 : ByteArray) (r : Bool) (w : World) (h : zec.f k a0 = some r) :
  Calls Tryz.prog 37 #[.string a0] w fun e w' => e = .returned (.bool r) ∧ zl w w' := by
 have H : (zec.l0 k a0 0) = some r := h
 clear h
 have H' := za.mk H
 clear H
 go_enter Tryz.func37, Tryz.ntmps37
 go_wp2
 (try simp only [Act.put, List.setIfInBounds_toArray, List.set_cons_zero, List.set_cons_succ])
 go_loopg [3] k (fun kq v3 w' => ∃ (x3_1 : Int), v3 = .int .i64 x3_1 ∧ za (zec.l0 kq a0 x3_1 = some r) ∧ za (kq ≤ k) ∧ zl w w')
 case atStart => exact ⟨(0), (by first | rfl | (simp; done) | (simp [*]; done) | (simp [zd]; done) | (simp [zd, *]; done)), H', ⟨Nat.le_refl _⟩, by repeat (first | exact zl.refl _ | apply zl.step)⟩
 case round =>
  clear H'
  obtain ⟨x3_1, rfl, HA, HK1, ⟨m1, rfl⟩⟩ := hrel
  cases gk with
  | zero => exact absurd HA.out (by simp [zec.l0])
  | succ k1 =>
   have H := HA.out
   clear HA
   simp only [zec.l0] at H
   by_cases c2 : x3_1 < (a0.size : Int)
   ·rw [if_pos c2] at H
    have c2b0 : decide (x3_1 < (a0.size : Int)) = true := decide_eq_true c2
    clear c2
    by_cases c3 : 0 ≤ x3_1
    ·rw [if_pos c3] at H
     have c3b0 : decide (0 ≤ x3_1) = true := decide_eq_true c3
     clear c3
     by_cases c5 : (bt a0 x3_1) < 48
     ·rw [if_pos c5] at H
      have c5b0 : decide ((bt a0 x3_1) < 48) = true := decide_eq_true c5
      clear c5
      obtain rfl := Option.some.inj H
      have p4 : 0 ≤ (x3_1 : Int) := of_decide_eq_true (by first | (with_reducible assumption) | assumption)
      have q4 : x3_1 < (a0.size : Int) := of_decide_eq_true (by first | (with_reducible assumption) | assumption)
      have hx4 := bt_at a0 x3_1
      replace p4 := eq_true p4
      replace q4 := eq_true q4
      go_wp2
      go_ret
      exact ⟨by first | rfl | (simp; done) | (simp [*]; done) | (simp [zd]; done) | (simp [zd, *]; done), by repeat (first | exact zl.refl _ | apply zl.step)⟩
     ·rw [if_neg c5] at H
      have c5b0 : decide ((bt a0 x3_1) < 48) = false := decide_eq_false c5
      clear c5
      by_cases c7 : (bt a0 x3_1) > 57
      ·rw [if_pos c7] at H
       have c7b0 : decide (57 < (bt a0 x3_1)) = true := decide_eq_true c7
       clear c7
       obtain rfl := Option.some.inj H
       have p4 : 0 ≤ (x3_1 : Int) := of_decide_eq_true (by first | (with_reducible assumption) | assumption)
       have q4 : x3_1 < (a0.size : Int) := of_decide_eq_true (by first | (with_reducible assumption) | assumption)
       have hx4 := bt_at a0 x3_1
       replace p4 := eq_true p4
       replace q4 := eq_true q4
       have p6 : 0 ≤ (x3_1 : Int) := of_decide_eq_true (by first | (with_reducible assumption) | assumption)
       have q6 : x3_1 < (a0.size : Int) := of_decide_eq_true (by first | (with_reducible assumption) | assumption)
       have hx6 := bt_at a0 x3_1
       replace p6 := eq_true p6
       replace q6 := eq_true q6
       go_wp2
       go_ret
       exact ⟨by first | rfl | (simp; done) | (simp [*]; done) | (simp [zd]; done) | (simp [zd, *]; done), by repeat (first | exact zl.refl _ | apply zl.step)⟩
      ·rw [if_neg c7] at H
       have c7b0 : decide (57 < (bt a0 x3_1)) = false := decide_eq_false c7
       clear c7
       have H' := za.mk H
       clear H
       have p4 : 0 ≤ (x3_1 : Int) := of_decide_eq_true (by first | (with_reducible assumption) | assumption)
       have q4 : x3_1 < (a0.size : Int) := of_decide_eq_true (by first | (with_reducible assumption) | assumption)
       have hx4 := bt_at a0 x3_1
       replace p4 := eq_true p4
       replace q4 := eq_true q4
       have p6 : 0 ≤ (x3_1 : Int) := of_decide_eq_true (by first | (with_reducible assumption) | assumption)
       have q6 : x3_1 < (a0.size : Int) := of_decide_eq_true (by first | (with_reducible assumption) | assumption)
       have hx6 := bt_at a0 x3_1
       replace p6 := eq_true p6
       replace q6 := eq_true q6
       go_wp2
       go_roundg k1
       case measure => have := HK1.out; omega
       case rel => exact ⟨(wrap64 (x3_1 + 1)), (by first | rfl | (simp; done) | (simp [*]; done) | (simp [zd]; done) | (simp [zd, *]; done)), H', ⟨by have := HK1.out; omega⟩, by repeat (first | exact zl.refl _ | apply zl.step)⟩
    ·rw [if_neg c3] at H
     exact absurd H (by simp)
   ·rw [if_neg c2] at H
    have c2b0 : decide (x3_1 < (a0.size : Int)) = false := decide_eq_false c2
    clear c2
    obtain rfl := Option.some.inj H
    go_wp2
    go_ret
    exact ⟨by first | rfl | (simp; done) | (simp [*]; done) | (simp [zd]; done) | (simp [zd, *]; done), by repeat (first | exact zl.refl _ | apply zl.step)⟩
def zgc.l0 : Nat → ByteArray → Int → Option (Bool)
 | 0, _, _ => none
 | k + 1, x0, x3 => if x3 < (x0.size : Int) then (if 0 ≤ x3 then (if (bt x0 x3) ≥ 97 then (if (bt x0 x3) ≤ 122 then (zgc.l0 k x0 (wrap64 (x3 + 1))) else (if (bt x0 x3) ≥ 65 then (if ((bt x0 x3) ≤ 90) then (zgc.l0 k x0 (wrap64 (x3 + 1))) else (some false)) else (some false))) else (if (bt x0 x3) ≥ 65 then (if ((bt x0 x3) ≤ 90) then (zgc.l0 k x0 (wrap64 (x3 + 1))) else (some false)) else (some false))) else (none)) else (some (x0.toList != ([] : List UInt8)))
def zgc.f (k : Nat) (a0 : ByteArray) : Option (Bool) := zgc.l0 k a0 0
theorem zgc.calls (k : Nat) (a0 : ByteArray) (r : Bool) (w : World) (h : zgc.f k a0 = some r) :
  Calls Tryz.prog 38 #[.string a0] w fun e w' => e = .returned (.bool r) ∧ zl w w' := by
 have H : (zgc.l0 k a0 0) = some r := h
 clear h
 have H' := za.mk H
 clear H
 go_enter Tryz.func38, Tryz.ntmps38
 go_wp2
 (try simp only [Act.put, List.setIfInBounds_toArray, List.set_cons_zero, List.set_cons_succ])
 go_loopg [3] k (fun kq v3 w' => ∃ (x3_1 : Int), v3 = .int .i64 x3_1 ∧ za (zgc.l0 kq a0 x3_1 = some r) ∧ za (kq ≤ k) ∧ zl w w')
 case atStart => exact ⟨(0), (by first | rfl | (simp; done) | (simp [*]; done) | (simp [zd]; done) | (simp [zd, *]; done)), H', ⟨Nat.le_refl _⟩, by repeat (first | exact zl.refl _ | apply zl.step)⟩
 case round =>
  clear H'
  obtain ⟨x3_1, rfl, HA, HK1, ⟨m1, rfl⟩⟩ := hrel
  cases gk with
  | zero => exact absurd HA.out (by simp [zgc.l0])
  | succ k1 =>
   have H := HA.out
   clear HA
   simp only [zgc.l0] at H
   by_cases c2 : x3_1 < (a0.size : Int)
   ·rw [if_pos c2] at H
    have c2b0 : decide (x3_1 < (a0.size : Int)) = true := decide_eq_true c2
    clear c2
    by_cases c3 : 0 ≤ x3_1
    ·rw [if_pos c3] at H
     have c3b0 : decide (0 ≤ x3_1) = true := decide_eq_true c3
     clear c3
     by_cases c5 : (bt a0 x3_1) ≥ 97
     ·rw [if_pos c5] at H
      have c5b0 : decide (97 ≤ (bt a0 x3_1)) = true := decide_eq_true c5
      clear c5
      by_cases c6 : (bt a0 x3_1) ≤ 122
      ·rw [if_pos c6] at H
       have c6b0 : decide ((bt a0 x3_1) ≤ 122) = true := decide_eq_true c6
       clear c6
       have H' := za.mk H
       clear H
       have p4 : 0 ≤ (x3_1 : Int) := of_decide_eq_true (by first | (with_reducible assumption) | assumption)
       have q4 : x3_1 < (a0.size : Int) := of_decide_eq_true (by first | (with_reducible assumption) | assumption)
       have hx4 := bt_at a0 x3_1
       replace p4 := eq_true p4
       replace q4 := eq_true q4
       go_wp2
       go_roundg k1
       case measure => have := HK1.out; omega
       case rel => exact ⟨(wrap64 (x3_1 + 1)), (by first | rfl | (simp; done) | (simp [*]; done) | (simp [zd]; done) | (simp [zd, *]; done)), H', ⟨by have := HK1.out; omega⟩, by repeat (first | exact zl.refl _ | apply zl.step)⟩
      ·rw [if_neg c6] at H
       have c6b0 : decide ((bt a0 x3_1) ≤ 122) = false := decide_eq_false c6
       clear c6
       by_cases c7 : (bt a0 x3_1) ≥ 65
       ·rw [if_pos c7] at H
        have c7b0 : decide (65 ≤ (bt a0 x3_1)) = true := decide_eq_true c7
        clear c7
        by_cases c8 : ((bt a0 x3_1) ≤ 90)
        ·rw [if_pos c8] at H
         have c8b0 : decide ((bt a0 x3_1) ≤ 90) = true := decide_eq_true c8
         clear c8
         have H' := za.mk H
         clear H
         have p4 : 0 ≤ (x3_1 : Int) := of_decide_eq_true (by first | (with_reducible assumption) | assumption)
         have q4 : x3_1 < (a0.size : Int) := of_decide_eq_true (by first | (with_reducible assumption) | assumption)
         have hx4 := bt_at a0 x3_1
         replace p4 := eq_true p4
         replace q4 := eq_true q4
         go_wp2
         go_roundg k1
         case measure => have := HK1.out; omega
         case rel => exact ⟨(wrap64 (x3_1 + 1)), (by first | rfl | (simp; done) | (simp [*]; done) | (simp [zd]; done) | (simp [zd, *]; done)), H', ⟨by have := HK1.out; omega⟩, by repeat (first | exact zl.refl _ | apply zl.step)⟩
        ·rw [if_neg c8] at H
         have c8b0 : decide ((bt a0 x3_1) ≤ 90) = false := decide_eq_false c8
         clear c8
         obtain rfl := Option.some.inj H
         have p4 : 0 ≤ (x3_1 : Int) := of_decide_eq_true (by first | (with_reducible assumption) | assumption)
         have q4 : x3_1 < (a0.size : Int) := of_decide_eq_true (by first | (with_reducible assumption) | assumption)
         have hx4 := bt_at a0 x3_1
         replace p4 := eq_true p4
         replace q4 := eq_true q4
         go_wp2
         go_ret
         exact ⟨by first | rfl | (simp; done) | (simp [*]; done) | (simp [zd]; done) | (simp [zd, *]; done), by repeat (first | exact zl.refl _ | apply zl.step)⟩
       ·rw [if_neg c7] at H
        have c7b0 : decide (65 ≤ (bt a0 x3_1)) = false := decide_eq_false c7
        clear c7
        obtain rfl := Option.some.inj H
        have p4 : 0 ≤ (x3_1 : Int) := of_decide_eq_true (by first | (with_reducible assumption) | assumption)
        have q4 : x3_1 < (a0.size : Int) := of_decide_eq_true (by first | (with_reducible assumption) | assumption)
        have hx4 := bt_at a0 x3_1
        replace p4 := eq_true p4
        replace q4 := eq_true q4
        go_wp2
        go_ret
        exact ⟨by first | rfl | (simp; done) | (simp [*]; done) | (simp [zd]; done) | (simp [zd, *]; done), by repeat (first | exact zl.refl _ | apply zl.step)⟩
     ·rw [if_neg c5] at H
      have c5b0 : decide (97 ≤ (bt a0 x3_1)) = false := decide_eq_false c5
      clear c5
      by_cases c9 : (bt a0 x3_1) ≥ 65
      ·rw [if_pos c9] at H
       have c9b0 : decide (65 ≤ (bt a0 x3_1)) = true := decide_eq_true c9
       clear c9
       by_cases c10 : ((bt a0 x3_1) ≤ 90)
       ·rw [if_pos c10] at H
        have c10b0 : decide ((bt a0 x3_1) ≤ 90) = true := decide_eq_true c10
        clear c10
        have H' := za.mk H
        clear H
        have p4 : 0 ≤ (x3_1 : Int) := of_decide_eq_true (by first | (with_reducible assumption) | assumption)
        have q4 : x3_1 < (a0.size : Int) := of_decide_eq_true (by first | (with_reducible assumption) | assumption)
        have hx4 := bt_at a0 x3_1
        replace p4 := eq_true p4
        replace q4 := eq_true q4
        go_wp2
        go_roundg k1
        case measure => have := HK1.out; omega
        case rel => exact ⟨(wrap64 (x3_1 + 1)), (by first | rfl | (simp; done) | (simp [*]; done) | (simp [zd]; done) | (simp [zd, *]; done)), H', ⟨by have := HK1.out; omega⟩, by repeat (first | exact zl.refl _ | apply zl.step)⟩
       ·rw [if_neg c10] at H
        have c10b0 : decide ((bt a0 x3_1) ≤ 90) = false := decide_eq_false c10
        clear c10
        obtain rfl := Option.some.inj H
        have p4 : 0 ≤ (x3_1 : Int) := of_decide_eq_true (by first | (with_reducible assumption) | assumption)
        have q4 : x3_1 < (a0.size : Int) := of_decide_eq_true (by first | (with_reducible assumption) | assumption)
        have hx4 := bt_at a0 x3_1
        replace p4 := eq_true p4
        replace q4 := eq_true q4
        go_wp2
        go_ret
        exact ⟨by first | rfl | (simp; done) | (simp [*]; done) | (simp [zd]; done) | (simp [zd, *]; done), by repeat (first | exact zl.refl _ | apply zl.step)⟩
      ·rw [if_neg c9] at H
       have c9b0 : decide (65 ≤ (bt a0 x3_1)) = false := decide_eq_false c9
       clear c9
       obtain rfl := Option.some.inj H
       have p4 : 0 ≤ (x3_1 : Int) := of_decide_eq_true (by first | (with_reducible assumption) | assumption)
       have q4 : x3_1 < (a0.size : Int) := of_decide_eq_true (by first | (with_reducible assumption) | assumption)
       have hx4 := bt_at a0 x3_1
       replace p4 := eq_true p4
       replace q4 := eq_true q4
       go_wp2
       go_ret
       exact ⟨by first | rfl | (simp; done) | (simp [*]; done) | (simp [zd]; done) | (simp [zd, *]; done), by repeat (first | exact zl.refl _ | apply zl.step)⟩
    ·rw [if_neg c3] at H
     exact absurd H (by simp)
   ·rw [if_neg c2] at H
    have c2b0 : decide (x3_1 < (a0.size : Int)) = false := decide_eq_false c2
    clear c2
    obtain rfl := Option.some.inj H
    go_wp2
    go_ret
    exact ⟨by first | rfl | (simp; done) | (simp [*]; done) | (simp [zd]; done) | (simp [zd, *]; done), by repeat (first | exact zl.refl _ | apply zl.step)⟩
end Go.Proofs.YtlijjnjpomnphaaGreatDoor.Q
end
section
namespace Go.Proofs.YtlijjnjpomnphaaGreatDoor.V
open Go.RowKit YtlijjnjpomnphaaGreatDoor.Q YtlijjnjpomnphaaGreatDoorG YtlijjnjpomnphaaGreatDoorY YtlijjnjpomnphaaGreatDoorP YtlijjnjpomnphaaGreatDoorH YtlijjnjpomnphaaGreatDoorB YtlijjnjpomnphaaGreatDoorM YtlijjnjpomnphaaGreatDoorW.PrintWords YtlijjnjpomnphaaGreatDoorW.PrintLast
theorem rd_nat (l : List Int) (i : Nat) : rd l (i : Int) = l.getD i 0 := by simp [rd]
theorem intOf_l2 (m : List Int) (hm : m.length ≤ 1000000) : ∀ (n k : Nat), m.length - k = n → k ≤ m.length →
  Ev (fun q => zdb.l2 q m (zoe m.length (m.take k)) (k : Int)) (false, strOfNums m.reverse) := by
 intro n
 induction n with
 | zero =>
  intro k hn hk
  obtain rfl : k = m.length := by omega
  refine Ev.succ ?_
  simp only [zdb.l2]
  refine Ev.neg (fun _ => by first | omega | assumption | nofun) ?_
  refine Ev.eq (Ev.now _) ?_
  rw [List.take_length, content_done _ rfl]
 | succ n ih =>
  intro k hn hk
  have hlt : k < m.length := by omega
  have htl : (m.take k).length = k := by rw [List.length_take]; omega
  have hcl : (zoe m.length (m.take k)).length = m.length := content_len (by omega)
  refine Ev.succ ?_
  simp only [zdb.l2, rd_nat]
  refine Ev.pos (fun _ => by first | omega | trivial | assumption) ?_
  refine Ev.pos (fun _ => by first | omega | trivial | assumption) ?_
  rw [w64 (i := (m.length : Int) - 1) (by omega) (by omega), w64 (i := (m.length : Int) - 1 - (k : Int)) (by omega) (by omega), w64 (i := (k : Int) + 1) (by omega) (by omega)]
  refine Ev.pos (fun _ => by omega) ?_
  refine Ev.pos (fun _ => by rw [hcl]; omega) ?_
  have e1 : ((m.length : Int) - 1 - (k : Int)).toNat = m.length - (m.take k).length - 1 := by rw [htl]; omega
  rw [e1, content_step _ (by rw [htl]; exact hlt)]
  have e2 : m.take k ++ [m.getD k 0] = m.take (k + 1) := by
   rw [List.take_add_one, List.getElem?_eq_getElem hlt, List.getD_eq_getElem?_getD, List.getElem?_eq_getElem hlt]
   rfl
  rw [e2]
  exact ih (k + 1) (by omega) (by omega)
theorem intOf_l1 (s : ByteArray) (i : Int) {r : Bool × ByteArray} : ∀ (rest done : List Int) (c : Nat), Byt rest → c ≤ 300 → done.length + rest.length ≤ 1000000 →
  Ev (fun q => zdb.l1 q s (done ++ (mul10 rest c).1) i ((mul10 rest c).2 : Int) ((done.length + rest.length : Nat) : Int)) r → Ev (fun q => zdb.l1 q s (done ++ rest) i (c : Int) (done.length : Int)) r
 | [], done, c, _, _, _, h => by simpa [mul10] using h
 | x :: rest, done, c, hb, hc, hl, h => by
  have hx := hb.cons.1
  simp only [List.length_cons] at hl
  refine Ev.succ ?_
  simp only [zdb.l1, rd_nat]
  refine Ev.pos (fun _ => by rw [List.length_append, List.length_cons]; omega) ?_
  refine Ev.pos (fun _ => by omega) ?_
  have hg : (done ++ x :: rest).getD done.length 0 = x := by simp [List.getD_eq_getElem?_getD]
  rw [hg, w64 (i := x) (by omega) (by omega), w64 (i := 10 * x) (by omega) (by omega), w64 (i := (c : Int) + 10 * x) (by omega) (by omega), w64 (i := (done.length : Int) + 1) (by omega) (by omega), Int.toNat_natCast]
  have e0 : (c : Int) + 10 * x = ((c + 10 * x.toNat : Nat) : Int) := by omega
  have e1 : Int.tmod ((c : Int) + 10 * x) 256 % 256 = (((c + 10 * x.toNat) % 256 : Nat) : Int) := by
   rw [e0, Int.tmod_eq_emod_of_nonneg (by omega)]
   omega
  have e2 : wrap64 (Int.tdiv ((c : Int) + 10 * x) 256) = (((c + 10 * x.toNat) / 256 : Nat) : Int) := by
   rw [e0, Int.tdiv_eq_ediv_of_nonneg (by omega), w64 (by omega) (by omega)]
   omega
  rw [e1, e2]
  have e3 : (done ++ x :: rest).set done.length (((c + 10 * x.toNat) % 256 : Nat) : Int) = (done ++ [(((c + 10 * x.toNat) % 256 : Nat) : Int)]) ++ rest := by simp
  rw [e3]
  have ih := intOf_l1 s i (r := r) rest (done ++ [(((c + 10 * x.toNat) % 256 : Nat) : Int)]) ((c + 10 * x.toNat) / 256) hb.cons.2 (by omega) (by simp; omega)
  have e4 : ((done ++ [(((c + 10 * x.toNat) % 256 : Nat) : Int)]).length : Int) = (done.length : Int) + 1 := by simp
  rw [e4] at ih
  refine ih ?_
  simp only [mul10] at h
  have e5 : (((done ++ [(((c + 10 * x.toNat) % 256 : Nat) : Int)]).length + rest.length : Nat) : Int) = ((done.length + (x :: rest).length : Nat) : Int) := by simp; omega
  rw [e5, List.append_assoc]
  exact h
theorem pushD_len (m : List Int) (d : Nat) : (pushD m d).length ≤ m.length + 1 := by
 unfold pushD
 split
 ·simp [zaf]
 ·rw [zaf]; omega
theorem intOf_l0 (s : ByteArray) (hs : s.size ≤ 200000) (hd : ∀ c ∈ bytesOf s, isD c = true) : ∀ (n i : Nat) (m : List Int), s.size - i = n → i ≤ s.size → m.length ≤ i → Tight m (decL ((bytesOf s).take i)) →
  Ev (fun q => zdb.l0 q s m (i : Int)) (false, magB (decL (bytesOf s))) := by
 intro n
 induction n with
 | zero =>
  intro i m hn hi hm ht
  obtain rfl : i = s.size := by omega
  rw [List.take_of_length_le (by rw [bytesOf_length]; exact Nat.le_refl _)] at ht
  refine Ev.succ ?_
  simp only [zdb.l0]
  refine Ev.neg (fun _ => by first | omega | assumption | nofun) ?_
  refine Ev.pos (fun _ => by omega) ?_
  refine Ev.pos (fun _ => by omega) ?_
  have h := intOf_l2 m (by omega) _ 0 rfl (Nat.zero_le _)
  have e : zoe m.length (m.take 0) = List.replicate ((m.length : Int)).toNat 0 := by simp [zoe]
  rw [e] at h
  refine Ev.eq h ?_
  rw [ht.mag]
  rfl
 | succ n ih =>
  intro i m hn hi hm ht
  have hl : i < (bytesOf s).length := by rw [bytesOf_length]; omega
  have hc : isD ((bytesOf s).getD i 0) = true := hd _ (by rw [List.getD_eq_getElem?_getD, List.getElem?_eq_getElem hl]; exact List.getElem_mem hl)
  unfold isD at hc
  have hc2 := of_decide_eq_true hc
  obtain ⟨d, hdd⟩ : ∃ d, d = ((bytesOf s).getD i 0 - 48).toNat := ⟨_, rfl⟩
  refine Ev.succ ?_
  simp only [zdb.l0, zed]
  refine Ev.pos (fun _ => by first | omega | trivial | assumption) ?_
  refine Ev.pos (fun _ => by first | omega | trivial | assumption) ?_
  have e1 : ((bytesOf s).getD i 0 - 48) % 256 = (d : Int) := by omega
  rw [e1]
  have htk : decL ((bytesOf s).take (i + 1)) = 10 * decL ((bytesOf s).take i) + d := by
   rw [List.take_add_one, List.getElem?_eq_getElem hl, hdd, List.getD_eq_getElem?_getD, List.getElem?_eq_getElem hl]
   exact decL_snoc _ _
  have hp : Tight (pushD m d) (decL ((bytesOf s).take (i + 1))) := by rw [htk]; exact push_tight ht (by omega)
  have hcar := zog m d ht.byt (by omega)
  have hpl := pushD_len m d
  have next := ih (i + 1) (pushD m d) (by omega) (by omega) (by omega) hp
  have h := intOf_l1 s (i : Int) (r := (false, magB (decL (bytesOf s)))) m [] d ht.byt (by omega) (by simp; omega)
  simp only [List.nil_append, List.length_nil, Nat.zero_add] at h
  refine h ?_
  refine Ev.succ ?_
  simp only [zdb.l1]
  refine Ev.neg (fun _ => by rw [zaf]; omega) ?_
  rw [w64 (i := (i : Int) + 1) (by omega) (by omega)]
  unfold pushD at next
  by_cases hq : (mul10 m d).2 > 0
  ·rw [if_pos hq] at next
   refine Ev.pos (fun _ => by omega) ?_
   refine Ev.pos (fun _ => by rw [zaf]; omega) ?_
   have e2 : ((mul10 m d).2 : Int) % 256 = ((mul10 m d).2 : Int) := by omega
   rw [e2]
   exact next
  ·rw [if_neg hq] at next
   refine Ev.neg (fun _ => by omega) ?_
   exact next
theorem intOf_ev (s : ByteArray) (hs : s.size ≤ 200000) (hd : ∀ c ∈ bytesOf s, isD c = true) : Ev (fun q => zdb.f q s) (false, magB (decL (bytesOf s))) :=
 intOf_l0 s hs hd _ 0 [] rfl (Nat.zero_le _) (Nat.le_refl _) ⟨fun x hx => by simp at hx, rfl, fun h => absurd rfl h⟩
def decD (n : Nat) : List Int := if n < 10 then [48 + (n : Int)] else decD (n / 10) ++ [48 + ((n % 10 : Nat) : Int)]
theorem zjg {n : Nat} (h : n < 10) : decD n = [48 + (n : Int)] := by rw [decD, if_pos h]
theorem decD_big {n : Nat} (h : ¬ n < 10) : decD n = decD (n / 10) ++ [48 + ((n % 10 : Nat) : Int)] := by rw [decD, if_neg h]
theorem decD_spec (n : Nat) : decD n ≠ [] ∧ (∀ c ∈ decD n, isD c = true) ∧ decL (decD n) = n := by
 induction n using Nat.strongRecOn with
 | ind n ih =>
  by_cases h : n < 10
  ·rw [zjg h]
   refine ⟨by simp, fun c hc => ?_, ?_⟩
   ·have e : c = 48 + (n : Int) := by simpa using hc
    rw [e]; unfold isD; apply decide_eq_true; omega
   ·simp [decL]; omega
  ·rw [decD_big h]
   obtain ⟨_, h2, h3⟩ := ih (n / 10) (by omega)
   refine ⟨by simp, fun c hc => ?_, ?_⟩
   ·rcases List.mem_append.1 hc with hc | hc
    ·exact h2 c hc
    ·have e : c = 48 + ((n % 10 : Nat) : Int) := by simpa using hc
     rw [e]; unfold isD; apply decide_eq_true; omega
   ·rw [decL_snoc, h3]; omega
theorem decD_len : ∀ (k n : Nat), n < 10 ^ (k + 1) → (decD n).length ≤ k + 1
 | 0, n, h => by rw [zjg (by simpa using h)]; simp
 | k + 1, n, h => by
  by_cases h0 : n < 10
  ·rw [zjg h0]; simp
  ·rw [decD_big h0]
   have := decD_len k (n / 10) (by rw [Nat.pow_succ] at h; omega)
   simp; omega
theorem wrap_u16 {x : Int} (h0 : 0 ≤ x) (h1 : x ≤ 65535) : IntKind.u16.wrap x = x := by
 simp [IntKind.wrap, IntKind.signed, IntKind.bits]
 omega
theorem decimal_from (n : Nat) : n ≤ 65535 → ∀ acc : ByteArray, acc.size + (decD n).length ≤ 1000 → ∃ r, Ev (fun k => zbc.l0 k n acc) r ∧ bytesOf r = decD n ++ bytesOf acc := by
 induction n using Nat.strongRecOn with
 | ind n ih =>
  intro hn acc hacc
  have e1 : Int.tmod (n : Int) 10 = ((n % 10 : Nat) : Int) := by rw [Int.tmod_eq_emod_of_nonneg (by omega)]; omega
  have e2 : Int.tdiv (n : Int) 10 = ((n / 10 : Nat) : Int) := by rw [Int.tdiv_eq_ediv_of_nonneg (by omega)]; omega
  have e3 : IntKind.u16.wrap (48 + ((n % 10 : Nat) : Int)) = 48 + ((n % 10 : Nat) : Int) := wrap_u16 (by omega) (by omega)
  have e4 : IntKind.u16.wrap ((n / 10 : Nat) : Int) = ((n / 10 : Nat) : Int) := wrap_u16 (by omega) (by omega)
  have e5 : wrap32 (48 + ((n % 10 : Nat) : Int)) = 48 + ((n % 10 : Nat) : Int) := w32 (by omega) (by omega)
  have hb : bytesOf (Utf8.encode (48 + ((n % 10 : Nat) : Int))) = [48 + ((n % 10 : Nat) : Int)] := B_encode (by omega) (by omega)
  have hsz : (Utf8.encode (48 + ((n % 10 : Nat) : Int))).size = 1 := by rw [zhe, hb]; rfl
  by_cases h : n < 10
  ·refine ⟨Utf8.encode (48 + ((n % 10 : Nat) : Int)) ++ acc, Ev.succ ?_, ?_⟩
   ·simp only [zbc.l0, e1, e2, e3, e4, e5]
    refine Ev.pos (fun _ => by rw [hsz]; omega) ?_
    refine Ev.pos (fun _ => by omega) ?_
    exact Ev.now _
   ·rw [zac, hb, zjg h, Nat.mod_eq_of_lt h]
  ·rw [decD_big h, List.length_append, List.length_singleton] at hacc
   have hs2 : (Utf8.encode (48 + ((n % 10 : Nat) : Int)) ++ acc).size = 1 + acc.size := by rw [ByteArray.size_append, hsz]
   obtain ⟨r, hr, h1⟩ := ih (n / 10) (by omega) (by omega) (Utf8.encode (48 + ((n % 10 : Nat) : Int)) ++ acc) (by omega)
   refine ⟨r, Ev.succ ?_, ?_⟩
   ·simp only [zbc.l0, e1, e2, e3, e4, e5]
    refine Ev.pos (fun _ => by rw [hsz]; omega) ?_
    refine Ev.neg (fun _ => by omega) ?_
    exact hr
   ·rw [h1, zac, hb, decD_big h, List.append_assoc]
def dec (a : Int) : List Int := decD a.toNat
theorem zpg (a : Int) : ∀ c ∈ dec a, isD c = true := (decD_spec _).2.1
theorem dec_ne (a : Int) : dec a ≠ [] := (decD_spec _).1
theorem zmf (a : Int) : decL (dec a) = a.toNat := (decD_spec _).2.2
def U16 (a : Int) : Prop := 0 ≤ a ∧ a ≤ 65535
theorem u16_of {a : Int} (h : (Lit.int .u16 a).wf = true) : U16 a := by
 unfold U16
 simp [Lit.wf, IntKind.min, IntKind.max, IntKind.signed, IntKind.bits] at h
 omega
theorem zcg {a : Int} (h : U16 a) : (dec a).length ≤ 5 := by
 obtain ⟨h0, h1⟩ := h
 refine decD_len 4 _ ?_
 have e : (10 : Nat) ^ (4 + 1) = 100000 := by decide
 omega
theorem isD_byte {c : Int} (h : isD c = true) : 0 ≤ c ∧ c ≤ 255 := by
 unfold isD at h
 have := of_decide_eq_true h
 omega
theorem zeh {l : List Int} (h : ∀ c ∈ l, isD c = true) : bytesOf (strOfNums l) = l := B_str (fun c hc => isD_byte (h c hc))
theorem decimal_ev {a : Int} (h : U16 a) : Ev (fun k => zbc.f k a) (strOfNums (dec a)) := by
 have hl := zcg h
 obtain ⟨h0, h1⟩ := h
 have e0 : bytesOf (⟨#[]⟩ : ByteArray) = [] := rfl
 obtain ⟨r, hr, hb⟩ := decimal_from a.toNat (by omega) (⟨#[]⟩ : ByteArray) (by
  have e : (⟨#[]⟩ : ByteArray).size = 0 := rfl
  have : (decD a.toNat).length ≤ 5 := hl
  omega)
 rw [e0, List.append_nil] at hb
 have e1 : ((a.toNat : Nat) : Int) = a := by omega
 rw [e1] at hr
 refine Ev.eq hr ?_
 rw [← str_B r, hb]
 rfl
theorem dec_size {a : Int} (h : U16 a) : (strOfNums (dec a)).size ≤ 5 := by rw [zhe, zeh (zpg a)]; exact zcg h
theorem digit_eq (c : Int) : zid.f c = some (isD c) := by
 unfold zid.f isD
 by_cases h : c ≥ 48
 ·rw [if_pos h]; simp; omega
 ·rw [if_neg h]; simp; omega
theorem allDigits_from (s : ByteArray) (hs : s.size ≤ 2000000) (hd : ∀ c ∈ bytesOf s, isD c = true) (hp : 0 < s.size) : ∀ (n i : Nat), s.size - i = n → i ≤ s.size → Ev (fun k => zgb.l0 k s (i : Int)) true := by
 intro n
 induction n with
 | zero =>
  intro i hn hi
  refine Ev.succ ?_
  simp only [zgb.l0]
  refine Ev.neg (fun _ => by omega) ?_
  refine Ev.eq (Ev.now _) ?_
  exact decide_eq_true (by omega)
 | succ n ih =>
  intro i hn hi
  have hl : i < (bytesOf s).length := by rw [bytesOf_length]; omega
  refine Ev.succ ?_
  simp only [zgb.l0, zed, digit_eq, Option.bind_some]
  refine Ev.pos (fun _ => by first | trivial | assumption | omega) ?_
  refine Ev.pos (fun _ => by first | trivial | assumption | omega) ?_
  refine Ev.pos (fun _ => hd _ (by rw [List.getD_eq_getElem?_getD, List.getElem?_eq_getElem hl]; exact List.getElem_mem hl)) ?_
  rw [w64 (by omega) (by omega)]
  exact ih (i + 1) (by omega) (by omega)
theorem number_ev (s : ByteArray) (hs : s.size ≤ 200000) (hd : ∀ c ∈ bytesOf s, isD c = true) (hp : 0 < s.size) : Ev (fun k => zce.f k s) (false, magB (decL (bytesOf s))) := by
 have hl : 0 < (bytesOf s).length := by rw [bytesOf_length]; exact hp
 have hc : isD ((bytesOf s).getD 0 0) = true := hd _ (by rw [List.getD_eq_getElem?_getD, List.getElem?_eq_getElem hl]; exact List.getElem_mem hl)
 unfold isD at hc
 have hc2 := of_decide_eq_true hc
 simp only [zce.f, zld.f, znb.f]
 refine Ev.bind (a := (false, magB (decL (bytesOf s)), true)) ?_ (Ev.now _)
 refine Ev.bind (a := (false, magB (decL (bytesOf s)), true)) ?_ (Ev.now _)
 refine Ev.pos (fun _ => by omega) ?_
 refine Ev.pos (fun _ => by omega) ?_
 rw [bt_zero]
 refine Ev.neg (fun _ => by omega) ?_
 have e : ((bytesOf s).getD 0 0 == 45) = false := by rw [beq_eq_false_iff_ne]; omega
 rw [e]
 refine Ev.succ ?_
 simp only [znb.j0]
 refine Ev.neg (fun _ => Bool.false_ne_true) ?_
 refine Ev.succ ?_
 simp only [znb.j1]
 have h := allDigits_from s (by omega) hd hp _ 0 rfl (Nat.zero_le _)
 refine Ev.bind (a := true) (by simpa [zgb.f] using h) ?_
 refine Ev.pos (fun _ => by first | rfl | trivial) ?_
 refine Ev.bind (intOf_ev s hs hd) ?_
 refine Ev.neg (fun _ => Bool.false_ne_true) ?_
 exact Ev.now _
theorem number_dec {a : Int} (h : U16 a) : Ev (fun k => zce.f k (strOfNums (dec a))) (false, magB a.toNat) := by
 have hs := dec_size h
 have hb := zeh (zpg a)
 have := number_ev (strOfNums (dec a)) (by omega) (by rw [hb]; exact zpg a) (by rw [zhe, hb]; exact List.length_pos_iff.2 (dec_ne a))
 rw [hb, zmf] at this
 exact this
def isW (c : Int) : Bool := decide (97 ≤ c ∧ c ≤ 122 ∨ 65 ≤ c ∧ c ≤ 90)
theorem words_from (s : ByteArray) (hs : s.size ≤ 2000000000) : ∀ (n i : Nat), s.size - i = n → i ≤ s.size →
  Ev (fun k => zgc.l0 k s i) (((bytesOf s).drop i).all isW && decide (bytesOf s ≠ [])) := by
 intro n
 induction n with
 | zero =>
  intro i hn hi
  refine Ev.succ ?_
  simp only [zgc.l0]
  refine Ev.neg (fun _ => by first | omega | assumption | nofun) ?_
  refine Ev.eq (Ev.now _) ?_
  rw [List.drop_of_length_le (by rw [bytesOf_length]; omega)]
  have e : (s.toList != ([] : List UInt8)) = decide (bytesOf s ≠ []) := by
   rw [zd]
   have := zjc s
   by_cases h : s.toList = []
   ·simp [h, this.1 h]
   ·have h2 : bytesOf s ≠ [] := fun h2 => h (this.2 h2)
    simp [h, h2]
  simp [e]
 | succ n ih =>
  intro i hn hi
  have hl : i < (bytesOf s).length := by rw [bytesOf_length]; omega
  have hne : bytesOf s ≠ [] := fun h => by rw [h] at hl; simp at hl
  refine Ev.succ ?_
  simp only [zgc.l0, zed]
  rw [zmc _ _ hl]
  refine Ev.pos (fun _ => by first | omega | trivial | assumption) ?_
  refine Ev.pos (fun _ => by first | omega | trivial | assumption) ?_
  cases h : isW ((bytesOf s).getD i 0)
  ·have h2 : ¬ (97 ≤ (bytesOf s).getD i 0 ∧ (bytesOf s).getD i 0 ≤ 122 ∨ 65 ≤ (bytesOf s).getD i 0 ∧ (bytesOf s).getD i 0 ≤ 90) := of_decide_eq_false h
   have e : (((bytesOf s).getD i 0 :: (bytesOf s).drop (i + 1)).all isW && decide (bytesOf s ≠ [])) = false := by
    rw [List.all_cons, h]; simp only [Bool.false_and, Bool.true_and]
   rw [e]
   by_cases h3 : (bytesOf s).getD i 0 ≥ 97
   ·refine Ev.pos (fun _ => by first | omega | trivial | assumption) ?_
    refine Ev.neg (fun _ => by first | omega | assumption | nofun) ?_
    refine Ev.pos (fun _ => by first | omega | trivial | assumption) ?_
    refine Ev.neg (fun _ => by first | omega | assumption | nofun) ?_
    exact Ev.now _
   ·refine Ev.neg (fun _ => by first | omega | assumption | nofun) ?_
    by_cases h4 : (bytesOf s).getD i 0 ≥ 65
    ·refine Ev.pos (fun _ => by first | omega | trivial | assumption) ?_
     refine Ev.neg (fun _ => by first | omega | assumption | nofun) ?_
     exact Ev.now _
    ·refine Ev.neg (fun _ => by first | omega | assumption | nofun) ?_
     exact Ev.now _
  ·have h2 : 97 ≤ (bytesOf s).getD i 0 ∧ (bytesOf s).getD i 0 ≤ 122 ∨ 65 ≤ (bytesOf s).getD i 0 ∧ (bytesOf s).getD i 0 ≤ 90 := of_decide_eq_true h
   have e : (((bytesOf s).getD i 0 :: (bytesOf s).drop (i + 1)).all isW && decide (bytesOf s ≠ [])) = (((bytesOf s).drop (i + 1)).all isW && decide (bytesOf s ≠ [])) := by
    rw [List.all_cons, h]; simp only [Bool.false_and, Bool.true_and]
   rw [e]
   have hr := ih (i + 1) (by omega) (by omega)
   rw [w64 (by omega) (by omega)]
   rcases h2 with h2 | h2
   ·refine Ev.pos (fun _ => by first | omega | trivial | assumption) ?_
    refine Ev.pos (fun _ => by first | omega | trivial | assumption) ?_
    exact hr
   ·refine Ev.neg (fun _ => by first | omega | assumption | nofun) ?_
    refine Ev.pos (fun _ => by first | omega | trivial | assumption) ?_
    refine Ev.pos (fun _ => by first | omega | trivial | assumption) ?_
    exact hr
theorem words_ev (s : ByteArray) (hs : s.size ≤ 2000000000) : Ev (fun k => zgc.f k s) ((bytesOf s).all isW && decide (bytesOf s ≠ [])) := by
 have h := words_from s hs _ 0 rfl (Nat.zero_le _)
 simpa [zgc.f] using h
theorem ztg (s : ByteArray) (hs : s.size ≤ 2000000000) : ∀ (n i : Nat), s.size - i = n → i ≤ s.size →
  Ev (fun k => zec.l0 k s i) (((bytesOf s).drop i).all isD && decide (bytesOf s ≠ [])) := by
 intro n
 induction n with
 | zero =>
  intro i hn hi
  refine Ev.succ ?_
  simp only [zec.l0]
  refine Ev.neg (fun _ => by first | omega | assumption | nofun) ?_
  refine Ev.eq (Ev.now _) ?_
  rw [List.drop_of_length_le (by rw [bytesOf_length]; omega)]
  have e : (s.toList != ([] : List UInt8)) = decide (bytesOf s ≠ []) := by
   rw [zd]
   have := zjc s
   by_cases h : s.toList = []
   ·simp [h, this.1 h]
   ·have h2 : bytesOf s ≠ [] := fun h2 => h (this.2 h2)
    simp [h, h2]
  simp [e]
 | succ n ih =>
  intro i hn hi
  have hl : i < (bytesOf s).length := by rw [bytesOf_length]; omega
  refine Ev.succ ?_
  simp only [zec.l0, zed]
  rw [zmc _ _ hl]
  refine Ev.pos (fun _ => by first | omega | trivial | assumption) ?_
  refine Ev.pos (fun _ => by first | omega | trivial | assumption) ?_
  cases h : isD ((bytesOf s).getD i 0)
  ·have h2 : ¬ (48 ≤ (bytesOf s).getD i 0 ∧ (bytesOf s).getD i 0 ≤ 57) := of_decide_eq_false h
   have e : (((bytesOf s).getD i 0 :: (bytesOf s).drop (i + 1)).all isD && decide (bytesOf s ≠ [])) = false := by
    rw [List.all_cons, h]; simp only [Bool.false_and, Bool.true_and]
   rw [e]
   by_cases h3 : (bytesOf s).getD i 0 < 48
   ·refine Ev.pos (fun _ => by first | omega | trivial | assumption) ?_
    exact Ev.now _
   ·refine Ev.neg (fun _ => by first | omega | assumption | nofun) ?_
    refine Ev.pos (fun _ => by first | omega | trivial | assumption) ?_
    exact Ev.now _
  ·have h2 : 48 ≤ (bytesOf s).getD i 0 ∧ (bytesOf s).getD i 0 ≤ 57 := of_decide_eq_true h
   have e : (((bytesOf s).getD i 0 :: (bytesOf s).drop (i + 1)).all isD && decide (bytesOf s ≠ [])) = (((bytesOf s).drop (i + 1)).all isD && decide (bytesOf s ≠ [])) := by
    rw [List.all_cons, h]; simp only [Bool.false_and, Bool.true_and]
   rw [e]
   refine Ev.neg (fun _ => by first | omega | assumption | nofun) ?_
   refine Ev.neg (fun _ => by first | omega | assumption | nofun) ?_
   rw [w64 (by omega) (by omega)]
   exact ih (i + 1) (by omega) (by omega)
theorem zge (s : ByteArray) (hs : s.size ≤ 2000000000) : Ev (fun k => zec.f k s) ((bytesOf s).all isD && decide (bytesOf s ≠ [])) := by
 have h := ztg s hs _ 0 rfl (Nat.zero_le _)
 simpa [zec.f] using h
theorem short_from (l : List ByteArray) (hl : l.length ≤ 2147483647) : ∀ (n i : Nat), l.length - i = n → i ≤ l.length →
  Ev (fun k => znc.l0 k l l l.length i) (decide (∀ w ∈ l.drop i, w.size ≤ 1200) && decide (l.length ≤ 60)) := by
 intro n
 induction n with
 | zero =>
  intro i hn hi
  refine Ev.succ ?_
  simp only [znc.l0]
  refine Ev.neg (fun _ => by first | omega | assumption | nofun) ?_
  refine Ev.eq (Ev.now _) ?_
  rw [List.drop_of_length_le (by omega)]
  have e : decide ((l.length : Int) ≤ 60) = decide (l.length ≤ 60) := by rw [decide_eq_decide]; omega
  simp [e]
 | succ n ih =>
  intro i hn hi
  have hil : i < l.length := by omega
  refine Ev.succ ?_
  simp only [znc.l0]
  rw [drop_rd hil]
  refine Ev.pos (fun _ => by first | omega | trivial | assumption) ?_
  refine Ev.pos (fun _ => by first | omega | trivial | assumption) ?_
  refine Ev.pos (fun _ => by first | omega | trivial | assumption) ?_
  by_cases h : (rdOf ByteArray.empty l i).size ≤ 1200
  ·refine Ev.neg (fun _ => by first | omega | assumption | nofun) ?_
   rw [w64 (by omega) (by omega)]
   refine Ev.eq (ih (i + 1) (by omega) (by omega)) ?_
   simp [h]
  ·refine Ev.pos (fun _ => by first | omega | trivial | assumption) ?_
   refine Ev.eq (Ev.now _) ?_
   symm
   rw [Bool.and_eq_false_iff]
   left
   rw [decide_eq_false_iff_not]
   exact fun hx => h (hx _ List.mem_cons_self)
theorem short_ev (l : List ByteArray) (hl : l.length ≤ 2147483647) : Ev (fun k => znc.f k l) (decide (∀ w ∈ l, w.size ≤ 1200) && decide (l.length ≤ 60)) := by
 have h := short_from l hl _ 0 rfl (Nat.zero_le _)
 simpa [znc.f] using h
theorem isW_byte {c : Int} (h : isW c = true) : 65 ≤ c ∧ c ≤ 122 := by
 simp only [isW, decide_eq_true_eq] at h
 omega
def wordB (l : List Int) : Bool := decide (l ≠ []) && (l.all isD || l.all isW)
theorem wordB_ascii {l : List Int} (h : wordB l = true) : ∀ x ∈ l, 0 ≤ x ∧ x ≤ 127 := by
 intro x hx
 unfold wordB at h
 rw [Bool.and_eq_true, Bool.or_eq_true] at h
 rcases h.2 with h | h
 ·have := List.all_eq_true.1 h x hx
  simp only [isD, decide_eq_true_eq] at this
  omega
 ·have := isW_byte (List.all_eq_true.1 h x hx)
  omega
theorem wordB_good {l : List Int} (h : wordB l = true) : GoodW (l.map low) := by
 unfold wordB at h
 rw [Bool.and_eq_true, Bool.or_eq_true, decide_eq_true_eq] at h
 unfold GoodW goodW
 rw [Bool.and_eq_true, decide_eq_true_eq]
 refine ⟨fun e => h.1 (List.map_eq_nil_iff.1 e), List.all_eq_true.2 (fun c hc => ?_)⟩
 obtain ⟨x, hx, rfl⟩ := List.mem_map.1 hc
 unfold isAn
 rcases h.2 with h | h
 ·have := List.all_eq_true.1 h x hx
  simp only [isD, decide_eq_true_eq] at this
  rw [Bool.or_eq_true]
  left
  unfold low isD
  rw [if_neg (by omega)]
  exact decide_eq_true this
 ·have := List.all_eq_true.1 h x hx
  simp only [isW, decide_eq_true_eq] at this
  rw [Bool.or_eq_true]
  right
  unfold low isL
  split
  ·exact decide_eq_true (by omega)
  ·exact decide_eq_true (by omega)
theorem small_from (s : ByteArray) (hs : s.size ≤ 2000000000) (ha : ∀ c ∈ bytesOf s, 0 ≤ c ∧ c ≤ 127) : ∀ (n i : Nat) (acc : ByteArray), s.size - i = n → i ≤ s.size → bytesOf acc = ((bytesOf s).take i).map low →
  Ev (fun k => zzb.l0 k s acc i) (strOfNums ((bytesOf s).map low)) := by
 intro n
 induction n with
 | zero =>
  intro i acc hn hi hacc
  refine Ev.succ ?_
  simp only [zzb.l0]
  refine Ev.neg (fun _ => by first | omega | assumption | nofun) ?_
  refine Ev.eq (Ev.now _) ?_
  rw [List.take_of_length_le (by rw [bytesOf_length]; omega)] at hacc
  rw [← hacc, str_B]
 | succ n ih =>
  intro i acc hn hi hacc
  have hl : i < (bytesOf s).length := by rw [bytesOf_length]; omega
  have hz : acc.size = i := by rw [zhe, hacc, List.length_map, List.length_take]; omega
  have hm : (bytesOf s).getD i 0 ∈ bytesOf s := by
   rw [List.getD_eq_getElem?_getD, List.getElem?_eq_getElem hl]
   exact List.getElem_mem hl
  have hr := ha _ hm
  have htk : (bytesOf s).take (i + 1) = (bytesOf s).take i ++ [(bytesOf s).getD i 0] := by
   rw [List.take_add_one, List.getElem?_eq_getElem hl, List.getD_eq_getElem?_getD, List.getElem?_eq_getElem hl]
   rfl
  obtain ⟨c, hc⟩ : ∃ c, c = (bytesOf s).getD i 0 := ⟨_, rfl⟩
  rw [← hc] at hr htk
  have next : ∀ (e : ByteArray), bytesOf e = [low c] → Ev (fun k => zzb.l0 k s (acc ++ e) ((i : Int) + 1)) (strOfNums ((bytesOf s).map low)) := by
   intro e he
   refine ih (i + 1) _ (by omega) (by omega) ?_
   rw [zac, hacc, he, htk, List.map_append]
   rfl
  have other : ¬ (65 ≤ c ∧ c ≤ 90) → (acc.size + (Utf8.encode (wrap32 c)).size ≤ 9223372036854775807) ∧ Ev (fun k => zzb.l0 k s (acc ++ Utf8.encode (wrap32 c)) ((i : Int) + 1)) (strOfNums ((bytesOf s).map low)) := by
   intro h
   have e0 : wrap32 c = c := w32 (by omega) (by omega)
   have e1 := B_encode (c := c) hr.1 (by omega)
   rw [e0]
   refine ⟨by rw [zhe (Utf8.encode c), e1, hz]; show i + 1 ≤ _; omega, next _ ?_⟩
   rw [e1]
   unfold low
   rw [if_neg h]
  refine Ev.succ ?_
  simp only [zzb.l0, zed]
  rw [← hc, w64 (i := (i : Int) + 1) (by omega) (by omega)]
  refine Ev.pos (fun _ => by first | omega | trivial | assumption) ?_
  refine Ev.pos (fun _ => by first | omega | trivial | assumption) ?_
  by_cases h1 : c ≥ 65
  ·refine Ev.pos (fun _ => h1) ?_
   by_cases h2 : c ≤ 90
   ·refine Ev.pos (fun _ => h2) ?_
    have e0 : (c + 32) % 256 = c + 32 := by omega
    have e1 := B_encode (c := c + 32) (by omega) (by omega)
    rw [e0]
    refine Ev.pos (fun _ => by rw [zhe (Utf8.encode (c + 32)), e1, hz]; show i + 1 ≤ _; omega) ?_
    refine next _ ?_
    rw [e1]
    unfold low
    rw [if_pos ⟨h1, h2⟩]
   ·refine Ev.neg (fun _ => h2) ?_
    obtain ⟨o1, o2⟩ := other (fun h => h2 h.2)
    exact Ev.pos (fun _ => o1) o2
  ·refine Ev.neg (fun _ => h1) ?_
   obtain ⟨o1, o2⟩ := other (fun h => h1 h.1)
   exact Ev.pos (fun _ => o1) o2
theorem small_ev (s : ByteArray) (hs : s.size ≤ 2000000000) (ha : ∀ c ∈ bytesOf s, 0 ≤ c ∧ c ≤ 127) : Ev (fun k => zzb.f k s) (strOfNums ((bytesOf s).map low)) := by
 have h := small_from s hs ha _ 0 (⟨#[]⟩ : ByteArray) rfl (Nat.zero_le _) rfl
 simpa [zzb.f] using h
end Go.Proofs.YtlijjnjpomnphaaGreatDoor.V
end
section
namespace Go.Proofs.YtlijjnjpomnphaaGreatDoorG
open Go.RowKit YtlijjnjpomnphaaGreatDoorH YtlijjnjpomnphaaGreatDoorB YtlijjnjpomnphaaGreatDoorM YtlijjnjpomnphaaGreatDoor.Q
def magO : Option (ByteArray × Nat) → ByteArray
 | none => ⟨#[]⟩
 | some p => magB p.2
abbrev ToldT := Bool × ByteArray × List S29 × Bool × ByteArray × Bool × ByteArray × Bool × ByteArray × Bool × ByteArray × Bool × ByteArray × Bool × ByteArray × List ByteArray × List ByteArray × Bool
def toldY (x : YV) : ToldT := (decide (x.leg ≠ []), magB (if x.leg = [] then x.ep else 1), x.rel.map (fun n => ⟨false, magB n⟩), x.pre.isSome, letB x.pre, false, magO x.pre, x.post.isSome, letB x.post, false, magO x.post, x.dev.isSome, letB x.dev, false, magO x.dev, x.loc, x.leg, true)
end Go.Proofs.YtlijjnjpomnphaaGreatDoorG
end
section
namespace Go.Proofs.YtlijjnjpomnphaaGreatDoor.V
open Go.RowKit YtlijjnjpomnphaaGreatDoor.Q YtlijjnjpomnphaaGreatDoorG YtlijjnjpomnphaaGreatDoorY YtlijjnjpomnphaaGreatDoorP YtlijjnjpomnphaaGreatDoorH YtlijjnjpomnphaaGreatDoorB YtlijjnjpomnphaaGreatDoorM YtlijjnjpomnphaaGreatDoorW.PrintWords YtlijjnjpomnphaaGreatDoorW.PrintLast
theorem zkc (s t : ByteArray) : (s ++ t).size = s.size + t.size := ByteArray.size_append
def epO (e : Int) : Option (List Int) := if e > 0 then some (dec e) else none
def kindW (k : Int) : List Int := if k = 1 then [97] else if k = 2 then [98] else wRc
def preO (k n : Int) : Option (List Int × List Int) := if Int.tmod k 4 > 0 then some (kindW (Int.tmod k 4), dec n) else none
def numO (b : Bool) (n : Int) : Option (List Int) := if b = true then some (dec n) else none
def sP (e : Int) (ns : List Int) (k a b c : Int) (hp hd : Bool) (L : List (List Int)) : Parts := ⟨epO e, ns.map dec, preO k a, numO hp b, numO hd c, L⟩
def lows (l : List ByteArray) : List (List Int) := l.map fun w => (bytesOf w).map low
def tOk (ns : List Int) (l : List ByteArray) : Prop := ns ≠ [] ∧ ns.length ≤ 60 ∧ l.length ≤ 60 ∧ (∀ w ∈ l, w.size ≤ 1200) ∧ ∀ w ∈ l, wordB (bytesOf w) = true
instance (ns : List Int) (l : List ByteArray) : Decidable (tOk ns l) := inferInstanceAs (Decidable (ns ≠ [] ∧ ns.length ≤ 60 ∧ l.length ≤ 60 ∧ (∀ w ∈ l, w.size ≤ 1200) ∧ ∀ w ∈ l, wordB (bytesOf w) = true))
abbrev TextT := ByteArray × ToldT
def failT : TextT := (⟨#[]⟩, false, ⟨#[]⟩, [], false, ⟨#[]⟩, false, ⟨#[]⟩, false, ⟨#[]⟩, false, ⟨#[]⟩, false, ⟨#[]⟩, false, ⟨#[]⟩, [], [], false)
def zcf (e : Int) (ns : List Int) (k a b c : Int) (hp hd : Bool) (l : List ByteArray) : List Int := (sP e ns k a b c hp hd (l.map bytesOf)).text
def stageV (e : Int) (ns : List Int) (k a b c : Int) (hp hd : Bool) (l : List ByteArray) : YV := valP (sP e ns k a b c hp hd (lows l)).told
def wordL (l : List ByteArray) : List ByteArray := l.map fun w => strOfNums ((bytesOf w).map low)
theorem zeg (w : List Int) : ∀ ws : List (List Int), joinW (w :: ws) = w ++ ws.flatMap (fun x => 46 :: x)
 | [] => by simp [joinW]
 | v :: ws => by simp only [joinW, zeg v ws, List.flatMap_cons, List.cons_append]
def hasL (o : Option (List Int)) (w : List Int) : Option (ByteArray × Nat) := o.map fun d => toldL (w, d)
def hasP (o : Option (List Int × List Int)) : Option (ByteArray × Nat) := o.map toldL
theorem kind_cases {k : Int} (h0 : 0 ≤ k) : Int.tmod k 4 = 0 ∨ Int.tmod k 4 = 1 ∨ Int.tmod k 4 = 2 ∨ Int.tmod k 4 = 3 := by
 rw [Int.tmod_eq_emod_of_nonneg h0]; omega
def intsN (ds : List Int) : List S29 := ds.map fun d => ⟨false, magB d.toNat⟩
theorem relT_cons (d : List Int) : ∀ ds : List (List Int), relT (d :: ds) = d ++ ds.flatMap (fun x => 46 :: x)
 | [] => by simp [relT]
 | v :: ds => by simp only [relT, relT_cons v ds, List.flatMap_cons, List.cons_append]
section
variable {e : Int} {ns : List Int} {k a b c : Int} {hp hd : Bool} {l : List ByteArray}
theorem zsd (x : Int) : Digs (dec x) := ⟨dec_ne x, zpg x⟩
theorem sP_ok {L : List (List Int)} (hns : ns ≠ []) (hL : ∀ w ∈ L, GoodW w) : (sP e ns k a b c hp hd L).Ok := by
 refine ⟨fun x h => ?_, ⟨fun h => hns (List.map_eq_nil_iff.1 h), fun x h => ?_⟩, fun x h => ?_, fun x h => ?_, fun x h => ?_, hL⟩
 ·have h2 : epO e = some x := h
  unfold epO at h2
  split at h2
  ·cases h2; exact zsd e
  ·cases h2
 ·obtain ⟨y, _, rfl⟩ := List.mem_map.1 h
  exact zsd y
 ·have h2 : preO k a = some x := h
  unfold preO at h2
  split at h2
  ·cases h2
   refine ⟨zsd a, ?_⟩
   unfold kindW
   split
   ·simp
   ·split <;> simp
  ·cases h2
 ·have h2 : numO hp b = some x := h
  unfold numO at h2
  split at h2
  ·cases h2; exact zsd b
  ·cases h2
 ·have h2 : numO hd c = some x := h
  unfold numO at h2
  split at h2
  ·cases h2; exact zsd c
  ·cases h2
theorem lows_good (hw : ∀ w ∈ l, wordB (bytesOf w) = true) : ∀ w ∈ lows l, GoodW w := by
 intro w h
 obtain ⟨x, hx, rfl⟩ := List.mem_map.1 h
 exact wordB_good (hw x hx)
theorem sP_told (he : 0 ≤ e) (hok : (sP e ns k a b c hp hd (lows l)).Ok) : toldY (stageV e ns k a b c hp hd l) = (false, magB e.toNat, intsN ns, (preO k a).isSome, letB (hasP (preO k a)), false, magO (hasP (preO k a)), (numO hp b).isSome, letB (hasL (numO hp b) wPost), false, magO (hasL (numO hp b) wPost), (numO hd c).isSome, letB (hasL (numO hd c) wDev), false, magO (hasL (numO hd c) wDev), if l = [] then [⟨#[]⟩] else wordL l, [], true) := by
 have e1 : decL ((epO e).getD []) = e.toNat := by
  unfold epO
  split
  ·exact zmf e
  ·show 0 = _; omega
 have e2 : ((ns.map dec).map decL).map (fun n => (⟨false, magB n⟩ : S29)) = intsN ns := by
  rw [List.map_map, List.map_map]
  refine List.map_congr_left (fun x _ => ?_)
  show (⟨false, magB (decL (dec x))⟩ : S29) = _
  rw [zmf]
 have e3 : (if lows l = [] then [[]] else lows l).map strOfNums = if l = [] then [(⟨#[]⟩ : ByteArray)] else wordL l := by
  cases l with
  | nil => rfl
  | cons x l =>
   rw [if_neg (by simp [lows]), if_neg (by simp)]
   unfold lows wordL
   rw [List.map_map]
   rfl
 unfold stageV
 rw [told_val hok]
 unfold toldY sP
 simp only [ne_eq, not_true_eq_false, decide_false, if_true, Option.isSome_map, e1, e2, e3]
 rfl
end
theorem map_flat (f : Int → Int) (h46 : f 46 = 46) : ∀ ws : List (List Int), (ws.flatMap fun x => 46 :: x).map f = (ws.map (List.map f)).flatMap fun x => 46 :: x
 | [] => rfl
 | w :: ws => by simp only [List.flatMap_cons, List.map_append, List.map_cons, h46, map_flat f h46 ws]
theorem locT_low (ws : List (List Int)) : (locT ws).map low = locT (ws.map (List.map low)) := by
 cases ws with
 | nil => rfl
 | cons w ws =>
  simp only [locT, zeg, List.map_cons, List.map_append, map_flat low (by decide)]
  rfl
theorem stage_low (e : Int) (ns : List Int) (k a b c : Int) (hp hd : Bool) (l : List ByteArray) (hok : (sP e ns k a b c hp hd (lows l)).Ok) : (zcf e ns k a b c hp hd l).map low = (sP e ns k a b c hp hd (lows l)).text := by
 have h := (Lw.text hok).id
 unfold zcf Parts.text
 unfold Parts.text at h
 simp only [List.map_append] at h ⊢
 show (epT (epO e)).map low ++ ((relT (ns.map dec)).map low ++ ((preT (preO k a)).map low ++ ((postT (numO hp b)).map low ++ ((devT (numO hd c)).map low ++ (locT (l.map bytesOf)).map low)))) = _
 rw [locT_low]
 have e1 : (l.map bytesOf).map (List.map low) = lows l := by rw [List.map_map]; rfl
 rw [e1]
 refine Eq.trans ?_ h
 have e2 : (locT (lows l)).map low = locT (lows l) := by
  refine Lw.id ?_
  cases hL : lows l with
  | nil => exact Lw.nil
  | cons w ws => exact Lw.cons (by decide) (Lw.joinW (fun x hx => hok.loc x (by show x ∈ lows l; rw [hL]; exact hx)))
 show _ = (epT (epO e)).map low ++ ((relT (ns.map dec)).map low ++ ((preT (preO k a)).map low ++ ((postT (numO hp b)).map low ++ ((devT (numO hd c)).map low ++ (locT (lows l)).map low))))
 rw [e2]
end Go.Proofs.YtlijjnjpomnphaaGreatDoor.V
end
section
namespace Go.Proofs.YtlijjnjpomnphaaGreatDoorH
open Go.RowKit YtlijjnjpomnphaaGreatDoorC YtlijjnjpomnphaaGreatDoorW.PrintWords YtlijjnjpomnphaaGreatDoorW.PrintLast
theorem there_blk {w : World} {b : Nat} {cs : Array Value} {t : TypeId} {n : Nat} (hb : w.heap[b]? = some (.cells cs t (0, 0))) (hn : n = cs.size) : w.there b 0 n := fun j hj => by
 rw [Nat.zero_add]
 refine ⟨?_, zr hb j⟩
 rw [zi hb j]
 simp only [Array.getElem?_eq_getElem (show j < cs.size by omega), Option.isSome_some]
theorem ztf {P : Program} {ops : Array Oper} {rest : List Oper} {op : Oper} {a : Act} {w : World} {Q : Exit → Act → World → Prop} (hgd : op.guard = none) (ty : TypeId) (x y : Operand) (ho : op.op = .store ty x y)
    (b : Nat) (cs bs : Array Value) (t : TypeId) (hx : a.eval x = .pointer (some ⟨b, 0, none⟩)) (hy : a.eval y = .agg bs) (hb : w.heap[b]? = some (.cells cs t (0, 0))) (hn : bs.size = cs.size)
    (hi : (P.info? ty).map (·.size) = some bs.size) (h1 : bs.toList.all (·.oneCell') = true) (h : wpList P ops Q rest (a.put op.dst undef) (w.setCells b 0 bs.toList)) : wpList P ops Q (op :: rest) a w :=
  wpList_store_mid hgd ty x y ho b 0 bs hx hy (there_blk hb hn) hi (by rw [← Array.all_toList]; exact h1) h
theorem exec_blk {P : Program} {op : Oper} {a : Act} {w : World} (ty : TypeId) (x y : Operand) (ho : op.op = .store ty x y)
    (b : Nat) (cs bs : Array Value) (t : TypeId) (hx : a.eval x = .pointer (some ⟨b, 0, none⟩)) (hy : a.eval y = .agg bs) (hb : w.heap[b]? = some (.cells cs t (0, 0))) (hn : bs.size = cs.size)
    (hi : (P.info? ty).map (·.size) = some bs.size) (h1 : bs.toList.all (·.oneCell') = true) : (execOp a.eval op).run P w = .ok .skip (w.setCells b 0 bs.toList) := by
  unfold execOp
  simp only [ho, hx, hy, Sem.run_bind, Sem.run_pure, Result.andThen_ok, run_storeAt_mid w b 0 ty bs (there_blk hb hn) hi (by rw [← Array.all_toList]; exact h1)]
end Go.Proofs.YtlijjnjpomnphaaGreatDoorH
end
section
namespace Go.Proofs.YtlijjnjpomnphaaGreatDoor.V
open Go.RowKit YtlijjnjpomnphaaGreatDoor.Q YtlijjnjpomnphaaGreatDoorG YtlijjnjpomnphaaGreatDoorH YtlijjnjpomnphaaGreatDoorB YtlijjnjpomnphaaGreatDoorC YtlijjnjpomnphaaGreatDoorM YtlijjnjpomnphaaGreatDoorY YtlijjnjpomnphaaGreatDoorP YtlijjnjpomnphaaGreatDoorW.PrintWords YtlijjnjpomnphaaGreatDoorW.PrintLast YtlijjnjpomnphaaGreatDoorW.PrintMore
theorem zse {w w' : World} (h : zl w w') : Below w.heap.size w w' := by obtain ⟨nd, rfl⟩ := h; exact ze (Below.refl _ _) nd
def dS (a : Int) : ByteArray := strOfNums (dec a)
theorem zag {a : Int} (h : U16 a) : (dS a).size ≤ 5 := dec_size h
theorem dS_B (a : Int) : bytesOf (dS a) = dec a := zeh (zpg a)
theorem zhf (w : World) {a : Int} (h : U16 a) : Calls Tryz.prog 21 #[.int .u16 a] w fun e w' => e = .returned (.string (dS a)) ∧ Below w.heap.size w w' := by
 obtain ⟨k, hk⟩ := decimal_ev h
 exact (zbc.calls k a _ w (hk k (Nat.le_refl _))).mono fun _ _ h => ⟨h.1, zse h.2⟩
theorem number_ (w : World) {a : Int} (h : U16 a) : Calls Tryz.prog 36 #[.string (dS a)] w fun e w' => e = .returned (.agg #[.bool false, .string (magB a.toNat)]) ∧ Below w.heap.size w w' := by
 obtain ⟨k, hk⟩ := number_dec h
 exact zce.calls k (dS a) _ _ w (hk k (Nat.le_refl _))
def shortB (l : List ByteArray) : Bool := decide (∀ w ∈ l, w.size ≤ 1200) && decide (l.length ≤ 60)
theorem short_ (w : World) {A : Option Addr} {c : Nat} {l : List ByteArray} (hr : Kd.C Kd.string w A l.length l) (hc : l.length ≤ c) (hl : l.length ≤ 2147483647) :
  Calls Tryz.prog 18 #[.slice A l.length c] w fun e w' => e = .returned (.bool (shortB l)) ∧ Below w.heap.size w w' := by
 obtain ⟨k, hk⟩ := short_ev l hl
 exact (znc.calls k A c l _ w hr hc (hk k (Nat.le_refl _))).mono fun _ _ h => ⟨h.1, zse h.2⟩
def digB (s : ByteArray) : Bool := (bytesOf s).all isD && decide (bytesOf s ≠ [])
def wrdB (s : ByteArray) : Bool := (bytesOf s).all isW && decide (bytesOf s ≠ [])
theorem digits_ (w : World) {s : ByteArray} (hs : s.size ≤ 2000000000) : Calls Tryz.prog 37 #[.string s] w fun e w' => e = .returned (.bool (digB s)) ∧ Below w.heap.size w w' := by
 obtain ⟨k, hk⟩ := zge s hs
 exact (zec.calls k s _ w (hk k (Nat.le_refl _))).mono fun _ _ h => ⟨h.1, zse h.2⟩
theorem words_ (w : World) {s : ByteArray} (hs : s.size ≤ 2000000000) : Calls Tryz.prog 38 #[.string s] w fun e w' => e = .returned (.bool (wrdB s)) ∧ Below w.heap.size w w' := by
 obtain ⟨k, hk⟩ := words_ev s hs
 exact (zgc.calls k s _ w (hk k (Nat.le_refl _))).mono fun _ _ h => ⟨h.1, zse h.2⟩
def smS (s : ByteArray) : ByteArray := strOfNums ((bytesOf s).map low)
theorem wordB_or {s : ByteArray} : wordB (bytesOf s) = (digB s || wrdB s) := by
 unfold wordB digB wrdB
 cases decide (bytesOf s ≠ []) <;> simp
theorem small_ (w : World) {s : ByteArray} (hs : s.size ≤ 2000000000) (hw : wordB (bytesOf s) = true) : Calls Tryz.prog 31 #[.string s] w fun e w' => e = .returned (.string (smS s)) ∧ Below w.heap.size w w' := by
 obtain ⟨k, hk⟩ := small_ev s hs (wordB_ascii hw)
 exact (zzb.calls k s _ w (hk k (Nat.le_refl _))).mono fun _ _ h => ⟨h.1, zse h.2⟩
theorem cellAt {w : World} {g : Nat} {cs : Array Value} {t : TypeId} (h : w.heap[g]? = some (.cells cs t (0, 0))) (i : Nat) {v : Value} (e : cs[i]? = some v) : w.cell? ⟨g, i, none⟩ = some v := (zi h i).trans e
theorem zch {w : World} {g : Nat} {t : TypeId} {cs bs : Array Value} (h : w.heap[g]? = some (.cells cs t (0, 0))) (hn : bs.size = cs.size) : (w.setCells g 0 bs.toList).heap[g]? = some (.cells bs t (0, 0)) := by
 obtain ⟨c, h1, h2, h3⟩ := zrh bs.toList 0 w cs h (by simp [hn])
 rw [List.take_zero, List.nil_append, List.drop_of_length_le (by simp [hn]), List.append_nil] at h3
 rw [h1, Array.toList_inj.1 h3]
theorem exec_load {P : Program} {op : Oper} {a : Act} {w : World} (ty : TypeId) (x : Operand) (ho : op.op = .load ty x) (g : Nat) (hx : a.eval x = .pointer (some ⟨g, 0, none⟩)) (t : TypeId) (cs : Array Value) (fr : Nat × Nat) (d : TypeDesc) (hg : w.heap[g]? = some (.cells cs t fr))
    (hu : P.underlying ty = some d) (hd : (match d with | .struct _ | .array _ _ => true | _ => false) = true) (hi : (P.info? ty).map (·.size) = some cs.size) : (execOp a.eval op).run P w = .ok (.value (.agg cs)) w := by
  unfold execOp
  simp only [ho, hx, Instr.loadAt, Instr.sureAddr, Sem.run_bind, Sem.run_pure, Result.andThen_ok, run_loadVar_row w g t ty cs fr d hg hu hd hi]
theorem zte {w W : World} {g : Nat} {l : List Value} (h : Below w.heap.size w W) (hg : w.heap.size ≤ g) : Below w.heap.size w (W.setCells g 0 l) := by
 have q := zwg g l 0 W
 exact ⟨q.1.trans h.os, q.2.1.trans h.tape, q.2.2.1.trans h.output, by rw [q.2.2.2]; exact h.size, fun b hb => (zvd l 0 b (by omega)).trans (h.block b hb)⟩
abbrev RInts (w wr : World) (rv : Value) (xs : List S29) : Prop := Kd.R k29 29 wr w.heap.size (fun _ => True) rv xs
abbrev RTexts (w wr : World) (lv : Value) (ys : List ByteArray) : Prop := Kd.R Kd.string 9 wr w.heap.size (fun _ => True) lv ys
structure T0 (w wr : World) (g1 g3 : Nat) (S : Array Value) : Prop where
 b1 : wr.heap[g1]? = some (.cells S 26 (0, 0))
 b3 : wr.heap[g3]? = some (.cells #[.bool false, .string ⟨#[]⟩, .slice none 0 0, .bool false, .string ⟨#[]⟩, .bool false, .string ⟨#[]⟩, .bool false, .string ⟨#[]⟩, .bool false, .string ⟨#[]⟩, .bool false, .string ⟨#[]⟩, .bool false, .string ⟨#[]⟩, .slice none 0 0, .slice none 0 0] 34 (0, 0))
 below : Below w.heap.size w wr
theorem T0.to {w wr w' : World} {g1 g3 : Nat} {S : Array Value} (H : T0 w wr g1 g3 S) (k : Below wr.heap.size wr w') : T0 w w' g1 g3 S := ⟨zj H.b1 k, zj H.b3 k, zq H.below H.below.size k⟩
structure TInv (w wr : World) (g1 g3 g5 : Nat) (S C : Array Value) (rv lv : Value) (xs : List S29) (ys : List ByteArray) : Prop where
 t : T0 w wr g1 g3 S
 b5 : wr.heap[g5]? = some (.cells C 34 (0, 0))
 n1 : g1 ≠ g5
 n3 : g3 ≠ g5
 l5 : w.heap.size ≤ g5
 ro : RInts w wr rv xs
 lo : RTexts w wr lv ys
def notP (t : TypeId) : Bool := t != 34
section
variable {w wr : World} {g1 g3 g5 : Nat} {S C : Array Value} {rv lv : Value} {xs : List S29} {ys : List ByteArray}
theorem TInv.to (H : TInv w wr g1 g3 g5 S C rv lv xs ys) {w' : World} (k : Below wr.heap.size wr w') : TInv w w' g1 g3 g5 S C rv lv xs ys := ⟨H.t.to k, zj H.b5 k, H.n1, H.n3, H.l5, Kd.R_below H.ro k, Kd.R_below H.lo k⟩
theorem TInv.put (H : TInv w wr g1 g3 g5 S C rv lv xs ys) (j : Nat) (v : Value) : TInv w (wr.setCell ⟨g5, j, none⟩ v) g1 g3 g5 S (C.setIfInBounds j v) rv lv xs ys :=
 ⟨⟨zlc H.t.b1 (p := ⟨g5, j, none⟩) (fun e => H.n1 e) v, zlc H.t.b3 (p := ⟨g5, j, none⟩) (fun e => H.n3 e) v, H.t.below.setCell (p := ⟨g5, j, none⟩) H.l5 v⟩, zv H.b5 j v rfl, H.n1, H.n3, H.l5, zpe (p := notP) rfl (by decide) H.ro (KeptT.set H.b5 (by decide) j v), zpe (p := notP) rfl (by decide) H.lo (KeptT.set H.b5 (by decide) j v)⟩
theorem TInv.ints (H : TInv w wr g1 g3 g5 S C rv lv xs ys) {w' : World} {v : Value} {xs' : List S29} (ho : RInts w w' v xs') (hg : wr.grownBy w' rv.ownBlock) : TInv w w' g1 g3 g5 S C v lv xs' ys := by
 have K : KeptT (fun t => t != 29) wr w' := KeptT.row (by decide) H.ro hg
 exact ⟨⟨K.blk H.t.b1 (by decide), K.blk H.t.b3 (by decide), H.t.below.grown hg H.t.below.size (fun b e => Kd.R_base H.ro b e)⟩, K.blk H.b5 (by decide), H.n1, H.n3, H.l5, ho, zpe rfl (by decide) H.lo K⟩
theorem TInv.texts (H : TInv w wr g1 g3 g5 S C rv lv xs ys) {w' : World} {v : Value} {ys' : List ByteArray} (ho : RTexts w w' v ys') (hg : wr.grownBy w' lv.ownBlock) : TInv w w' g1 g3 g5 S C rv v xs ys' := by
 have K : KeptT (fun t => t != 9) wr w' := KeptT.row (by decide) H.lo hg
 exact ⟨⟨K.blk H.t.b1 (by decide), K.blk H.t.b3 (by decide), H.t.below.grown hg H.t.below.size (fun b e => Kd.R_base H.lo b e)⟩, K.blk H.b5 (by decide), H.n1, H.n3, H.l5, zpe rfl (by decide) H.ro K, ho⟩
theorem TInv.store (H : TInv w wr g1 g3 g5 S C rv lv xs ys) (bs : Array Value) (hn : bs.size = C.size) : TInv w (wr.setCells g5 0 bs.toList) g1 g3 g5 S bs rv lv xs ys := by
 have K : KeptT notP wr (wr.setCells g5 0 bs.toList) := zyf H.b5 (by decide) (fun b h => zvd _ _ b h)
 exact ⟨⟨(zvd _ _ _ H.n1).trans H.t.b1, (zvd _ _ _ H.n3).trans H.t.b3, zte H.t.below H.l5⟩, zch H.b5 hn, H.n1, H.n3, H.l5, zpe rfl (by decide) H.ro K, zpe rfl (by decide) H.lo K⟩
theorem TInv.lnil (H : TInv w wr g1 g3 g5 S C rv lv xs ys) : TInv w wr g1 g3 g5 S C rv (.slice none 0 0) xs [] := ⟨H.t, H.b5, H.n1, H.n3, H.l5, H.ro, Kd.R_nil _ _ _ _ _⟩
end
def StageP (w : World) : TextT → Ending → World → Prop
 | (R, n, m, rel, b1, t1, b2, t2, b3, t3, b4, t4, b5, t5, b6, t6, loc, leg, ok), e, w' => ∃ v3 v16 v17 : Value, e = .returned (.tuple #[.string R, .agg #[.bool n, .string m, v3, .bool b1, .string t1, .bool b2, .string t2, .bool b3, .string t3, .bool b4, .string t4, .bool b5, .string t5, .bool b6, .string t6, v16, v17], .bool ok]) ∧
  Kd.R k29 29 w' w.heap.size (fun _ => True) v3 rel ∧ Kd.R Kd.string 9 w' w.heap.size (fun k_ => some k_ ≠ (v17 : Value).ownBlock) v16 loc ∧ Kd.R Kd.string 9 w' w.heap.size (fun k_ => some k_ ≠ (v16 : Value).ownBlock) v17 leg ∧ Below w.heap.size w w'
theorem zqe : (Tryz.prog.info? 34).map (·.size) = some 17 := by kernel_rfl
theorem stage_fail {w W : World} {g1 g3 : Nat} {S : Array Value} (H : T0 w W g1 g3 S) (h3 : w.heap.size ≤ g3) : StageP w failT (.returned (.tuple #[.string ⟨#[]⟩, .agg #[.bool false, .string ⟨#[]⟩, .slice none 0 0, .bool false, .string ⟨#[]⟩, .bool false, .string ⟨#[]⟩, .bool false, .string ⟨#[]⟩, .bool false, .string ⟨#[]⟩, .bool false, .string ⟨#[]⟩, .bool false, .string ⟨#[]⟩, .slice none 0 0, .slice none 0 0], .bool false])) (W.setCells g3 0 (#[.bool false, .string ⟨#[]⟩, .slice none 0 0, .bool false, .string ⟨#[]⟩, .bool false, .string ⟨#[]⟩, .bool false, .string ⟨#[]⟩, .bool false, .string ⟨#[]⟩, .bool false, .string ⟨#[]⟩, .bool false, .string ⟨#[]⟩, .slice none 0 0, .slice none 0 0] : Array Value).toList) :=
 ⟨_, _, _, rfl, Kd.R_nil _ _ _ _ _, Kd.R_nil _ _ _ _ _, Kd.R_nil _ _ _ _ _, zte H.below h3⟩
def kb : Nat → ByteArray
 | 0 => ⟨#[97]⟩
 | 1 => ⟨#[98]⟩
 | _ => ⟨#[114, 99]⟩
theorem pre_none {k a : Int} (h : ¬ Int.tmod k 4 > 0) : preO k a = none := by unfold preO; rw [if_neg h]
theorem pre_some {k a : Int} {j : Nat} (h : Int.tmod k 4 = (j : Int) + 1) (hj : j < 3) : (preO k a).isSome = true ∧ letB (hasP (preO k a)) = kb j ∧ magO (hasP (preO k a)) = magB a.toNat ∧ preT (preO k a) = bytesOf (kb j) ++ dec a := by
 have e : preO k a = some (kindW (Int.tmod k 4), dec a) := by unfold preO; rw [if_pos (by omega)]
 rw [e, h]
 have hm : ∀ x : List Int, magO (hasP (some (x, dec a))) = magB a.toNat := fun x => by
  show magB (decL (dec a)) = _
  rw [zmf]
 have sp : ∀ (x : List Int) (s : ByteArray), strOfNums (spell x) = s → letB (hasP (some (x, dec a))) = s := fun x s h => h
 match j, hj with
 | 0, _ => exact ⟨rfl, sp _ _ (by decide), hm _, rfl⟩
 | 1, _ => exact ⟨rfl, sp _ _ (by decide), hm _, rfl⟩
 | 2, _ => exact ⟨rfl, sp _ _ (by decide), hm _, rfl⟩
theorem kb_at {j : Nat} (hj : j < 3) : (#[.string ⟨#[97]⟩, .string ⟨#[98]⟩, .string ⟨#[114, 99]⟩] : Array Value)[j]? = some (.string (kb j)) := by
 match j, hj with
 | 0, _ => rfl
 | 1, _ => rfl
 | 2, _ => rfl
theorem kb_size (j : Nat) : (kb j).size ≤ 2 := by
 match j with
 | 0 => decide
 | 1 => decide
 | _ + 2 => exact Nat.le_refl 2
theorem num_some (b : Int) : (numO true b).isSome = true := rfl
theorem num_mag (b : Int) (w : List Int) : magO (hasL (numO true b) w) = magB b.toNat := by
 show magB (decL (dec b)) = _
 rw [zmf]
theorem post_word : strOfNums (spell wPost) = ⟨#[112, 111, 115, 116]⟩ := by rfl
theorem dev_word : strOfNums (spell wDev) = ⟨#[100, 101, 118]⟩ := by rfl
theorem num_word {b : Int} {w : List Int} {s : ByteArray} (h : strOfNums (spell w) = s) : letB (hasL (numO true b) w) = s := h
theorem relT_snoc {R : List (List Int)} (h : R ≠ []) (x : List Int) : relT (R ++ [x]) = relT R ++ 46 :: x := by
 cases R with
 | nil => exact absurd rfl h
 | cons d ds => rw [List.cons_append, relT_cons, relT_cons]; simp
theorem joinW_snoc {R : List (List Int)} (h : R ≠ []) (x : List Int) : joinW (R ++ [x]) = joinW R ++ 46 :: x := by
 cases R with
 | nil => exact absurd rfl h
 | cons d ds => rw [List.cons_append, zeg, zeg]; simp
def relN (ns : List Int) (i : Nat) : List Int := relT ((ns.take i).map dec)
theorem relN_step {ns : List Int} {i : Nat} (h : i < ns.length) : relN ns (i + 1) = relN ns i ++ ((if i = 0 then [] else [46]) ++ dec (rd ns (i : Int))) := by
 have e : ns.take (i + 1) = ns.take i ++ [rd ns (i : Int)] := by
  rw [List.take_add_one, List.getElem?_eq_getElem h, rd_nat, List.getD_eq_getElem?_getD, List.getElem?_eq_getElem h]
  rfl
 unfold relN
 rw [e, List.map_append]
 by_cases h0 : i = 0
 ·subst h0
  simp [relT]
 ·rw [if_neg h0]
  exact relT_snoc (fun h1 => by have := congrArg List.length h1; rw [List.length_map, List.length_take, List.length_nil] at this; omega) _
theorem relN_len {ns : List Int} (h : ∀ x ∈ ns, U16 x) (i : Nat) : (relN ns i).length ≤ 6 * ns.length := by
 have := relT_len ((ns.take i).map dec) (fun d hd => by
  obtain ⟨x, hx, rfl⟩ := List.mem_map.1 hd
  exact zcg (h x (List.mem_of_mem_take hx)))
 rw [List.length_map, List.length_take] at this
 unfold relN
 omega
def locN (l : List ByteArray) (i : Nat) : List Int := locT ((l.take i).map bytesOf)
theorem take_snoc {l : List ByteArray} {i : Nat} (h : i < l.length) : l.take (i + 1) = l.take i ++ [rdOf ByteArray.empty l (i : Int)] := by
 rw [List.take_add_one, List.getElem?_eq_getElem h]
 show _ = _ ++ [l.getD ((i : Int).toNat) _]
 rw [Int.toNat_natCast, List.getD_eq_getElem?_getD, List.getElem?_eq_getElem h]
 rfl
theorem locN_step {l : List ByteArray} {i : Nat} (h : i < l.length) : locN l (i + 1) = locN l i ++ ((if i = 0 then [43] else [46]) ++ bytesOf (rdOf ByteArray.empty l (i : Int))) := by
 unfold locN
 rw [take_snoc h, List.map_append]
 by_cases h0 : i = 0
 ·subst h0
  simp [locT, joinW]
 ·rw [if_neg h0]
  have hne : (l.take i).map bytesOf ≠ [] := fun h1 => by have := congrArg List.length h1; rw [List.length_map, List.length_take, List.length_nil] at this; omega
  have e2 : ∀ ws : List (List Int), ws ≠ [] → locT ws = 43 :: joinW ws := fun ws hw => by
   cases ws with
   | nil => exact absurd rfl hw
   | cons x ws => rfl
  rw [e2 _ hne, e2 _ (by simp), List.map_cons, List.map_nil, joinW_snoc hne]
  simp
theorem locN_len {l : List ByteArray} (h : ∀ w ∈ l, w.size ≤ 1200) (i : Nat) : (locN l i).length ≤ 1201 * l.length + 1 := by
 have := locT_len ((l.take i).map bytesOf) (fun d hd => by
  obtain ⟨x, hx, rfl⟩ := List.mem_map.1 hd
  rw [bytesOf_length]
  exact h x (List.mem_of_mem_take hx))
 rw [List.length_map, List.length_take] at this
 unfold locN
 omega
theorem stage_good {w W : World} {g1 g3 g5 : Nat} {S : Array Value} {rv lv : Value} {e k a b c : Int} {hp hd : Bool} {ns : List Int} {l : List ByteArray} {T Me pl pm ql qm dl dm : ByteArray} {pb qb db : Bool} (hok : tOk ns l) (he : U16 e) (hT : bytesOf T = zcf e ns k a b c hp hd l)
  (hM : Me = magB e.toNat) (hP : pb = (preO k a).isSome ∧ pl = letB (hasP (preO k a)) ∧ pm = magO (hasP (preO k a))) (hQ : qb = (numO hp b).isSome ∧ ql = letB (hasL (numO hp b) wPost) ∧ qm = magO (hasL (numO hp b) wPost)) (hD : db = (numO hd c).isSome ∧ dl = letB (hasL (numO hd c) wDev) ∧ dm = magO (hasL (numO hd c) wDev))
  (H : TInv w W g1 g3 g5 S #[.bool false, .string Me, rv, .bool pb, .string pl, .bool false, .string pm, .bool qb, .string ql, .bool false, .string qm, .bool db, .string dl, .bool false, .string dm, lv, .slice none 0 0] rv lv (intsN ns) (if l = [] then [⟨#[]⟩] else wordL l)) (h3 : w.heap.size ≤ g3) :
  StageP w (strOfNums (zcf e ns k a b c hp hd l), toldY (stageV e ns k a b c hp hd l)) (.returned (.tuple #[.string T, .agg #[.bool false, .string Me, rv, .bool pb, .string pl, .bool false, .string pm, .bool qb, .string ql, .bool false, .string qm, .bool db, .string dl, .bool false, .string dm, lv, .slice none 0 0], .bool true])) (W.setCells g3 0 (#[.bool false, .string Me, rv, .bool pb, .string pl, .bool false, .string pm, .bool qb, .string ql, .bool false, .string qm, .bool db, .string dl, .bool false, .string dm, lv, .slice none 0 0] : Array Value).toList) := by
 have hTT : T = strOfNums (zcf e ns k a b c hp hd l) := by rw [← hT, str_B]
 have hok2 : (sP e ns k a b c hp hd (lows l)).Ok := sP_ok hok.1 (lows_good hok.2.2.2.2)
 rw [sP_told he.1 hok2, ← hTT, ← hM, ← hP.1, ← hP.2.1, ← hP.2.2, ← hQ.1, ← hQ.2.1, ← hQ.2.2, ← hD.1, ← hD.2.1, ← hD.2.2]
 have K : KeptT notP W (W.setCells g3 0 (#[.bool false, .string Me, rv, .bool pb, .string pl, .bool false, .string pm, .bool qb, .string ql, .bool false, .string qm, .bool db, .string dl, .bool false, .string dm, lv, .slice none 0 0] : Array Value).toList) := zyf H.t.b3 (by decide) (fun b h => zvd _ _ b h)
 exact ⟨rv, lv, .slice none 0 0, rfl, zpe (p := notP) rfl (by decide) H.ro K, Kd.R_mono (zpe (p := notP) rfl (by decide) H.lo K) (fun _ _ => by simp [Value.ownBlock]), Kd.R_nil _ _ _ _ _, zte H.t.below h3⟩
theorem wordL_snoc (l : List ByteArray) (x : ByteArray) : wordL (l ++ [x]) = wordL l ++ [smS x] := by unfold wordL smS; rw [List.map_append]; rfl
end Go.Proofs.YtlijjnjpomnphaaGreatDoor.V
end
section
namespace Go.Proofs.YtlijjnjpomnphaaGreatDoor.V
open Go.RowKit YtlijjnjpomnphaaGreatDoor.Q YtlijjnjpomnphaaGreatDoorG YtlijjnjpomnphaaGreatDoorY YtlijjnjpomnphaaGreatDoorP YtlijjnjpomnphaaGreatDoorH YtlijjnjpomnphaaGreatDoorB YtlijjnjpomnphaaGreatDoorM YtlijjnjpomnphaaGreatDoorW.PrintWords YtlijjnjpomnphaaGreatDoorW.PrintLast YtlijjnjpomnphaaGreatDoorW.PrintMore
theorem core_text (ns : List Int) : zcf 0 ns 0 0 0 0 false false [] = relT (ns.map dec) := by
 show [] ++ (relT (ns.map dec) ++ ([] ++ ([] ++ ([] ++ [])))) = _
 simp
theorem zbh (ns : List Int) : ∀ x ∈ ns.map dec, Digs x := fun x h => by obtain ⟨y, _, rfl⟩ := List.mem_map.1 h; exact zsd y
theorem lt8 {p : Nat} (h : p < 8) : p = 0 ∨ p = 1 ∨ p = 2 ∨ p = 3 ∨ p = 4 ∨ p = 5 ∨ p = 6 ∨ p = 7 := by omega
theorem st_len {R : List (List Int)} {d : List Int} (hd5 : d.length ≤ 5) {p : Nat} (hp : p < 8) : (stP R d p).text.length ≤ (relT R).length + 20 := by
 rcases lt8 hp with rfl | rfl | rfl | rfl | rfl | rfl | rfl | rfl <;>
  simp only [stP, Parts.text, epT, preT, postT, devT, locT, joinW, wRc, wPost, wDev, List.length_append, List.length_cons, List.length_nil, List.nil_append] <;> omega
def mkI (i : Nat) : Nat := if i = 4 then 6 else i
theorem lt6 {p : Nat} (h : p < 6) : p = 0 ∨ p = 1 ∨ p = 2 ∨ p = 3 ∨ p = 4 ∨ p = 5 := by omega
theorem relC_zero (R : List Nat) : relC (R ++ [0]) R = 0 := by
 refine fromC_zero (fun k => ?_) _ _
 unfold relD
 have e : (R ++ [0]).getD k 0 = R.getD k 0 := by
  rw [List.getD_eq_getElem?_getD, List.getD_eq_getElem?_getD]
  by_cases hk : k < R.length
  ·rw [List.getElem?_append_left hk]
  ·rw [List.getElem?_append_right (by omega), List.getElem?_eq_none (l := R) (by omega)]
   cases hj : k - R.length with
   | zero => rfl
   | succ j => rfl
 rw [e]
 exact zdh _
theorem locD_dig {D E : ByteArray} (hD : zic D) (hE : zic E) : locD D E = cmpN (dv D D.size) (dv E E.size) := by unfold locD; rw [if_pos hD, if_pos hE]
theorem locC_one (D E : ByteArray) : locC [D] [E] = locD D E := by
 rw [locC_S]
 simp only [locS, zsb]
 split
 ·rename_i h; rw [h]
 ·rfl
theorem firstNe_zero (a : Int) : zsb 0 a = a := by unfold zsb; rw [if_pos rfl]
theorem firstNe_r (a : Int) : zsb a 0 = a := by unfold zsb; split <;> simp_all
theorem num_cmp (Q R : List Nat) (hQ : relC Q R = 0) {D E : ByteArray} (hD : zic D) (hE : zic E) (i : Nat) (hi : i < 6) : yC (stV Q (dv D D.size) D (mkI i)) (stV R (dv E E.size) E (mkI i)) = cmpN (dv D D.size) (dv E E.size) := by
 have e4 : locC [ByteArray.empty] [ByteArray.empty] = 0 := by rw [locC_one, locD_self]
 have e5 : locC [D] [E] = cmpN (dv D D.size) (dv E E.size) := by rw [locC_one, locD_dig hD hE]
 have z1 : legC [] [] = 0 := by unfold legC legN; rw [if_pos rfl, strCmp_self]; rfl
 have s0 : ∀ a : Nat, cmpN a a = 0 := zdh
 rcases lt6 hi with rfl | rfl | rfl | rfl | rfl | rfl <;>
  simp only [mkI, yC, stV, Go.Proofs.YtlijjnjpomnphaaGreatDoorG.preC, preRank, trick, preByte, Go.Proofs.YtlijjnjpomnphaaGreatDoorG.postC, Go.Proofs.YtlijjnjpomnphaaGreatDoorG.devC, hasN, numOf, Option.isNone_none, Option.isNone_some, Option.isSome_none, Option.isSome_some, Bool.and_true, Bool.true_and, Bool.and_false, Bool.false_and, Bool.false_eq_true, if_true, if_false, z1, hQ, s0, e4, e5, firstNe_zero, firstNe_r, show ¬ (0 : Nat) = 4 by decide, show ¬ (1 : Nat) = 4 by decide, show ¬ (2 : Nat) = 4 by decide, show ¬ (3 : Nat) = 4 by decide, show ¬ (5 : Nat) = 4 by decide]
def marksB : List ByteArray := [(⟨#[46, 100, 101, 118]⟩ : ByteArray), (⟨#[97]⟩ : ByteArray), (⟨#[98]⟩ : ByteArray), (⟨#[114, 99]⟩ : ByteArray), (⟨#[46, 112, 111, 115, 116]⟩ : ByteArray), (⟨#[43]⟩ : ByteArray)]
theorem mark_text (R : List (List Int)) (d : List Int) (i : Nat) (hi : i < 6) : relT R ++ (bytesOf (rdOf ByteArray.empty marksB (i : Int)) ++ d) = (stP R d (mkI i)).text := by
 rcases lt6 hi with rfl | rfl | rfl | rfl | rfl | rfl
 all_goals simp only [mkI, stP, Parts.text, epT, preT, postT, devT, locT, joinW, List.append_nil, List.nil_append, List.append_assoc, if_true, show ¬ (0 : Nat) = 4 by decide, show ¬ (1 : Nat) = 4 by decide, show ¬ (2 : Nat) = 4 by decide, show ¬ (3 : Nat) = 4 by decide, show ¬ (5 : Nat) = 4 by decide, if_false]
 all_goals rfl
theorem st_ok {R : List (List Int)} (h0 : R ≠ []) (hR : ∀ x ∈ R, Digs x) {d : List Int} (hd : Digs d) (hd5 : d.length ≤ 5) (hl : (relT R).length ≤ 90002) {i : Nat} (hi : i < 8) {X : ByteArray} (hX : bytesOf X = (stP R d i).text) : POk X := by
 refine ⟨?_, ?_⟩
 ·rw [zhe, hX]
  have := st_len (R := R) hd5 hi
  omega
 ·rw [hX]
  exact asc_lw_text (stP_ok h0 hR hd i)
theorem mkI_lt {i : Nat} (h : i < 6) : mkI i < 8 := by unfold mkI; split <;> omega
theorem dig_zero : Digs [48] := ⟨by decide, by decide⟩
theorem nums_cmp {Q R : List (List Int)} (q0 : Q ≠ []) (hQ : ∀ x ∈ Q, Digs x) (h0 : R ≠ []) (hR : ∀ x ∈ R, Digs x) (hQR : relC (Q.map decL) (R.map decL) = 0) {n m : Int} (hn : U16 n) (hm : U16 m) (lq : (relT Q).length ≤ 90002) (lr : (relT R).length ≤ 90002) {i : Nat} (hi : i < 6) {X Y : ByteArray} (hX : bytesOf X = (stP Q (dec n) (mkI i)).text) (hY : bytesOf Y = (stP R (dec m) (mkI i)).text) :
  ztb.f X Y = some (cmpN n.toNat m.toNat, true) := by
 have kX := st_ok q0 hQ (zsd n) (zcg hn) lq (mkI_lt hi) hX
 have kY := st_ok h0 hR (zsd m) (zcg hm) lr (mkI_lt hi) hY
 have ln := zcg hn
 have lm := zcg hm
 have dD := digs_all (zsd n) (by omega)
 have dE := digs_all (zsd m) (by omega)
 have v1 : dv (strOfNums (dec n)) (strOfNums (dec n)).size = n.toNat := by rw [dv_all, zeh (zpg n), zmf]
 have v2 : dv (strOfNums (dec m)) (strOfNums (dec m)).size = m.toNat := by rw [dv_all, zeh (zpg m), zmf]
 have h := num_cmp (Q.map decL) (R.map decL) hQR dD dE i hi
 rw [v1, v2] at h
 unfold ztb.f
 rw [if_pos ⟨kX, kY⟩, hX, hY, st_val q0 hQ (zsd n), st_val h0 hR (zsd m), zmf, zmf, h]
end Go.Proofs.YtlijjnjpomnphaaGreatDoor.V
end
