/- Proved here, for the row of the law FnAlpineOrder: contracts of the Go functions that it reaches, each as its theorem 'calls' says, and the words and plain laws that they need (K10, K11, K12, K13, K14, K15, KN, A2, A3, A4, A5, Sx0, Sx1, Sx2, Sx3, A6, A7, A8). -/
import Derived.Test.YtapaijpglfmfgaaDoorFnAlpineOrderA
import Derived.Below
import Derived.Deep.Draws
import Derived.Deep.AppendLies
import Derived.Maps.AppendAt
import Derived.OwnWalk
import Derived.Laws.BytesArg
import Derived.Laws.MakeOwn
import Derived.Laws.OwnMore
import Derived.Deep.OwnRows
import Derived.Tactics
import Derived.Lib.ConvBytes
import Derived.Laws.Slices
import Derived.WalkKit
import Derived.KernelRfl
import Derived.RowKit3
import Derived.Deep.LoopGhost
import Derived.Deep.QuietTactic
import Derived.BigQuiet
import Derived.WideLaws
import Derived.Deep.DeepCutAuto
import Derived.Deep.CutBlock
import Derived.Deep.RegionHeld3
import Derived.Laws.Rows
import Derived.Lib.AppendStr
import Derived.ArgAppend
import Derived.Laws.IdiomCopy
import Derived.RowKit
import Derived.Test.YtapaijpglfmfgaaDoorProg
import Derived.OrdersHeld
import Derived.Laws.BitsLemmas
import Derived.LaidEqlPtr
import Derived.StillTailTactics
import Derived.Deep.RegionWith
section -- K10
namespace Go.Proofs.YtapaijpglfmfgaaDoorG
open Go.RowKit Go.Proofs.YtapaijpglfmfgaaDoorW.PrintWords Go.Proofs.YtapaijpglfmfgaaDoorW.PrintLast
set_option linter.unusedVariables false
set_option linter.unusedSimpArgs false
theorem neq_err (a : Addr) (W : World) : (binOp .neq 71 (.iface 177 (.pointer (some a))) (.iface 177 (.pointer (some a)))).run Tryd.prog W = .ok (.bool false) W := by
 have h := eq_err a W
 simp only [binOp] at h ⊢
 simp only [Op.equal, Op.maxDepth] at h ⊢
 obtain ⟨i, hi, hc⟩ := Option.map_eq_some_iff.1 errInfo
 obtain ⟨j, hj⟩ := Option.isSome_iff_exists.1 errPointee
 simp [run_equalIn_iface_ptr_same (P := Tryd.prog) W 9998 a Tryd.underlying71 Tryd.underlying177 hi hc hj]
theorem neq_nil_err (a : Addr) (W : World) : (binOp .neq 71 .nilIface (.iface 177 (.pointer (some a)))).run Tryd.prog W = .ok (.bool true) W := by
 have h : ∀ d : Nat, (Op.equalIn (d + 1) 71 .nilIface (.iface 177 (.pointer (some a)))).run Tryd.prog W = .ok false W := fun d => by simp [Op.equalIn, run_underlying Tryd.underlying71]
 simp only [binOp]
 simp [Op.equal, Op.maxDepth, h 9999]
theorem digits_ahead (s : ByteArray) : ∃ r, r ≤ s.size ∧ (∀ j : Nat, j < r → Dig (bt s j)) ∧ (r < s.size → ¬ Dig (bt s r)) := by
 have : ∀ n k : Nat, s.size - k = n → k ≤ s.size → (∀ j : Nat, j < k → Dig (bt s j)) → ∃ r, r ≤ s.size ∧ (∀ j : Nat, j < r → Dig (bt s j)) ∧ (r < s.size → ¬ Dig (bt s r)) := by
  intro n
  induction n with
  | zero => intro k h1 h2 h3; exact ⟨k, h2, h3, fun h => by omega⟩
  | succ n ih =>
   intro k h1 h2 h3
   by_cases hd : Dig (bt s k)
   ·refine ih (k + 1) (by omega) (by omega) (fun j hj => ?_)
    by_cases e : j = k
    ·rw [e]; exact hd
    ·exact h3 j (by omega)
   ·exact ⟨k, h2, h3, fun _ => hd⟩
 exact this _ 0 rfl (Nat.zero_le _) (fun j hj => by omega)
theorem digits_one {s : ByteArray} {r q : Nat} (h1 : r ≤ s.size) (h2 : ∀ j : Nat, j < r → Dig (bt s j)) (h3 : r < s.size → ¬ Dig (bt s r)) (k1 : q ≤ s.size) (k2 : ∀ j : Nat, j < q → Dig (bt s j)) (k3 : q < s.size → ¬ Dig (bt s q)) : r = q := by
 rcases Nat.lt_trichotomy r q with h | h | h
 ·exact absurd (k2 r h) (h3 (by omega))
 ·exact h
 ·exact absurd (h2 q h) (k3 (by omega))
def AllDig (s : ByteArray) : Prop := 0 < s.size ∧ ∀ j : Nat, j < s.size → Dig (bt s j)
structure Set_ (B0 H a : Nat) (s : ByteArray) (w w' : World) (e : Ending) : Prop where
 ok : AllDig s → e = .returned (.tuple #[.pointer (some ⟨a, 0, none⟩), .bool true]) ∧ ∃ v l, Bg w' a false v ∧ NatS w' H v l ∧ num l = dv s s.size ∧ l = trimW l
 no : ¬ AllDig s → e = .returned (.tuple #[.pointer none, .bool false])
 below : Below B0 w w'
set_option maxRecDepth 100000 in
set_option maxHeartbeats 4000000 in
theorem setFromScanner_ (w : World) (B0 a b : Nat) (s : ByteArray) (p : Int) (EP NP : Addr) (hz : Bg w a false (.slice none 0 0)) (h : Rd w b s 0 p) (h0 : 0 < s.size) (hs : s.size ≤ 1000000) (h1 : bt s 0 ≠ 45) (h2 : bt s 0 ≠ 43) (hab : a ≠ b) (hBa : B0 ≤ a) (hBb : B0 ≤ b)
  (hE : w.cell? ⟨2, 0, none⟩ = some (ErrV EP)) (hN : w.cell? ⟨4, 0, none⟩ = some (ErrV NP)) (hbg : 4 < b) (hag : 4 < a) (hg0 : 4 < B0) :
  Calls Tryd.prog 81 #[.pointer (some ⟨a, 0, none⟩), .iface 129 (.pointer (some ⟨b, 0, none⟩)), .int .i64 10] w (fun e w' => Set_ B0 w.heap.size a s w w' e) := by
 have HI := Aside0.mk (intScan_ w B0 a b s p EP NP hz h h0 hs h1 h2 hab hBa hBb hE hN hbg hag)
 have F := Aside0.mk (And.intro h0 (And.intro hs (And.intro hab (And.intro hBa (And.intro hBb (And.intro hg0 (And.intro hE (And.intro h.lt hbg))))))))
 have i1 := inv_ReadByte (some ⟨b, 0, none⟩)
 have i3 := ent_ReadByte
 have q1 := neq_err EP
 have q2 := neq_nil_err EP
 clear hz h h0 hs h1 h2 hab hBa hBb hE hN hbg hag hg0
 go_enter Tryd.func81, Tryd.ntmps81
 obtain ⟨r, hr1, hr2, hr3⟩ := digits_ahead s
 have hscan : Calls Tryd.prog 87 #[.pointer (some ⟨a, 0, none⟩), .iface 129 (.pointer (some ⟨b, 0, none⟩)), .int .i64 10] w (fun e w' => Scanned B0 w.heap.size a b s w w' r ∧ e = .returned (if r = 0 then .tuple #[.pointer none, .int .i64 10, ErrV NP] else .tuple #[.pointer (some ⟨a, 0, none⟩), .int .i64 10, .nilIface])) := by
  refine HI.out.mono ?_
  rintro e w' ⟨q, hsc, hz, hp⟩
  have e1 : q = r := digits_one hsc.le hsc.dig hsc.fin hr1 hr2 hr3
  subst e1
  refine ⟨hsc, ?_⟩
  by_cases h0 : q = 0
  ·rw [if_pos h0]; exact hz h0
  ·rw [if_neg h0]; exact hp (Nat.pos_of_ne_zero h0)
 have hnot : (r = 0 ∨ r < s.size) → ¬ AllDig s := by
  intro h hall
  rcases h with h | h
  ·subst h
   exact hr3 hall.1 (hall.2 0 hall.1)
  ·exact hr3 h (hall.2 r h)
 have hall : 0 < r → r = s.size → AllDig s := fun h1 h2 => ⟨by omega, fun j hj => hr2 j (by omega)⟩
 have HNOT := Aside0.mk hnot
 have HALL := Aside0.mk hall
 clear hnot hall
 have HD := Aside0.mk (And.intro hr1 (And.intro hr2 hr3))
 clear hr1 hr2 hr3
 by_cases hr0 : r = 0
 ·rw [if_pos hr0] at hscan
  simp only [ErrV] at hscan
  have HSC := Aside0.mk hscan
  have HR0 := Aside0.mk hr0
  clear hscan hr0
  go_wp2_with (first | (go_at_call 87; refine HSC.out.mono ?_; rintro e' w1 ⟨hsc, rfl⟩; have SC := Aside0.mk hsc; clear hsc))
  go_ret2
  exact ⟨fun h => absurd h (HNOT.out (.inl HR0.out)), fun _ => rfl, SC.out.below⟩
 ·rw [if_neg hr0] at hscan
  have HSC := Aside0.mk hscan
  have HR0 := Aside0.mk hr0
  clear hscan hr0
  have hrd : ∀ w1, Scanned B0 w.heap.size a b s w w1 r → Calls Tryd.prog 131 #[.pointer (some ⟨b, 0, none⟩)] w1 fun e w' => ∃ ch er, e = .returned (.tuple #[ch, er]) ∧ Head w' b s r ch er EP ∧ w1.grownBy w' (some b) := by
   intro w1 hsc
   obtain ⟨f1, f2, f3, f4, f5, f6, f7, f8, f9⟩ := F.out
   obtain ⟨q, hq⟩ := hsc.rd
   exact next_ w1 b r s q EP hq HD.out.1 f2 ((World.cell?_of_block (hsc.below.block 2 (by omega))).trans f7) (by omega)
  have hEw : ∀ w1 w2, Scanned B0 w.heap.size a b s w w1 r → w1.grownBy w2 (some b) → w2.cell? ⟨2, 0, none⟩ = some (.iface 177 (.pointer (some EP))) := by
   intro w1 w2 hsc hg
   obtain ⟨f1, f2, f3, f4, f5, f6, f7, f8, f9⟩ := F.out
   have hsz := hsc.below.size
   exact ((World.cell?_of_block (hg.block 2 (by omega) (fun e => by have := Option.some.inj e; omega))).trans (World.cell?_of_block (hsc.below.block 2 (by omega)))).trans f7
  have HRD := Aside0.mk hrd
  have HEW := Aside0.mk hEw
  have hset : ∀ w1 w2, Scanned B0 w.heap.size a b s w w1 r → w1.grownBy w2 (some b) → (∃ v l, Bg w2 a false v ∧ NatS w2 w.heap.size v l ∧ num l = dv s r ∧ l = trimW l) ∧ Below B0 w w2 := by
   intro w1 w2 hsc hg
   obtain ⟨f1, f2, f3, f4, f5, f6, f7, f8, f9⟩ := F.out
   obtain ⟨v, l, g1, g2, g3, g4⟩ := hsc.big
   have hsz := hsc.below.size
   exact ⟨⟨v, l, g1.same (hg.block a g1.lt (fun e => f3 (Option.some.inj e))), g2.grown hg f8, g3, g4⟩, hsc.below.grown hg (by have := g1.lt; omega) (fun k hk => by cases hk; exact f5)⟩
  have HSET := Aside0.mk hset
  clear hrd hEw hset
  go_upto_region 5 with (first
   | (go_at_call 87; refine HSC.out.mono ?_; rintro e' w1 ⟨hsc, rfl⟩; have SC := Aside0.mk hsc; clear hsc)
   | (go_at_call 131; refine (HRD.out w1 SC.out).mono ?_; rintro e' w2 ⟨ch, er, rfl, hh, hg⟩; have HH := Aside0.mk hh; have HG := Aside0.mk hg; have e1 := HEW.out w1 w2 SC.out hg; clear hh hg))
  obtain ⟨⟨v, l, g1, g2, g3, g4⟩, hbel⟩ := HSET.out w1 w2 SC.out HG.out
  have G := Aside0.mk (And.intro g1 (And.intro g2 (And.intro g3 (And.intro g4 hbel))))
  clear g1 g2 g3 g4 hbel
  rcases HH.out with ⟨hlt, he, hch, hr⟩ | ⟨hlt, he, hch, hr⟩
  ·subst he
   subst hch
   have HLT := Aside0.mk hlt
   clear hlt hr HH
   go_wp2
   go_ret2
   exact ⟨fun h => absurd h (HNOT.out (.inr HLT.out)), fun _ => rfl, G.out.2.2.2.2⟩
  ·subst he
   subst hch
   simp only [ErrV]
   have HLT := Aside0.mk hlt
   clear hlt hr HH
   go_wp2
   go_ret2
   refine ⟨fun _ => ⟨rfl, v, l, G.out.1, G.out.2.1, ?_, G.out.2.2.2.1⟩, fun h => absurd (HALL.out (Nat.pos_of_ne_zero HR0.out) HLT.out) h, G.out.2.2.2.2⟩
   rw [← HLT.out]
   exact G.out.2.2.1
end Go.Proofs.YtapaijpglfmfgaaDoorG
end
section -- K11
namespace Go.Proofs.YtapaijpglfmfgaaDoorG
open Go.RowKit Go.Proofs.YtapaijpglfmfgaaDoorW.PrintWords Go.Proofs.YtapaijpglfmfgaaDoorW.PrintLast
set_option linter.unusedVariables false
set_option linter.unusedSimpArgs false
theorem alloc_heap (w : World) (o : Obj) : (w.alloc o).heap = w.heap.push o := rfl
theorem alloc_at (w : World) (o : Obj) : (w.alloc o).heap[w.heap.size]? = some o := by rw [alloc_heap]; simp
theorem alloc_old (w : World) (o : Obj) {k : Nat} (h : k < w.heap.size) : (w.alloc o).heap[k]? = w.heap[k]? := by rw [alloc_heap, Array.getElem?_push, if_neg (by omega)]
theorem alloc_size (w : World) (o : Obj) : (w.alloc o).heap.size = w.heap.size + 1 := by rw [alloc_heap, Array.size_push]
set_option maxRecDepth 100000 in
theorem setString_ (w : World) (B0 a : Nat) (s : ByteArray) (EP NP : Addr) (hz : Bg w a false (.slice none 0 0)) (h0 : 0 < s.size) (hs : s.size ≤ 1000000) (h1 : bt s 0 ≠ 45) (h2 : bt s 0 ≠ 43) (hBa : B0 ≤ a)
  (hE : w.cell? ⟨2, 0, none⟩ = some (ErrV EP)) (hN : w.cell? ⟨4, 0, none⟩ = some (ErrV NP)) (hg0 : 4 < B0) :
  Calls Tryd.prog 70 #[.pointer (some ⟨a, 0, none⟩), .string s, .int .i64 10] w (fun e w' => Set_ B0 (w.heap.size + 1) a s w w' e) := by
 have ha := hz.lt
 obtain ⟨w1, hw1⟩ : ∃ w1, w1 = w.alloc (.cells #[.string s, .int .i64 0, .int .i64 (-1)] 144) := ⟨_, rfl⟩
 have hsz : w1.heap.size = w.heap.size + 1 := by rw [hw1]; exact alloc_size _ _
 have hold : ∀ k, k < w.heap.size → w1.heap[k]? = w.heap[k]? := fun k hk => by rw [hw1]; exact alloc_old _ _ hk
 have hrd : Rd w1 w.heap.size s 0 (-1) := by unfold Rd; rw [hw1]; exact alloc_at _ _
 have hcon := setFromScanner_ w1 B0 a w.heap.size s (-1) EP NP (hz.same (hold a ha)) hrd h0 hs h1 h2 (by omega) hBa (by omega) ((World.cell?_of_block (hold _ (by show 2 < _; omega))).trans hE) ((World.cell?_of_block (hold _ (by show 4 < _; omega))).trans hN) (by omega) (by omega) hg0
 have HB : Aside0 (Below B0 w w1) := ⟨by rw [hw1]; exact below_alloc_ _ (by omega)⟩
 rw [hsz] at hcon
 have HNEW := Aside0.mk (newReader_ w s)
 have HW1 := Aside0.mk hw1
 by_cases hall : AllDig s
 ·have HCON := Aside0.mk (hcon.mono (R' := fun e w' => e = .returned (.tuple #[.pointer (some ⟨a, 0, none⟩), .bool true]) ∧ Set_ B0 (w.heap.size + 1) a s w1 w' e) (fun e w' h => ⟨(h.ok hall).1, h⟩))
  clear hz h0 hs h1 h2 hBa hE hN hg0 ha hsz hold hrd hcon hw1
  go_enter Tryd.func70, Tryd.ntmps70
  go_wp2_with (first
   | (go_at_call 82; refine HNEW.out.mono ?_; rintro e' w2 ⟨rfl, hw2⟩; have hw3 := hw2.trans HW1.out.symm; clear hw2; subst hw3)
   | (go_at_call 81; refine HCON.out.mono ?_; rintro e' w3 ⟨rfl, hst⟩; have ST := Aside0.mk hst; clear hst))
  go_ret2
  exact ⟨fun h => ⟨rfl, (ST.out.ok h).2⟩, fun h => absurd hall h, HB.out.trans ST.out.below⟩
 ·have HCON := Aside0.mk (hcon.mono (R' := fun e w' => e = .returned (.tuple #[.pointer none, .bool false]) ∧ Set_ B0 (w.heap.size + 1) a s w1 w' e) (fun e w' h => ⟨h.no hall, h⟩))
  clear hz h0 hs h1 h2 hBa hE hN hg0 ha hsz hold hrd hcon hw1
  go_enter Tryd.func70, Tryd.ntmps70
  go_wp2_with (first
   | (go_at_call 82; refine HNEW.out.mono ?_; rintro e' w2 ⟨rfl, hw2⟩; have hw3 := hw2.trans HW1.out.symm; clear hw2; subst hw3)
   | (go_at_call 81; refine HCON.out.mono ?_; rintro e' w3 ⟨rfl, hst⟩; have ST := Aside0.mk hst; clear hst))
  go_ret2
  exact ⟨fun h => absurd h hall, fun _ => rfl, HB.out.trans ST.out.below⟩
structure Conv (s : ByteArray) (EV : Addr) (w w' : World) (e : Ending) : Prop where
 ok : AllDig s → ∃ v l, e = .returned (.tuple #[.pointer (some ⟨w.heap.size, 0, none⟩), .nilIface]) ∧ Bg w' w.heap.size false v ∧ NatS w' w.heap.size v l ∧ num l = dv s s.size ∧ l = trimW l
 no : ¬ AllDig s → e = .returned (.tuple #[.pointer none, ErrV EV])
 below : Below w.heap.size w w'
theorem NatS.lower {w : World} {B B' : Nat} {v : Value} {l : List Nat} (h : NatS w B v l) (hB : B' ≤ B) : NatS w B' v l := by
 rcases h with h | ⟨g, full, h1, h2, h3⟩
 ·exact .inl h
 ·exact .inr ⟨g, full, h1, by omega, h3⟩
set_option maxRecDepth 100000 in
theorem convert_ (w : World) (s : ByteArray) (EV EP NP : Addr) (h0 : 0 < s.size) (hs : s.size ≤ 1000000) (h1 : bt s 0 ≠ 45) (h2 : bt s 0 ≠ 43)
  (hV : w.cell? ⟨0, 0, none⟩ = some (ErrV EV)) (hE : w.cell? ⟨2, 0, none⟩ = some (ErrV EP)) (hN : w.cell? ⟨4, 0, none⟩ = some (ErrV NP)) (hg0 : 4 < w.heap.size) :
  Calls Tryd.prog 52 #[.string s] w (fun e w' => Conv s EV w w' e) := by
 obtain ⟨w1, hw1⟩ : ∃ w1, w1 = w.alloc (.cells #[.bool false, .slice none 0 0] 93) := ⟨_, rfl⟩
 have hsz : w1.heap.size = w.heap.size + 1 := by rw [hw1]; exact alloc_size _ _
 have hold : ∀ k, k < w.heap.size → w1.heap[k]? = w.heap[k]? := fun k hk => by rw [hw1]; exact alloc_old _ _ hk
 have hz : Bg w1 w.heap.size false (.slice none 0 0) := by unfold Bg; rw [hw1]; exact alloc_at _ _
 have hcon := setString_ w1 w.heap.size w.heap.size s EP NP hz h0 hs h1 h2 (Nat.le_refl _) ((World.cell?_of_block (hold _ (by show 2 < _; omega))).trans hE) ((World.cell?_of_block (hold _ (by show 4 < _; omega))).trans hN) (by omega)
 have hbel : Below w.heap.size w w1 := by rw [hw1]; exact below_alloc_ _ (Nat.le_refl _)
 have HB := Aside0.mk hbel
 have HV := Aside0.mk (fun w2 (h : Below w.heap.size w1 w2) => ((World.cell?_of_block (h.block 0 (by omega))).trans (World.cell?_of_block (hold _ (by show 0 < _; omega)))).trans hV)
 rw [hw1] at hcon HB HV
 by_cases hall : AllDig s
 ·have HCON := Aside0.mk (hcon.mono (R' := fun e w' => e = .returned (.tuple #[.pointer (some ⟨w.heap.size, 0, none⟩), .bool true]) ∧ Set_ w.heap.size (w1.heap.size + 1) w.heap.size s w1 w' e) (fun e w' h => by rw [← hw1] at h; exact ⟨(h.ok hall).1, h⟩))
  rw [hw1] at HCON
  clear hz h0 hs h1 h2 hE hN hg0 hsz hold hcon hbel hw1 hV
  go_enter Tryd.func52, Tryd.ntmps52
  go_wp2_with (first
   | (go_at_call 70; refine HCON.out.mono ?_; rintro e' w3 ⟨rfl, hst⟩; have ST := Aside0.mk hst; clear hst))
  go_ret2
  obtain ⟨_, v, l, q1, q2, q3, q4⟩ := ST.out.ok hall
  exact ⟨fun _ => ⟨v, l, rfl, q1, q2.lower (by rw [alloc_size]; omega), q3, q4⟩, fun h => absurd hall h, HB.out.trans ST.out.below⟩
 ·have HCON := Aside0.mk (hcon.mono (R' := fun e w' => e = .returned (.tuple #[.pointer none, .bool false]) ∧ Below w.heap.size w1 w' ) (fun e w' h => by rw [← hw1] at h; exact ⟨h.no hall, h.below⟩))
  rw [hw1] at HCON
  clear hz h0 hs h1 h2 hE hN hg0 hsz hold hcon hbel hw1 hV
  simp only [ErrV] at HV
  go_enter Tryd.func52, Tryd.ntmps52
  go_wp2_with (first
   | (go_at_call 70; refine HCON.out.mono ?_; rintro e' w3 ⟨rfl, hst⟩; have ST := Aside0.mk hst; have cv := HV.out w3 hst; clear hst))
  go_quiet (fail)
  go_wp2
  go_ret2
  exact ⟨fun h => absurd h hall, fun _ => rfl, by first | exact HB.out.trans ST.out | (apply pw_below_drewN; exact HB.out.trans ST.out)⟩
end Go.Proofs.YtapaijpglfmfgaaDoorG
end
section -- K12
namespace Go.Proofs.YtapaijpglfmfgaaDoorG
open Go.RowKit Go.Proofs.YtapaijpglfmfgaaDoorW.PrintWords Go.Proofs.YtapaijpglfmfgaaDoorW.PrintLast
set_option linter.unusedVariables false
set_option linter.unusedSimpArgs false
def CmpAt (lx ly : List Nat) (r : Int) : Prop :=
 (lx.length < ly.length ∧ r = -1) ∨ (ly.length < lx.length ∧ r = 1) ∨ (lx.length = ly.length ∧ lx.length = 0 ∧ r = 0) ∨
 (lx.length = ly.length ∧ ∃ i, i < lx.length ∧ (∀ j, i < j → j < lx.length → lx.getD j 0 = ly.getD j 0) ∧ (i = 0 ∨ lx.getD i 0 ≠ ly.getD i 0) ∧ r = (if lx.getD i 0 < ly.getD i 0 then -1 else if ly.getD i 0 < lx.getD i 0 then 1 else 0))
theorem Drawn0.trans {w w1 w2 : World} (h : Drawn0 w w1) (k : Drawn0 w1 w2) : Drawn0 w w2 := by
 obtain ⟨n, hn⟩ := h.out
 obtain ⟨m, hm⟩ := k.out
 exact ⟨⟨n + m, by rw [hm, hn, World.drewN_drewN]⟩⟩
theorem meas_plain (m k : Nat) (h : m < k) : (intOf (.int .i64 (m : Int))).toNat < (intOf (.int .i64 (k : Int))).toNat := by
 simp only [intOf]
 omega
theorem meas_wrap (m k : Nat) (h : m < k) (e : wrap64 (m : Int) = (m : Int)) : (intOf (.int .i64 (wrap64 (m : Int)))).toNat < (intOf (.int .i64 (k : Int))).toNat := by
 rw [e]
 exact meas_plain m k h
theorem NatS.reads {w : World} {B : Nat} {v : Value} {l : List Nat} (h : NatS w B v l) : ∃ (g c : Nat) (p : Option Addr), v = .slice p l.length c ∧ (l.length ≠ 0 → p = some ⟨g, 0, none⟩ ∧ ∀ i, i < l.length → w.cell? ⟨g, i, none⟩ = some (.int .u64 (l.getD i 0 : Nat))) := by
 rcases h with ⟨rfl, rfl⟩ | ⟨g, full, rfl, h1, h2, h3, h4, h5, h6⟩
 ·exact ⟨0, 0, none, rfl, fun h => absurd rfl h⟩
 ·refine ⟨g, full.length, _, rfl, fun _ => ⟨rfl, fun i hi => ?_⟩⟩
  have h7 := h2.cell i (by omega)
  have e : (full.take l.length).getD i 0 = full.getD i 0 := by rw [List.getD_eq_getElem?_getD, List.getD_eq_getElem?_getD, List.getElem?_take_of_lt hi]
  rw [h3] at e
  rw [h7, e]
set_option maxRecDepth 100000 in
set_option maxHeartbeats 4000000 in
theorem natCmp_ (w : World) (Bx By : Nat) (vx vy : Value) (lx ly : List Nat) (hx : NatS w Bx vx lx) (hy : NatS w By vy ly) (hlx : lx.length ≤ 1000000) (hly : ly.length ≤ 1000000) :
  Calls Tryd.prog 86 #[vx, vy] w fun e w' => ∃ r, e = .returned (.int .i64 r) ∧ CmpAt lx ly r ∧ Drawn0 w w' := by
 obtain ⟨gx, cx, px, rfl, rx⟩ := hx.reads
 obtain ⟨gy, cy, py, rfl, ry⟩ := hy.reads
 have HW := Aside0.mk (Drawn0.refl w)
 clear hx hy
 by_cases hlen : lx.length = ly.length
 ·by_cases h0 : lx.length = 0
  ·have c1 : ((lx.length : Int) == 0) = true := by rw [beq_iff_eq]; omega
   have h0y : ly.length = 0 := by omega
   have F := Aside0.mk (And.intro hlen h0)
   clear rx ry hlx hly hlen
   go_enter Tryd.func86, Tryd.ntmps86
   go_wp2
   go_ret
   exact ⟨0, rfl, .inr (.inr (.inl ⟨F.out.1, F.out.2, rfl⟩)), HW.out⟩
  ·obtain ⟨rfl, rx2⟩ := rx h0
   obtain ⟨rfl, ry2⟩ := ry (by omega)
   obtain ⟨n, hn⟩ : ∃ n, n = lx.length := ⟨_, rfl⟩
   have hny : ly.length = n := by omega
   have F := Aside0.mk (And.intro hn (And.intro hny hlx))
   rw [← hn] at rx2 h0 hlx ⊢
   rw [hny] at ry2 ⊢
   have RX := Aside0.mk rx2
   have RY := Aside0.mk ry2
   have N0 := Aside0.mk h0
   have N1 : Aside0 (n - 1 < n ∧ (Value.int .i64 ((n : Int) - 1) : Value) = Value.int .i64 ((n - 1 : Nat) : Int) ∧ ∀ j, n - 1 < j → j < n → lx.getD j 0 = ly.getD j 0) := ⟨⟨by omega, by congr 1; omega, fun j h1 h2 => by omega⟩⟩
   have c1 : ((n : Int) == 0) = false := by rw [beq_eq_false_iff_ne]; omega
   have c2 : ¬ ((n : Int) = 0) := by omega
   clear rx ry rx2 ry2 hly hlen hn hny h0
   go_enter Tryd.func86, Tryd.ntmps86
   go_wp2
   go_loopw [7] (fun i wr => ∃ k : Nat, k < n ∧ i = .int .i64 k ∧ Aside0 (∀ j, k < j → j < n → lx.getD j 0 = ly.getD j 0) ∧ Aside0 (Drawn0 w wr)) (fun i _ => (intOf i).toNat)
   case atStart => exact ⟨n - 1, N1.out.1, by first | exact N1.out.2.1 | rfl, ⟨N1.out.2.2⟩, HW⟩
   case round =>
    obtain ⟨k, hk, rfl, hj, hw⟩ := hrel
    have old : ∀ (g : Nat) (x : Value), w.cell? ⟨g, k, none⟩ = some x → wr.cell? ⟨g, k, none⟩ = some x := by
     intro g x h
     obtain ⟨m, hm⟩ := hw.out.out
     rw [hm]
     exact h
    have a1 := old gx _ (RX.out k hk)
    have a2 := old gy _ (RY.out k hk)
    clear old
    obtain ⟨x, hx⟩ : ∃ x, x = lx.getD k 0 := ⟨_, rfl⟩
    obtain ⟨y, hy⟩ : ∃ y, y = ly.getD k 0 := ⟨_, rfl⟩
    rw [← hx] at a1
    rw [← hy] at a2
    have XY := Aside0.mk (And.intro hx hy)
    have K := Aside0.mk hk
    have KI : ((k : Int) < (n : Int)) = True := eq_true (by omega)
    have KD : decide ((k : Int) < (n : Int)) = true := decide_eq_true (by omega)
    have K0 : (0 ≤ (k : Int)) = True := eq_true (by omega)
    clear hx hy
    have fin : ∀ wz, Drawn0 wr wz → (k = 0 ∨ x ≠ y) → ∀ r : Int, r = (if x < y then -1 else if y < x then 1 else 0) → ∃ r', (Ending.returned (.int .i64 r) : Ending) = .returned (.int .i64 r') ∧ CmpAt lx ly r' ∧ Drawn0 w wz := by
     intro wz hz h1 r hr
     obtain ⟨f1, f2, f3⟩ := F.out
     refine ⟨r, rfl, .inr (.inr (.inr ⟨by omega, k, by omega, fun j h1 h2 => hj.out j h1 (by omega), ?_, ?_⟩)), Drawn0.trans hw.out hz⟩
     ·rw [← XY.out.1, ← XY.out.2]; exact h1
     ·rw [← XY.out.1, ← XY.out.2]; exact hr
    have FIN := Aside0.mk fin
    clear fin
    have go : (k = 0 ∨ x ≠ y) → Aside0 ((k = 0 ∨ x ≠ y)) := fun h => ⟨h⟩
    by_cases hxy : x = y
    ·by_cases hk0 : k = 0
     ·have G := go (.inl hk0)
      have d0 : decide (0 < (k : Int)) = false := decide_eq_false (by omega)
      have d0n : decide (0 < k) = false := decide_eq_false (by omega)
      have d1 : decide ((x : Int) < (y : Int)) = false := decide_eq_false (by omega)
      have d1n : decide (x < y) = false := decide_eq_false (by omega)
      have d2 : decide ((y : Int) < (x : Int)) = false := decide_eq_false (by omega)
      have d2n : decide (y < x) = false := decide_eq_false (by omega)
      have d3 : ((x : Int) == (y : Int)) = true := by rw [beq_iff_eq]; omega
      have d3n : (x == y) = true := by rw [beq_iff_eq]; omega
      have d3m : decide (x = y) = true := decide_eq_true (by omega)
      have R : Aside0 ((0 : Int) = (if x < y then -1 else if y < x then 1 else 0)) := ⟨by rw [if_neg (by omega), if_neg (by omega)]⟩
      clear hk0 hk hxy go
      go_wp2
      go_quiet (fail)
      go_wp2
      (try go_quiet (fail))
      go_wp2
      (try go_quiet (fail))
      go_wp2
      go_ret
      refine FIN.out _ ?_ G.out _ R.out
      (repeat (first | exact Drawn0.refl _ | apply Drawn0.step))
     ·obtain ⟨m, hm⟩ : ∃ m, m = k - 1 := ⟨_, rfl⟩
      have d0 : decide (0 < (k : Int)) = true := decide_eq_true (by omega)
      have d0n : decide (0 < k) = true := decide_eq_true (by omega)
      have d0m : (0 < k) = True := eq_true (by omega)
      have d3 : ((x : Int) == (y : Int)) = true := by rw [beq_iff_eq]; omega
      have d3n : (x == y) = true := by rw [beq_iff_eq]; omega
      have d3m : decide (x = y) = true := decide_eq_true (by omega)
      have e2 : (k : Int) - 1 = (m : Int) := by omega
      have e1 : wrap64 (m : Int) = (m : Int) := by unfold wrap64; have := F.out.2.2; have := F.out.1; omega
      have HXY := Aside0.mk hxy
      have HM := Aside0.mk (And.intro hm hk0)
      have MES : Aside0 (m < k) := ⟨by omega⟩
      have STEP : Aside0 (∀ j, m < j → j ≠ k → k < j) := ⟨fun j h1 h2 => by omega⟩
      clear hk0 hk hxy go hm
      go_wp2
      go_quiet (fail)
      go_wp2
      go_roundw
      case rel =>
       refine ⟨m, Nat.lt_trans MES.out K.out, by first | rfl | go_num, ⟨fun j h1 h2 => ?_⟩, ⟨Drawn0.trans hw.out (by (repeat (first | exact Drawn0.refl _ | apply Drawn0.step)))⟩⟩
       by_cases ej : j = k
       ·rw [ej, ← XY.out.1, ← XY.out.2]; exact HXY.out
       ·exact hj.out j (STEP.out j h1 ej) h2
      case measure => first | exact meas_wrap m k MES.out e1 | exact meas_plain m k MES.out
    ·have G := go (.inr hxy)
     by_cases hk0 : k = 0
     ·have d0 : decide (0 < (k : Int)) = false := decide_eq_false (by omega)
      have d0n : decide (0 < k) = false := decide_eq_false (by omega)
      have d3 : ((x : Int) == (y : Int)) = false := by rw [beq_eq_false_iff_ne]; omega
      have d3n : (x == y) = false := by rw [beq_eq_false_iff_ne]; omega
      have d3m : decide (x = y) = false := decide_eq_false (by omega)
      by_cases hlt : x < y
      ·have d1 : decide ((x : Int) < (y : Int)) = true := decide_eq_true (by omega)
       have d1n : decide (x < y) = true := decide_eq_true (by omega)
       have R : Aside0 ((-1 : Int) = (if x < y then -1 else if y < x then 1 else 0)) := ⟨by rw [if_pos hlt]⟩
       clear hk0 hk hxy go hlt
       go_wp2
       go_quiet (fail)
       go_wp2
       (try go_quiet (fail))
       go_wp2
       (try go_quiet (fail))
       go_wp2
       go_ret
       refine FIN.out _ ?_ G.out _ R.out
       (repeat (first | exact Drawn0.refl _ | apply Drawn0.step))
      ·have d1 : decide ((x : Int) < (y : Int)) = false := decide_eq_false (by omega)
       have d1n : decide (x < y) = false := decide_eq_false (by omega)
       have d2 : decide ((y : Int) < (x : Int)) = true := decide_eq_true (by omega)
       have d2n : decide (y < x) = true := decide_eq_true (by omega)
       have R : Aside0 ((1 : Int) = (if x < y then -1 else if y < x then 1 else 0)) := ⟨by rw [if_neg hlt, if_pos (by omega)]⟩
       clear hk0 hk hxy go hlt
       go_wp2
       go_quiet (fail)
       go_wp2
       (try go_quiet (fail))
       go_wp2
       (try go_quiet (fail))
       go_wp2
       go_ret
       refine FIN.out _ ?_ G.out _ R.out
       (repeat (first | exact Drawn0.refl _ | apply Drawn0.step))
     ·have d0 : decide (0 < (k : Int)) = true := decide_eq_true (by omega)
      have d0n : decide (0 < k) = true := decide_eq_true (by omega)
      have d3 : ((x : Int) == (y : Int)) = false := by rw [beq_eq_false_iff_ne]; omega
      have d3n : (x == y) = false := by rw [beq_eq_false_iff_ne]; omega
      have d3m : decide (x = y) = false := decide_eq_false (by omega)
      by_cases hlt : x < y
      ·have d1 : decide ((x : Int) < (y : Int)) = true := decide_eq_true (by omega)
       have d1n : decide (x < y) = true := decide_eq_true (by omega)
       have R : Aside0 ((-1 : Int) = (if x < y then -1 else if y < x then 1 else 0)) := ⟨by rw [if_pos hlt]⟩
       clear hk0 hk hxy go hlt
       go_wp2
       go_quiet (fail)
       go_wp2
       (try go_quiet (fail))
       go_wp2
       (try go_quiet (fail))
       go_wp2
       go_ret
       refine FIN.out _ ?_ G.out _ R.out
       (repeat (first | exact Drawn0.refl _ | apply Drawn0.step))
      ·have d1 : decide ((x : Int) < (y : Int)) = false := decide_eq_false (by omega)
       have d1n : decide (x < y) = false := decide_eq_false (by omega)
       have d2 : decide ((y : Int) < (x : Int)) = true := decide_eq_true (by omega)
       have d2n : decide (y < x) = true := decide_eq_true (by omega)
       have R : Aside0 ((1 : Int) = (if x < y then -1 else if y < x then 1 else 0)) := ⟨by rw [if_neg hlt, if_pos (by omega)]⟩
       clear hk0 hk hxy go hlt
       go_wp2
       go_quiet (fail)
       go_wp2
       (try go_quiet (fail))
       go_wp2
       (try go_quiet (fail))
       go_wp2
       go_ret
       refine FIN.out _ ?_ G.out _ R.out
       (repeat (first | exact Drawn0.refl _ | apply Drawn0.step))
 ·have F := Aside0.mk hlen
  have c1 : ((lx.length : Int) == (ly.length : Int)) = false := by rw [beq_eq_false_iff_ne]; omega
  have c2 : ¬ ((lx.length : Int) = (ly.length : Int)) := by omega
  have c1n : (lx.length == ly.length) = false := by rw [beq_eq_false_iff_ne]; omega
  have c1m : decide (lx.length = ly.length) = false := decide_eq_false (by omega)
  by_cases hlt : lx.length < ly.length
  ·have d1 : decide ((lx.length : Int) < (ly.length : Int)) = true := decide_eq_true (by omega)
   have d1n : decide (lx.length < ly.length) = true := decide_eq_true (by omega)
   have L := Aside0.mk hlt
   clear rx ry hlx hly hlen hlt
   go_enter Tryd.func86, Tryd.ntmps86
   go_wp2
   go_ret
   exact ⟨-1, rfl, .inl ⟨L.out, rfl⟩, HW.out⟩
  ·have d1 : decide ((lx.length : Int) < (ly.length : Int)) = false := decide_eq_false (by omega)
   have d1n : decide (lx.length < ly.length) = false := decide_eq_false (by omega)
   have d2n : decide (ly.length < lx.length) = true := decide_eq_true (by omega)
   have d2 : decide ((ly.length : Int) < (lx.length : Int)) = true := decide_eq_true (by omega)
   have L : Aside0 (ly.length < lx.length) := ⟨by omega⟩
   clear rx ry hlx hly hlen hlt
   go_enter Tryd.func86, Tryd.ntmps86
   go_wp2
   go_ret
   exact ⟨1, rfl, .inr (.inl ⟨L.out, rfl⟩), HW.out⟩
end Go.Proofs.YtapaijpglfmfgaaDoorG
end
section -- K13
namespace Go.Proofs.YtapaijpglfmfgaaDoorG
open Go.RowKit Go.Proofs.YtapaijpglfmfgaaDoorW.PrintWords Go.Proofs.YtapaijpglfmfgaaDoorW.PrintLast
set_option linter.unusedVariables false
set_option linter.unusedSimpArgs false
set_option maxRecDepth 100000 in
theorem scanSign_e (w : World) (b : Nat) (s : ByteArray) (p : Int) (EP : Addr) (h : Rd w b s 0 p) (h0 : s.size = 0) (hE : w.cell? ⟨2, 0, none⟩ = some (ErrV EP)) (hbg : 2 < b) :
  Calls Tryd.prog 88 #[.iface 129 (.pointer (some ⟨b, 0, none⟩))] w fun e w' => e = .returned (.tuple #[.bool false, ErrV EP]) ∧ w.grownBy w' (some b) := by
 have hr := readByte_end w b s p (ErrV EP) (by rw [h0]; exact h) hE (by omega) (by omega)
 simp only [ErrV] at hr ⊢
 have HR := Aside0.mk hr
 have i1 := inv_ReadByte (some ⟨b, 0, none⟩)
 have i3 := ent_ReadByte
 clear h h0 hE hbg hr
 go_enter Tryd.func88, Tryd.ntmps88
 go_wp2_with (first
  | (go_at_call 131; refine HR.out.mono ?_; rintro e' w1 ⟨rfl, r1, g1⟩; have G1 := Aside0.mk g1; clear r1 g1))
 go_ret2
 exact ⟨rfl, G1.out⟩
set_option maxRecDepth 100000 in
theorem intScan_e (w : World) (a b : Nat) (s : ByteArray) (p : Int) (EP : Addr) (h : Rd w b s 0 p) (h0 : s.size = 0) (hE : w.cell? ⟨2, 0, none⟩ = some (ErrV EP)) (hbg : 2 < b) :
  Calls Tryd.prog 87 #[.pointer (some ⟨a, 0, none⟩), .iface 129 (.pointer (some ⟨b, 0, none⟩)), .int .i64 10] w fun e w' => e = .returned (.tuple #[.pointer none, .int .i64 0, ErrV EP]) ∧ w.grownBy w' (some b) := by
 have hr := scanSign_e w b s p EP h h0 hE hbg
 simp only [ErrV] at hr ⊢
 have HR := Aside0.mk hr
 clear h h0 hE hbg hr
 go_enter Tryd.func87, Tryd.ntmps87
 go_wp2_with (first
  | (go_at_call 88; refine HR.out.mono ?_; rintro e' w1 ⟨rfl, g1⟩; have G1 := Aside0.mk g1; clear g1))
 go_ret3
 exact ⟨rfl, G1.out⟩
set_option maxRecDepth 100000 in
theorem setFromScanner_e (w : World) (a b : Nat) (s : ByteArray) (p : Int) (EP : Addr) (h : Rd w b s 0 p) (h0 : s.size = 0) (hE : w.cell? ⟨2, 0, none⟩ = some (ErrV EP)) (hbg : 2 < b) :
  Calls Tryd.prog 81 #[.pointer (some ⟨a, 0, none⟩), .iface 129 (.pointer (some ⟨b, 0, none⟩)), .int .i64 10] w fun e w' => e = .returned (.tuple #[.pointer none, .bool false]) ∧ w.grownBy w' (some b) := by
 have hr := intScan_e w a b s p EP h h0 hE hbg
 simp only [ErrV] at hr
 have HR := Aside0.mk hr
 clear h h0 hE hbg hr
 go_enter Tryd.func81, Tryd.ntmps81
 go_wp2_with (first
  | (go_at_call 87; refine HR.out.mono ?_; rintro e' w1 ⟨rfl, g1⟩; have G1 := Aside0.mk g1; clear g1))
 go_ret2
 exact ⟨rfl, G1.out⟩
set_option maxRecDepth 100000 in
theorem setString_e (w : World) (a : Nat) (s : ByteArray) (EP : Addr) (h0 : s.size = 0) (hE : w.cell? ⟨2, 0, none⟩ = some (ErrV EP)) (hg0 : 2 < w.heap.size) :
  Calls Tryd.prog 70 #[.pointer (some ⟨a, 0, none⟩), .string s, .int .i64 10] w fun e w' => e = .returned (.tuple #[.pointer none, .bool false]) ∧ Below w.heap.size w w' := by
 obtain ⟨w1, hw1⟩ : ∃ w1, w1 = w.alloc (.cells #[.string s, .int .i64 0, .int .i64 (-1)] 144) := ⟨_, rfl⟩
 have hold : ∀ k, k < w.heap.size → w1.heap[k]? = w.heap[k]? := fun k hk => by rw [hw1]; exact alloc_old _ _ hk
 have hrd : Rd w1 w.heap.size s 0 (-1) := by unfold Rd; rw [hw1]; exact alloc_at _ _
 have hcon := setFromScanner_e w1 a w.heap.size s (-1) EP hrd h0 ((World.cell?_of_block (hold _ (by show 2 < _; omega))).trans hE) hg0
 have HB : Aside0 (∀ w2, w1.grownBy w2 (some w.heap.size) → Below w.heap.size w w2) := ⟨fun w2 g => by
  have hb : Below w.heap.size w w1 := by rw [hw1]; exact below_alloc_ _ (Nat.le_refl _)
  have hsz : w1.heap.size = w.heap.size + 1 := by rw [hw1]; exact alloc_size _ _
  exact hb.grown g (by omega) (fun k hk => by cases hk; exact Nat.le_refl _)⟩
 have HCON := Aside0.mk hcon
 have HNEW := Aside0.mk (newReader_ w s)
 have HW1 := Aside0.mk hw1
 clear h0 hE hg0 hold hrd hcon hw1
 go_enter Tryd.func70, Tryd.ntmps70
 go_wp2_with (first
  | (go_at_call 82; refine HNEW.out.mono ?_; rintro e' w2 ⟨rfl, hw2⟩; have hw3 := hw2.trans HW1.out.symm; clear hw2; subst hw3)
  | (go_at_call 81; refine HCON.out.mono ?_; rintro e' w3 ⟨rfl, hst⟩; have ST := Aside0.mk hst; clear hst))
 go_ret2
 exact ⟨rfl, HB.out _ ST.out⟩
set_option maxRecDepth 100000 in
theorem convert_e (w : World) (s : ByteArray) (EV EP : Addr) (h0 : s.size = 0)
  (hV : w.cell? ⟨0, 0, none⟩ = some (ErrV EV)) (hE : w.cell? ⟨2, 0, none⟩ = some (ErrV EP)) (hg0 : 2 < w.heap.size) :
  Calls Tryd.prog 52 #[.string s] w fun e w' => e = .returned (.tuple #[.pointer none, ErrV EV]) ∧ Below w.heap.size w w' := by
 obtain ⟨w1, hw1⟩ : ∃ w1, w1 = w.alloc (.cells #[.bool false, .slice none 0 0] 93) := ⟨_, rfl⟩
 have hsz : w1.heap.size = w.heap.size + 1 := by rw [hw1]; exact alloc_size _ _
 have hold : ∀ k, k < w.heap.size → w1.heap[k]? = w.heap[k]? := fun k hk => by rw [hw1]; exact alloc_old _ _ hk
 have hcon := setString_e w1 w.heap.size s EP h0 ((World.cell?_of_block (hold _ (by show 2 < _; omega))).trans hE) (by omega)
 have hbel : Below w.heap.size w w1 := by rw [hw1]; exact below_alloc_ _ (Nat.le_refl _)
 have HB : Aside0 (∀ w2, Below w1.heap.size w1 w2 → Below w.heap.size w w2) := ⟨fun w2 h => hbel.trans ⟨h.os, h.tape, h.output, h.size, fun k hk => h.block k (by omega)⟩⟩
 have hV2 : ∀ w2, Below w1.heap.size w1 w2 → w2.cell? ⟨0, 0, none⟩ = some (ErrV EV) := fun w2 h => ((World.cell?_of_block (h.block 0 (by omega))).trans (World.cell?_of_block (hold _ (by show 0 < _; omega)))).trans hV
 simp only [ErrV] at hV2 ⊢
 rw [hw1] at hcon HB hV2
 have HCON := Aside0.mk hcon
 have HV := Aside0.mk hV2
 clear h0 hV hE hg0 hsz hold hcon hbel hw1 hV2
 go_enter Tryd.func52, Tryd.ntmps52
 go_wp2_with (first
  | (go_at_call 70; refine HCON.out.mono ?_; rintro e' w3 ⟨rfl, hst⟩; have ST := Aside0.mk hst; have cv := HV.out w3 hst; clear hst))
 go_quiet (fail)
 go_wp2
 go_ret2
 exact ⟨rfl, by first | exact HB.out _ ST.out | (apply pw_below_drewN; exact HB.out _ ST.out)⟩
def Plain (s : ByteArray) : Prop := s.size ≤ 1000000 ∧ bt s 0 ≠ 45 ∧ bt s 0 ≠ 43
instance (s : ByteArray) : Decidable (Plain s) := inferInstanceAs (Decidable (_ ∧ _ ∧ _))
def GLe (w : World) : Prop := 4 < w.heap.size ∧ (∃ a, w.cell? ⟨0, 0, none⟩ = some (ErrV a)) ∧ (∃ a, w.cell? ⟨2, 0, none⟩ = some (ErrV a)) ∧ ∃ a, w.cell? ⟨4, 0, none⟩ = some (ErrV a)
theorem GLe.below {w w' : World} {B : Nat} (h : GLe w) (hb : Below B w w') (hB : w.heap.size ≤ B) : GLe w' := by
 obtain ⟨h1, ⟨a1, h2⟩, ⟨a2, h3⟩, a3, h4⟩ := h
 have ge : ∀ g : Nat, g ≤ 4 → w'.heap[g]? = w.heap[g]? := fun g hg => hb.block g (by omega)
 have hs := hb.size
 exact ⟨by omega, ⟨a1, (World.cell?_of_block (ge _ (by decide))).trans h2⟩, ⟨a2, (World.cell?_of_block (ge _ (by decide))).trans h3⟩, a3, (World.cell?_of_block (ge _ (by decide))).trans h4⟩
theorem convert_all (w : World) (s : ByteArray) (hp : Plain s) (hG : GLe w) : ∃ EV, Calls Tryd.prog 52 #[.string s] w (fun e w' => Conv s EV w w' e) := by
 obtain ⟨hs, h1, h2⟩ := hp
 obtain ⟨g1, ⟨EV, hV⟩, ⟨EP, hE⟩, NP, hN⟩ := hG
 refine ⟨EV, ?_⟩
 by_cases h0 : s.size = 0
 ·refine (convert_e w s EV EP h0 hV hE (by omega)).mono ?_
  rintro e w' ⟨rfl, hb⟩
  exact ⟨fun h => absurd h.1 (by omega), fun _ => rfl, hb⟩
 ·exact convert_ w s EV EP NP (by omega) hs h1 h2 hV hE hN g1
end Go.Proofs.YtapaijpglfmfgaaDoorG
end
section -- K14
namespace Go.Proofs.YtapaijpglfmfgaaDoorG
open Go.RowKit Go.Proofs.YtapaijpglfmfgaaDoorW.PrintWords Go.Proofs.YtapaijpglfmfgaaDoorW.PrintLast
set_option linter.unusedVariables false
set_option linter.unusedSimpArgs false
theorem W64_pos : 0 < W64 := by unfold W64; omega
theorem step_lt {x y a b : Nat} (hx : x < W64) (h : a < b) : x + W64 * a < y + W64 * b := by
 have h2 : W64 * (a + 1) ≤ W64 * b := Nat.mul_le_mul (Nat.le_refl _) h
 have h1 : W64 * (a + 1) = W64 * a + W64 := Nat.mul_succ _ _
 generalize W64 * a = p at *
 generalize W64 * b = q at *
 generalize W64 * (a + 1) = r at *
 omega
theorem getD_cons_succ (x : Nat) (l : List Nat) (i : Nat) : (x :: l).getD (i + 1) 0 = l.getD i 0 := by simp [List.getD_eq_getElem?_getD]
theorem getD_cons_zero (x : Nat) (l : List Nat) : (x :: l).getD 0 0 = x := by simp [List.getD_eq_getElem?_getD]
theorem rows_eq : ∀ (lx ly : List Nat), lx.length = ly.length → (∀ j, j < lx.length → lx.getD j 0 = ly.getD j 0) → lx = ly
 | [], [], _, _ => rfl
 | [], _ :: _, h, _ => by simp at h
 | _ :: _, [], h, _ => by simp at h
 | x :: l, y :: m, h, hj => by
  have h0 := hj 0 (by simp)
  rw [getD_cons_zero, getD_cons_zero] at h0
  rw [h0, rows_eq l m (by simpa using h) (fun j hl => by have := hj (j + 1) (by simpa using hl); rw [getD_cons_succ, getD_cons_succ] at this; exact this)]
theorem num_lt : ∀ (lx ly : List Nat), lx.length = ly.length → (∀ x ∈ lx, IsW x) → ∀ i, i < lx.length → (∀ j, i < j → j < lx.length → lx.getD j 0 = ly.getD j 0) → lx.getD i 0 < ly.getD i 0 → num lx < num ly
 | [], _, _, _, i, hi, _, _ => by simp at hi
 | _ :: _, [], h, _, _, _, _, _ => by simp at h
 | x :: l, y :: m, h, hw, 0, hi, hj, hlt => by
  rw [getD_cons_zero, getD_cons_zero] at hlt
  have e : l = m := rows_eq l m (by simpa using h) (fun j hl => by have := hj (j + 1) (by omega) (by simpa using hl); rw [getD_cons_succ, getD_cons_succ] at this; exact this)
  simp only [num, e]
  omega
 | x :: l, y :: m, h, hw, i + 1, hi, hj, hlt => by
  rw [getD_cons_succ, getD_cons_succ] at hlt
  have ih := num_lt l m (by simpa using h) (fun z hz => hw z (by simp [hz])) i (by simpa using hi) (fun j h1 h2 => by have := hj (j + 1) (by omega) (by simpa using h2); rw [getD_cons_succ, getD_cons_succ] at this; exact this) hlt
  simp only [num]
  exact step_lt (hw x (by simp)) ih
theorem num_bound : ∀ (l : List Nat), (∀ x ∈ l, IsW x) → num l < W64 ^ l.length
 | [], _ => by simp [num]
 | x :: l, hw => by
  have ih := num_bound l (fun z hz => hw z (by simp [hz]))
  simp only [num, List.length_cons, Nat.pow_succ]
  have h := step_lt (y := 0) (hw x (by simp)) ih
  rw [Nat.mul_comm (W64 ^ l.length) W64]
  omega
theorem num_snoc : ∀ (l : List Nat) (x : Nat), num (l ++ [x]) = num l + W64 ^ l.length * x
 | [], x => by simp [num]
 | y :: l, x => by
  simp only [List.cons_append, num, num_snoc l x, List.length_cons, Nat.pow_succ, Nat.mul_add]
  rw [← Nat.mul_assoc, Nat.mul_comm W64 (W64 ^ l.length), Nat.add_assoc]
theorem trimW_le (l : List Nat) : (trimW l).length ≤ l.length := by
 unfold trimW
 have h := (List.dropWhile_sublist (fun x => decide (x = 0)) (l := l.reverse)).length_le
 rw [List.length_reverse] at h ⊢
 exact h
theorem num_low (l : List Nat) (h : l = trimW l) (h0 : 0 < l.length) : W64 ^ (l.length - 1) ≤ num l := by
 obtain ⟨m, x, rfl⟩ : ∃ m x, l = m ++ [x] := by
  rcases List.eq_nil_or_concat l with e | ⟨m, x, e⟩
  ·rw [e] at h0; simp at h0
  ·exact ⟨m, x, by simpa using e⟩
 have hx : x ≠ 0 := by
  intro e
  subst e
  rw [trimW_snoc_zero] at h
  have := trimW_le m
  have h2 := congrArg List.length h
  simp at h2
  omega
 rw [num_snoc]
 have e : (m ++ [x]).length - 1 = m.length := by simp
 rw [e]
 have : W64 ^ m.length * 1 ≤ W64 ^ m.length * x := Nat.mul_le_mul (Nat.le_refl _) (Nat.pos_of_ne_zero hx)
 omega
theorem num_shorter {lx ly : List Nat} (hw : ∀ x ∈ lx, IsW x) (hy : ly = trimW ly) (h : lx.length < ly.length) : num lx < num ly := by
 have h1 := num_bound lx hw
 have h2 := num_low ly hy (by omega)
 have h3 : W64 ^ lx.length ≤ W64 ^ (ly.length - 1) := Nat.pow_le_pow_right W64_pos (by omega)
 omega
def cmpN (a b : Nat) : Int := if a < b then -1 else if b < a then 1 else 0
theorem cmpAt_num {lx ly : List Nat} {r : Int} (h : CmpAt lx ly r) (hx : lx = trimW lx) (hy : ly = trimW ly) (wx : ∀ x ∈ lx, IsW x) (wy : ∀ x ∈ ly, IsW x) : r = cmpN (num lx) (num ly) := by
 unfold cmpN
 rcases h with ⟨h, rfl⟩ | ⟨h, rfl⟩ | ⟨h, h0, rfl⟩ | ⟨h, i, hi, hj, h0, rfl⟩
 ·rw [if_pos (num_shorter wx hy h)]
 ·have := num_shorter wy hx h
  rw [if_neg (by omega), if_pos this]
 ·have e1 : lx = [] := List.length_eq_zero_iff.1 h0
  have e2 : ly = [] := List.length_eq_zero_iff.1 (by omega)
  rw [e1, e2]
  simp
 ·by_cases h1 : lx.getD i 0 < ly.getD i 0
  ·rw [if_pos h1, if_pos (num_lt lx ly h wx i hi hj h1)]
  ·by_cases h2 : ly.getD i 0 < lx.getD i 0
   ·have := num_lt ly lx h.symm wy i (by omega) (fun j k1 k2 => (hj j k1 (by omega)).symm) h2
    rw [if_neg h1, if_pos h2, if_neg (by omega), if_pos this]
   ·have he : lx.getD i 0 = ly.getD i 0 := by omega
    rcases h0 with h0 | h0
    ·have e : lx = ly := rows_eq lx ly h (fun j k => by
      rcases Nat.eq_or_lt_of_le (Nat.zero_le j) with e | e
      ·have e0 : j = i := by omega
       rw [e0]; exact he
      ·exact hj j (by omega) k)
     rw [if_neg h1, if_neg h2, e]
     simp
    ·exact absurd he h0
theorem NatS.words {w : World} {B : Nat} {v : Value} {l : List Nat} (h : NatS w B v l) : ∀ x ∈ l, IsW x := by
 rcases h with ⟨rfl, rfl⟩ | ⟨g, full, h1, h2, h3, h4, h5, h6, h7⟩
 ·intro x hx; simp at hx
 ·intro x hx
  rw [← h4] at hx
  exact h7 x (List.mem_of_mem_take hx)
theorem dv_lt (s : ByteArray) : ∀ k : Nat, (∀ j : Nat, j < k → Dig (bt s j)) → dv s k < 10 ^ k
 | 0, _ => by simp [dv]
 | k + 1, h => by
  have ih := dv_lt s k (fun j hj => h j (by omega))
  have hd := h k (by omega)
  have h1 := hd.1
  have h2 := hd.2
  simp only [dv, Nat.pow_succ]
  omega
theorem num_len {l : List Nat} {s : ByteArray} (h : l = trimW l) (hd : AllDig s) (e : num l = dv s s.size) : l.length ≤ s.size := by
 by_cases h0 : l.length = 0
 ·omega
 ·have h1 := num_low l h (by omega)
  have h2 := dv_lt s s.size hd.2
  have h3 : 10 ^ s.size ≤ W64 ^ s.size := Nat.pow_le_pow_left (by unfold W64; omega) _
  rcases Nat.lt_or_ge s.size l.length with h4 | h4
  ·have h5 : W64 ^ s.size ≤ W64 ^ (l.length - 1) := Nat.pow_le_pow_right W64_pos (by omega)
   omega
  ·exact h4
end Go.Proofs.YtapaijpglfmfgaaDoorG
end
section -- K15
namespace Go.Proofs.YtapaijpglfmfgaaDoorG
open Go.RowKit Go.Proofs.YtapaijpglfmfgaaDoorW.PrintWords Go.Proofs.YtapaijpglfmfgaaDoorW.PrintLast
set_option linter.unusedVariables false
set_option linter.unusedSimpArgs false
theorem natCmpN (w : World) (Bx By : Nat) (vx vy : Value) (lx ly : List Nat) (hx : NatS w Bx vx lx) (hy : NatS w By vy ly) (tx : lx = trimW lx) (ty : ly = trimW ly) (hlx : lx.length ≤ 1000000) (hly : ly.length ≤ 1000000) :
  Calls Tryd.prog 86 #[vx, vy] w fun e w' => e = .returned (.int .i64 (cmpN (num lx) (num ly))) ∧ Drawn0 w w' := by
 refine (natCmp_ w Bx By vx vy lx ly hx hy hlx hly).mono ?_
 rintro e w' ⟨r, rfl, h, hd⟩
 exact ⟨by rw [cmpAt_num h tx ty hx.words hy.words], hd⟩
theorem intPointee : ∃ j, Tryd.prog.info? 93 = some j ∧ j.size ≠ 0 := by
 have h : (Tryd.prog.info? 93).map (fun i => i.size != 0) = some true := by kernel_rfl
 obtain ⟨j, hj, hz⟩ := Option.map_eq_some_iff.1 h
 exact ⟨j, hj, by simpa using hz⟩
theorem eq_ints {w : World} {a b : Nat} {va vb : Value} (ha : Bg w a false va) (hb : Bg w b false vb) (hab : a ≠ b) : (binOp .eql 67 (.pointer (some ⟨a, 0, none⟩)) (.pointer (some ⟨b, 0, none⟩))).run Tryd.prog w = .ok (.bool false) w := by
 obtain ⟨j, hj, hz⟩ := intPointee
 exact run_eql_ptr_other w Tryd.underlying67 hj hz (fun e => hab (by simpa using congrArg Addr.block e)) ha hb
set_option maxRecDepth 100000 in
set_option maxHeartbeats 4000000 in
theorem intCmp_ (w : World) (a b Bx By : Nat) (vx vy : Value) (lx ly : List Nat) (ha : Bg w a false vx) (hb : Bg w b false vy) (hab : a ≠ b) (hx : NatS w Bx vx lx) (hy : NatS w By vy ly) (tx : lx = trimW lx) (ty : ly = trimW ly) (hlx : lx.length ≤ 1000000) (hly : ly.length ≤ 1000000) :
  Calls Tryd.prog 80 #[.pointer (some ⟨a, 0, none⟩), .pointer (some ⟨b, 0, none⟩)] w fun e w' => e = .returned (.int .i64 (cmpN (num lx) (num ly))) ∧ Drawn0 w w' := by
 have e1 := eq_ints ha hb hab
 have a0 := ha.c0
 have a1 := ha.c1
 have b0 := hb.c0
 have b1 := hb.c1
 have HC := Aside0.mk (fun (W : World) (hW : W.heap = w.heap) => natCmpN W Bx By vx vy lx ly (hx.other (fun k _ _ => by rw [hW])) (hy.other (fun k _ _ => by rw [hW])) tx ty hlx hly)
 obtain ⟨px, cx, rfl⟩ := hx.shape
 obtain ⟨py, cy, rfl⟩ := hy.shape
 have HA := Aside0.mk (And.intro ha hb)
 clear ha hb hab hx hy hlx hly tx ty
 go_enter Tryd.func80, Tryd.ntmps80
 go_wp2
 go_quiet (fail)
 go_wp2
 go_quiet (first | (go_at_call 86; (refine (HC.out _ (by rfl)).mono ?_); rintro e w' ⟨rfl, ⟨nd, rfl⟩⟩; (try first | exact ⟨rfl, _, World.drewN_drewN _ _ _⟩ | exact ⟨rfl, _, Eq.trans (World.drewN_drewN _ _ _) (congrArg (World.drewN _) (Nat.add_assoc _ _ _))⟩)))
 go_wp2
 go_ret
 exact ⟨rfl, by repeat (first | exact Drawn0.refl _ | apply Drawn0.step)⟩
end Go.Proofs.YtapaijpglfmfgaaDoorG
end
section -- KN
namespace Go.Proofs.YtapaijpglfmfgaaDoorG
open Go.RowKit Go.Proofs.YtapaijpglfmfgaaDoorW.PrintWords Go.Proofs.YtapaijpglfmfgaaDoorW.PrintLast
set_option linter.unusedVariables false
set_option linter.unusedSimpArgs false
instance (s : ByteArray) : Decidable (AllDig s) := by
 unfold AllDig
 exact inferInstanceAs (Decidable (_ ∧ _))
def BigAt (w : World) (a n : Nat) : Prop := ∃ v l, Bg w a false v ∧ NatS w a v l ∧ num l = n ∧ l = trimW l ∧ l.length ≤ 1000000
theorem NatS.lt {w : World} {B : Nat} {v : Value} {l : List Nat} (h : NatS w B v l) {w' : World} (hb : Below w.heap.size w w') : NatS w' B v l := by
 refine h.other (fun k _ hk => hb.block k hk)
theorem BigAt.below {w w' : World} {a n : Nat} (h : BigAt w a n) (hb : Below w.heap.size w w') : BigAt w' a n := by
 obtain ⟨v, l, h1, h2, h3⟩ := h
 exact ⟨v, l, h1.same (hb.block a h1.lt), h2.lt hb, h3⟩
theorem conv_yes (w : World) (s : ByteArray) (hp : Plain s) (hG : GLe w) (hd : AllDig s) :
  Calls Tryd.prog 52 #[.string s] w fun e w' => e = .returned (.tuple #[.pointer (some ⟨w.heap.size, 0, none⟩), .nilIface]) ∧ BigAt w' w.heap.size (dv s s.size) ∧ Below w.heap.size w w' := by
 obtain ⟨EV, h⟩ := convert_all w s hp hG
 refine h.mono ?_
 rintro e w' ⟨h1, _, hb⟩
 obtain ⟨v, l, rfl, k1, k2, k3, k4⟩ := h1 hd
 exact ⟨rfl, ⟨v, l, k1, k2, k3, k4, Nat.le_trans (num_len k4 hd k3) hp.1⟩, hb⟩
theorem cmp_big_ne (w : World) (a b n m : Nat) (ha : BigAt w a n) (hb : BigAt w b m) (hab : a ≠ b) :
  Calls Tryd.prog 80 #[.pointer (some ⟨a, 0, none⟩), .pointer (some ⟨b, 0, none⟩)] w fun e w' => e = .returned (.int .i64 (cmpN n m)) ∧ Below w.heap.size w w' := by
 obtain ⟨vx, lx, a1, a2, a3, a4, a5⟩ := ha
 obtain ⟨vy, ly, b1, b2, b3, b4, b5⟩ := hb
 refine (intCmp_ w a b a b vx vy lx ly a1 b1 hab a2 b2 a4 b4 a5 b5).mono ?_
 rintro e w' ⟨rfl, hd⟩
 exact ⟨by rw [a3, b3], hd.below⟩
theorem NatS.same_row {w : World} {B B' : Nat} {v : Value} {l l2 : List Nat} (h : NatS w B v l) (k : NatS w B' v l2) : l = l2 := by
 rcases h with ⟨e1, e2⟩ | ⟨g, full, e1, _, e3, e4, _⟩
 ·rcases k with ⟨_, f2⟩ | ⟨g2, full2, f1, _⟩
  ·rw [e2, f2]
  ·rw [e1] at f1; simp at f1
 ·rcases k with ⟨f1, _⟩ | ⟨g2, full2, f1, _, f3, f4, _⟩
  ·rw [e1] at f1; simp at f1
  ·rw [e1] at f1
   simp at f1
   obtain ⟨hg, hl, hc⟩ := f1
   subst hg
   unfold Ws at e3 f3
   rw [e3] at f3
   have h5 : (full.map NumC).toArray = (full2.map NumC).toArray := by
    have h6 := Option.some.inj f3
    injection h6
   have h7 : full.map NumC = full2.map NumC := by simpa using h5
   have inj : ∀ (x y : List Nat), x.map NumC = y.map NumC → x = y := by
    intro x
    induction x with
    | nil => intro y hy; cases y with
     | nil => rfl
     | cons b y => simp at hy
    | cons c x ih => intro y hy; cases y with
     | nil => simp at hy
     | cons b y =>
      simp only [List.map_cons, List.cons.injEq] at hy
      have h8 : c = b := by
       have h9 := hy.1
       unfold NumC at h9
       injection h9 with _ h9
       omega
      rw [h8, ih y hy.2]
   have h10 := inj _ _ h7
   rw [← e4, ← f4, h10, hl]
theorem BigAt.one {w : World} {a n m : Nat} (h : BigAt w a n) (k : BigAt w a m) : n = m := by
 obtain ⟨v, l, a1, a2, a3, _⟩ := h
 obtain ⟨v2, l2, b1, b2, b3, _⟩ := k
 have e : v = v2 := by
  unfold Bg at a1 b1
  rw [a1] at b1
  simpa using b1
 subst e
 rw [← a3, ← b3, a2.same_row b2]
set_option maxRecDepth 100000 in
theorem cmp_big_eq (w : World) (a : Nat) : Calls Tryd.prog 80 #[.pointer (some ⟨a, 0, none⟩), .pointer (some ⟨a, 0, none⟩)] w fun e w' => e = .returned (.int .i64 0) ∧ Below w.heap.size w w' := by
 obtain ⟨j, hj, hz⟩ := intPointee
 have e1 := fun W : World => run_eql_ptr_same (P := Tryd.prog) W ⟨a, 0, none⟩ Tryd.underlying67 hj
 have HB := Aside0.mk (Below.refl w.heap.size w)
 clear hj hz
 go_enter Tryd.func80, Tryd.ntmps80
 go_wp2
 go_ret
 exact ⟨rfl, HB.out⟩
theorem cmp_big (w : World) (a b n m : Nat) (ha : BigAt w a n) (hb : BigAt w b m) :
  Calls Tryd.prog 80 #[.pointer (some ⟨a, 0, none⟩), .pointer (some ⟨b, 0, none⟩)] w fun e w' => e = .returned (.int .i64 (cmpN n m)) ∧ Below w.heap.size w w' := by
 by_cases h : a = b
 ·subst h
  have e := ha.one hb
  subst e
  refine (cmp_big_eq w a).mono ?_
  rintro e w' ⟨rfl, h⟩
  refine ⟨?_, h⟩
  unfold cmpN
  rw [if_neg (by omega), if_neg (by omega)]
 ·exact cmp_big_ne w a b n m ha hb h
theorem big_zero (w : World) : BigAt (w.alloc (.cells #[.bool false, .slice none 0 0] 93)) w.heap.size 0 := by
 refine ⟨.slice none 0 0, [], ?_, .inl ⟨rfl, rfl⟩, rfl, rfl, by simp⟩
 unfold Bg
 exact alloc_at w _
theorem cell_old {w w' : World} {p : Addr} {v : Value} (hb : Below w.heap.size w w') (h : w.cell? p = some v) : w'.cell? p = some v := by
 rw [← h]
 refine World.cell?_of_block (hb.block _ ?_)
 rcases Nat.lt_or_ge p.block w.heap.size with hl | hl
 ·exact hl
 ·unfold World.cell? at h
  rw [Array.getElem?_eq_none hl] at h
  cases h
def KeptT (p : TypeId → Bool) (w w' : World) : Prop := ∀ (k : Nat) (cs : Array Value) (t : TypeId) (fr : Nat × Nat), w.heap[k]? = some (Obj.cells cs t fr) → p t = true → w'.heap[k]? = w.heap[k]?
theorem KeptT.trans {p : TypeId → Bool} {w w1 w2 : World} (h : KeptT p w w1) (k : KeptT p w1 w2) : KeptT p w w2 := fun b cs t fr hb ht => by
 have h1 := h b cs t fr hb ht
 rw [k b cs t fr (by rw [h1]; exact hb) ht, h1]
theorem KeptT.below {p : TypeId → Bool} {w w' : World} (h : Below w.heap.size w w') : KeptT p w w' := fun b cs t fr hb _ => h.block b (by
 rcases Nat.lt_or_ge b w.heap.size with hl | hl
 ·exact hl
 ·rw [Array.getElem?_eq_none hl] at hb; cases hb)
theorem KeptT.grown {p : TypeId → Bool} {w w' : World} {g : Nat} {cs : Array Value} {t : TypeId} {fr : Nat × Nat} (hg : w.heap[g]? = some (.cells cs t fr)) (ht : p t = false) (h : w.grownBy w' (some g)) : KeptT p w w' := fun b cs2 t2 fr2 hb hp => h.block b (by
 rcases Nat.lt_or_ge b w.heap.size with hl | hl
 ·exact hl
 ·rw [Array.getElem?_eq_none hl] at hb; cases hb) (fun e => by
 have e2 := Option.some.inj e
 subst e2
 rw [hg] at hb
 cases hb
 rw [ht] at hp
 cases hp)
def numT (t : TypeId) : Bool := t == 93 || t == 133
theorem BigAt.kept {w w' : World} {a n : Nat} (h : BigAt w a n) (k : KeptT numT w w') : BigAt w' a n := by
 obtain ⟨v, l, h1, h2, h3⟩ := h
 refine ⟨v, l, h1.same (k a _ _ _ h1 (by decide)), ?_, h3⟩
 rcases h2 with h2 | ⟨g, full, e1, e2, e3, e4⟩
 ·exact .inl h2
 ·exact .inr ⟨g, full, e1, e2, e3.same (k g _ _ _ e3 (by decide)), e4⟩
end Go.Proofs.YtapaijpglfmfgaaDoorG
end
section -- A2
namespace Go.Proofs.YtapaijpglfmfgaaDoorG
open Go.RowKit Go.Proofs.YtapaijpglfmfgaaDoorH Go.Proofs.YtapaijpglfmfgaaDoorW.PrintWords Go.Proofs.YtapaijpglfmfgaaDoorW.PrintLast
set_option linter.unusedVariables false
set_option linter.unusedSimpArgs false
theorem cmp_later {w : World} {a b n m : Nat} (ha : BigAt w a n) (hb : BigAt w b m) (W : World) (hW : Below w.heap.size w W) :
  Calls Tryd.prog 80 #[.pointer (some ⟨a, 0, none⟩), .pointer (some ⟨b, 0, none⟩)] W fun e w' => e = .returned (.int .i64 (cmpN n m)) ∧ Below w.heap.size w w' := by
 refine (cmp_big W a b n m (ha.below hW) (hb.below hW)).mono ?_
 rintro e w' ⟨rfl, h⟩
 exact ⟨rfl, below_step hW h⟩
def numC (o1 : ByteArray) (i1 n1 : Nat) (o2 : ByteArray) (i2 n2 : Nat) : Int := if i1 ≠ 0 ∧ i2 ≠ 0 ∧ (bt o1 0 = 48 ∨ bt o2 0 = 48) then strCmp o1 o2 else cmpN n1 n2
def NCv (o : ByteArray) (a i : Nat) : Value := .agg #[.string o, .pointer (some ⟨a, 0, none⟩), .int .i64 (i : Int)]
set_option maxRecDepth 100000 in
theorem numCmp_ (w : World) (o1 o2 : ByteArray) (a1 a2 i1 i2 n1 n2 : Nat) (h1 : BigAt w a1 n1) (h2 : BigAt w a2 n2) (z1 : 0 < o1.size) (z2 : 0 < o2.size) :
  Calls Tryd.prog 77 #[NCv o1 a1 i1, NCv o2 a2 i2] w fun e w' => e = .returned (.int .i64 (numC o1 i1 n1 o2 i2 n2)) ∧ Below w.heap.size w w' := by
 unfold NCv
 have HC := Aside0.mk (cmp_later h1 h2)
 have HS := Aside0.mk (fun W : World => strings_Compare.calls o1 o2 _ W rfl)
 have HB := Aside0.mk (Below.refl w.heap.size w)
 obtain ⟨r, hr⟩ : ∃ r, r = numC o1 i1 n1 o2 i2 n2 := ⟨_, rfl⟩
 rw [← hr]
 clear h1 h2
 have q1 : (0 < (o1.size : Int)) = True := eq_true (by omega)
 have q2 : (0 < (o2.size : Int)) = True := eq_true (by omega)
 have q3 : (0 < o1.size) = True := eq_true z1
 have q4 : (0 < o2.size) = True := eq_true z2
 have x1 : ∀ h : 0 < o1.size, ((o1[0]'h).toNat : Int) = bt o1 0 := fun h => bt_at o1 0 h
 have x2 : ∀ h : 0 < o2.size, ((o2[0]'h).toNat : Int) = bt o2 0 := fun h => bt_at o2 0 h
 have fin : numC o1 i1 n1 o2 i2 n2 = cmpN n1 n2 → Aside0 (r = cmpN n1 n2) := fun h => ⟨by rw [hr, h]⟩
 have fin2 : numC o1 i1 n1 o2 i2 n2 = strCmp o1 o2 → Aside0 (r = strCmp o1 o2) := fun h => ⟨by rw [hr, h]⟩
 clear z1 z2
 by_cases e1 : i1 = 0
 ·have HR := fin (by unfold numC; rw [if_neg (fun h => h.1 e1)])
  have b1 : ((i1 : Int) != 0) = false := by simp [e1]
  have b2 : ((i1 : Int) == 0) = true := by simp [e1]
  clear fin fin2 hr e1
  go_enter Tryd.func77, Tryd.ntmps77
  go_wp2_with (first | (go_at_call 80; refine (HC.out _ (by repeat (first | exact HB.out | apply below_alloc | apply pw_below_drewN))).mono ?_; rintro e' w1 ⟨rfl, hb⟩; have HB1 := Aside0.mk hb; clear hb))
  go_ret
  exact ⟨by rw [HR.out]; rfl, HB1.out⟩
 ·have b1 : ((i1 : Int) != 0) = true := by simp [e1]
  have b2 : ((i1 : Int) == 0) = false := by simp [e1]
  by_cases e2 : i2 = 0
  ·have HR := fin (by unfold numC; rw [if_neg (fun h => h.2.1 e2)])
   have b3 : ((i2 : Int) != 0) = false := by simp [e2]
   have b4 : ((i2 : Int) == 0) = true := by simp [e2]
   clear fin fin2 hr e1 e2
   go_enter Tryd.func77, Tryd.ntmps77
   go_wp2_with (first | (go_at_call 80; refine (HC.out _ (by repeat (first | exact HB.out | apply below_alloc | apply pw_below_drewN))).mono ?_; rintro e' w1 ⟨rfl, hb⟩; have HB1 := Aside0.mk hb; clear hb))
   go_ret
   exact ⟨by rw [HR.out]; rfl, HB1.out⟩
  ·have b3 : ((i2 : Int) != 0) = true := by simp [e2]
   have b4 : ((i2 : Int) == 0) = false := by simp [e2]
   by_cases e3 : bt o1 0 = 48
   ·have HR := fin2 (by unfold numC; rw [if_pos ⟨e1, e2, .inl e3⟩])
    have b5 : (bt o1 0 == 48) = true := by simp [e3]
    clear fin fin2 hr e1 e2 e3
    go_enter Tryd.func77, Tryd.ntmps77
    go_wp2_with (first | (go_at_call 61; (with_reducible refine (HS.out _).mono ?_); rintro e w' ⟨rfl, ⟨nd, rfl⟩⟩))
    go_ret
    exact ⟨by rw [HR.out]; rfl, by repeat (first | exact HB.out | apply below_alloc | apply pw_below_drewN)⟩
   ·have b5 : (bt o1 0 == 48) = false := by simp [e3]
    by_cases e4 : bt o2 0 = 48
    ·have HR := fin2 (by unfold numC; rw [if_pos ⟨e1, e2, .inr e4⟩])
     have b6 : (bt o2 0 == 48) = true := by simp [e4]
     clear fin fin2 hr e1 e2 e3 e4
     go_enter Tryd.func77, Tryd.ntmps77
     go_wp2_with (first | (go_at_call 61; (with_reducible refine (HS.out _).mono ?_); rintro e w' ⟨rfl, ⟨nd, rfl⟩⟩))
     go_ret
     exact ⟨by rw [HR.out]; rfl, by repeat (first | exact HB.out | apply below_alloc | apply pw_below_drewN)⟩
    ·have HR := fin (by unfold numC; rw [if_neg (fun h => h.2.2.elim e3 e4)])
     have b6 : (bt o2 0 == 48) = false := by simp [e4]
     clear fin fin2 hr e1 e2 e3 e4
     go_enter Tryd.func77, Tryd.ntmps77
     go_wp2_with (first | (go_at_call 80; refine (HC.out _ (by repeat (first | exact HB.out | apply below_alloc | apply pw_below_drewN))).mono ?_; rintro e' w1 ⟨rfl, hb⟩; have HB1 := Aside0.mk hb; clear hb))
     go_ret
     exact ⟨by rw [HR.out]; rfl, HB1.out⟩
def sufC (w1 : Int) (n1 : Nat) (w2 : Int) (n2 : Nat) : Int := if w1 > w2 then 1 else if w1 < w2 then -1 else cmpN n1 n2
def SFv (wt : Int) (a : Nat) : Value := .agg #[.int .i64 wt, .pointer (some ⟨a, 0, none⟩)]
set_option maxRecDepth 100000 in
theorem sufCmp_ (w : World) (w1 w2 : Int) (a1 a2 n1 n2 : Nat) (h1 : BigAt w a1 n1) (h2 : BigAt w a2 n2) :
  Calls Tryd.prog 79 #[SFv w1 a1, SFv w2 a2] w fun e w' => e = .returned (.int .i64 (sufC w1 n1 w2 n2)) ∧ Below w.heap.size w w' := by
 unfold SFv
 have HC := Aside0.mk (cmp_later h1 h2)
 have HB := Aside0.mk (Below.refl w.heap.size w)
 obtain ⟨r, hr⟩ : ∃ r, r = sufC w1 n1 w2 n2 := ⟨_, rfl⟩
 rw [← hr]
 clear h1 h2
 have fin : ∀ q, sufC w1 n1 w2 n2 = q → Aside0 (r = q) := fun q h => ⟨by rw [hr, h]⟩
 by_cases e1 : w1 > w2
 ·have HR := fin 1 (by unfold sufC; rw [if_pos e1])
  have b1 : decide (w2 < w1) = true := decide_eq_true e1
  clear fin hr e1
  go_enter Tryd.func79, Tryd.ntmps79
  go_wp2
  go_ret
  exact ⟨by rw [HR.out]; rfl, by repeat (first | exact HB.out | apply below_alloc | apply pw_below_drewN)⟩
 ·have b1 : decide (w2 < w1) = false := decide_eq_false e1
  by_cases e2 : w1 < w2
  ·have HR := fin (-1) (by unfold sufC; rw [if_neg e1, if_pos e2])
   have b2 : decide (w1 < w2) = true := decide_eq_true e2
   clear fin hr e1 e2
   go_enter Tryd.func79, Tryd.ntmps79
   go_wp2
   go_ret
   exact ⟨by rw [HR.out]; rfl, by repeat (first | exact HB.out | apply below_alloc | apply pw_below_drewN)⟩
  ·have HR := fin (cmpN n1 n2) (by unfold sufC; rw [if_neg e1, if_neg e2])
   have b2 : decide (w1 < w2) = false := decide_eq_false e2
   clear fin hr e1 e2
   go_enter Tryd.func79, Tryd.ntmps79
   go_wp2_with (first | (go_at_call 80; refine (HC.out _ (by repeat (first | exact HB.out | apply below_alloc | apply pw_below_drewN))).mono ?_; rintro e' w1 ⟨rfl, hb⟩; have HB1 := Aside0.mk hb; clear hb))
   go_ret
   exact ⟨by rw [HR.out]; rfl, HB1.out⟩
theorem neq_nilptr (a : Nat) : ∀ W : World, (binOp .neq 67 (.pointer (some ⟨a, 0, none⟩)) (.pointer none)).run Tryd.prog W = .ok (.bool true) W := by
 intro W
 have h : ∀ d : Nat, (Op.equalIn (d + 1) 67 (.pointer (some ⟨a, 0, none⟩)) (.pointer none)).run Tryd.prog W = .ok false W := fun d => by
  simp [Op.equalIn, run_underlying Tryd.underlying67]
 simp only [binOp]
 simp [Op.equal, Op.maxDepth, h 9999]
set_option maxRecDepth 100000 in
theorem compareBuild_ (w : World) (o1 o2 r1 r2 l1 l2 h1 h2 : ByteArray) (i1 i2 : Bool) (c1 c2 s1 s2 : Value) (a1 a2 n1 n2 : Nat) (k1 : BigAt w a1 n1) (k2 : BigAt w a2 n2) :
  Calls Tryd.prog 65 #[AVv o1 i1 r1 c1 l1 s1 h1 (.pointer (some ⟨a1, 0, none⟩)), AVv o2 i2 r2 c2 l2 s2 h2 (.pointer (some ⟨a2, 0, none⟩))] w fun e w' => e = .returned (.int .i64 (cmpN n1 n2)) ∧ Below w.heap.size w w' := by
 unfold AVv
 have HC := Aside0.mk (cmp_later k1 k2)
 have HB := Aside0.mk (Below.refl w.heap.size w)
 have p1 := neq_nilptr a1
 have p2 := neq_nilptr a2
 obtain ⟨r, hr⟩ : ∃ r, r = cmpN n1 n2 := ⟨_, rfl⟩
 rw [← hr] at HC ⊢
 clear k1 k2 hr
 by_cases e : r = 0
 ·subst e
  go_enter Tryd.func65, Tryd.ntmps65
  go_wp2_with (first | (go_at_call 80; refine (HC.out _ (by repeat (first | exact HB.out | apply below_alloc | apply pw_below_drewN))).mono ?_; rintro e' w1 ⟨rfl, hb⟩; have HB1 := Aside0.mk hb; clear hb))
  go_ret
  exact ⟨rfl, HB1.out⟩
 ·have b1 : (r != 0) = true := by simpa using e
  have b2 : (r == 0) = false := by simpa using e
  clear e
  go_enter Tryd.func65, Tryd.ntmps65
  go_wp2_with (first | (go_at_call 80; refine (HC.out _ (by repeat (first | exact HB.out | apply below_alloc | apply pw_below_drewN))).mono ?_; rintro e' w1 ⟨rfl, hb⟩; have HB1 := Aside0.mk hb; clear hb))
  go_ret
  exact ⟨rfl, HB1.out⟩
end Go.Proofs.YtapaijpglfmfgaaDoorG
end
section -- A3
namespace Go.Proofs.YtapaijpglfmfgaaDoorG
open Go.RowKit Go.Proofs.YtapaijpglfmfgaaDoorH Go.Proofs.YtapaijpglfmfgaaDoorW.PrintWords Go.Proofs.YtapaijpglfmfgaaDoorW.PrintLast
set_option linter.unusedVariables false
set_option linter.unusedSimpArgs false
structure Nm where
 o : ByteArray
 a : Nat
 n : Nat
def CRow (w : World) (v : Value) (l : List Nm) : Prop := ∃ (p : Option Addr) (c : Nat), v = .slice p l.length c ∧ l.length ≤ 1000000 ∧
 ∀ (i : Nat) (x : Nm), l[i]? = some x → ∃ b : Nat, p = some ⟨b, 0, none⟩ ∧ w.cell? ⟨b, i * 3, none⟩ = some (.string x.o) ∧ w.cell? ⟨b, i * 3 + 1, none⟩ = some (.pointer (some ⟨x.a, 0, none⟩)) ∧ w.cell? ⟨b, i * 3 + 2, none⟩ = some (.int .i64 (i : Int)) ∧ BigAt w x.a x.n ∧ 0 < x.o.size
theorem CRow.below {w w' : World} {v : Value} {l : List Nm} (h : CRow w v l) (hb : Below w.heap.size w w') : CRow w' v l := by
 obtain ⟨p, c, h1, h2, h3⟩ := h
 refine ⟨p, c, h1, h2, fun i x hx => ?_⟩
 obtain ⟨ad, e, k1, k2, k3, k4, k5⟩ := h3 i x hx
 exact ⟨ad, e, cell_old hb k1, cell_old hb k2, cell_old hb k3, k4.below hb, k5⟩
def nmO (l : List Nm) (k : Nat) : ByteArray := match l[k]? with
 | some x => x.o
 | none => ⟨#[48]⟩
def nmN (l : List Nm) (k : Nat) : Nat := match l[k]? with
 | some x => x.n
 | none => 0
def nmI (l : List Nm) (k : Nat) : Nat := match l[k]? with
 | some _ => k
 | none => 0
set_option maxRecDepth 100000 in
theorem fetch_ (w : World) (g k : Nat) (v : Value) (l : List Nm) (hc : w.cell? ⟨g, 3, none⟩ = some v) (hr : CRow w v l) (hk : k ≤ 1000000) :
  Calls Tryd.prog 76 #[.pointer (some ⟨g, 3, none⟩), .int .i64 (k : Int)] w fun e w' => ∃ a, e = .returned (NCv (nmO l k) a (nmI l k)) ∧ BigAt w' a (nmN l k) ∧ Below w.heap.size w w' := by
 unfold NCv
 obtain ⟨p, c, rfl, hl, hx⟩ := hr
 have HB := Aside0.mk (Below.refl w.heap.size w)
 by_cases h : k < l.length
 ·have e : l[k]? = some l[k] := List.getElem?_eq_getElem h
  obtain ⟨ad, rfl, k1, k2, k3, k4, k5⟩ := hx k _ e
  have eO : nmO l k = l[k].o := by unfold nmO; rw [e]
  have eN : nmN l k = l[k].n := by unfold nmN; rw [e]
  have eI : nmI l k = k := by unfold nmI; rw [e]
  rw [eO, eN, eI]
  obtain ⟨x, hx0⟩ : ∃ x, x = l[k] := ⟨_, rfl⟩
  rw [← hx0] at k1 k2 k4 ⊢
  have K4 := Aside0.mk k4
  have b1 : decide ((l.length : Int) ≤ (k : Int)) = false := decide_eq_false (by omega)
  have b1n : decide (l.length ≤ k) = false := decide_eq_false (by omega)
  have b2 : (0 ≤ (k : Int)) = True := eq_true (by omega)
  have b3 : ((k : Int) < (l.length : Int)) = True := eq_true (by omega)
  have hb1 := below_alloc HB.out (.cells #[.string ⟨#[]⟩, .pointer none, .int .i64 0] 103)
  replace hc := cell_old hb1 hc
  replace k1 := cell_old hb1 k1
  replace k2 := cell_old hb1 k2
  replace k3 := cell_old hb1 k3
  clear hx e eO eN eI hx0 k4 k5 hl h hb1
  go_enter Tryd.func76, Tryd.ntmps76
  go_wp2
  (try simp only [Exit.inBlock, Exit.then])
  refine bodyPost_ret (results_cell_row rfl _ _ w.heap.size 103 #[.string x.o, .pointer (some ⟨x.a, 0, none⟩), .int .i64 (k : Int)] (0, 0) _ rfl (alloc_at _ _) Tryd.underlying103 rfl (by kernel_rfl)) rfl ?_
  exact ⟨x.a, rfl, K4.out.below (below_alloc HB.out _), below_alloc HB.out _⟩
 ·have e : l[k]? = none := List.getElem?_eq_none (by omega)
  have eO : nmO l k = ⟨#[48]⟩ := by unfold nmO; rw [e]
  have eN : nmN l k = 0 := by unfold nmN; rw [e]
  have eI : nmI l k = 0 := by unfold nmI; rw [e]
  rw [eO, eN, eI]
  have b1 : decide ((l.length : Int) ≤ (k : Int)) = true := decide_eq_true (by omega)
  have b1n : decide (l.length ≤ k) = true := decide_eq_true (by omega)
  have hb1 := below_alloc HB.out (.cells #[.string ⟨#[]⟩, .pointer none, .int .i64 0] 103)
  replace hc := cell_old hb1 hc
  clear hx e eO eN eI hl h hb1
  go_enter Tryd.func76, Tryd.ntmps76
  go_wp2
  (try simp only [Exit.inBlock, Exit.then])
  refine bodyPost_ret (results_cell_row rfl _ _ w.heap.size 103 #[.string ⟨#[48]⟩, .pointer (some ⟨w.heap.size + 1, 0, none⟩), .int .i64 0] (0, 0) _ rfl ((alloc_old _ _ (by rw [alloc_size]; omega)).trans (alloc_at _ _)) Tryd.underlying103 rfl (by kernel_rfl)) rfl ?_
  have hz := big_zero (w.alloc (.cells #[.string ⟨#[48]⟩, .pointer (some ⟨w.heap.size + 1, 0, none⟩), .int .i64 0] 103))
  rw [alloc_size] at hz
  exact ⟨w.heap.size + 1, rfl, hz, below_alloc (below_alloc HB.out _) _⟩
structure Sx where
 wt : Int
 a : Nat
 n : Nat
def SRow (w : World) (v : Value) (l : List Sx) : Prop := ∃ (p : Option Addr) (c : Nat), v = .slice p l.length c ∧ l.length ≤ 1000000 ∧
 ∀ (i : Nat) (x : Sx), l[i]? = some x → ∃ b : Nat, p = some ⟨b, 0, none⟩ ∧ w.cell? ⟨b, i * 2, none⟩ = some (.int .i64 x.wt) ∧ w.cell? ⟨b, i * 2 + 1, none⟩ = some (.pointer (some ⟨x.a, 0, none⟩)) ∧ BigAt w x.a x.n
theorem SRow.below {w w' : World} {v : Value} {l : List Sx} (h : SRow w v l) (hb : Below w.heap.size w w') : SRow w' v l := by
 obtain ⟨p, c, h1, h2, h3⟩ := h
 refine ⟨p, c, h1, h2, fun i x hx => ?_⟩
 obtain ⟨ad, e, k1, k2, k4⟩ := h3 i x hx
 exact ⟨ad, e, cell_old hb k1, cell_old hb k2, k4.below hb⟩
def sxW (l : List Sx) (k : Nat) : Int := match l[k]? with
 | some x => x.wt
 | none => 5
def sxN (l : List Sx) (k : Nat) : Nat := match l[k]? with
 | some x => x.n
 | none => 0
set_option maxRecDepth 100000 in
theorem KeptT.set {p : TypeId → Bool} {w : World} {g : Nat} {cs : Array Value} {t : TypeId} {fr : Nat × Nat} (hg : w.heap[g]? = some (.cells cs t fr)) (ht : p t = false) (i : Nat) (u : Value) : KeptT p w (w.setCell ⟨g, i, none⟩ u) := fun b cs2 t2 fr2 hb hp => by
 have hne : g ≠ b := by
  rintro rfl
  rw [hg] at hb
  cases hb
  rw [ht] at hp
  cases hp
 simp [World.setCell, Array.getElem?_modify, hne]
theorem newInt_zero (w : World) : Calls Tryd.prog 85 #[.int .i64 0] w fun e w' => e = .returned (.pointer (some ⟨w.heap.size, 0, none⟩)) ∧ BigAt w' w.heap.size 0 ∧ Below w.heap.size w w' := by
 have HB := Aside0.mk (Below.refl w.heap.size w)
 have HZ := Aside0.mk (big_zero w)
 go_enter Tryd.func85, Tryd.ntmps85
 go_wp2
 go_ret
 exact ⟨rfl, HZ.out, below_alloc HB.out _⟩
set_option maxRecDepth 100000 in
theorem fetchSuffix_ (w : World) (k : Nat) (l : List Sx) (o1 r1 l1 h1 : ByteArray) (i1 : Bool) (c1 s1 b1 : Value) (hr : SRow w s1 l) (hk : k ≤ 1000000) :
  Calls Tryd.prog 78 #[AVv o1 i1 r1 c1 l1 s1 h1 b1, .int .i64 (k : Int)] w fun e w' => ∃ a, e = .returned (SFv (sxW l k) a) ∧ BigAt w' a (sxN l k) ∧ Below w.heap.size w w' := by
 unfold AVv SFv
 obtain ⟨p, c, rfl, hl, hx⟩ := hr
 have HB := Aside0.mk (Below.refl w.heap.size w)
 have hb1 := below_alloc (below_alloc HB.out (.cells #[.string o1, .bool i1, .string r1, c1, .string l1, .slice p l.length c, .string h1, b1] 69)) (.cells #[.int .i64 0, .pointer none] 106)
 by_cases h : k < l.length
 ·have e : l[k]? = some l[k] := List.getElem?_eq_getElem h
  obtain ⟨b, rfl, k1, k2, k4⟩ := hx k _ e
  have eO : sxW l k = l[k].wt := by unfold sxW; rw [e]
  have eN : sxN l k = l[k].n := by unfold sxN; rw [e]
  rw [eO, eN]
  obtain ⟨x, hx0⟩ : ∃ x, x = l[k] := ⟨_, rfl⟩
  rw [← hx0] at k1 k2 k4 ⊢
  have K4 := Aside0.mk k4
  have q1 : decide ((l.length : Int) ≤ (k : Int)) = false := decide_eq_false (by omega)
  have q1n : decide (l.length ≤ k) = false := decide_eq_false (by omega)
  have q2 : (0 ≤ (k : Int)) = True := eq_true (by omega)
  have q3 : ((k : Int) < (l.length : Int)) = True := eq_true (by omega)
  replace k1 := cell_old hb1 k1
  replace k2 := cell_old hb1 k2
  clear hx e eO eN hx0 k4 hl h hb1
  go_enter Tryd.func78, Tryd.ntmps78
  go_wp2
  (try simp only [Exit.inBlock, Exit.then])
  refine bodyPost_ret (results_cell_row rfl _ _ (w.heap.size + 1) 106 #[.int .i64 x.wt, .pointer (some ⟨x.a, 0, none⟩)] (0, 0) _ rfl (by rw [← alloc_size w (.cells #[.string o1, .bool i1, .string r1, c1, .string l1, .slice (some ⟨b, 0, none⟩) l.length c, .string h1, b1] 69)]; exact alloc_at _ _) Tryd.underlying106 rfl (by kernel_rfl)) rfl ?_
  exact ⟨x.a, rfl, K4.out.below (below_alloc (below_alloc HB.out _) _), below_alloc (below_alloc HB.out _) _⟩
 ·have e : l[k]? = none := List.getElem?_eq_none (by omega)
  have eO : sxW l k = 5 := by unfold sxW; rw [e]
  have eN : sxN l k = 0 := by unfold sxN; rw [e]
  rw [eO, eN]
  have q1 : decide ((l.length : Int) ≤ (k : Int)) = true := decide_eq_true (by omega)
  have q1n : decide (l.length ≤ k) = true := decide_eq_true (by omega)
  have HBK : Aside0 ((((w.alloc (.cells #[.string o1, .bool i1, .string r1, c1, .string l1, .slice p l.length c, .string h1, b1] 69)).alloc (.cells #[.int .i64 0, .pointer none] 106)).heap[w.heap.size + 1]? = some (.cells #[.int .i64 0, .pointer none] 106 (0, 0)))) := ⟨by
   rw [← alloc_size w (.cells #[.string o1, .bool i1, .string r1, c1, .string l1, .slice p l.length c, .string h1, b1] 69)]; exact alloc_at _ _⟩
  clear hx e eO eN hl h
  have HB1 := Aside0.mk hb1
  clear hb1
  go_enter Tryd.func78, Tryd.ntmps78
  go_wp2_with (first | (go_at_call 85; (with_reducible refine (newInt_zero _).mono ?_); rintro e' w3 ⟨rfl, hz, hb⟩; have HZ := Aside0.mk hz; have HB3 := Aside0.mk (below_step HB1.out hb); have g0 := blk_below HBK.out hb; clear hz hb; have x0 := (blk_cell g0 0).trans rfl; have f0 := blk_frozen g0 0; have g1 := blk_put (cs' := #[.int .i64 5, .pointer none]) g0 0 (.int .i64 5) rfl; have x1 := (blk_cell g1 1).trans rfl; have f1 := blk_frozen g1 1; have G0 := Aside0.mk g0; have G1 := Aside0.mk g1; clear g0 g1))
  (try simp only [Exit.inBlock, Exit.then])
  refine bodyPost_ret (results_cell_row rfl _ _ (w.heap.size + 1) 106 #[.int .i64 5, .pointer (some ⟨w.heap.size + 1 + 1, 0, none⟩)] (0, 0) _ rfl (blk_put G1.out 1 _ rfl) Tryd.underlying106 rfl (by kernel_rfl)) rfl ?_
  have hz := HZ.out
  rw [alloc_size, alloc_size] at hz
  refine ⟨w.heap.size + 1 + 1, rfl, (hz.kept (KeptT.set G0.out (by decide) 0 _)).kept (KeptT.set G1.out (by decide) 1 _), ?_⟩
  exact (HB3.out.setCell (by show w.heap.size ≤ w.heap.size + 1; omega) _).setCell (by show w.heap.size ≤ w.heap.size + 1; omega) _
end Go.Proofs.YtapaijpglfmfgaaDoorG
end
section -- A4
namespace Go.Proofs.YtapaijpglfmfgaaDoorG
open Go.RowKit Go.Proofs.YtapaijpglfmfgaaDoorH Go.Proofs.YtapaijpglfmfgaaDoorW.PrintWords Go.Proofs.YtapaijpglfmfgaaDoorW.PrintLast
set_option linter.unusedVariables false
set_option linter.unusedSimpArgs false
def fromC (d : Nat → Int) : Nat → Nat → Int
 | 0, _ => 0
 | n + 1, k => if d k = 0 then fromC d n (k + 1) else d k
theorem meas_up0 (n k : Nat) (h : k < n) : n - (intOf (.int .i64 ((k + 1 : Nat) : Int))).toNat < n - (intOf (.int .i64 (k : Int))).toNat := by
 simp only [intOf]
 omega
theorem meas_up2 (n k : Nat) (h : k < n) (e : wrap64 ((k : Int) + 1) = ((k + 1 : Nat) : Int)) : n - (intOf (.int .i64 (wrap64 ((k : Int) + 1)))).toNat < n - (intOf (.int .i64 (k : Int))).toNat := by
 rw [e]
 exact meas_up0 n k h
def numD (l m : List Nm) (k : Nat) : Int := numC (nmO l k) (nmI l k) (nmN l k) (nmO m k) (nmI m k) (nmN m k)
def compsC (l m : List Nm) : Int := fromC (numD l m) (max l.length m.length) 0
def sufD (l m : List Sx) (k : Nat) : Int := sufC (sxW l k) (sxN l k) (sxW m k) (sxN m k)
def sufsC (l m : List Sx) : Int := fromC (sufD l m) (max l.length m.length) 0
theorem nmO_pos {w : World} {v : Value} {l : List Nm} (h : CRow w v l) (k : Nat) : 0 < (nmO l k).size := by
 obtain ⟨p, c, _, _, h3⟩ := h
 unfold nmO
 cases e : l[k]? with
 | none => decide
 | some x =>
  obtain ⟨b, _, _, _, _, _, h4⟩ := h3 k x e
  exact h4
theorem CRow.len {w : World} {v : Value} {l : List Nm} (h : CRow w v l) : ∃ p c, v = .slice p l.length c := by
 obtain ⟨p, c, h1, _⟩ := h
 exact ⟨p, c, h1⟩
theorem SRow.len {w : World} {v : Value} {l : List Sx} (h : SRow w v l) : ∃ p c, v = .slice p l.length c := by
 obtain ⟨p, c, h1, _⟩ := h
 exact ⟨p, c, h1⟩
set_option maxRecDepth 100000 in
set_option maxHeartbeats 4000000 in
theorem compareComponents_ (w : World) (l m : List Nm) (o1 o2 r1 r2 l1 l2 h1 h2 : ByteArray) (i1 i2 : Bool) (c1 c2 s1 s2 b1 b2 : Value) (k1 : CRow w c1 l) (k2 : CRow w c2 m) :
  Calls Tryd.prog 62 #[AVv o1 i1 r1 c1 l1 s1 h1 b1, AVv o2 i2 r2 c2 l2 s2 h2 b2] w fun e w' => e = .returned (.int .i64 (compsC l m)) ∧ Below w.heap.size w w' := by
 unfold AVv
 have hl1 : l.length ≤ 1000000 := by obtain ⟨_, _, _, h, _⟩ := k1; exact h
 have hl2 : m.length ≤ 1000000 := by obtain ⟨_, _, _, h, _⟩ := k2; exact h
 obtain ⟨p1, q1, e1⟩ := k1.len
 obtain ⟨p2, q2, e2⟩ := k2.len
 subst e1
 subst e2
 have HB := Aside0.mk (Below.refl w.heap.size w)
 obtain ⟨W2, hW2⟩ : ∃ W2, W2 = ((w.alloc (.cells #[.string o1, .bool i1, .string r1, .slice p1 l.length q1, .string l1, s1, .string h1, b1] 69)).alloc (.cells #[.string o2, .bool i2, .string r2, .slice p2 m.length q2, .string l2, s2, .string h2, b2] 69)) := ⟨_, rfl⟩
 have HW2 := Aside0.mk hW2
 have hb2 : Below w.heap.size w W2 := by rw [hW2]; exact below_alloc (below_alloc HB.out _) _
 have HB2 := Aside0.mk hb2
 have ga : W2.heap[w.heap.size]? = some (.cells #[.string o1, .bool i1, .string r1, .slice p1 l.length q1, .string l1, s1, .string h1, b1] 69 (0, 0)) := by rw [hW2]; exact blk_alloc (blk_new w _) _
 have gb : W2.heap[w.heap.size + 1]? = some (.cells #[.string o2, .bool i2, .string r2, .slice p2 m.length q2, .string l2, s2, .string h2, b2] 69 (0, 0)) := by
  rw [hW2, ← alloc_size w (.cells #[.string o1, .bool i1, .string r1, .slice p1 l.length q1, .string l1, s1, .string h1, b1] 69)]; exact alloc_at _ _
 have GA := Aside0.mk ga
 have GB := Aside0.mk gb
 have K1 := Aside0.mk (k1.below hb2)
 have K2 := Aside0.mk (k2.below hb2)
 obtain ⟨n, hn⟩ : ∃ n, n = max l.length m.length := ⟨_, rfl⟩
 have HN := Aside0.mk hn
 have M1 : (max (l.length : Int) (m.length : Int)) = (n : Int) := by omega
 have HL := Aside0.mk (show n ≤ 1000000 by omega)
 have H0 : Aside0 (compsC l m = fromC (numD l m) (n - 0) 0) := ⟨by rw [hn]; rfl⟩
 obtain ⟨r, hr⟩ : ∃ r, r = compsC l m := ⟨_, rfl⟩
 rw [← hr] at H0 ⊢
 clear hW2 hb2 ga gb k1 k2 hn hl1 hl2 hr
 have F1 : Aside0 (∀ (W : World) (k : Nat), Below W2.heap.size W2 W → k ≤ 1000000 → Calls Tryd.prog 76 #[.pointer (some ⟨w.heap.size, 3, none⟩), .int .i64 (k : Int)] W fun e w' => ∃ a, e = .returned (NCv (nmO l k) a (nmI l k)) ∧ BigAt w' a (nmN l k) ∧ Below W.heap.size W w') :=
  ⟨fun W k hb hk => fetch_ W w.heap.size k _ l ((blk_cell (blk_below GA.out hb) 3).trans rfl) (K1.out.below hb) hk⟩
 have F2 : Aside0 (∀ (W : World) (k : Nat), Below W2.heap.size W2 W → k ≤ 1000000 → Calls Tryd.prog 76 #[.pointer (some ⟨w.heap.size + 1, 3, none⟩), .int .i64 (k : Int)] W fun e w' => ∃ a, e = .returned (NCv (nmO m k) a (nmI m k)) ∧ BigAt w' a (nmN m k) ∧ Below W.heap.size W w') :=
  ⟨fun W k hb hk => fetch_ W (w.heap.size + 1) k _ m ((blk_cell (blk_below GB.out hb) 3).trans rfl) (K2.out.below hb) hk⟩
 have Z1 := Aside0.mk (nmO_pos K1.out)
 have Z2 := Aside0.mk (nmO_pos K2.out)
 go_enter Tryd.func62, Tryd.ntmps62
 go_wp2
 go_loopw [16] (fun i wr => ∃ k : Nat, k ≤ n ∧ i = .int .i64 k ∧ Aside0 (r = fromC (numD l m) (n - k) k) ∧ Aside0 (Below W2.heap.size W2 wr)) (fun i _ => n - (intOf i).toNat)
 case atStart => exact ⟨0, Nat.zero_le _, rfl, H0, by rw [← HW2.out]; exact ⟨Below.refl _ _⟩⟩
 case round =>
  obtain ⟨k, hk, rfl, hp, HWR⟩ := hrel
  by_cases hlt : k < n
  ·obtain ⟨d, hd⟩ : ∃ d, d = numD l m k := ⟨_, rfl⟩
   have HD : Aside0 (numC (nmO l k) (nmI l k) (nmN l k) (nmO m k) (nmI m k) (nmN m k) = d) := ⟨hd.symm⟩
   have HK := Aside0.mk (show k ≤ 1000000 by have := HL.out; omega)
   have LT := Aside0.mk hlt
   have ga := blk_below GA.out HWR.out
   have gb := blk_below GB.out HWR.out
   have i3 : decide ((k : Int) < (n : Int)) = true := decide_eq_true (by omega)
   have i4 : ((k : Int) < (n : Int)) = True := eq_true (by omega)
   have hst : r = if d = 0 then fromC (numD l m) (n - (k + 1)) (k + 1) else d := by
    rw [hp.out, show n - k = (n - (k + 1)) + 1 by omega]
    simp only [fromC, ← hd]
   have NS : Aside0 (k + 1 ≤ n) := ⟨by omega⟩
   have WR : wrap64 ((k : Int) + 1) = ((k + 1 : Nat) : Int) := by have := HL.out; unfold wrap64; omega
   clear hd hlt hk
   by_cases h0 : d = 0
   ·rw [if_pos h0] at hst
    have HS := Aside0.mk hst
    subst h0
    clear hst
    go_wp2_with (first | (go_at_call 76; (with_reducible refine (F1.out wr k HWR.out HK.out).mono ?_); rintro e' w1 ⟨a1, rfl, g1, bb1⟩; have BG1 := Aside0.mk g1; have BB1 := Aside0.mk (below_then HWR.out HWR.out.size bb1); clear g1 bb1) | (go_at_call 76; (with_reducible refine (F2.out w1 k BB1.out HK.out).mono ?_); rintro e' w2 ⟨a2, rfl, g2, bb2⟩; have BG2 := Aside0.mk g2; have BG1' := Aside0.mk (BG1.out.below bb2); have BB2 := Aside0.mk (below_then BB1.out BB1.out.size bb2); clear g2 bb2) | (go_at_call 77; (with_reducible refine (numCmp_ w2 _ _ a1 a2 _ _ _ _ BG1'.out BG2.out (Z1.out k) (Z2.out k)).mono ?_); rintro e' w3 ⟨he, bb3⟩; rw [HD.out] at he; subst he; have BB3 := Aside0.mk (below_then BB2.out BB2.out.size bb3); clear bb3))
    all_goals go_roundw
    all_goals first | exact ⟨k + 1, NS.out, by first | rfl | go_num, HS, BB3⟩ | exact meas_up0 n k LT.out | exact meas_up1 n k LT.out | exact meas_up2 n k LT.out WR
   ·rw [if_neg h0] at hst
    have HS := Aside0.mk hst
    have z1 : (d != 0) = true := by simpa using h0
    have z2 : (d == 0) = false := by simpa using h0
    clear hst h0
    go_wp2_with (first | (go_at_call 76; (with_reducible refine (F1.out wr k HWR.out HK.out).mono ?_); rintro e' w1 ⟨a1, rfl, g1, bb1⟩; have BG1 := Aside0.mk g1; have BB1 := Aside0.mk (below_then HWR.out HWR.out.size bb1); clear g1 bb1) | (go_at_call 76; (with_reducible refine (F2.out w1 k BB1.out HK.out).mono ?_); rintro e' w2 ⟨a2, rfl, g2, bb2⟩; have BG2 := Aside0.mk g2; have BG1' := Aside0.mk (BG1.out.below bb2); have BB2 := Aside0.mk (below_then BB1.out BB1.out.size bb2); clear g2 bb2) | (go_at_call 77; (with_reducible refine (numCmp_ w2 _ _ a1 a2 _ _ _ _ BG1'.out BG2.out (Z1.out k) (Z2.out k)).mono ?_); rintro e' w3 ⟨he, bb3⟩; rw [HD.out] at he; subst he; have BB3 := Aside0.mk (below_then BB2.out BB2.out.size bb3); clear bb3))
    all_goals (go_ret; exact ⟨by rw [HS.out]; rfl, below_then HB2.out HB2.out.size BB3.out⟩)
  ·obtain rfl : k = n := by omega
   have i3 : decide ((k : Int) < (k : Int)) = false := decide_eq_false (by omega)
   have i4 : ((k : Int) < (k : Int)) = False := eq_false (by omega)
   have HS : Aside0 (r = 0) := ⟨by rw [hp.out, Nat.sub_self]; rfl⟩
   clear hlt hk
   go_wp2
   go_ret
   exact ⟨by rw [HS.out]; rfl, below_then HB2.out HB2.out.size HWR.out⟩
set_option maxRecDepth 100000 in
set_option maxHeartbeats 4000000 in
theorem compareSuffixes_ (w : World) (l m : List Sx) (o1 o2 r1 r2 l1 l2 h1 h2 : ByteArray) (i1 i2 : Bool) (c1 c2 s1 s2 b1 b2 : Value) (k1 : SRow w s1 l) (k2 : SRow w s2 m) :
  Calls Tryd.prog 64 #[AVv o1 i1 r1 c1 l1 s1 h1 b1, AVv o2 i2 r2 c2 l2 s2 h2 b2] w fun e w' => e = .returned (.int .i64 (sufsC l m)) ∧ Below w.heap.size w w' := by
 unfold AVv
 have hl1 : l.length ≤ 1000000 := by obtain ⟨_, _, _, h, _⟩ := k1; exact h
 have hl2 : m.length ≤ 1000000 := by obtain ⟨_, _, _, h, _⟩ := k2; exact h
 obtain ⟨p1, q1, e1⟩ := k1.len
 obtain ⟨p2, q2, e2⟩ := k2.len
 subst e1
 subst e2
 have HB := Aside0.mk (Below.refl w.heap.size w)
 obtain ⟨W2, hW2⟩ : ∃ W2, W2 = ((w.alloc (.cells #[.string o1, .bool i1, .string r1, c1, .string l1, .slice p1 l.length q1, .string h1, b1] 69)).alloc (.cells #[.string o2, .bool i2, .string r2, c2, .string l2, .slice p2 m.length q2, .string h2, b2] 69)) := ⟨_, rfl⟩
 have HW2 := Aside0.mk hW2
 have hb2 : Below w.heap.size w W2 := by rw [hW2]; exact below_alloc (below_alloc HB.out _) _
 have HB2 := Aside0.mk hb2
 have ga : W2.heap[w.heap.size]? = some (.cells #[.string o1, .bool i1, .string r1, c1, .string l1, .slice p1 l.length q1, .string h1, b1] 69 (0, 0)) := by rw [hW2]; exact blk_alloc (blk_new w _) _
 have gb : W2.heap[w.heap.size + 1]? = some (.cells #[.string o2, .bool i2, .string r2, c2, .string l2, .slice p2 m.length q2, .string h2, b2] 69 (0, 0)) := by
  rw [hW2, ← alloc_size w (.cells #[.string o1, .bool i1, .string r1, c1, .string l1, .slice p1 l.length q1, .string h1, b1] 69)]; exact alloc_at _ _
 have GA := Aside0.mk ga
 have GB := Aside0.mk gb
 have K1 := Aside0.mk (k1.below hb2)
 have K2 := Aside0.mk (k2.below hb2)
 obtain ⟨n, hn⟩ : ∃ n, n = max l.length m.length := ⟨_, rfl⟩
 have HN := Aside0.mk hn
 have M1 : (max (l.length : Int) (m.length : Int)) = (n : Int) := by omega
 have HL := Aside0.mk (show n ≤ 1000000 by omega)
 have H0 : Aside0 (sufsC l m = fromC (sufD l m) (n - 0) 0) := ⟨by rw [hn]; rfl⟩
 obtain ⟨r, hr⟩ : ∃ r, r = sufsC l m := ⟨_, rfl⟩
 rw [← hr] at H0 ⊢
 clear hW2 hb2 ga gb k1 k2 hn hl1 hl2 hr
 have F1 : Aside0 (∀ (W : World) (k : Nat), Below W2.heap.size W2 W → k ≤ 1000000 → Calls Tryd.prog 78 #[.agg #[.string o1, .bool i1, .string r1, c1, .string l1, .slice p1 l.length q1, .string h1, b1], .int .i64 (k : Int)] W fun e w' => ∃ a, e = .returned (SFv (sxW l k) a) ∧ BigAt w' a (sxN l k) ∧ Below W.heap.size W w') :=
  ⟨fun W k hb hk => fetchSuffix_ W k l o1 r1 l1 h1 i1 c1 _ b1 (K1.out.below hb) hk⟩
 have F2 : Aside0 (∀ (W : World) (k : Nat), Below W2.heap.size W2 W → k ≤ 1000000 → Calls Tryd.prog 78 #[.agg #[.string o2, .bool i2, .string r2, c2, .string l2, .slice p2 m.length q2, .string h2, b2], .int .i64 (k : Int)] W fun e w' => ∃ a, e = .returned (SFv (sxW m k) a) ∧ BigAt w' a (sxN m k) ∧ Below W.heap.size W w') :=
  ⟨fun W k hb hk => fetchSuffix_ W k m o2 r2 l2 h2 i2 c2 _ b2 (K2.out.below hb) hk⟩
 go_enter Tryd.func64, Tryd.ntmps64
 go_wp2
 go_loopw [16] (fun i wr => ∃ k : Nat, k ≤ n ∧ i = .int .i64 k ∧ Aside0 (r = fromC (sufD l m) (n - k) k) ∧ Aside0 (Below W2.heap.size W2 wr)) (fun i _ => n - (intOf i).toNat)
 case atStart => exact ⟨0, Nat.zero_le _, rfl, H0, by rw [← HW2.out]; exact ⟨Below.refl _ _⟩⟩
 case round =>
  obtain ⟨k, hk, rfl, hp, HWR⟩ := hrel
  by_cases hlt : k < n
  ·obtain ⟨d, hd⟩ : ∃ d, d = sufD l m k := ⟨_, rfl⟩
   have HD : Aside0 (sufC (sxW l k) (sxN l k) (sxW m k) (sxN m k) = d) := ⟨hd.symm⟩
   have HK := Aside0.mk (show k ≤ 1000000 by have := HL.out; omega)
   have LT := Aside0.mk hlt
   have ga := blk_below GA.out HWR.out
   have gb := blk_below GB.out HWR.out
   have i3 : decide ((k : Int) < (n : Int)) = true := decide_eq_true (by omega)
   have i4 : ((k : Int) < (n : Int)) = True := eq_true (by omega)
   have hst : r = if d = 0 then fromC (sufD l m) (n - (k + 1)) (k + 1) else d := by
    rw [hp.out, show n - k = (n - (k + 1)) + 1 by omega]
    simp only [fromC, ← hd]
   have NS : Aside0 (k + 1 ≤ n) := ⟨by omega⟩
   have WR : wrap64 ((k : Int) + 1) = ((k + 1 : Nat) : Int) := by have := HL.out; unfold wrap64; omega
   clear hd hlt hk
   have HWD := Aside0.mk (below_drew1 HWR.out)
   have ga := blk_below GA.out HWD.out
   have gb := blk_below GB.out HWD.out
   have x1 := fun j : Nat => blk_cell ga j
   have y1 := fun j : Nat => blk_cell gb j
   by_cases h0 : d = 0
   ·rw [if_pos h0] at hst
    have HS := Aside0.mk hst
    subst h0
    clear hst
    go_upto_region 5 with (fail)
    go_region_with (first | (go_at_call 78; (with_reducible refine (F1.out wr.drew k HWD.out HK.out).mono ?_); rintro e' w1 ⟨a1, rfl, g1, bb1⟩; have BG1 := Aside0.mk g1; have BB1 := Aside0.mk (below_then HWD.out HWD.out.size bb1); have y2 := fun j : Nat => blk_cell (blk_below gb bb1) j; clear g1 bb1) | (go_at_call 78; (with_reducible refine (F1.out w2 k BB2.out HK.out).mono ?_); rintro e' w1 ⟨a1, rfl, g1, bb1⟩; have BG1 := Aside0.mk g1; have BG2' := Aside0.mk (BG2.out.below bb1); have BB1 := Aside0.mk (below_then BB2.out BB2.out.size bb1); clear g1 bb1) | (go_at_call 78; (with_reducible refine (F2.out w1 k BB1.out HK.out).mono ?_); rintro e' w2 ⟨a2, rfl, g2, bb2⟩; have BG2 := Aside0.mk g2; have BG1' := Aside0.mk (BG1.out.below bb2); have BB2 := Aside0.mk (below_then BB1.out BB1.out.size bb2); clear g2 bb2) | (go_at_call 78; (with_reducible refine (F2.out wr.drew k HWD.out HK.out).mono ?_); rintro e' w2 ⟨a2, rfl, g2, bb2⟩; have BG2 := Aside0.mk g2; have BB2 := Aside0.mk (below_then HWD.out HWD.out.size bb2); have x2 := fun j : Nat => blk_cell (blk_below ga bb2) j; clear g2 bb2) | (go_at_call 79; (with_reducible refine (sufCmp_ w2 _ _ a1 a2 _ _ BG1'.out BG2.out).mono ?_); rintro e' w3 ⟨he, bb3⟩; rw [HD.out] at he; subst he; have BB3 := Aside0.mk (below_then BB2.out BB2.out.size bb3); clear bb3) | (go_at_call 79; (with_reducible refine (sufCmp_ w1 _ _ a1 a2 _ _ BG1.out BG2'.out).mono ?_); rintro e' w3 ⟨he, bb3⟩; rw [HD.out] at he; subst he; have BB3 := Aside0.mk (below_then BB1.out BB1.out.size bb3); clear bb3))
    all_goals (try go_wp2)
    all_goals go_roundw
    all_goals first | exact ⟨k + 1, NS.out, by first | rfl | go_num, HS, BB3⟩ | exact meas_up0 n k LT.out | exact meas_up1 n k LT.out | exact meas_up2 n k LT.out WR
   ·rw [if_neg h0] at hst
    have HS := Aside0.mk hst
    have z1 : (d != 0) = true := by simpa using h0
    have z2 : (d == 0) = false := by simpa using h0
    clear hst h0
    go_upto_region 5 with (fail)
    go_region_with (first | (go_at_call 78; (with_reducible refine (F1.out wr.drew k HWD.out HK.out).mono ?_); rintro e' w1 ⟨a1, rfl, g1, bb1⟩; have BG1 := Aside0.mk g1; have BB1 := Aside0.mk (below_then HWD.out HWD.out.size bb1); have y2 := fun j : Nat => blk_cell (blk_below gb bb1) j; clear g1 bb1) | (go_at_call 78; (with_reducible refine (F1.out w2 k BB2.out HK.out).mono ?_); rintro e' w1 ⟨a1, rfl, g1, bb1⟩; have BG1 := Aside0.mk g1; have BG2' := Aside0.mk (BG2.out.below bb1); have BB1 := Aside0.mk (below_then BB2.out BB2.out.size bb1); clear g1 bb1) | (go_at_call 78; (with_reducible refine (F2.out w1 k BB1.out HK.out).mono ?_); rintro e' w2 ⟨a2, rfl, g2, bb2⟩; have BG2 := Aside0.mk g2; have BG1' := Aside0.mk (BG1.out.below bb2); have BB2 := Aside0.mk (below_then BB1.out BB1.out.size bb2); clear g2 bb2) | (go_at_call 78; (with_reducible refine (F2.out wr.drew k HWD.out HK.out).mono ?_); rintro e' w2 ⟨a2, rfl, g2, bb2⟩; have BG2 := Aside0.mk g2; have BB2 := Aside0.mk (below_then HWD.out HWD.out.size bb2); have x2 := fun j : Nat => blk_cell (blk_below ga bb2) j; clear g2 bb2) | (go_at_call 79; (with_reducible refine (sufCmp_ w2 _ _ a1 a2 _ _ BG1'.out BG2.out).mono ?_); rintro e' w3 ⟨he, bb3⟩; rw [HD.out] at he; subst he; have BB3 := Aside0.mk (below_then BB2.out BB2.out.size bb3); clear bb3) | (go_at_call 79; (with_reducible refine (sufCmp_ w1 _ _ a1 a2 _ _ BG1.out BG2'.out).mono ?_); rintro e' w3 ⟨he, bb3⟩; rw [HD.out] at he; subst he; have BB3 := Aside0.mk (below_then BB1.out BB1.out.size bb3); clear bb3))
    all_goals (try go_wp2)
    all_goals (go_ret; exact ⟨by rw [HS.out]; rfl, below_then HB2.out HB2.out.size BB3.out⟩)
  ·obtain rfl : k = n := by omega
   have i3 : decide ((k : Int) < (k : Int)) = false := decide_eq_false (by omega)
   have i4 : ((k : Int) < (k : Int)) = False := eq_false (by omega)
   have HS : Aside0 (r = 0) := ⟨by rw [hp.out, Nat.sub_self]; rfl⟩
   clear hlt hk
   go_wp2
   go_ret
   exact ⟨by rw [HS.out]; rfl, below_then HB2.out HB2.out.size HWR.out⟩
end Go.Proofs.YtapaijpglfmfgaaDoorG
end
section -- A5
namespace Go.Proofs.YtapaijpglfmfgaaDoorG
open Go.RowKit Go.Proofs.YtapaijpglfmfgaaDoorH Go.Proofs.YtapaijpglfmfgaaDoorW.PrintWords Go.Proofs.YtapaijpglfmfgaaDoorW.PrintLast
set_option linter.unusedVariables false
set_option linter.unusedSimpArgs false
def firstNe (a b : Int) : Int := if a = 0 then b else a
structure AV where
 o : ByteArray
 i : Bool
 r : ByteArray
 c : List Nm
 l : ByteArray
 s : List Sx
 h : ByteArray
 b : Nat
def AVAt (w : World) (v : Value) (x : AV) : Prop := ∃ cv sv a, v = AVv x.o x.i x.r cv x.l sv x.h (.pointer (some ⟨a, 0, none⟩)) ∧ CRow w cv x.c ∧ SRow w sv x.s ∧ BigAt w a x.b
theorem AVAt.below {w w' : World} {v : Value} {x : AV} (h : AVAt w v x) (hb : Below w.heap.size w w') : AVAt w' v x := by
 obtain ⟨cv, sv, a, e, h1, h2, h3⟩ := h
 exact ⟨cv, sv, a, e, h1.below hb, h2.below hb, h3.below hb⟩
def avC (x y : AV) : Int := if x.i = true ∧ y.i = true then strCmp x.o y.o else
 firstNe (compsC x.c y.c) (firstNe (lettersCmp x.l y.l) (firstNe (sufsC x.s y.s) (firstNe (cmpN x.b y.b) (firstNe (remCmp x.r y.r) 0))))
set_option maxRecDepth 100000 in
set_option maxHeartbeats 4000000 in
theorem compare_fx (w : World) (l m : List Nm) (sl sm : List Sx) (o1 o2 r1 r2 l1 l2 h1 h2 : ByteArray) (i2 : Bool) (c1 c2 s1 s2 : Value) (a1 a2 n1 n2 : Nat) (kc1 : CRow w c1 l) (kc2 : CRow w c2 m) (ks1 : SRow w s1 sl) (ks2 : SRow w s2 sm) (kb1 : BigAt w a1 n1) (kb2 : BigAt w a2 n2) :
  Calls Tryd.prog 48 #[.agg #[.string o1, .bool false, .string r1, c1, .string l1, s1, .string h1, .pointer (some ⟨a1, 0, none⟩)], .agg #[.string o2, .bool i2, .string r2, c2, .string l2, s2, .string h2, .pointer (some ⟨a2, 0, none⟩)]] w fun e w' => e = .returned (.int .i64 (firstNe (compsC l m) (firstNe (lettersCmp l1 l2) (firstNe (sufsC sl sm) (firstNe (cmpN n1 n2) (firstNe (remCmp r1 r2) 0)))))) ∧ Below w.heap.size w w' := by
 have HB := Aside0.mk (Below.refl w.heap.size w)
 obtain ⟨W2, hW2⟩ : ∃ W2, W2 = ((w.alloc (.cells #[.string o1, .bool false, .string r1, c1, .string l1, s1, .string h1, .pointer (some ⟨a1, 0, none⟩)] 69)).alloc (.cells #[.string o2, .bool i2, .string r2, c2, .string l2, s2, .string h2, .pointer (some ⟨a2, 0, none⟩)] 69)) := ⟨_, rfl⟩
 have HW2 := Aside0.mk hW2
 have hb2 : Below w.heap.size w W2 := by rw [hW2]; exact below_alloc (below_alloc HB.out _) _
 have HB2 := Aside0.mk hb2
 have ga : W2.heap[w.heap.size]? = some (.cells #[.string o1, .bool false, .string r1, c1, .string l1, s1, .string h1, .pointer (some ⟨a1, 0, none⟩)] 69 (0, 0)) := by rw [hW2]; exact blk_alloc (blk_new w _) _
 have gb : W2.heap[w.heap.size + 1]? = some (.cells #[.string o2, .bool i2, .string r2, c2, .string l2, s2, .string h2, .pointer (some ⟨a2, 0, none⟩)] 69 (0, 0)) := by
  rw [hW2, ← alloc_size w (.cells #[.string o1, .bool false, .string r1, c1, .string l1, s1, .string h1, .pointer (some ⟨a1, 0, none⟩)] 69)]; exact alloc_at _ _
 have GA := Aside0.mk ga
 have GB := Aside0.mk gb
 have KC1 := Aside0.mk (kc1.below hb2)
 have KC2 := Aside0.mk (kc2.below hb2)
 have KS1 := Aside0.mk (ks1.below hb2)
 have KS2 := Aside0.mk (ks2.below hb2)
 have KB1 := Aside0.mk (kb1.below hb2)
 have KB2 := Aside0.mk (kb2.below hb2)
 have BB0 : Aside0 (Below W2.heap.size W2 ((w.alloc (.cells #[.string o1, .bool false, .string r1, c1, .string l1, s1, .string h1, .pointer (some ⟨a1, 0, none⟩)] 69)).alloc (.cells #[.string o2, .bool i2, .string r2, c2, .string l2, s2, .string h2, .pointer (some ⟨a2, 0, none⟩)] 69))) := ⟨by rw [← hW2]; exact Below.refl _ _⟩
 clear hb2 kc1 kc2 ks1 ks2 kb1 kb2
 obtain ⟨r, hr⟩ : ∃ r, r = firstNe (compsC l m) (firstNe (lettersCmp l1 l2) (firstNe (sufsC sl sm) (firstNe (cmpN n1 n2) (firstNe (remCmp r1 r2) 0)))) := ⟨_, rfl⟩
 rw [← hr]
 have C1 : Aside0 (∀ W : World, Below W2.heap.size W2 W → Calls Tryd.prog 62 #[.agg #[.string o1, .bool false, .string r1, c1, .string l1, s1, .string h1, .pointer (some ⟨a1, 0, none⟩)], .agg #[.string o2, .bool i2, .string r2, c2, .string l2, s2, .string h2, .pointer (some ⟨a2, 0, none⟩)]] W fun e w' => e = .returned (.int .i64 (compsC l m)) ∧ Below W2.heap.size W2 w') :=
  ⟨fun W hb => (compareComponents_ W l m o1 o2 r1 r2 l1 l2 h1 h2 false i2 c1 c2 s1 s2 _ _ (KC1.out.below hb) (KC2.out.below hb)).mono (by rintro e w' ⟨rfl, h⟩; exact ⟨rfl, below_then hb hb.size h⟩)⟩
 obtain ⟨d1, hd1⟩ : ∃ d, d = compsC l m := ⟨_, rfl⟩
 rw [← hd1] at C1 hr
 clear hd1
 have C2 : Aside0 (∀ W : World, Below W2.heap.size W2 W → Calls Tryd.prog 63 #[.agg #[.string o1, .bool false, .string r1, c1, .string l1, s1, .string h1, .pointer (some ⟨a1, 0, none⟩)], .agg #[.string o2, .bool i2, .string r2, c2, .string l2, s2, .string h2, .pointer (some ⟨a2, 0, none⟩)]] W fun e w' => e = .returned (.int .i64 (lettersCmp l1 l2)) ∧ Below W2.heap.size W2 w') :=
  ⟨fun W hb => (compareLetters_ W o1 o2 r1 r2 l1 l2 h1 h2 false i2 c1 c2 s1 s2 _ _).mono (by rintro e w' ⟨rfl, h⟩; exact ⟨rfl, below_then hb hb.size h⟩)⟩
 obtain ⟨d2, hd2⟩ : ∃ d, d = lettersCmp l1 l2 := ⟨_, rfl⟩
 rw [← hd2] at C2 hr
 clear hd2
 have C3 : Aside0 (∀ W : World, Below W2.heap.size W2 W → Calls Tryd.prog 64 #[.agg #[.string o1, .bool false, .string r1, c1, .string l1, s1, .string h1, .pointer (some ⟨a1, 0, none⟩)], .agg #[.string o2, .bool i2, .string r2, c2, .string l2, s2, .string h2, .pointer (some ⟨a2, 0, none⟩)]] W fun e w' => e = .returned (.int .i64 (sufsC sl sm)) ∧ Below W2.heap.size W2 w') :=
  ⟨fun W hb => (compareSuffixes_ W sl sm o1 o2 r1 r2 l1 l2 h1 h2 false i2 c1 c2 s1 s2 _ _ (KS1.out.below hb) (KS2.out.below hb)).mono (by rintro e w' ⟨rfl, h⟩; exact ⟨rfl, below_then hb hb.size h⟩)⟩
 obtain ⟨d3, hd3⟩ : ∃ d, d = sufsC sl sm := ⟨_, rfl⟩
 rw [← hd3] at C3 hr
 clear hd3
 have C4 : Aside0 (∀ W : World, Below W2.heap.size W2 W → Calls Tryd.prog 65 #[.agg #[.string o1, .bool false, .string r1, c1, .string l1, s1, .string h1, .pointer (some ⟨a1, 0, none⟩)], .agg #[.string o2, .bool i2, .string r2, c2, .string l2, s2, .string h2, .pointer (some ⟨a2, 0, none⟩)]] W fun e w' => e = .returned (.int .i64 (cmpN n1 n2)) ∧ Below W2.heap.size W2 w') :=
  ⟨fun W hb => (compareBuild_ W o1 o2 r1 r2 l1 l2 h1 h2 false i2 c1 c2 s1 s2 a1 a2 n1 n2 (KB1.out.below hb) (KB2.out.below hb)).mono (by rintro e w' ⟨rfl, h⟩; exact ⟨rfl, below_then hb hb.size h⟩)⟩
 obtain ⟨d4, hd4⟩ : ∃ d, d = cmpN n1 n2 := ⟨_, rfl⟩
 rw [← hd4] at C4 hr
 clear hd4
 have C5 : Aside0 (∀ W : World, Below W2.heap.size W2 W → Calls Tryd.prog 66 #[.agg #[.string o1, .bool false, .string r1, c1, .string l1, s1, .string h1, .pointer (some ⟨a1, 0, none⟩)], .agg #[.string o2, .bool i2, .string r2, c2, .string l2, s2, .string h2, .pointer (some ⟨a2, 0, none⟩)]] W fun e w' => e = .returned (.int .i64 (remCmp r1 r2)) ∧ Below W2.heap.size W2 w') :=
  ⟨fun W hb => (compareRemainder_ W o1 o2 r1 r2 l1 l2 h1 h2 false i2 c1 c2 s1 s2 _ _).mono (by rintro e w' ⟨rfl, h⟩; exact ⟨rfl, below_then hb hb.size h⟩)⟩
 obtain ⟨d5, hd5⟩ : ∃ d, d = remCmp r1 r2 := ⟨_, rfl⟩
 rw [← hd5] at C5 hr
 clear hd5
 have ga0 := GA.out
 have gb0 := GB.out
 have x0 := fun j : Nat => blk_cell ga0 j
 have y0 := fun j : Nat => blk_cell gb0 j
 rw [hW2] at x0 y0
 clear ga0 gb0 ga gb hW2
 by_cases e1 : d1 ≠ 0
 ·have HS : Aside0 (r = d1) := ⟨by rw [hr]; simp only [firstNe, if_true, if_neg e1]⟩
  have z1 : (d1 != 0) = true := by simpa using e1
  have zz1 : (d1 == 0) = false := by simpa using e1
  clear hr e1
  go_enter Tryd.func48, Tryd.ntmps48
  try rw [← HW2.out]
  go_wp2_with (first | (go_at_call 62; (with_reducible refine (C1.out _ (by first | exact BB0.out)).mono ?_); rintro e' w1 ⟨rfl, bb1⟩; have BB1 := Aside0.mk bb1; have ga1 := blk_below GA.out bb1; have gb1 := blk_below GB.out bb1; have x1 := fun j : Nat => blk_cell ga1 j; have y1 := fun j : Nat => blk_cell gb1 j; clear bb1 ga1 gb1))
  go_ret
  exact ⟨by rw [HS.out]; rfl, below_then HB2.out HB2.out.size BB1.out⟩
 ·obtain rfl : d1 = 0 := by simpa using e1
  clear e1
  by_cases e2 : d2 ≠ 0
  ·have HS : Aside0 (r = d2) := ⟨by rw [hr]; simp only [firstNe, if_true, if_neg e2]⟩
   have z2 : (d2 != 0) = true := by simpa using e2
   have zz2 : (d2 == 0) = false := by simpa using e2
   clear hr e2
   go_enter Tryd.func48, Tryd.ntmps48
   try rw [← HW2.out]
   go_wp2_with (first | (go_at_call 62; (with_reducible refine (C1.out _ (by first | exact BB0.out)).mono ?_); rintro e' w1 ⟨rfl, bb1⟩; have BB1 := Aside0.mk bb1; have ga1 := blk_below GA.out bb1; have gb1 := blk_below GB.out bb1; have x1 := fun j : Nat => blk_cell ga1 j; have y1 := fun j : Nat => blk_cell gb1 j; clear bb1 ga1 gb1) | (go_at_call 63; (with_reducible refine (C2.out _ (by first | exact BB1.out | exact BB0.out)).mono ?_); rintro e' w2 ⟨rfl, bb2⟩; have BB2 := Aside0.mk bb2; have ga2 := blk_below GA.out bb2; have gb2 := blk_below GB.out bb2; have x2 := fun j : Nat => blk_cell ga2 j; have y2 := fun j : Nat => blk_cell gb2 j; clear bb2 ga2 gb2))
   go_ret
   exact ⟨by rw [HS.out]; rfl, below_then HB2.out HB2.out.size BB2.out⟩
  ·obtain rfl : d2 = 0 := by simpa using e2
   clear e2
   by_cases e3 : d3 ≠ 0
   ·have HS : Aside0 (r = d3) := ⟨by rw [hr]; simp only [firstNe, if_true, if_neg e3]⟩
    have z3 : (d3 != 0) = true := by simpa using e3
    have zz3 : (d3 == 0) = false := by simpa using e3
    clear hr e3
    go_enter Tryd.func48, Tryd.ntmps48
    try rw [← HW2.out]
    go_wp2_with (first | (go_at_call 62; (with_reducible refine (C1.out _ (by first | exact BB0.out)).mono ?_); rintro e' w1 ⟨rfl, bb1⟩; have BB1 := Aside0.mk bb1; have ga1 := blk_below GA.out bb1; have gb1 := blk_below GB.out bb1; have x1 := fun j : Nat => blk_cell ga1 j; have y1 := fun j : Nat => blk_cell gb1 j; clear bb1 ga1 gb1) | (go_at_call 63; (with_reducible refine (C2.out _ (by first | exact BB1.out | exact BB0.out)).mono ?_); rintro e' w2 ⟨rfl, bb2⟩; have BB2 := Aside0.mk bb2; have ga2 := blk_below GA.out bb2; have gb2 := blk_below GB.out bb2; have x2 := fun j : Nat => blk_cell ga2 j; have y2 := fun j : Nat => blk_cell gb2 j; clear bb2 ga2 gb2) | (go_at_call 64; (with_reducible refine (C3.out _ (by first | exact BB2.out | exact BB1.out | exact BB0.out)).mono ?_); rintro e' w3 ⟨rfl, bb3⟩; have BB3 := Aside0.mk bb3; have ga3 := blk_below GA.out bb3; have gb3 := blk_below GB.out bb3; have x3 := fun j : Nat => blk_cell ga3 j; have y3 := fun j : Nat => blk_cell gb3 j; clear bb3 ga3 gb3))
    go_ret
    exact ⟨by rw [HS.out]; rfl, below_then HB2.out HB2.out.size BB3.out⟩
   ·obtain rfl : d3 = 0 := by simpa using e3
    clear e3
    by_cases e4 : d4 ≠ 0
    ·have HS : Aside0 (r = d4) := ⟨by rw [hr]; simp only [firstNe, if_true, if_neg e4]⟩
     have z4 : (d4 != 0) = true := by simpa using e4
     have zz4 : (d4 == 0) = false := by simpa using e4
     clear hr e4
     go_enter Tryd.func48, Tryd.ntmps48
     try rw [← HW2.out]
     go_wp2_with (first | (go_at_call 62; (with_reducible refine (C1.out _ (by first | exact BB0.out)).mono ?_); rintro e' w1 ⟨rfl, bb1⟩; have BB1 := Aside0.mk bb1; have ga1 := blk_below GA.out bb1; have gb1 := blk_below GB.out bb1; have x1 := fun j : Nat => blk_cell ga1 j; have y1 := fun j : Nat => blk_cell gb1 j; clear bb1 ga1 gb1) | (go_at_call 63; (with_reducible refine (C2.out _ (by first | exact BB1.out | exact BB0.out)).mono ?_); rintro e' w2 ⟨rfl, bb2⟩; have BB2 := Aside0.mk bb2; have ga2 := blk_below GA.out bb2; have gb2 := blk_below GB.out bb2; have x2 := fun j : Nat => blk_cell ga2 j; have y2 := fun j : Nat => blk_cell gb2 j; clear bb2 ga2 gb2) | (go_at_call 64; (with_reducible refine (C3.out _ (by first | exact BB2.out | exact BB1.out | exact BB0.out)).mono ?_); rintro e' w3 ⟨rfl, bb3⟩; have BB3 := Aside0.mk bb3; have ga3 := blk_below GA.out bb3; have gb3 := blk_below GB.out bb3; have x3 := fun j : Nat => blk_cell ga3 j; have y3 := fun j : Nat => blk_cell gb3 j; clear bb3 ga3 gb3) | (go_at_call 65; (with_reducible refine (C4.out _ (by first | exact BB3.out | exact BB2.out | exact BB1.out | exact BB0.out)).mono ?_); rintro e' w4 ⟨rfl, bb4⟩; have BB4 := Aside0.mk bb4; have ga4 := blk_below GA.out bb4; have gb4 := blk_below GB.out bb4; have x4 := fun j : Nat => blk_cell ga4 j; have y4 := fun j : Nat => blk_cell gb4 j; clear bb4 ga4 gb4))
     go_ret
     exact ⟨by rw [HS.out]; rfl, below_then HB2.out HB2.out.size BB4.out⟩
    ·obtain rfl : d4 = 0 := by simpa using e4
     clear e4
     by_cases e5 : d5 ≠ 0
     ·have HS : Aside0 (r = d5) := ⟨by rw [hr]; simp only [firstNe, if_true, if_neg e5]⟩
      have z5 : (d5 != 0) = true := by simpa using e5
      have zz5 : (d5 == 0) = false := by simpa using e5
      clear hr e5
      go_enter Tryd.func48, Tryd.ntmps48
      try rw [← HW2.out]
      go_wp2_with (first | (go_at_call 62; (with_reducible refine (C1.out _ (by first | exact BB0.out)).mono ?_); rintro e' w1 ⟨rfl, bb1⟩; have BB1 := Aside0.mk bb1; have ga1 := blk_below GA.out bb1; have gb1 := blk_below GB.out bb1; have x1 := fun j : Nat => blk_cell ga1 j; have y1 := fun j : Nat => blk_cell gb1 j; clear bb1 ga1 gb1) | (go_at_call 63; (with_reducible refine (C2.out _ (by first | exact BB1.out | exact BB0.out)).mono ?_); rintro e' w2 ⟨rfl, bb2⟩; have BB2 := Aside0.mk bb2; have ga2 := blk_below GA.out bb2; have gb2 := blk_below GB.out bb2; have x2 := fun j : Nat => blk_cell ga2 j; have y2 := fun j : Nat => blk_cell gb2 j; clear bb2 ga2 gb2) | (go_at_call 64; (with_reducible refine (C3.out _ (by first | exact BB2.out | exact BB1.out | exact BB0.out)).mono ?_); rintro e' w3 ⟨rfl, bb3⟩; have BB3 := Aside0.mk bb3; have ga3 := blk_below GA.out bb3; have gb3 := blk_below GB.out bb3; have x3 := fun j : Nat => blk_cell ga3 j; have y3 := fun j : Nat => blk_cell gb3 j; clear bb3 ga3 gb3) | (go_at_call 65; (with_reducible refine (C4.out _ (by first | exact BB3.out | exact BB2.out | exact BB1.out | exact BB0.out)).mono ?_); rintro e' w4 ⟨rfl, bb4⟩; have BB4 := Aside0.mk bb4; have ga4 := blk_below GA.out bb4; have gb4 := blk_below GB.out bb4; have x4 := fun j : Nat => blk_cell ga4 j; have y4 := fun j : Nat => blk_cell gb4 j; clear bb4 ga4 gb4) | (go_at_call 66; (with_reducible refine (C5.out _ (by first | exact BB4.out | exact BB3.out | exact BB2.out | exact BB1.out | exact BB0.out)).mono ?_); rintro e' w5 ⟨rfl, bb5⟩; have BB5 := Aside0.mk bb5; have ga5 := blk_below GA.out bb5; have gb5 := blk_below GB.out bb5; have x5 := fun j : Nat => blk_cell ga5 j; have y5 := fun j : Nat => blk_cell gb5 j; clear bb5 ga5 gb5))
      go_ret
      exact ⟨by rw [HS.out]; rfl, below_then HB2.out HB2.out.size BB5.out⟩
     ·obtain rfl : d5 = 0 := by simpa using e5
      clear e5
      have HS : Aside0 (r = 0) := ⟨by rw [hr]; simp only [firstNe, if_true]⟩
      clear hr
      go_enter Tryd.func48, Tryd.ntmps48
      try rw [← HW2.out]
      go_wp2_with (first | (go_at_call 62; (with_reducible refine (C1.out _ (by first | exact BB0.out)).mono ?_); rintro e' w1 ⟨rfl, bb1⟩; have BB1 := Aside0.mk bb1; have ga1 := blk_below GA.out bb1; have gb1 := blk_below GB.out bb1; have x1 := fun j : Nat => blk_cell ga1 j; have y1 := fun j : Nat => blk_cell gb1 j; clear bb1 ga1 gb1) | (go_at_call 63; (with_reducible refine (C2.out _ (by first | exact BB1.out | exact BB0.out)).mono ?_); rintro e' w2 ⟨rfl, bb2⟩; have BB2 := Aside0.mk bb2; have ga2 := blk_below GA.out bb2; have gb2 := blk_below GB.out bb2; have x2 := fun j : Nat => blk_cell ga2 j; have y2 := fun j : Nat => blk_cell gb2 j; clear bb2 ga2 gb2) | (go_at_call 64; (with_reducible refine (C3.out _ (by first | exact BB2.out | exact BB1.out | exact BB0.out)).mono ?_); rintro e' w3 ⟨rfl, bb3⟩; have BB3 := Aside0.mk bb3; have ga3 := blk_below GA.out bb3; have gb3 := blk_below GB.out bb3; have x3 := fun j : Nat => blk_cell ga3 j; have y3 := fun j : Nat => blk_cell gb3 j; clear bb3 ga3 gb3) | (go_at_call 65; (with_reducible refine (C4.out _ (by first | exact BB3.out | exact BB2.out | exact BB1.out | exact BB0.out)).mono ?_); rintro e' w4 ⟨rfl, bb4⟩; have BB4 := Aside0.mk bb4; have ga4 := blk_below GA.out bb4; have gb4 := blk_below GB.out bb4; have x4 := fun j : Nat => blk_cell ga4 j; have y4 := fun j : Nat => blk_cell gb4 j; clear bb4 ga4 gb4) | (go_at_call 66; (with_reducible refine (C5.out _ (by first | exact BB4.out | exact BB3.out | exact BB2.out | exact BB1.out | exact BB0.out)).mono ?_); rintro e' w5 ⟨rfl, bb5⟩; have BB5 := Aside0.mk bb5; have ga5 := blk_below GA.out bb5; have gb5 := blk_below GB.out bb5; have x5 := fun j : Nat => blk_cell ga5 j; have y5 := fun j : Nat => blk_cell gb5 j; clear bb5 ga5 gb5))
      go_ret
      exact ⟨by rw [HS.out]; rfl, below_then HB2.out HB2.out.size BB5.out⟩
set_option maxRecDepth 100000 in
set_option maxHeartbeats 4000000 in
theorem compare_tf (w : World) (l m : List Nm) (sl sm : List Sx) (o1 o2 r1 r2 l1 l2 h1 h2 : ByteArray) (c1 c2 s1 s2 : Value) (a1 a2 n1 n2 : Nat) (kc1 : CRow w c1 l) (kc2 : CRow w c2 m) (ks1 : SRow w s1 sl) (ks2 : SRow w s2 sm) (kb1 : BigAt w a1 n1) (kb2 : BigAt w a2 n2) :
  Calls Tryd.prog 48 #[.agg #[.string o1, .bool true, .string r1, c1, .string l1, s1, .string h1, .pointer (some ⟨a1, 0, none⟩)], .agg #[.string o2, .bool false, .string r2, c2, .string l2, s2, .string h2, .pointer (some ⟨a2, 0, none⟩)]] w fun e w' => e = .returned (.int .i64 (firstNe (compsC l m) (firstNe (lettersCmp l1 l2) (firstNe (sufsC sl sm) (firstNe (cmpN n1 n2) (firstNe (remCmp r1 r2) 0)))))) ∧ Below w.heap.size w w' := by
 have HB := Aside0.mk (Below.refl w.heap.size w)
 obtain ⟨W2, hW2⟩ : ∃ W2, W2 = ((w.alloc (.cells #[.string o1, .bool true, .string r1, c1, .string l1, s1, .string h1, .pointer (some ⟨a1, 0, none⟩)] 69)).alloc (.cells #[.string o2, .bool false, .string r2, c2, .string l2, s2, .string h2, .pointer (some ⟨a2, 0, none⟩)] 69)) := ⟨_, rfl⟩
 have HW2 := Aside0.mk hW2
 have hb2 : Below w.heap.size w W2 := by rw [hW2]; exact below_alloc (below_alloc HB.out _) _
 have HB2 := Aside0.mk hb2
 have ga : W2.heap[w.heap.size]? = some (.cells #[.string o1, .bool true, .string r1, c1, .string l1, s1, .string h1, .pointer (some ⟨a1, 0, none⟩)] 69 (0, 0)) := by rw [hW2]; exact blk_alloc (blk_new w _) _
 have gb : W2.heap[w.heap.size + 1]? = some (.cells #[.string o2, .bool false, .string r2, c2, .string l2, s2, .string h2, .pointer (some ⟨a2, 0, none⟩)] 69 (0, 0)) := by
  rw [hW2, ← alloc_size w (.cells #[.string o1, .bool true, .string r1, c1, .string l1, s1, .string h1, .pointer (some ⟨a1, 0, none⟩)] 69)]; exact alloc_at _ _
 have GA := Aside0.mk ga
 have GB := Aside0.mk gb
 have KC1 := Aside0.mk (kc1.below hb2)
 have KC2 := Aside0.mk (kc2.below hb2)
 have KS1 := Aside0.mk (ks1.below hb2)
 have KS2 := Aside0.mk (ks2.below hb2)
 have KB1 := Aside0.mk (kb1.below hb2)
 have KB2 := Aside0.mk (kb2.below hb2)
 have BB0 : Aside0 (Below W2.heap.size W2 ((w.alloc (.cells #[.string o1, .bool true, .string r1, c1, .string l1, s1, .string h1, .pointer (some ⟨a1, 0, none⟩)] 69)).alloc (.cells #[.string o2, .bool false, .string r2, c2, .string l2, s2, .string h2, .pointer (some ⟨a2, 0, none⟩)] 69))) := ⟨by rw [← hW2]; exact Below.refl _ _⟩
 clear hb2 kc1 kc2 ks1 ks2 kb1 kb2
 obtain ⟨r, hr⟩ : ∃ r, r = firstNe (compsC l m) (firstNe (lettersCmp l1 l2) (firstNe (sufsC sl sm) (firstNe (cmpN n1 n2) (firstNe (remCmp r1 r2) 0)))) := ⟨_, rfl⟩
 rw [← hr]
 have C1 : Aside0 (∀ W : World, Below W2.heap.size W2 W → Calls Tryd.prog 62 #[.agg #[.string o1, .bool true, .string r1, c1, .string l1, s1, .string h1, .pointer (some ⟨a1, 0, none⟩)], .agg #[.string o2, .bool false, .string r2, c2, .string l2, s2, .string h2, .pointer (some ⟨a2, 0, none⟩)]] W fun e w' => e = .returned (.int .i64 (compsC l m)) ∧ Below W2.heap.size W2 w') :=
  ⟨fun W hb => (compareComponents_ W l m o1 o2 r1 r2 l1 l2 h1 h2 true false c1 c2 s1 s2 _ _ (KC1.out.below hb) (KC2.out.below hb)).mono (by rintro e w' ⟨rfl, h⟩; exact ⟨rfl, below_then hb hb.size h⟩)⟩
 obtain ⟨d1, hd1⟩ : ∃ d, d = compsC l m := ⟨_, rfl⟩
 rw [← hd1] at C1 hr
 clear hd1
 have C2 : Aside0 (∀ W : World, Below W2.heap.size W2 W → Calls Tryd.prog 63 #[.agg #[.string o1, .bool true, .string r1, c1, .string l1, s1, .string h1, .pointer (some ⟨a1, 0, none⟩)], .agg #[.string o2, .bool false, .string r2, c2, .string l2, s2, .string h2, .pointer (some ⟨a2, 0, none⟩)]] W fun e w' => e = .returned (.int .i64 (lettersCmp l1 l2)) ∧ Below W2.heap.size W2 w') :=
  ⟨fun W hb => (compareLetters_ W o1 o2 r1 r2 l1 l2 h1 h2 true false c1 c2 s1 s2 _ _).mono (by rintro e w' ⟨rfl, h⟩; exact ⟨rfl, below_then hb hb.size h⟩)⟩
 obtain ⟨d2, hd2⟩ : ∃ d, d = lettersCmp l1 l2 := ⟨_, rfl⟩
 rw [← hd2] at C2 hr
 clear hd2
 have C3 : Aside0 (∀ W : World, Below W2.heap.size W2 W → Calls Tryd.prog 64 #[.agg #[.string o1, .bool true, .string r1, c1, .string l1, s1, .string h1, .pointer (some ⟨a1, 0, none⟩)], .agg #[.string o2, .bool false, .string r2, c2, .string l2, s2, .string h2, .pointer (some ⟨a2, 0, none⟩)]] W fun e w' => e = .returned (.int .i64 (sufsC sl sm)) ∧ Below W2.heap.size W2 w') :=
  ⟨fun W hb => (compareSuffixes_ W sl sm o1 o2 r1 r2 l1 l2 h1 h2 true false c1 c2 s1 s2 _ _ (KS1.out.below hb) (KS2.out.below hb)).mono (by rintro e w' ⟨rfl, h⟩; exact ⟨rfl, below_then hb hb.size h⟩)⟩
 obtain ⟨d3, hd3⟩ : ∃ d, d = sufsC sl sm := ⟨_, rfl⟩
 rw [← hd3] at C3 hr
 clear hd3
 have C4 : Aside0 (∀ W : World, Below W2.heap.size W2 W → Calls Tryd.prog 65 #[.agg #[.string o1, .bool true, .string r1, c1, .string l1, s1, .string h1, .pointer (some ⟨a1, 0, none⟩)], .agg #[.string o2, .bool false, .string r2, c2, .string l2, s2, .string h2, .pointer (some ⟨a2, 0, none⟩)]] W fun e w' => e = .returned (.int .i64 (cmpN n1 n2)) ∧ Below W2.heap.size W2 w') :=
  ⟨fun W hb => (compareBuild_ W o1 o2 r1 r2 l1 l2 h1 h2 true false c1 c2 s1 s2 a1 a2 n1 n2 (KB1.out.below hb) (KB2.out.below hb)).mono (by rintro e w' ⟨rfl, h⟩; exact ⟨rfl, below_then hb hb.size h⟩)⟩
 obtain ⟨d4, hd4⟩ : ∃ d, d = cmpN n1 n2 := ⟨_, rfl⟩
 rw [← hd4] at C4 hr
 clear hd4
 have C5 : Aside0 (∀ W : World, Below W2.heap.size W2 W → Calls Tryd.prog 66 #[.agg #[.string o1, .bool true, .string r1, c1, .string l1, s1, .string h1, .pointer (some ⟨a1, 0, none⟩)], .agg #[.string o2, .bool false, .string r2, c2, .string l2, s2, .string h2, .pointer (some ⟨a2, 0, none⟩)]] W fun e w' => e = .returned (.int .i64 (remCmp r1 r2)) ∧ Below W2.heap.size W2 w') :=
  ⟨fun W hb => (compareRemainder_ W o1 o2 r1 r2 l1 l2 h1 h2 true false c1 c2 s1 s2 _ _).mono (by rintro e w' ⟨rfl, h⟩; exact ⟨rfl, below_then hb hb.size h⟩)⟩
 obtain ⟨d5, hd5⟩ : ∃ d, d = remCmp r1 r2 := ⟨_, rfl⟩
 rw [← hd5] at C5 hr
 clear hd5
 have ga0 := GA.out
 have gb0 := GB.out
 have x0 := fun j : Nat => blk_cell ga0 j
 have y0 := fun j : Nat => blk_cell gb0 j
 rw [hW2] at x0 y0
 clear ga0 gb0 ga gb hW2
 by_cases e1 : d1 ≠ 0
 ·have HS : Aside0 (r = d1) := ⟨by rw [hr]; simp only [firstNe, if_true, if_neg e1]⟩
  have z1 : (d1 != 0) = true := by simpa using e1
  have zz1 : (d1 == 0) = false := by simpa using e1
  clear hr e1
  go_enter Tryd.func48, Tryd.ntmps48
  try rw [← HW2.out]
  go_wp2_with (first | (go_at_call 62; (with_reducible refine (C1.out _ (by first | exact BB0.out)).mono ?_); rintro e' w1 ⟨rfl, bb1⟩; have BB1 := Aside0.mk bb1; have ga1 := blk_below GA.out bb1; have gb1 := blk_below GB.out bb1; have x1 := fun j : Nat => blk_cell ga1 j; have y1 := fun j : Nat => blk_cell gb1 j; clear bb1 ga1 gb1))
  go_ret
  exact ⟨by rw [HS.out]; rfl, below_then HB2.out HB2.out.size BB1.out⟩
 ·obtain rfl : d1 = 0 := by simpa using e1
  clear e1
  by_cases e2 : d2 ≠ 0
  ·have HS : Aside0 (r = d2) := ⟨by rw [hr]; simp only [firstNe, if_true, if_neg e2]⟩
   have z2 : (d2 != 0) = true := by simpa using e2
   have zz2 : (d2 == 0) = false := by simpa using e2
   clear hr e2
   go_enter Tryd.func48, Tryd.ntmps48
   try rw [← HW2.out]
   go_wp2_with (first | (go_at_call 62; (with_reducible refine (C1.out _ (by first | exact BB0.out)).mono ?_); rintro e' w1 ⟨rfl, bb1⟩; have BB1 := Aside0.mk bb1; have ga1 := blk_below GA.out bb1; have gb1 := blk_below GB.out bb1; have x1 := fun j : Nat => blk_cell ga1 j; have y1 := fun j : Nat => blk_cell gb1 j; clear bb1 ga1 gb1) | (go_at_call 63; (with_reducible refine (C2.out _ (by first | exact BB1.out | exact BB0.out)).mono ?_); rintro e' w2 ⟨rfl, bb2⟩; have BB2 := Aside0.mk bb2; have ga2 := blk_below GA.out bb2; have gb2 := blk_below GB.out bb2; have x2 := fun j : Nat => blk_cell ga2 j; have y2 := fun j : Nat => blk_cell gb2 j; clear bb2 ga2 gb2))
   go_ret
   exact ⟨by rw [HS.out]; rfl, below_then HB2.out HB2.out.size BB2.out⟩
  ·obtain rfl : d2 = 0 := by simpa using e2
   clear e2
   by_cases e3 : d3 ≠ 0
   ·have HS : Aside0 (r = d3) := ⟨by rw [hr]; simp only [firstNe, if_true, if_neg e3]⟩
    have z3 : (d3 != 0) = true := by simpa using e3
    have zz3 : (d3 == 0) = false := by simpa using e3
    clear hr e3
    go_enter Tryd.func48, Tryd.ntmps48
    try rw [← HW2.out]
    go_wp2_with (first | (go_at_call 62; (with_reducible refine (C1.out _ (by first | exact BB0.out)).mono ?_); rintro e' w1 ⟨rfl, bb1⟩; have BB1 := Aside0.mk bb1; have ga1 := blk_below GA.out bb1; have gb1 := blk_below GB.out bb1; have x1 := fun j : Nat => blk_cell ga1 j; have y1 := fun j : Nat => blk_cell gb1 j; clear bb1 ga1 gb1) | (go_at_call 63; (with_reducible refine (C2.out _ (by first | exact BB1.out | exact BB0.out)).mono ?_); rintro e' w2 ⟨rfl, bb2⟩; have BB2 := Aside0.mk bb2; have ga2 := blk_below GA.out bb2; have gb2 := blk_below GB.out bb2; have x2 := fun j : Nat => blk_cell ga2 j; have y2 := fun j : Nat => blk_cell gb2 j; clear bb2 ga2 gb2) | (go_at_call 64; (with_reducible refine (C3.out _ (by first | exact BB2.out | exact BB1.out | exact BB0.out)).mono ?_); rintro e' w3 ⟨rfl, bb3⟩; have BB3 := Aside0.mk bb3; have ga3 := blk_below GA.out bb3; have gb3 := blk_below GB.out bb3; have x3 := fun j : Nat => blk_cell ga3 j; have y3 := fun j : Nat => blk_cell gb3 j; clear bb3 ga3 gb3))
    go_ret
    exact ⟨by rw [HS.out]; rfl, below_then HB2.out HB2.out.size BB3.out⟩
   ·obtain rfl : d3 = 0 := by simpa using e3
    clear e3
    by_cases e4 : d4 ≠ 0
    ·have HS : Aside0 (r = d4) := ⟨by rw [hr]; simp only [firstNe, if_true, if_neg e4]⟩
     have z4 : (d4 != 0) = true := by simpa using e4
     have zz4 : (d4 == 0) = false := by simpa using e4
     clear hr e4
     go_enter Tryd.func48, Tryd.ntmps48
     try rw [← HW2.out]
     go_wp2_with (first | (go_at_call 62; (with_reducible refine (C1.out _ (by first | exact BB0.out)).mono ?_); rintro e' w1 ⟨rfl, bb1⟩; have BB1 := Aside0.mk bb1; have ga1 := blk_below GA.out bb1; have gb1 := blk_below GB.out bb1; have x1 := fun j : Nat => blk_cell ga1 j; have y1 := fun j : Nat => blk_cell gb1 j; clear bb1 ga1 gb1) | (go_at_call 63; (with_reducible refine (C2.out _ (by first | exact BB1.out | exact BB0.out)).mono ?_); rintro e' w2 ⟨rfl, bb2⟩; have BB2 := Aside0.mk bb2; have ga2 := blk_below GA.out bb2; have gb2 := blk_below GB.out bb2; have x2 := fun j : Nat => blk_cell ga2 j; have y2 := fun j : Nat => blk_cell gb2 j; clear bb2 ga2 gb2) | (go_at_call 64; (with_reducible refine (C3.out _ (by first | exact BB2.out | exact BB1.out | exact BB0.out)).mono ?_); rintro e' w3 ⟨rfl, bb3⟩; have BB3 := Aside0.mk bb3; have ga3 := blk_below GA.out bb3; have gb3 := blk_below GB.out bb3; have x3 := fun j : Nat => blk_cell ga3 j; have y3 := fun j : Nat => blk_cell gb3 j; clear bb3 ga3 gb3) | (go_at_call 65; (with_reducible refine (C4.out _ (by first | exact BB3.out | exact BB2.out | exact BB1.out | exact BB0.out)).mono ?_); rintro e' w4 ⟨rfl, bb4⟩; have BB4 := Aside0.mk bb4; have ga4 := blk_below GA.out bb4; have gb4 := blk_below GB.out bb4; have x4 := fun j : Nat => blk_cell ga4 j; have y4 := fun j : Nat => blk_cell gb4 j; clear bb4 ga4 gb4))
     go_ret
     exact ⟨by rw [HS.out]; rfl, below_then HB2.out HB2.out.size BB4.out⟩
    ·obtain rfl : d4 = 0 := by simpa using e4
     clear e4
     by_cases e5 : d5 ≠ 0
     ·have HS : Aside0 (r = d5) := ⟨by rw [hr]; simp only [firstNe, if_true, if_neg e5]⟩
      have z5 : (d5 != 0) = true := by simpa using e5
      have zz5 : (d5 == 0) = false := by simpa using e5
      clear hr e5
      go_enter Tryd.func48, Tryd.ntmps48
      try rw [← HW2.out]
      go_wp2_with (first | (go_at_call 62; (with_reducible refine (C1.out _ (by first | exact BB0.out)).mono ?_); rintro e' w1 ⟨rfl, bb1⟩; have BB1 := Aside0.mk bb1; have ga1 := blk_below GA.out bb1; have gb1 := blk_below GB.out bb1; have x1 := fun j : Nat => blk_cell ga1 j; have y1 := fun j : Nat => blk_cell gb1 j; clear bb1 ga1 gb1) | (go_at_call 63; (with_reducible refine (C2.out _ (by first | exact BB1.out | exact BB0.out)).mono ?_); rintro e' w2 ⟨rfl, bb2⟩; have BB2 := Aside0.mk bb2; have ga2 := blk_below GA.out bb2; have gb2 := blk_below GB.out bb2; have x2 := fun j : Nat => blk_cell ga2 j; have y2 := fun j : Nat => blk_cell gb2 j; clear bb2 ga2 gb2) | (go_at_call 64; (with_reducible refine (C3.out _ (by first | exact BB2.out | exact BB1.out | exact BB0.out)).mono ?_); rintro e' w3 ⟨rfl, bb3⟩; have BB3 := Aside0.mk bb3; have ga3 := blk_below GA.out bb3; have gb3 := blk_below GB.out bb3; have x3 := fun j : Nat => blk_cell ga3 j; have y3 := fun j : Nat => blk_cell gb3 j; clear bb3 ga3 gb3) | (go_at_call 65; (with_reducible refine (C4.out _ (by first | exact BB3.out | exact BB2.out | exact BB1.out | exact BB0.out)).mono ?_); rintro e' w4 ⟨rfl, bb4⟩; have BB4 := Aside0.mk bb4; have ga4 := blk_below GA.out bb4; have gb4 := blk_below GB.out bb4; have x4 := fun j : Nat => blk_cell ga4 j; have y4 := fun j : Nat => blk_cell gb4 j; clear bb4 ga4 gb4) | (go_at_call 66; (with_reducible refine (C5.out _ (by first | exact BB4.out | exact BB3.out | exact BB2.out | exact BB1.out | exact BB0.out)).mono ?_); rintro e' w5 ⟨rfl, bb5⟩; have BB5 := Aside0.mk bb5; have ga5 := blk_below GA.out bb5; have gb5 := blk_below GB.out bb5; have x5 := fun j : Nat => blk_cell ga5 j; have y5 := fun j : Nat => blk_cell gb5 j; clear bb5 ga5 gb5))
      go_ret
      exact ⟨by rw [HS.out]; rfl, below_then HB2.out HB2.out.size BB5.out⟩
     ·obtain rfl : d5 = 0 := by simpa using e5
      clear e5
      have HS : Aside0 (r = 0) := ⟨by rw [hr]; simp only [firstNe, if_true]⟩
      clear hr
      go_enter Tryd.func48, Tryd.ntmps48
      try rw [← HW2.out]
      go_wp2_with (first | (go_at_call 62; (with_reducible refine (C1.out _ (by first | exact BB0.out)).mono ?_); rintro e' w1 ⟨rfl, bb1⟩; have BB1 := Aside0.mk bb1; have ga1 := blk_below GA.out bb1; have gb1 := blk_below GB.out bb1; have x1 := fun j : Nat => blk_cell ga1 j; have y1 := fun j : Nat => blk_cell gb1 j; clear bb1 ga1 gb1) | (go_at_call 63; (with_reducible refine (C2.out _ (by first | exact BB1.out | exact BB0.out)).mono ?_); rintro e' w2 ⟨rfl, bb2⟩; have BB2 := Aside0.mk bb2; have ga2 := blk_below GA.out bb2; have gb2 := blk_below GB.out bb2; have x2 := fun j : Nat => blk_cell ga2 j; have y2 := fun j : Nat => blk_cell gb2 j; clear bb2 ga2 gb2) | (go_at_call 64; (with_reducible refine (C3.out _ (by first | exact BB2.out | exact BB1.out | exact BB0.out)).mono ?_); rintro e' w3 ⟨rfl, bb3⟩; have BB3 := Aside0.mk bb3; have ga3 := blk_below GA.out bb3; have gb3 := blk_below GB.out bb3; have x3 := fun j : Nat => blk_cell ga3 j; have y3 := fun j : Nat => blk_cell gb3 j; clear bb3 ga3 gb3) | (go_at_call 65; (with_reducible refine (C4.out _ (by first | exact BB3.out | exact BB2.out | exact BB1.out | exact BB0.out)).mono ?_); rintro e' w4 ⟨rfl, bb4⟩; have BB4 := Aside0.mk bb4; have ga4 := blk_below GA.out bb4; have gb4 := blk_below GB.out bb4; have x4 := fun j : Nat => blk_cell ga4 j; have y4 := fun j : Nat => blk_cell gb4 j; clear bb4 ga4 gb4) | (go_at_call 66; (with_reducible refine (C5.out _ (by first | exact BB4.out | exact BB3.out | exact BB2.out | exact BB1.out | exact BB0.out)).mono ?_); rintro e' w5 ⟨rfl, bb5⟩; have BB5 := Aside0.mk bb5; have ga5 := blk_below GA.out bb5; have gb5 := blk_below GB.out bb5; have x5 := fun j : Nat => blk_cell ga5 j; have y5 := fun j : Nat => blk_cell gb5 j; clear bb5 ga5 gb5))
      go_ret
      exact ⟨by rw [HS.out]; rfl, below_then HB2.out HB2.out.size BB5.out⟩
set_option maxRecDepth 100000 in
set_option maxHeartbeats 4000000 in
theorem compare_tt (w : World) (o1 o2 r1 r2 l1 l2 h1 h2 : ByteArray) (c1 c2 s1 s2 : Value) (a1 a2 : Nat) :
  Calls Tryd.prog 48 #[.agg #[.string o1, .bool true, .string r1, c1, .string l1, s1, .string h1, .pointer (some ⟨a1, 0, none⟩)], .agg #[.string o2, .bool true, .string r2, c2, .string l2, s2, .string h2, .pointer (some ⟨a2, 0, none⟩)]] w fun e w' => e = .returned (.int .i64 (strCmp o1 o2)) ∧ Below w.heap.size w w' := by
 have HS := Aside0.mk (fun W : World => strings_Compare.calls o1 o2 _ W rfl)
 have HB := Aside0.mk (Below.refl w.heap.size w)
 obtain ⟨r, hr⟩ : ∃ r, r = strCmp o1 o2 := ⟨_, rfl⟩
 have HR := Aside0.mk hr
 rw [← hr]
 clear hr
 go_enter Tryd.func48, Tryd.ntmps48
 go_wp2_with (first | (go_at_call 61; (with_reducible refine (HS.out _).mono ?_); rintro e w' ⟨rfl, ⟨nd, rfl⟩⟩))
 go_ret
 exact ⟨by rw [HR.out]; rfl, by repeat (first | exact HB.out | apply below_alloc | apply pw_below_drewN)⟩
theorem compare_ (w : World) (v1 v2 : Value) (x y : AV) (h1 : AVAt w v1 x) (h2 : AVAt w v2 y) :
  Calls Tryd.prog 48 #[v1, v2] w fun e w' => e = .returned (.int .i64 (avC x y)) ∧ Below w.heap.size w w' := by
 obtain ⟨o1, i1, r1, l, l1, sl, h1', b1⟩ := x
 obtain ⟨o2, i2, r2, m, l2, sm, h2', b2⟩ := y
 obtain ⟨c1, s1, a1, rfl, kc1, ks1, kb1⟩ := h1
 obtain ⟨c2, s2, a2, rfl, kc2, ks2, kb2⟩ := h2
 cases i1 with
 | false => exact compare_fx w l m sl sm o1 o2 r1 r2 l1 l2 _ _ i2 c1 c2 s1 s2 a1 a2 b1 b2 kc1 kc2 ks1 ks2 kb1 kb2
 | true => cases i2 with
  | false => exact compare_tf w l m sl sm o1 o2 r1 r2 l1 l2 _ _ c1 c2 s1 s2 a1 a2 b1 b2 kc1 kc2 ks1 ks2 kb1 kb2
  | true => exact compare_tt w o1 o2 r1 r2 l1 l2 _ _ c1 c2 s1 s2 a1 a2
end Go.Proofs.YtapaijpglfmfgaaDoorG
end
section -- Sx0
namespace Go.Proofs.YtapaijpglfmfgaaDoor.S
open Go.RowKit Go.Proofs.YtapaijpglfmfgaaDoorH Go.Proofs.YtapaijpglfmfgaaDoorW.PrintWords Go.Proofs.YtapaijpglfmfgaaDoorW.PrintLast Go.Proofs.YtapaijpglfmfgaaDoorW.PrintMore
attribute [local go_sem] max2_int min2_int max_two min_two max_three min_three max_four min_four
set_option linter.unusedVariables false
set_option linter.unusedSimpArgs false
def errW : Option Int → Value
 | none => .nilIface
 | some c => .iface 0 (.int .i64 c)
theorem errW_none : errW none = .nilIface := rfl
theorem errW_some (c : Int) : errW (some c) = .iface 0 (.int .i64 c) := rfl
theorem info9 : (Tryd.prog.info? 9).map (fun i => (i.zero, i.size, i.bytes)) = some (some (.string ⟨#[]⟩), 1, 16) := by kernel_rfl
theorem info42 : (Tryd.prog.info? 42).map (fun i => (i.zero, i.size, i.bytes)) = some (some (.slice none 0 0), 1, 24) := by kernel_rfl
end Go.Proofs.YtapaijpglfmfgaaDoor.S
end
section -- Sx1
namespace Go.Proofs.YtapaijpglfmfgaaDoor.S
open Go.RowKit Go.Proofs.YtapaijpglfmfgaaDoorH Go.Proofs.YtapaijpglfmfgaaDoorW.PrintWords Go.Proofs.YtapaijpglfmfgaaDoorW.PrintLast Go.Proofs.YtapaijpglfmfgaaDoorW.PrintMore
attribute [local go_sem] max2_int min2_int max_two min_two max_three min_three max_four min_four
set_option linter.unusedVariables false
set_option linter.unusedSimpArgs false
def semantic_zzDigit.f (a0 : Int) : Option (Bool) := if a0 ≥ 48 then (some (decide (a0 ≤ 57))) else (some false)
set_option maxHeartbeats 8000000 in
set_option maxRecDepth 100000 in
theorem semantic_zzDigit.calls (a0 : Int) (r : Bool) (w : World) (h : semantic_zzDigit.f a0 = some r) :
  Calls Tryd.prog 73 #[.int .u8 a0] w fun e w' => e = .returned (.bool r) ∧ Drawn0 w w' := by
 have H : (if a0 ≥ 48 then (some (decide (a0 ≤ 57))) else (some false)) = some r := h
 clear h
 by_cases c2 : a0 ≥ 48
 ·rw [if_pos c2] at H
  have c2b0 : decide (48 ≤ a0) = true := decide_eq_true c2
  clear c2
  obtain rfl := Option.some.inj H
  go_enter Tryd.func73, Tryd.ntmps73
  go_wp2
  go_ret
  exact ⟨by rfl, by repeat (first | exact Drawn0.refl _ | apply Drawn0.step)⟩
 ·rw [if_neg c2] at H
  have c2b0 : decide (48 ≤ a0) = false := decide_eq_false c2
  clear c2
  obtain rfl := Option.some.inj H
  go_enter Tryd.func73, Tryd.ntmps73
  go_wp2
  go_ret
  exact ⟨by rfl, by repeat (first | exact Drawn0.refl _ | apply Drawn0.step)⟩
def semantic_zzDigits.l0 : Nat → ByteArray → Int → Option (Int)
 | 0, _, _ => none
 | k + 1, x0, x1 => if x1 < (x0.size : Int) then (if 0 ≤ x1 then ((semantic_zzDigit.f (bt x0 x1)).bind fun t101 => (if t101 = true then (semantic_zzDigits.l0 k x0 (wrap64 (x1 + 1))) else (some x1))) else (none)) else (some x1)
def semantic_zzDigits.f (k : Nat) (a0 : ByteArray) (a1 : Int) : Option (Int) := semantic_zzDigits.l0 k a0 a1
set_option maxHeartbeats 8000000 in
set_option maxRecDepth 100000 in
theorem semantic_zzDigits.calls (k : Nat) (a0 : ByteArray) (a1 : Int) (r : Int) (w : World) (h : semantic_zzDigits.f k a0 a1 = some r) :
  Calls Tryd.prog 68 #[.string a0, .int .i64 a1] w fun e w' => e = .returned (.int .i64 r) ∧ Drawn0 w w' := by
 have H : (semantic_zzDigits.l0 k a0 a1) = some r := h
 clear h
 have H' := Aside0.mk H
 clear H
 go_enter Tryd.func68, Tryd.ntmps68
 go_wp2
 (try simp only [Act.put, List.setIfInBounds_toArray, List.set_cons_zero, List.set_cons_succ])
 go_loopg [1] k (fun kq v1 w' => ∃ (x1_1 : Int), v1 = .int .i64 x1_1 ∧ Aside0 (semantic_zzDigits.l0 kq a0 x1_1 = some r) ∧ Aside0 (kq ≤ k) ∧ Drawn0 w w')
 case atStart => exact ⟨(a1), (by rfl), H', ⟨Nat.le_refl _⟩, by repeat (first | exact Drawn0.refl _ | apply Drawn0.step)⟩
 case round =>
  clear H'
  obtain ⟨x1_1, rfl, HA, HK1, ⟨m1, rfl⟩⟩ := hrel
  cases gk with
  | zero => exact absurd HA.out (by simp [semantic_zzDigits.l0])
  | succ k1 =>
   have H := HA.out
   clear HA
   simp only [semantic_zzDigits.l0] at H
   by_cases c3 : x1_1 < (a0.size : Int)
   ·rw [if_pos c3] at H
    have c3b0 : decide (x1_1 < (a0.size : Int)) = true := decide_eq_true c3
    clear c3
    by_cases c4 : 0 ≤ x1_1
    ·rw [if_pos c4] at H
     have c4b0 : decide (0 ≤ x1_1) = true := decide_eq_true c4
     clear c4
     replace H := Option.bind_eq_some_iff.mp H
     obtain ⟨t101, A60, H⟩ := H
     replace H : (if t101 = true then (semantic_zzDigits.l0 k1 a0 (wrap64 (x1_1 + 1))) else (some x1_1)) = some r := H
     have A6 := Aside0.mk A60
     clear A60
     by_cases c7 : t101 = true
     ·subst c7
      have H1 : (semantic_zzDigits.l0 k1 a0 (wrap64 (x1_1 + 1))) = some r := by rw [if_pos rfl] at H; exact H
      clear H
      have H := H1
      clear H1
      have H' := Aside0.mk H
      clear H
      have p5 : 0 ≤ (x1_1 : Int) := of_decide_eq_true (by (with_reducible assumption))
      have q5 : x1_1 < (a0.size : Int) := of_decide_eq_true (by (with_reducible assumption))
      have hx5 := bt_at a0 x1_1
      replace p5 := eq_true p5
      replace q5 := eq_true q5
      go_wp2_with ((go_at_call 73; (with_reducible refine (semantic_zzDigit.calls (bt a0 x1_1) true _ A6.out).mono ?_); rintro e w' ⟨rfl, ⟨nd, rfl⟩⟩))
      go_roundg k1
      case measure => have := HK1.out; omega
      case rel => exact ⟨(wrap64 (x1_1 + 1)), (by rfl), H', ⟨by have := HK1.out; omega⟩, by repeat (first | exact Drawn0.refl _ | apply Drawn0.step)⟩
     ·replace c7 := Bool.eq_false_iff.mpr c7
      subst c7
      have H1 : (some x1_1) = some r := by rw [if_neg (show ¬ (false = true) by decide)] at H; exact H
      clear H
      have H := H1
      clear H1
      obtain rfl := Option.some.inj H
      have p5 : 0 ≤ (x1_1 : Int) := of_decide_eq_true (by (with_reducible assumption))
      have q5 : x1_1 < (a0.size : Int) := of_decide_eq_true (by (with_reducible assumption))
      have hx5 := bt_at a0 x1_1
      replace p5 := eq_true p5
      replace q5 := eq_true q5
      go_wp2_with ((go_at_call 73; (with_reducible refine (semantic_zzDigit.calls (bt a0 x1_1) false _ A6.out).mono ?_); rintro e w' ⟨rfl, ⟨nd, rfl⟩⟩))
      go_ret
      exact ⟨by rfl, by repeat (first | exact Drawn0.refl _ | apply Drawn0.step)⟩
    ·rw [if_neg c4] at H
     exact absurd H (by simp)
   ·rw [if_neg c3] at H
    have c3b0 : decide (x1_1 < (a0.size : Int)) = false := decide_eq_false c3
    clear c3
    obtain rfl := Option.some.inj H
    go_wp2
    go_ret
    exact ⟨by rfl, by repeat (first | exact Drawn0.refl _ | apply Drawn0.step)⟩
def semantic_zzAlpineNumbers.l0 : Nat → ByteArray → Int → Option (ByteArray)
 | 0, _, _ => none
 | k + 1, x0, x3 => (semantic_zzDigits.f k x0 x3).bind fun t102 => (if t102 = x3 then (if 0 ≤ x3 then (if x3 ≤ (x0.size : Int) then (some (x0.extract 0 (x3 : Int).toNat)) else (none)) else (none)) else (if t102 < (x0.size : Int) then (if 0 ≤ t102 then (if (bt x0 t102) = 46 then (semantic_zzAlpineNumbers.l0 k x0 (wrap64 (t102 + 1))) else (semantic_zzAlpineNumbers.l0 k x0 t102)) else (none)) else (semantic_zzAlpineNumbers.l0 k x0 t102)))
def semantic_zzAlpineNumbers.f (k : Nat) (a0 : ByteArray) : Option (ByteArray) := semantic_zzAlpineNumbers.l0 k a0 0
set_option maxHeartbeats 8000000 in
set_option maxRecDepth 100000 in
theorem semantic_zzAlpineNumbers.calls (k : Nat) (a0 : ByteArray) (r : ByteArray) (w : World) (h : semantic_zzAlpineNumbers.f k a0 = some r) :
  Calls Tryd.prog 50 #[.string a0] w fun e w' => e = .returned (.string r) ∧ Drawn0 w w' := by
 have H : (semantic_zzAlpineNumbers.l0 k a0 0) = some r := h
 clear h
 have H' := Aside0.mk H
 clear H
 go_enter Tryd.func50, Tryd.ntmps50
 go_wp2
 (try simp only [Act.put, List.setIfInBounds_toArray, List.set_cons_zero, List.set_cons_succ])
 go_loopg [3] k (fun kq v3 w' => ∃ (x3_1 : Int), v3 = .int .i64 x3_1 ∧ Aside0 (semantic_zzAlpineNumbers.l0 kq a0 x3_1 = some r) ∧ Aside0 (kq ≤ k) ∧ Drawn0 w w')
 case atStart => exact ⟨(0), (by rfl), H', ⟨Nat.le_refl _⟩, by repeat (first | exact Drawn0.refl _ | apply Drawn0.step)⟩
 case round =>
  clear H'
  obtain ⟨x3_1, rfl, HA, HK1, ⟨m1, rfl⟩⟩ := hrel
  cases gk with
  | zero => exact absurd HA.out (by simp [semantic_zzAlpineNumbers.l0])
  | succ k1 =>
   have H := HA.out
   clear HA
   simp only [semantic_zzAlpineNumbers.l0] at H
   replace H := Option.bind_eq_some_iff.mp H
   obtain ⟨t102, A20, H⟩ := H
   replace H : (if t102 = x3_1 then (if 0 ≤ x3_1 then (if x3_1 ≤ (a0.size : Int) then (some (a0.extract 0 (x3_1 : Int).toNat)) else (none)) else (none)) else (if t102 < (a0.size : Int) then (if 0 ≤ t102 then (if (bt a0 t102) = 46 then (semantic_zzAlpineNumbers.l0 k1 a0 (wrap64 (t102 + 1))) else (semantic_zzAlpineNumbers.l0 k1 a0 t102)) else (none)) else (semantic_zzAlpineNumbers.l0 k1 a0 t102))) = some r := H
   have A2 := Aside0.mk A20
   clear A20
   by_cases c3 : t102 = x3_1
   ·rw [if_pos c3] at H
    have c3b0 : (t102 == x3_1) = true := beq_iff_eq.mpr c3
    have c3b1 : (t102 != x3_1) = false := bne_eq_false_iff_eq.mpr c3
    clear c3
    by_cases c4 : 0 ≤ x3_1
    ·rw [if_pos c4] at H
     have c4b0 := eq_true c4
     have c4b1 : decide (0 ≤ x3_1) = true := decide_eq_true c4
     clear c4
     by_cases c5 : x3_1 ≤ (a0.size : Int)
     ·rw [if_pos c5] at H
      have c5b0 := eq_true c5
      have c5b1 : decide (x3_1 ≤ (a0.size : Int)) = true := decide_eq_true c5
      clear c5
      obtain rfl := Option.some.inj H
      go_wp2_with (((with_reducible refine gate_callee (f := 68) rfl ?_); refine goesL_ (some 7) rfl rfl Tryd.func68 (by kernel_rfl) rfl #[.string a0, .int .i64 x3_1] rfl (by (try simp only [List.map_toArray, List.map_cons, List.map_nil]); first | done | rfl | (simp only [List.length_drop, List.length_take]; rfl)) ?_; (with_reducible refine (semantic_zzDigits.calls k1 a0 x3_1 t102 _ A2.out).mono ?_); rintro e w' ⟨rfl, ⟨nd, rfl⟩⟩; refine ⟨_, rfl, ?_⟩))
      go_ret
      exact ⟨by rfl, by repeat (first | exact Drawn0.refl _ | apply Drawn0.step)⟩
     ·rw [if_neg c5] at H
      exact absurd H (by simp)
    ·rw [if_neg c4] at H
     exact absurd H (by simp)
   ·rw [if_neg c3] at H
    have c3b0 : (t102 == x3_1) = false := beq_eq_false_iff_ne.mpr c3
    have c3b1 : (t102 != x3_1) = true := bne_iff_ne.mpr c3
    by_cases c6 : t102 < (a0.size : Int)
    ·rw [if_pos c6] at H
     have c6b0 : decide (t102 < (a0.size : Int)) = true := decide_eq_true c6
     clear c6
     by_cases c7 : 0 ≤ t102
     ·rw [if_pos c7] at H
      have c7b0 : decide (0 ≤ t102) = true := decide_eq_true c7
      clear c7
      by_cases c9 : (bt a0 t102) = 46
      ·rw [if_pos c9] at H
       have c9b0 : ((bt a0 t102) == 46) = true := beq_iff_eq.mpr c9
       have c9b1 : ((bt a0 t102) != 46) = false := bne_eq_false_iff_eq.mpr c9
       clear c9
       have H' := Aside0.mk H
       clear H
       go_wp2_with (((with_reducible refine gate_callee (f := 68) rfl ?_); refine goesL_ (some 7) rfl rfl Tryd.func68 (by kernel_rfl) rfl #[.string a0, .int .i64 x3_1] rfl (by (try simp only [List.map_toArray, List.map_cons, List.map_nil]); first | done | rfl | (simp only [List.length_drop, List.length_take]; rfl)) ?_; (with_reducible refine (semantic_zzDigits.calls k1 a0 x3_1 t102 _ A2.out).mono ?_); rintro e w' ⟨rfl, ⟨nd, rfl⟩⟩; refine ⟨_, rfl, ?_⟩; have p8 : 0 ≤ (t102 : Int) := of_decide_eq_true (by (with_reducible assumption)); have q8 : t102 < (a0.size : Int) := of_decide_eq_true (by (with_reducible assumption)); have hx8 := bt_at a0 t102; replace p8 := eq_true p8; replace q8 := eq_true q8))
       go_roundg k1
       case measure => have := HK1.out; omega
       case rel => exact ⟨(wrap64 (t102 + 1)), (by rfl), H', ⟨by have := HK1.out; omega⟩, by repeat (first | exact Drawn0.refl _ | apply Drawn0.step)⟩
      ·rw [if_neg c9] at H
       have c9b0 : ((bt a0 t102) == 46) = false := beq_eq_false_iff_ne.mpr c9
       have c9b1 : ((bt a0 t102) != 46) = true := bne_iff_ne.mpr c9
       have H' := Aside0.mk H
       clear H
       go_wp2_with (((with_reducible refine gate_callee (f := 68) rfl ?_); refine goesL_ (some 7) rfl rfl Tryd.func68 (by kernel_rfl) rfl #[.string a0, .int .i64 x3_1] rfl (by (try simp only [List.map_toArray, List.map_cons, List.map_nil]); first | done | rfl | (simp only [List.length_drop, List.length_take]; rfl)) ?_; (with_reducible refine (semantic_zzDigits.calls k1 a0 x3_1 t102 _ A2.out).mono ?_); rintro e w' ⟨rfl, ⟨nd, rfl⟩⟩; refine ⟨_, rfl, ?_⟩; have p8 : 0 ≤ (t102 : Int) := of_decide_eq_true (by (with_reducible assumption)); have q8 : t102 < (a0.size : Int) := of_decide_eq_true (by (with_reducible assumption)); have hx8 := bt_at a0 t102; replace p8 := eq_true p8; replace q8 := eq_true q8))
       go_roundg k1
       case measure => have := HK1.out; omega
       case rel => exact ⟨(t102), (by rfl), H', ⟨by have := HK1.out; omega⟩, by repeat (first | exact Drawn0.refl _ | apply Drawn0.step)⟩
     ·rw [if_neg c7] at H
      exact absurd H (by simp)
    ·rw [if_neg c6] at H
     have c6b0 : decide (t102 < (a0.size : Int)) = false := decide_eq_false c6
     clear c6
     have H' := Aside0.mk H
     clear H
     go_wp2_with (((with_reducible refine gate_callee (f := 68) rfl ?_); refine goesL_ (some 7) rfl rfl Tryd.func68 (by kernel_rfl) rfl #[.string a0, .int .i64 x3_1] rfl (by (try simp only [List.map_toArray, List.map_cons, List.map_nil]); first | done | rfl | (simp only [List.length_drop, List.length_take]; rfl)) ?_; (with_reducible refine (semantic_zzDigits.calls k1 a0 x3_1 t102 _ A2.out).mono ?_); rintro e w' ⟨rfl, ⟨nd, rfl⟩⟩; refine ⟨_, rfl, ?_⟩))
     go_roundg k1
     case measure => have := HK1.out; omega
     case rel => exact ⟨(t102), (by rfl), H', ⟨by have := HK1.out; omega⟩, by repeat (first | exact Drawn0.refl _ | apply Drawn0.step)⟩
def semantic_zzIndex.l0 : Nat → ByteArray → ByteArray → Int → Option (Int)
 | 0, _, _, _ => none
 | k + 1, x0, x1, x5 => if (wrap64 (x5 + (x1.size : Int))) ≤ (x0.size : Int) then (if 0 ≤ x5 then (if x5 ≤ (wrap64 (x5 + (x1.size : Int))) then (if (x0.extract (x5 : Int).toNat ((wrap64 (x5 + (x1.size : Int))) : Int).toNat).toList = x1.toList then (some x5) else (semantic_zzIndex.l0 k x0 x1 (wrap64 (x5 + 1)))) else (none)) else (none)) else (some (-1))
def semantic_zzIndex.f (k : Nat) (a0 : ByteArray) (a1 : ByteArray) : Option (Int) := semantic_zzIndex.l0 k a0 a1 0
set_option maxHeartbeats 8000000 in
set_option maxRecDepth 100000 in
theorem semantic_zzIndex.calls (k : Nat) (a0 : ByteArray) (a1 : ByteArray) (r : Int) (w : World) (h : semantic_zzIndex.f k a0 a1 = some r) :
  Calls Tryd.prog 69 #[.string a0, .string a1] w fun e w' => e = .returned (.int .i64 r) ∧ Drawn0 w w' := by
 have H : (semantic_zzIndex.l0 k a0 a1 0) = some r := h
 clear h
 have H' := Aside0.mk H
 clear H
 go_enter Tryd.func69, Tryd.ntmps69
 go_wp2
 (try simp only [Act.put, List.setIfInBounds_toArray, List.set_cons_zero, List.set_cons_succ])
 go_loopg [5] k (fun kq v5 w' => ∃ (x5_1 : Int), v5 = .int .i64 x5_1 ∧ Aside0 (semantic_zzIndex.l0 kq a0 a1 x5_1 = some r) ∧ Aside0 (kq ≤ k) ∧ Drawn0 w w')
 case atStart => exact ⟨(0), (by rfl), H', ⟨Nat.le_refl _⟩, by repeat (first | exact Drawn0.refl _ | apply Drawn0.step)⟩
 case round =>
  clear H'
  obtain ⟨x5_1, rfl, HA, HK1, ⟨m1, rfl⟩⟩ := hrel
  cases gk with
  | zero => exact absurd HA.out (by simp [semantic_zzIndex.l0])
  | succ k1 =>
   have H := HA.out
   clear HA
   simp only [semantic_zzIndex.l0] at H
   by_cases c3 : (wrap64 (x5_1 + (a1.size : Int))) ≤ (a0.size : Int)
   ·rw [if_pos c3] at H
    have c3b0 : decide ((wrap64 (x5_1 + (a1.size : Int))) ≤ (a0.size : Int)) = true := decide_eq_true c3
    clear c3
    by_cases c4 : 0 ≤ x5_1
    ·rw [if_pos c4] at H
     have c4b0 := eq_true c4
     have c4b1 : decide (0 ≤ x5_1) = true := decide_eq_true c4
     clear c4
     by_cases c5 : x5_1 ≤ (wrap64 (x5_1 + (a1.size : Int)))
     ·rw [if_pos c5] at H
      have c5b0 := eq_true c5
      have c5b1 : decide (x5_1 ≤ (wrap64 (x5_1 + (a1.size : Int)))) = true := decide_eq_true c5
      have c6b0 := eq_true (of_decide_eq_true (by (with_reducible assumption)) : (wrap64 (x5_1 + (a1.size : Int))) ≤ (a0.size : Int))
      by_cases c7 : (a0.extract (x5_1 : Int).toNat ((wrap64 (x5_1 + (a1.size : Int))) : Int).toNat).toList = a1.toList
      ·rw [if_pos c7] at H
       have c7b0 : ((a0.extract (x5_1 : Int).toNat ((wrap64 (x5_1 + (a1.size : Int))) : Int).toNat).toList == a1.toList) = true := beq_iff_eq.mpr c7
       have c7b1 : ((a0.extract (x5_1 : Int).toNat ((wrap64 (x5_1 + (a1.size : Int))) : Int).toNat).toList != a1.toList) = false := bne_eq_false_iff_eq.mpr c7
       clear c7
       obtain rfl := Option.some.inj H
       go_wp2
       go_ret
       exact ⟨by rfl, by repeat (first | exact Drawn0.refl _ | apply Drawn0.step)⟩
      ·rw [if_neg c7] at H
       have c7b0 : ((a0.extract (x5_1 : Int).toNat ((wrap64 (x5_1 + (a1.size : Int))) : Int).toNat).toList == a1.toList) = false := beq_eq_false_iff_ne.mpr c7
       have c7b1 : ((a0.extract (x5_1 : Int).toNat ((wrap64 (x5_1 + (a1.size : Int))) : Int).toNat).toList != a1.toList) = true := bne_iff_ne.mpr c7
       have H' := Aside0.mk H
       clear H
       go_wp2
       go_roundg k1
       case measure => have := HK1.out; omega
       case rel => exact ⟨(wrap64 (x5_1 + 1)), (by rfl), H', ⟨by have := HK1.out; omega⟩, by repeat (first | exact Drawn0.refl _ | apply Drawn0.step)⟩
     ·rw [if_neg c5] at H
      exact absurd H (by simp)
    ·rw [if_neg c4] at H
     exact absurd H (by simp)
   ·rw [if_neg c3] at H
    have c3b0 : decide ((wrap64 (x5_1 + (a1.size : Int))) ≤ (a0.size : Int)) = false := decide_eq_false c3
    clear c3
    obtain rfl := Option.some.inj H
    go_wp2
    go_ret
    exact ⟨by rfl, by repeat (first | exact Drawn0.refl _ | apply Drawn0.step)⟩
def semantic_zzSplit.l1 : Nat → ByteArray → ByteArray → List ByteArray → Option (List ByteArray)
 | 0, _, _, _ => none
 | k + 1, x0, x1, x5 => (semantic_zzIndex.f k x0 x1).bind fun t103 => (if t103 < 0 then (if x5.length < 8796093022208 then (some (x5 ++ [x0])) else (none)) else (if 0 ≤ t103 then (if t103 ≤ (x0.size : Int) then (if x5.length < 8796093022208 then (if 0 ≤ (wrap64 (t103 + (x1.size : Int))) then (if (wrap64 (t103 + (x1.size : Int))) ≤ (x0.size : Int) then (semantic_zzSplit.l1 k (x0.extract ((wrap64 (t103 + (x1.size : Int))) : Int).toNat x0.size) x1 (x5 ++ [x0.extract 0 (t103 : Int).toNat])) else (none)) else (none)) else (none)) else (none)) else (none)))
def semantic_zzSplit.f (k : Nat) (a0 : ByteArray) (a1 : ByteArray) : Option (List ByteArray) := if (a1.size : Int) = 0 then (none) else (semantic_zzSplit.l1 k a0 a1 ([] : List ByteArray))
set_option maxHeartbeats 8000000 in
set_option maxRecDepth 100000 in
theorem semantic_zzSplit.calls (k : Nat) (a0 : ByteArray) (a1 : ByteArray) (r : List ByteArray) (w : World) (h : semantic_zzSplit.f k a0 a1 = some r) :
  Calls Tryd.prog 51 #[.string a0, .string a1] w fun e w' => ∃ v0_ : Value, e = .returned (v0_) ∧ Kd.R Kd.string 9 w' w.heap.size (fun _ => True) v0_ r ∧ Below w.heap.size w w' := by
 have HB := Aside0.mk (Below.refl w.heap.size w)
 have H : (if (a1.size : Int) = 0 then (none) else (semantic_zzSplit.l1 k a0 a1 ([] : List ByteArray))) = some r := h
 clear h
 by_cases c3 : (a1.size : Int) = 0
 ·rw [if_pos c3] at H
  exact absurd H (by simp)
 ·rw [if_neg c3] at H
  have c3b0 : ((a1.size : Int) == 0) = false := beq_eq_false_iff_ne.mpr c3
  have c3b1 : ((a1.size : Int) != 0) = true := bne_iff_ne.mpr c3
  have H' := Aside0.mk H
  clear H
  go_enter Tryd.func51, Tryd.ntmps51
  go_wp2
  (try simp only [Act.put, List.setIfInBounds_toArray, List.set_cons_zero, List.set_cons_succ])
  go_loopg [0, 5] k (fun kq v0 v5 w' => ∃ (x0_1 : ByteArray) (x5_1 : List ByteArray), v0 = .string x0_1 ∧ Aside0 (semantic_zzSplit.l1 kq x0_1 a1 x5_1 = some r) ∧ Aside0 (kq ≤ k) ∧ Aside0 (Kd.R Kd.string 9 w' w.heap.size (fun _ => True) v5 x5_1) ∧ Aside0 (Below w.heap.size w w'))
  case atStart => exact ⟨(a0), (([] : List ByteArray)), (by rfl), H', ⟨Nat.le_refl _⟩, ⟨by exact Kd.R_nil _ _ _ _ _⟩, ⟨by (with_reducible exact HB.out)⟩⟩
  case round =>
   clear H'
   clear c3 c3b0 c3b1
   obtain ⟨x0_1, x5_1, rfl, HA, HK1, HO_5, HB⟩ := hrel
   cases gk with
   | zero => exact absurd HA.out (by simp [semantic_zzSplit.l1])
   | succ k1 =>
    have H := HA.out
    clear HA
    simp only [semantic_zzSplit.l1] at H
    replace H := Option.bind_eq_some_iff.mp H
    obtain ⟨t103, A40, H⟩ := H
    replace H : (if t103 < 0 then (if x5_1.length < 8796093022208 then (some (x5_1 ++ [x0_1])) else (none)) else (if 0 ≤ t103 then (if t103 ≤ (x0_1.size : Int) then (if x5_1.length < 8796093022208 then (if 0 ≤ (wrap64 (t103 + (a1.size : Int))) then (if (wrap64 (t103 + (a1.size : Int))) ≤ (x0_1.size : Int) then (semantic_zzSplit.l1 k1 (x0_1.extract ((wrap64 (t103 + (a1.size : Int))) : Int).toNat x0_1.size) a1 (x5_1 ++ [x0_1.extract 0 (t103 : Int).toNat])) else (none)) else (none)) else (none)) else (none)) else (none))) = some r := H
    have A4 := Aside0.mk A40
    clear A40
    by_cases c5 : t103 < 0
    ·rw [if_pos c5] at H
     have c5b0 : decide (t103 < 0) = true := decide_eq_true c5
     clear c5
     by_cases c6 : x5_1.length < 8796093022208
     ·rw [if_pos c6] at H
      have LMc6 := Aside0.mk c6
      clear c6
      obtain ⟨y104, hy104⟩ : ∃ y_ : List ByteArray, y_ = (x5_1 ++ [x0_1]) := ⟨_, rfl⟩
      replace H : (some y104) = some r := by (rw [hy104]; with_reducible exact H)
      have Ny104 := Aside0.mk hy104
      clear hy104
      obtain rfl := Option.some.inj H
      go_wp2_with (first | ((with_reducible refine gate_callee (f := 69) rfl ?_); refine goesL_ (some 39) rfl rfl Tryd.func69 (by kernel_rfl) rfl #[.string x0_1, .string a1] rfl (by (try simp only [List.map_toArray, List.map_cons, List.map_nil]); first | done | rfl | (simp only [List.length_drop, List.length_take]; rfl)) ?_; (with_reducible refine (semantic_zzIndex.calls k1 x0_1 a1 t103 _ A4.out).mono ?_); rintro e w' ⟨rfl, ⟨nd, rfl⟩⟩; refine ⟨_, rfl, ?_⟩) | ((with_reducible refine gate_builtin (b := .append) (xs := #[.tmp 42, .tmp 44]) rfl ?_); at_builtin; refine Kd.R_append Kd.string (w0 := w) w.heap.size rfl (.tmp 42) (.tmp 44) 42 9 (.string ⟨#[]⟩) 16 rfl Tryd.underlying42 info9 rfl (by decide) (by omega) u5 x5_1 x0_1 [.string x0_1] (fun _ => True) (fun _ => False) rfl rfl ?aP (fun _ hk => hk.elim) ?aF ?aO ?aB ?aS ?aL ?_; (case aP => exact rfl); (case aB => exact (by (with_reducible apply pw_below_drewN; with_reducible exact HB.out))); (case aF => exact (fun _ _ => trivial)); (case aO => exact (by (with_reducible repeat (first | apply Kd.R_alloc | apply Kd.R_drewN | apply Kd.R_drew)); exact HO_5.out)); (case aS => exact (below_size (by (with_reducible apply pw_below_drewN; with_reducible exact HB.out)))); (case aL => have := LMc6.out; omega); intro v105 w7 ho hb hg hat; rw [← Ny104.out] at ho; have HO106 := Aside0.mk ho; replace HB := Aside0.mk hb; clear HO_5; clear ho hb hg hat))
      go_ret
      exact ⟨_, by rfl, by (with_reducible repeat (first | apply Kd.R_alloc | apply Kd.R_drewN | apply Kd.R_drew)); exact HO106.out, by (with_reducible exact HB.out)⟩
     ·rw [if_neg c6] at H
      exact absurd H (by simp)
    ·rw [if_neg c5] at H
     have c5b0 : decide (t103 < 0) = false := decide_eq_false c5
     clear c5
     by_cases c8 : 0 ≤ t103
     ·rw [if_pos c8] at H
      have c8b0 := eq_true c8
      have c8b1 : decide (0 ≤ t103) = true := decide_eq_true c8
      clear c8
      by_cases c9 : t103 ≤ (x0_1.size : Int)
      ·rw [if_pos c9] at H
       have c9b0 := eq_true c9
       have c9b1 : decide (t103 ≤ (x0_1.size : Int)) = true := decide_eq_true c9
       clear c9
       by_cases c10 : x5_1.length < 8796093022208
       ·rw [if_pos c10] at H
        have LMc10 := Aside0.mk c10
        clear c10
        obtain ⟨y107, hy107⟩ : ∃ y_ : List ByteArray, y_ = (x5_1 ++ [x0_1.extract 0 (t103 : Int).toNat]) := ⟨_, rfl⟩
        replace H : (if 0 ≤ (wrap64 (t103 + (a1.size : Int))) then (if (wrap64 (t103 + (a1.size : Int))) ≤ (x0_1.size : Int) then (semantic_zzSplit.l1 k1 (x0_1.extract ((wrap64 (t103 + (a1.size : Int))) : Int).toNat x0_1.size) a1 y107) else (none)) else (none)) = some r := by (rw [hy107]; with_reducible exact H)
        have Ny107 := Aside0.mk hy107
        clear hy107
        obtain ⟨ji11, hji11⟩ : ∃ j_ : Int, (wrap64 (t103 + (a1.size : Int))) = j_ := ⟨_, rfl⟩
        replace H : (if 0 ≤ (ji11) then (if (ji11) ≤ (x0_1.size : Int) then (semantic_zzSplit.l1 k1 (x0_1.extract ((ji11) : Int).toNat x0_1.size) a1 y107) else (none)) else (none)) = some r := by (rw [hji11] at H; exact H)
        (try rw [hji11] at A4)
        have hji11w : (IntKind.i64.wrap (t103 + (a1.size : Int))) = ji11 := (i64_w _).trans hji11
        by_cases c12 : 0 ≤ (ji11)
        ·rw [if_pos c12] at H
         have c12b0 := eq_true c12
         have c12b1 : decide (0 ≤ (ji11)) = true := decide_eq_true c12
         clear c12
         by_cases c13 : (ji11) ≤ (x0_1.size : Int)
         ·rw [if_pos c13] at H
          have c13b0 := eq_true c13
          have c13b1 : decide ((ji11) ≤ (x0_1.size : Int)) = true := decide_eq_true c13
          clear c13
          have H' := Aside0.mk H
          clear H
          go_wp2_with (first | ((with_reducible refine gate_callee (f := 69) rfl ?_); refine goesL_ (some 39) rfl rfl Tryd.func69 (by kernel_rfl) rfl #[.string x0_1, .string a1] rfl (by (try simp only [List.map_toArray, List.map_cons, List.map_nil]); first | done | rfl | (simp only [List.length_drop, List.length_take]; rfl)) ?_; (with_reducible refine (semantic_zzIndex.calls k1 x0_1 a1 t103 _ A4.out).mono ?_); rintro e w' ⟨rfl, ⟨nd, rfl⟩⟩; refine ⟨_, rfl, ?_⟩) | ((with_reducible refine gate_builtin (b := .append) (xs := #[.tmp 46, .tmp 50]) rfl ?_); at_builtin; refine Kd.R_append Kd.string (w0 := w) w.heap.size rfl (.tmp 46) (.tmp 50) 42 9 (.string ⟨#[]⟩) 16 rfl Tryd.underlying42 info9 rfl (by decide) (by omega) u5 x5_1 (x0_1.extract 0 (t103 : Int).toNat) [.string (x0_1.extract 0 (t103 : Int).toNat)] (fun _ => True) (fun _ => False) rfl rfl ?aP (fun _ hk => hk.elim) ?aF ?aO ?aB ?aS ?aL ?_; (case aP => exact rfl); (case aB => exact (by (with_reducible apply pw_below_drewN; with_reducible exact HB.out))); (case aF => exact (fun _ _ => trivial)); (case aO => exact (by (with_reducible repeat (first | apply Kd.R_alloc | apply Kd.R_drewN | apply Kd.R_drew)); exact HO_5.out)); (case aS => exact (below_size (by (with_reducible apply pw_below_drewN; with_reducible exact HB.out)))); (case aL => have := LMc10.out; omega); intro v108 w14 ho hb hg hat; rw [← Ny107.out] at ho; have HO109 := Aside0.mk ho; replace HB := Aside0.mk hb; clear HO_5; clear ho hb hg hat))
          go_roundg k1
          case measure => have := HK1.out; omega
          case rel => exact ⟨(x0_1.extract ((ji11) : Int).toNat x0_1.size), (y107), (by rfl), H', ⟨by have := HK1.out; omega⟩, ⟨by (with_reducible repeat (first | apply Kd.R_alloc | apply Kd.R_drewN | apply Kd.R_drew)); exact HO109.out⟩, ⟨by (with_reducible exact HB.out)⟩⟩
         ·rw [if_neg c13] at H
          exact absurd H (by simp)
        ·rw [if_neg c12] at H
         exact absurd H (by simp)
       ·rw [if_neg c10] at H
        exact absurd H (by simp)
      ·rw [if_neg c9] at H
       exact absurd H (by simp)
     ·rw [if_neg c8] at H
      exact absurd H (by simp)
def semantic_zzAlpineLower.f (a0 : ByteArray) : Option (Bool) := if a0.toList = ([] : List UInt8) then (some false) else (if 0 < (a0.size : Int) then (if (bt a0 0) ≥ 97 then (some (decide ((bt a0 0) ≤ 122))) else (some false)) else (none))
set_option maxHeartbeats 8000000 in
set_option maxRecDepth 100000 in
theorem semantic_zzAlpineLower.calls (a0 : ByteArray) (r : Bool) (w : World) (h : semantic_zzAlpineLower.f a0 = some r) :
  Calls Tryd.prog 54 #[.string a0] w fun e w' => e = .returned (.bool r) ∧ Drawn0 w w' := by
 have H : (if a0.toList = ([] : List UInt8) then (some false) else (if 0 < (a0.size : Int) then (if (bt a0 0) ≥ 97 then (some (decide ((bt a0 0) ≤ 122))) else (some false)) else (none))) = some r := h
 clear h
 by_cases c2 : a0.toList = ([] : List UInt8)
 ·rw [if_pos c2] at H
  have c2b0 : (a0.toList == ([] : List UInt8)) = true := beq_iff_eq.mpr c2
  have c2b1 : (a0.toList != ([] : List UInt8)) = false := bne_eq_false_iff_eq.mpr c2
  try have c2b9 : a0.toList.isEmpty = true := by simpa using c2b0
  clear c2
  obtain rfl := Option.some.inj H
  go_enter Tryd.func54, Tryd.ntmps54
  go_wp2
  go_ret
  exact ⟨by rfl, by repeat (first | exact Drawn0.refl _ | apply Drawn0.step)⟩
 ·rw [if_neg c2] at H
  have c2b0 : (a0.toList == ([] : List UInt8)) = false := beq_eq_false_iff_ne.mpr c2
  have c2b1 : (a0.toList != ([] : List UInt8)) = true := bne_iff_ne.mpr c2
  try have c2b9 : a0.toList.isEmpty = false := by simpa using c2b0
  by_cases c3 : 0 < (a0.size : Int)
  ·rw [if_pos c3] at H
   have c3b0 : decide (0 < (a0.size : Int)) = true := decide_eq_true c3
   have c3b1 : decide (0 < a0.size) = true := decide_eq_true (by omega)
   clear c3
   by_cases c5 : (bt a0 0) ≥ 97
   ·rw [if_pos c5] at H
    have c5b0 : decide (97 ≤ (bt a0 0)) = true := decide_eq_true c5
    clear c5
    obtain rfl := Option.some.inj H
    have p4 : 0 ≤ (0 : Int) := (by omega)
    have q4 : 0 < a0.size := (by have : (0 : Int) < (a0.size : Int) := of_decide_eq_true (by (with_reducible assumption)); omega)
    have hx4 : ∀ h : 0 < a0.size, ((a0[0]'h).toNat : Int) = bt a0 0 := bt_at a0 0
    clear p4
    have qi4 : (0 < (a0.size : Int)) = True := eq_true (of_decide_eq_true (by (with_reducible assumption)))
    replace q4 := eq_true q4
    have p6 : 0 ≤ (0 : Int) := (by omega)
    have q6 : 0 < a0.size := (by have : (0 : Int) < (a0.size : Int) := of_decide_eq_true (by (with_reducible assumption)); omega)
    have hx6 : ∀ h : 0 < a0.size, ((a0[0]'h).toNat : Int) = bt a0 0 := bt_at a0 0
    clear p6
    have qi6 : (0 < (a0.size : Int)) = True := eq_true (of_decide_eq_true (by (with_reducible assumption)))
    replace q6 := eq_true q6
    go_enter Tryd.func54, Tryd.ntmps54
    go_wp2
    go_ret
    exact ⟨by rfl, by repeat (first | exact Drawn0.refl _ | apply Drawn0.step)⟩
   ·rw [if_neg c5] at H
    have c5b0 : decide (97 ≤ (bt a0 0)) = false := decide_eq_false c5
    clear c5
    obtain rfl := Option.some.inj H
    have p4 : 0 ≤ (0 : Int) := (by omega)
    have q4 : 0 < a0.size := (by have : (0 : Int) < (a0.size : Int) := of_decide_eq_true (by (with_reducible assumption)); omega)
    have hx4 : ∀ h : 0 < a0.size, ((a0[0]'h).toNat : Int) = bt a0 0 := bt_at a0 0
    clear p4
    have qi4 : (0 < (a0.size : Int)) = True := eq_true (of_decide_eq_true (by (with_reducible assumption)))
    replace q4 := eq_true q4
    go_enter Tryd.func54, Tryd.ntmps54
    go_wp2
    go_ret
    exact ⟨by rfl, by repeat (first | exact Drawn0.refl _ | apply Drawn0.step)⟩
  ·rw [if_neg c3] at H
   exact absurd H (by simp)
def semantic_zzAlpineLower.Pure : Prop := ∀ (a0 : ByteArray), a0.size ≤ 140737488351232 → semantic_zzAlpineLower.f a0 = some true
def semantic_zzHas.f (a0 : ByteArray) (a1 : Int) (a2 : ByteArray) : Option (Bool) := if (wrap64 ((a0.size : Int) - a1)) ≥ (a2.size : Int) then (if 0 ≤ a1 then (if a1 ≤ (wrap64 (a1 + (a2.size : Int))) then (if (wrap64 (a1 + (a2.size : Int))) ≤ (a0.size : Int) then (some ((a0.extract (a1 : Int).toNat ((wrap64 (a1 + (a2.size : Int))) : Int).toNat).toList == a2.toList)) else (none)) else (none)) else (none)) else (some false)
set_option maxHeartbeats 8000000 in
set_option maxRecDepth 100000 in
theorem semantic_zzHas.calls (a0 : ByteArray) (a1 : Int) (a2 : ByteArray) (r : Bool) (w : World) (h : semantic_zzHas.f a0 a1 a2 = some r) :
  Calls Tryd.prog 72 #[.string a0, .int .i64 a1, .string a2] w fun e w' => e = .returned (.bool r) ∧ Drawn0 w w' := by
 have H : (if (wrap64 ((a0.size : Int) - a1)) ≥ (a2.size : Int) then (if 0 ≤ a1 then (if a1 ≤ (wrap64 (a1 + (a2.size : Int))) then (if (wrap64 (a1 + (a2.size : Int))) ≤ (a0.size : Int) then (some ((a0.extract (a1 : Int).toNat ((wrap64 (a1 + (a2.size : Int))) : Int).toNat).toList == a2.toList)) else (none)) else (none)) else (none)) else (some false)) = some r := h
 clear h
 by_cases c4 : (wrap64 ((a0.size : Int) - a1)) ≥ (a2.size : Int)
 ·rw [if_pos c4] at H
  have c4b0 : decide ((a2.size : Int) ≤ (wrap64 ((a0.size : Int) - a1))) = true := decide_eq_true c4
  clear c4
  by_cases c5 : 0 ≤ a1
  ·rw [if_pos c5] at H
   have c5b0 := eq_true c5
   have c5b1 : decide (0 ≤ a1) = true := decide_eq_true c5
   clear c5
   by_cases c6 : a1 ≤ (wrap64 (a1 + (a2.size : Int)))
   ·rw [if_pos c6] at H
    have c6b0 := eq_true c6
    have c6b1 : decide (a1 ≤ (wrap64 (a1 + (a2.size : Int)))) = true := decide_eq_true c6
    by_cases c7 : (wrap64 (a1 + (a2.size : Int))) ≤ (a0.size : Int)
    ·rw [if_pos c7] at H
     have c7b0 := eq_true c7
     have c7b1 : decide ((wrap64 (a1 + (a2.size : Int))) ≤ (a0.size : Int)) = true := decide_eq_true c7
     obtain rfl := Option.some.inj H
     go_enter Tryd.func72, Tryd.ntmps72
     go_wp2
     go_ret
     exact ⟨by rfl, by repeat (first | exact Drawn0.refl _ | apply Drawn0.step)⟩
    ·rw [if_neg c7] at H
     exact absurd H (by simp)
   ·rw [if_neg c6] at H
    exact absurd H (by simp)
  ·rw [if_neg c5] at H
   exact absurd H (by simp)
 ·rw [if_neg c4] at H
  have c4b0 : decide ((a2.size : Int) ≤ (wrap64 ((a0.size : Int) - a1))) = false := decide_eq_false c4
  clear c4
  obtain rfl := Option.some.inj H
  go_enter Tryd.func72, Tryd.ntmps72
  go_wp2
  go_ret
  exact ⟨by rfl, by repeat (first | exact Drawn0.refl _ | apply Drawn0.step)⟩
def semantic_zzHas.Pure : Prop := ∀ (a0 : ByteArray) (a1 : Int) (a2 : ByteArray), a0.size ≤ 140737488351232 → (Lit.int .i64 a1).wf = true → a2.size ≤ 140737488351232 → semantic_zzHas.f a0 a1 a2 = some true
end Go.Proofs.YtapaijpglfmfgaaDoor.S
end
section -- Sx2
namespace Go.Proofs.YtapaijpglfmfgaaDoor.S
open Go.RowKit Go.Proofs.YtapaijpglfmfgaaDoorH Go.Proofs.YtapaijpglfmfgaaDoorW.PrintWords Go.Proofs.YtapaijpglfmfgaaDoorW.PrintLast Go.Proofs.YtapaijpglfmfgaaDoorW.PrintMore
attribute [local go_sem] max2_int min2_int max_two min_two max_three min_three max_four min_four
set_option linter.unusedVariables false
set_option linter.unusedSimpArgs false
mutual
def semantic_zzAlpineSuffixes.l0 : Nat → ByteArray → List (List ByteArray) → Int → Option ((List (List ByteArray)))
 | 0, _, _, _ => none
 | k + 1, x0, x3, x4 => if x4 < (x0.size : Int) then (if 0 ≤ x4 then (if (bt x0 x4) = 95 then ((some (([(⟨#[97, 108, 112, 104, 97]⟩ : ByteArray), (⟨#[98, 101, 116, 97]⟩ : ByteArray), (⟨#[112, 114, 101]⟩ : ByteArray), (⟨#[114, 99]⟩ : ByteArray), (⟨#[99, 118, 115]⟩ : ByteArray), (⟨#[115, 118, 110]⟩ : ByteArray), (⟨#[103, 105, 116]⟩ : ByteArray), (⟨#[104, 103]⟩ : ByteArray), (⟨#[112]⟩ : ByteArray)] : List ByteArray) : List ByteArray)).bind fun y110 => (semantic_zzAlpineSuffixes.l1 k x0 x3 x4 (⟨#[]⟩ : ByteArray) y110 (y110.length : Int) 0)) else (semantic_zzAlpineSuffixes.l0 k x0 x3 (wrap64 (x4 + 1)))) else (none)) else (some x3)
def semantic_zzAlpineSuffixes.l1 : Nat → ByteArray → List (List ByteArray) → Int → ByteArray → List ByteArray → Int → Int → Option ((List (List ByteArray)))
 | 0, _, _, _, _, _, _, _ => none
 | k + 1, x0, x3, x4, x5, x20, x21, x22 => if x22 < x21 then (if 0 ≤ x22 then (if x22 < (x20.length : Int) then (if x5.toList = ([] : List UInt8) then ((semantic_zzHas.f x0 (wrap64 (x4 + 1)) (rdOf ByteArray.empty x20 x22)).bind fun t114 => (if t114 = true then (semantic_zzAlpineSuffixes.l1 k x0 x3 x4 (rdOf ByteArray.empty x20 x22) x20 x21 (wrap64 (x22 + 1))) else (semantic_zzAlpineSuffixes.l1 k x0 x3 x4 x5 x20 x21 (wrap64 (x22 + 1))))) else (semantic_zzAlpineSuffixes.l1 k x0 x3 x4 x5 x20 x21 (wrap64 (x22 + 1)))) else (none)) else (none)) else (if x5.toList = ([] : List UInt8) then (semantic_zzAlpineSuffixes.l0 k x0 x3 (wrap64 (x4 + 1))) else ((semantic_zzDigits.f k x0 (wrap64 ((wrap64 (x4 + 1)) + (x5.size : Int)))).bind fun t115 => (if 0 ≤ x4 then (if x4 ≤ t115 then (if t115 ≤ (x0.size : Int) then (if 0 ≤ (wrap64 ((wrap64 (x4 + 1)) + (x5.size : Int))) then (if (wrap64 ((wrap64 (x4 + 1)) + (x5.size : Int))) ≤ t115 then (if x3.length < 5864062014805 then (semantic_zzAlpineSuffixes.l0 k x0 (x3 ++ [(([x0.extract (x4 : Int).toNat (t115 : Int).toNat, x5, x0.extract ((wrap64 ((wrap64 (x4 + 1)) + (x5.size : Int))) : Int).toNat (t115 : Int).toNat] : List ByteArray))]) t115) else (none)) else (none)) else (none)) else (none)) else (none)) else (none))))
end
def semantic_zzAlpineSuffixes.f (k : Nat) (a0 : ByteArray) : Option ((List (List ByteArray))) := semantic_zzAlpineSuffixes.l0 k a0 ([] : List (List ByteArray)) 0
def semantic_zzAlpineSuffixes.T17 : Bool × List (List Nat × List Nat) := (true, [([], []), ([], []), ([], []), ([], []), ([1, 2, 3], [1, 2, 3]), ([], []), ([], []), ([], []), ([], []), ([6, 7, 8], [6, 7, 8]), ([4, 5, 9], [4, 5, 9]), ([10], [10]), ([0, 11], [0, 11]), ([12, 12, 0, 1, 2, 3, 4, 5, 6, 7, 8, 9, 10, 11, 12], [0, 12])])
def semantic_zzAlpineSuffixes.B17 : List Nat := [0, 0, 0, 0, 14, 0, 0, 0, 0, 448, 1022, 2046, 4095, 8191]
theorem semantic_zzAlpineSuffixes.tab17 : rtab .any (opsOf Tryd.f55 17) = semantic_zzAlpineSuffixes.T17 := by kernel_rfl
theorem semantic_zzAlpineSuffixes.bits17 : waitsOk semantic_zzAlpineSuffixes.T17.2 semantic_zzAlpineSuffixes.B17 = true := by kernel_rfl
set_option maxHeartbeats 8000000 in
set_option maxRecDepth 100000 in
theorem semantic_zzAlpineSuffixes.calls (k : Nat) (a0 : ByteArray) (r : List (List ByteArray)) (w : World) (h : semantic_zzAlpineSuffixes.f k a0 = some r) :
  Calls Tryd.prog 55 #[.string a0] w fun e w' => ∃ v0_ : Value, e = .returned (v0_) ∧ Kd.S (Kd.slice 9 Kd.string) 42 w' w.heap.size (fun _ => True) v0_ r ∧ Below w.heap.size w w' := by
 have HB := Aside0.mk (Below.refl w.heap.size w)
 have H : (semantic_zzAlpineSuffixes.l0 k a0 ([] : List (List ByteArray)) 0) = some r := h
 clear h
 have H' := Aside0.mk H
 clear H
 go_enter Tryd.func55, Tryd.ntmps55
 go_wp2
 (try simp only [Act.put, List.setIfInBounds_toArray, List.set_cons_zero, List.set_cons_succ])
 go_loopg [3, 4] k (fun kq v3 v4 w' => ∃ (x3_1 : List (List ByteArray)) (x4_1 : Int), v4 = .int .i64 x4_1 ∧ Aside0 (semantic_zzAlpineSuffixes.l0 kq a0 x3_1 x4_1 = some r) ∧ Aside0 (kq ≤ k) ∧ Aside0 (Kd.S (Kd.slice 9 Kd.string) 42 w' w.heap.size (fun _ => True) v3 x3_1) ∧ Aside0 (Below w.heap.size w w'))
 case atStart => exact ⟨(([] : List (List ByteArray))), (0), (by rfl), H', ⟨Nat.le_refl _⟩, ⟨by exact Kd.S_nil _ _ _ _ _⟩, ⟨by (with_reducible exact HB.out)⟩⟩
 case round =>
  clear H'
  obtain ⟨x3_1, x4_1, rfl, HA, HK1, HO_3, HB⟩ := hrel
  cases gk with
  | zero => exact absurd HA.out (by simp [semantic_zzAlpineSuffixes.l0])
  | succ k1 =>
   have H := HA.out
   clear HA
   simp only [semantic_zzAlpineSuffixes.l0] at H
   by_cases c2 : x4_1 < (a0.size : Int)
   ·rw [if_pos c2] at H
    have c2b0 : decide (x4_1 < (a0.size : Int)) = true := decide_eq_true c2
    clear c2
    by_cases c3 : 0 ≤ x4_1
    ·rw [if_pos c3] at H
     have c3b0 : decide (0 ≤ x4_1) = true := decide_eq_true c3
     clear c3
     by_cases c5 : (bt a0 x4_1) = 95
     ·rw [if_pos c5] at H
      have c5b0 : ((bt a0 x4_1) == 95) = true := beq_iff_eq.mpr c5
      have c5b1 : ((bt a0 x4_1) != 95) = false := bne_eq_false_iff_eq.mpr c5
      clear c5
      obtain ⟨y110, hy110⟩ : ∃ y_ : List ByteArray, y_ = (([(⟨#[97, 108, 112, 104, 97]⟩ : ByteArray), (⟨#[98, 101, 116, 97]⟩ : ByteArray), (⟨#[112, 114, 101]⟩ : ByteArray), (⟨#[114, 99]⟩ : ByteArray), (⟨#[99, 118, 115]⟩ : ByteArray), (⟨#[115, 118, 110]⟩ : ByteArray), (⟨#[103, 105, 116]⟩ : ByteArray), (⟨#[104, 103]⟩ : ByteArray), (⟨#[112]⟩ : ByteArray)] : List ByteArray)) := ⟨_, rfl⟩
      replace H : (semantic_zzAlpineSuffixes.l1 k1 a0 x3_1 x4_1 (⟨#[]⟩ : ByteArray) y110 (y110.length : Int) 0) = some r := by (have H2_ := (Option.bind_some _ _).symm.trans H; rw [hy110]; with_reducible exact H2_)
      have Ny110 := Aside0.mk hy110
      clear hy110
      have H' := Aside0.mk H
      clear H
      have p4 : 0 ≤ (x4_1 : Int) := of_decide_eq_true (by (with_reducible assumption))
      have q4 : x4_1 < (a0.size : Int) := of_decide_eq_true (by (with_reducible assumption))
      have hx4 := bt_at a0 x4_1
      replace p4 := eq_true p4
      replace q4 := eq_true q4
      go_wp2_with (((with_reducible refine gate_dst (N := 20) rfl ?_); refine Kd.R_lit Kd.string _ 9 ?hg (N := 20) ?hd (xs := ([(⟨#[97, 108, 112, 104, 97]⟩ : ByteArray), (⟨#[98, 101, 116, 97]⟩ : ByteArray), (⟨#[112, 114, 101]⟩ : ByteArray), (⟨#[114, 99]⟩ : ByteArray), (⟨#[99, 118, 115]⟩ : ByteArray), (⟨#[115, 118, 110]⟩ : ByteArray), (⟨#[103, 105, 116]⟩ : ByteArray), (⟨#[104, 103]⟩ : ByteArray), (⟨#[112]⟩ : ByteArray)] : List ByteArray)) (inner := [.string (⟨#[97, 108, 112, 104, 97]⟩ : ByteArray), .string (⟨#[98, 101, 116, 97]⟩ : ByteArray), .string (⟨#[112, 114, 101]⟩ : ByteArray), .string (⟨#[114, 99]⟩ : ByteArray), .string (⟨#[99, 118, 115]⟩ : ByteArray), .string (⟨#[115, 118, 110]⟩ : ByteArray), .string (⟨#[103, 105, 116]⟩ : ByteArray), .string (⟨#[104, 103]⟩ : ByteArray), .string (⟨#[112]⟩ : ByteArray)]) (ok := fun _ => True) (okp := fun _ => True) ?hr ?hp (fun _ hk => hk) trivial (Below.refl _ _) (Nat.le_refl _) (by simp) ?_; (case hd => rfl); (case hg => rfl); (case hr => first | (go_simp; done) | (go_simp; rfl)); (case hp => exact (Reps.one (show Kd.M Kd.string _ _ _ (⟨#[97, 108, 112, 104, 97]⟩ : ByteArray) [.string (⟨#[97, 108, 112, 104, 97]⟩ : ByteArray)] from rfl) (Reps.one (show Kd.M Kd.string _ _ _ (⟨#[98, 101, 116, 97]⟩ : ByteArray) [.string (⟨#[98, 101, 116, 97]⟩ : ByteArray)] from rfl) (Reps.one (show Kd.M Kd.string _ _ _ (⟨#[112, 114, 101]⟩ : ByteArray) [.string (⟨#[112, 114, 101]⟩ : ByteArray)] from rfl) (Reps.one (show Kd.M Kd.string _ _ _ (⟨#[114, 99]⟩ : ByteArray) [.string (⟨#[114, 99]⟩ : ByteArray)] from rfl) (Reps.one (show Kd.M Kd.string _ _ _ (⟨#[99, 118, 115]⟩ : ByteArray) [.string (⟨#[99, 118, 115]⟩ : ByteArray)] from rfl) (Reps.one (show Kd.M Kd.string _ _ _ (⟨#[115, 118, 110]⟩ : ByteArray) [.string (⟨#[115, 118, 110]⟩ : ByteArray)] from rfl) (Reps.one (show Kd.M Kd.string _ _ _ (⟨#[103, 105, 116]⟩ : ByteArray) [.string (⟨#[103, 105, 116]⟩ : ByteArray)] from rfl) (Reps.one (show Kd.M Kd.string _ _ _ (⟨#[104, 103]⟩ : ByteArray) [.string (⟨#[104, 103]⟩ : ByteArray)] from rfl) (Reps.one (show Kd.M Kd.string _ _ _ (⟨#[112]⟩ : ByteArray) [.string (⟨#[112]⟩ : ByteArray)] from rfl) (Reps.none _ _))))))))))); intro v111 w6 ho7 hb hg_ hnew_; clear hg_ hnew_; (first | rw [← Ny110.out] at ho7 | (simp only [Int.reduceToNat] at ho7; rw [← Ny110.out] at ho7)); replace HO_3 := Aside0.mk (Kd.S_elder' (by (with_reducible repeat (first | apply Kd.S_alloc | apply Kd.S_drewN | apply Kd.S_drew)); exact HO_3.out) (Kd.R_base ho7) hb); have HO112 := Aside0.mk (Kd.R_lower ho7 (below_size (by (with_reducible exact HB.out)))); replace HB := Aside0.mk (below_step (by (with_reducible exact HB.out)) hb); clear hb ho7; obtain ⟨Ao8, co8, eo8⟩ := Kd.R_slice HO112.out; subst eo8))
      (try simp only [Act.put, List.setIfInBounds_toArray, List.set_cons_zero, List.set_cons_succ])
      go_loopg [5, 22] k1 (fun kq v5 v22 w' => ∃ (x5_2 : ByteArray) (x22_2 : Int), v5 = .string x5_2 ∧ v22 = .int .i64 x22_2 ∧ Aside0 (semantic_zzAlpineSuffixes.l1 kq a0 x3_1 x4_1 x5_2 y110 (y110.length : Int) x22_2 = some r) ∧ Aside0 (kq ≤ k1) ∧ Aside0 (Kd.S (Kd.slice 9 Kd.string) 42 w' w.heap.size (fun k_ => some k_ ≠ ((.slice Ao8 y110.length co8) : Value).ownBlock) u3 x3_1) ∧ Aside0 (Kd.R Kd.string 9 w' w.heap.size (fun _ => True) (.slice Ao8 y110.length co8) y110) ∧ Aside0 (Below w.heap.size w w'))
      case atStart => exact ⟨((⟨#[]⟩ : ByteArray)), (0), (by rfl), (by rfl), H', ⟨Nat.le_refl _⟩, ⟨by (with_reducible repeat (first | apply Kd.S_alloc | apply Kd.S_drewN | apply Kd.S_drew)); exact Kd.S_mono HO_3.out (fun _ hk => hk.2)⟩, ⟨by (with_reducible repeat (first | apply Kd.R_alloc | apply Kd.R_drewN | apply Kd.R_drew)); exact HO112.out⟩, ⟨by (with_reducible exact HB.out)⟩⟩
      case round =>
       clear H'
       clear c2b0 c3b0 p4 q4 hx4 c5b0 c5b1
       obtain ⟨x5_2, x22_2, rfl, rfl, HA, HK2, HO_3, HO_20, HB⟩ := hrel
       cases gk with
       | zero => exact absurd HA.out (by simp [semantic_zzAlpineSuffixes.l1])
       | succ k2 =>
        have H := HA.out
        clear HA
        simp only [semantic_zzAlpineSuffixes.l1] at H
        by_cases c9 : x22_2 < (y110.length : Int)
        ·rw [if_pos c9] at H
         have c9b0 : decide (x22_2 < (y110.length : Int)) = true := decide_eq_true c9
         clear c9
         by_cases c10 : 0 ≤ x22_2
         ·rw [if_pos c10] at H
          have c10b0 : decide (0 ≤ x22_2) = true := decide_eq_true c10
          clear c10
          by_cases c11 : x22_2 < (y110.length : Int)
          ·rw [if_pos c11] at H
           have c11b0 : decide (x22_2 < (y110.length : Int)) = true := decide_eq_true c11
           clear c11
           by_cases c12 : x5_2.toList = ([] : List UInt8)
           ·rw [if_pos c12] at H
            have c12b0 : (x5_2.toList == ([] : List UInt8)) = true := beq_iff_eq.mpr c12
            have c12b1 : (x5_2.toList != ([] : List UInt8)) = false := bne_eq_false_iff_eq.mpr c12
            try have c12b9 : x5_2.toList.isEmpty = true := by simpa using c12b0
            clear c12
            replace H := Option.bind_eq_some_iff.mp H
            obtain ⟨t114, A130, H⟩ := H
            replace H : (if t114 = true then (semantic_zzAlpineSuffixes.l1 k2 a0 x3_1 x4_1 (rdOf ByteArray.empty y110 x22_2) y110 (y110.length : Int) (wrap64 (x22_2 + 1))) else (semantic_zzAlpineSuffixes.l1 k2 a0 x3_1 x4_1 x5_2 y110 (y110.length : Int) (wrap64 (x22_2 + 1)))) = some r := H
            have A13 := Aside0.mk A130
            clear A130
            by_cases c14 : t114 = true
            ·subst c14
             have H1 : (semantic_zzAlpineSuffixes.l1 k2 a0 x3_1 x4_1 (rdOf ByteArray.empty y110 x22_2) y110 (y110.length : Int) (wrap64 (x22_2 + 1))) = some r := by rw [if_pos rfl] at H; exact H
             clear H
             have H := H1
             clear H1
             have H' := Aside0.mk H
             clear H
             have p113 : 0 ≤ (x22_2 : Int) := of_decide_eq_true (by (with_reducible assumption))
             have q113 : x22_2 < (y110.length : Int) := of_decide_eq_true (by (with_reducible assumption))
             obtain ⟨ad113, e113, hx113_0⟩ := Kd.at_string (Kd.R_reads' HO_20.out).2.2 x22_2 p113 q113
             cases e113
             replace p113 := eq_true p113
             replace q113 := eq_true q113
             go_wp2_with ((go_at_call 72; (with_reducible refine (semantic_zzHas.calls a0 (wrap64 (x4_1 + 1)) (rdOf ByteArray.empty y110 x22_2) true _ A13.out).mono ?_); rintro e w' ⟨rfl, ⟨nd, rfl⟩⟩))
             go_roundg k2
             case measure => have := HK1.out; have := HK2.out; omega
             case rel => exact ⟨(rdOf ByteArray.empty y110 x22_2), (wrap64 (x22_2 + 1)), (by rfl), (by rfl), H', ⟨by have := HK1.out; have := HK2.out; omega⟩, ⟨by (with_reducible repeat (first | apply Kd.S_alloc | apply Kd.S_drewN | apply Kd.S_drew)); exact HO_3.out⟩, ⟨by (with_reducible repeat (first | apply Kd.R_alloc | apply Kd.R_drewN | apply Kd.R_drew)); exact HO_20.out⟩, ⟨by (with_reducible apply pw_below_drewN; with_reducible exact HB.out)⟩⟩
            ·replace c14 := Bool.eq_false_iff.mpr c14
             subst c14
             have H1 : (semantic_zzAlpineSuffixes.l1 k2 a0 x3_1 x4_1 x5_2 y110 (y110.length : Int) (wrap64 (x22_2 + 1))) = some r := by rw [if_neg (show ¬ (false = true) by decide)] at H; exact H
             clear H
             have H := H1
             clear H1
             have H' := Aside0.mk H
             clear H
             have p113 : 0 ≤ (x22_2 : Int) := of_decide_eq_true (by (with_reducible assumption))
             have q113 : x22_2 < (y110.length : Int) := of_decide_eq_true (by (with_reducible assumption))
             obtain ⟨ad113, e113, hx113_0⟩ := Kd.at_string (Kd.R_reads' HO_20.out).2.2 x22_2 p113 q113
             cases e113
             replace p113 := eq_true p113
             replace q113 := eq_true q113
             go_wp2_with ((go_at_call 72; (with_reducible refine (semantic_zzHas.calls a0 (wrap64 (x4_1 + 1)) (rdOf ByteArray.empty y110 x22_2) false _ A13.out).mono ?_); rintro e w' ⟨rfl, ⟨nd, rfl⟩⟩))
             go_roundg k2
             case measure => have := HK1.out; have := HK2.out; omega
             case rel => exact ⟨(x5_2), (wrap64 (x22_2 + 1)), (by rfl), (by rfl), H', ⟨by have := HK1.out; have := HK2.out; omega⟩, ⟨by (with_reducible repeat (first | apply Kd.S_alloc | apply Kd.S_drewN | apply Kd.S_drew)); exact HO_3.out⟩, ⟨by (with_reducible repeat (first | apply Kd.R_alloc | apply Kd.R_drewN | apply Kd.R_drew)); exact HO_20.out⟩, ⟨by (with_reducible apply pw_below_drewN; with_reducible exact HB.out)⟩⟩
           ·rw [if_neg c12] at H
            have c12b0 : (x5_2.toList == ([] : List UInt8)) = false := beq_eq_false_iff_ne.mpr c12
            have c12b1 : (x5_2.toList != ([] : List UInt8)) = true := bne_iff_ne.mpr c12
            try have c12b9 : x5_2.toList.isEmpty = false := by simpa using c12b0
            have H' := Aside0.mk H
            clear H
            have p113 : 0 ≤ (x22_2 : Int) := of_decide_eq_true (by (with_reducible assumption))
            have q113 : x22_2 < (y110.length : Int) := of_decide_eq_true (by (with_reducible assumption))
            obtain ⟨ad113, e113, hx113_0⟩ := Kd.at_string (Kd.R_reads' HO_20.out).2.2 x22_2 p113 q113
            cases e113
            replace p113 := eq_true p113
            replace q113 := eq_true q113
            go_wp2
            go_roundg k2
            case measure => have := HK1.out; have := HK2.out; omega
            case rel => exact ⟨(x5_2), (wrap64 (x22_2 + 1)), (by rfl), (by rfl), H', ⟨by have := HK1.out; have := HK2.out; omega⟩, ⟨by (with_reducible repeat (first | apply Kd.S_alloc | apply Kd.S_drewN | apply Kd.S_drew)); exact HO_3.out⟩, ⟨by (with_reducible repeat (first | apply Kd.R_alloc | apply Kd.R_drewN | apply Kd.R_drew)); exact HO_20.out⟩, ⟨by (with_reducible exact HB.out)⟩⟩
          ·rw [if_neg c11] at H
           exact absurd H (by simp)
         ·rw [if_neg c10] at H
          exact absurd H (by simp)
        ·rw [if_neg c9] at H
         have c9b0 : decide (x22_2 < (y110.length : Int)) = false := decide_eq_false c9
         clear c9
         by_cases c15 : x5_2.toList = ([] : List UInt8)
         ·rw [if_pos c15] at H
          have c15b0 : (x5_2.toList == ([] : List UInt8)) = true := beq_iff_eq.mpr c15
          have c15b1 : (x5_2.toList != ([] : List UInt8)) = false := bne_eq_false_iff_eq.mpr c15
          try have c15b9 : x5_2.toList.isEmpty = true := by simpa using c15b0
          clear c15
          have H' := Aside0.mk H
          clear H
          go_wp2
          go_roundg k2
          case measure => have := HK1.out; have := HK2.out; omega
          case rel => exact ⟨(x3_1), (wrap64 (x4_1 + 1)), (by rfl), H', ⟨by have := HK1.out; have := HK2.out; omega⟩, ⟨by (with_reducible repeat (first | apply Kd.S_alloc | apply Kd.S_drewN | apply Kd.S_drew)); exact Kd.S_mono HO_3.out (fun _ hk => trivial)⟩, ⟨by (with_reducible exact HB.out)⟩⟩
         ·rw [if_neg c15] at H
          have c15b0 : (x5_2.toList == ([] : List UInt8)) = false := beq_eq_false_iff_ne.mpr c15
          have c15b1 : (x5_2.toList != ([] : List UInt8)) = true := bne_iff_ne.mpr c15
          try have c15b9 : x5_2.toList.isEmpty = false := by simpa using c15b0
          replace H := Option.bind_eq_some_iff.mp H
          obtain ⟨t115, A160, H⟩ := H
          replace H : (if 0 ≤ x4_1 then (if x4_1 ≤ t115 then (if t115 ≤ (a0.size : Int) then (if 0 ≤ (wrap64 ((wrap64 (x4_1 + 1)) + (x5_2.size : Int))) then (if (wrap64 ((wrap64 (x4_1 + 1)) + (x5_2.size : Int))) ≤ t115 then (if x3_1.length < 5864062014805 then (semantic_zzAlpineSuffixes.l0 k2 a0 (x3_1 ++ [(([a0.extract (x4_1 : Int).toNat (t115 : Int).toNat, x5_2, a0.extract ((wrap64 ((wrap64 (x4_1 + 1)) + (x5_2.size : Int))) : Int).toNat (t115 : Int).toNat] : List ByteArray))]) t115) else (none)) else (none)) else (none)) else (none)) else (none)) else (none)) = some r := H
          have A16 := Aside0.mk A160
          clear A160
          by_cases c17 : 0 ≤ x4_1
          ·rw [if_pos c17] at H
           have c17b0 := eq_true c17
           have c17b1 : decide (0 ≤ x4_1) = true := decide_eq_true c17
           clear c17
           by_cases c18 : x4_1 ≤ t115
           ·rw [if_pos c18] at H
            have c18b0 := eq_true c18
            have c18b1 : decide (x4_1 ≤ t115) = true := decide_eq_true c18
            clear c18
            by_cases c19 : t115 ≤ (a0.size : Int)
            ·rw [if_pos c19] at H
             have c19b0 := eq_true c19
             have c19b1 : decide (t115 ≤ (a0.size : Int)) = true := decide_eq_true c19
             clear c19
             obtain ⟨ji20, hji20⟩ : ∃ j_ : Int, (wrap64 ((wrap64 (x4_1 + 1)) + (x5_2.size : Int))) = j_ := ⟨_, rfl⟩
             replace H : (if 0 ≤ (ji20) then (if (ji20) ≤ t115 then (if x3_1.length < 5864062014805 then (semantic_zzAlpineSuffixes.l0 k2 a0 (x3_1 ++ [(([a0.extract (x4_1 : Int).toNat (t115 : Int).toNat, x5_2, a0.extract ((ji20) : Int).toNat (t115 : Int).toNat] : List ByteArray))]) t115) else (none)) else (none)) else (none)) = some r := by (rw [hji20] at H; exact H)
             (try rw [hji20] at A16)
             have hji20w : (IntKind.i64.wrap ((wrap64 (x4_1 + 1)) + (x5_2.size : Int))) = ji20 := (i64_w _).trans hji20
             by_cases c21 : 0 ≤ (ji20)
             ·rw [if_pos c21] at H
              have c21b0 := eq_true c21
              have c21b1 : decide (0 ≤ (ji20)) = true := decide_eq_true c21
              clear c21
              by_cases c22 : (ji20) ≤ t115
              ·rw [if_pos c22] at H
               have c22b0 := eq_true c22
               have c22b1 : decide ((ji20) ≤ t115) = true := decide_eq_true c22
               clear c22
               have c23b0 := eq_true (of_decide_eq_true (by (with_reducible assumption)) : t115 ≤ (a0.size : Int))
               obtain ⟨y116, hy116⟩ : ∃ y_ : List ByteArray, y_ = (([a0.extract (x4_1 : Int).toNat (t115 : Int).toNat, x5_2, a0.extract ((ji20) : Int).toNat (t115 : Int).toNat] : List ByteArray)) := ⟨_, rfl⟩
               replace H : (if x3_1.length < 5864062014805 then (semantic_zzAlpineSuffixes.l0 k2 a0 (x3_1 ++ [y116]) t115) else (none)) = some r := by (rw [hy116]; with_reducible exact H)
               have Ny116 := Aside0.mk hy116
               clear hy116
               by_cases c24 : x3_1.length < 5864062014805
               ·rw [if_pos c24] at H
                have LMc24 := Aside0.mk c24
                clear c24
                obtain ⟨y119, hy119⟩ : ∃ y_ : List (List ByteArray), y_ = (x3_1 ++ [y116]) := ⟨_, rfl⟩
                replace H : (semantic_zzAlpineSuffixes.l0 k2 a0 y119 t115) = some r := by (rw [hy119]; with_reducible exact H)
                have Ny119 := Aside0.mk hy119
                clear hy119
                have H' := Aside0.mk H
                clear H
                try go_wp2_with (((with_reducible refine gate_callee (f := 68) rfl ?_); refine goesL_ (some 48) rfl rfl Tryd.func68 (by kernel_rfl) rfl #[.string a0, .int .i64 ji20] rfl (by (try simp only [List.map_toArray, List.map_cons, List.map_nil]); first | done | (simp only [hji20]; rfl) | rfl | (simp only [List.length_drop, List.length_take]; rfl)) ?_; (with_reducible refine (semantic_zzDigits.calls k2 a0 ji20 t115 _ A16.out).mono ?_); rintro e w' ⟨rfl, ⟨nd, rfl⟩⟩; refine ⟨_, rfl, ?_⟩))
                (try (rw [drewN_self wr]; generalize hq_ : World.drewN wr _ = wr; have n0_ : Aside0 (Kd.R Kd.string 9 wr w.heap.size (fun _ => True) (.slice Ao8 y110.length co8) y110) := ⟨by rw [← hq_]; exact (by (with_reducible repeat (first | apply Kd.R_alloc | apply Kd.R_drewN | apply Kd.R_drew)); exact HO_20.out)⟩; have n1_ : Aside0 (Kd.S (Kd.slice 9 Kd.string) 42 wr w.heap.size (fun k_ => some k_ ≠ (.slice Ao8 y110.length co8 : Value).ownBlock) u3 x3_1) := ⟨by rw [← hq_]; exact (by (with_reducible repeat (first | apply Kd.S_alloc | apply Kd.S_drewN | apply Kd.S_drew)); exact HO_3.out)⟩; have n2_ : Aside0 (Below w.heap.size w wr) := ⟨by rw [← hq_]; exact (by (with_reducible apply pw_below_drewN; with_reducible exact HB.out))⟩; clear HO_20 HO_3 HB hq_; have HO_20 := n0_; have HO_3 := n1_; have HB := n2_; clear n0_ n1_ n2_))
                replace HO_3 := Aside0.mk (Kd.S_drew HO_3.out)
                replace HO_20 := Aside0.mk (Kd.R_drew HO_20.out)
                replace HB := Aside0.mk (below_drew1 HB.out)
                refine start_ (n := 14) (S := fun w' => True) (ds := []) #[false, false, false, false, false, false, false, false, false, false, false, false, false, false] (by kernel_rfl) rfl rfl trivial (fun hHeld => ?_); refine with_tabW semantic_zzAlpineSuffixes.tab17 semantic_zzAlpineSuffixes.bits17 (fun HT_ HW_ => ?_)
                generalize wr.drew = w25 at HO_3 HO_20 HB hHeld ⊢
                refine pure_ (i := 0) (N := some 49) (v := ?_) (a' := ?_) #[true, false, false, false, false, false, false, false, false, false, false, false, false, false] rfl rfl (any_of HT_.out (by kernel_rfl)) (fun _ _ _ h => h) (Or.inl ⟨by rfl, ?_⟩) ?_ ?_
                rotate_left
                ·intro w'
                 go_simp
                 with_reducible rfl
                rotate_left
                ·simp only [Act.put, List.setIfInBounds_toArray, List.set_cons_zero, List.set_cons_succ, i64_w, i32_w]
                 rfl
                refine pure_ (i := 1) (N := some 50) (v := ?_) (a' := ?_) #[true, true, false, false, false, false, false, false, false, false, false, false, false, false] rfl rfl (any_of HT_.out (by kernel_rfl)) (fun _ _ _ h => h) (Or.inl ⟨by rfl, ?_⟩) ?_ ?_
                rotate_left
                ·intro w'
                 go_simp
                 with_reducible rfl
                rotate_left
                ·simp only [Act.put, List.setIfInBounds_toArray, List.set_cons_zero, List.set_cons_succ, i64_w, i32_w]
                 rfl
                refine pure_ (i := 2) (N := some 51) (v := ?_) (a' := ?_) #[true, true, true, false, false, false, false, false, false, false, false, false, false, false] rfl rfl (any_of HT_.out (by kernel_rfl)) (fun _ _ _ h => h) (Or.inl ⟨by rfl, ?_⟩) ?_ ?_
                rotate_left
                ·intro w'
                 go_simp
                 with_reducible rfl
                rotate_left
                ·simp only [Act.put, List.setIfInBounds_toArray, List.set_cons_zero, List.set_cons_succ, i64_w, i32_w]
                 rfl
                refine pure_ (i := 3) (N := some 52) (v := ?_) (a' := ?_) #[true, true, true, true, false, false, false, false, false, false, false, false, false, false] rfl rfl (any_of HT_.out (by kernel_rfl)) (fun _ _ _ h => h) (Or.inl ⟨by rfl, ?_⟩) ?_ ?_
                rotate_left
                ·intro w'
                 go_simp
                 with_reducible rfl
                rotate_left
                ·simp only [Act.put, List.setIfInBounds_toArray, List.set_cons_zero, List.set_cons_succ, i64_w, i32_w]
                 rfl
                refine pure_ (i := 4) (N := some 53) (v := ?_) (a' := ?_) #[true, true, true, true, true, false, false, false, false, false, false, false, false, false] rfl rfl (any_of HT_.out (by kernel_rfl)) (fun _ _ _ h => h) (Or.inl ⟨by rfl, ?_⟩) ?_ ?_
                rotate_left
                ·intro w'
                 go_simp
                 with_reducible rfl
                rotate_left
                ·simp only [Act.put, List.setIfInBounds_toArray, List.set_cons_zero, List.set_cons_succ, i64_w, i32_w]
                 rfl
                refine pure_ (i := 5) (N := some 54) (v := ?_) (a' := ?_) #[true, true, true, true, true, true, false, false, false, false, false, false, false, false] rfl rfl (any_of HT_.out (by kernel_rfl)) (fun _ _ _ h => h) (Or.inl ⟨by rfl, ?_⟩) ?_ ?_
                rotate_left
                ·intro w'
                 go_simp
                 with_reducible rfl
                rotate_left
                ·simp only [Act.put, List.setIfInBounds_toArray, List.set_cons_zero, List.set_cons_succ, i64_w, i32_w]
                 rfl
                refine pure_ (i := 6) (N := some 55) (v := ?_) (a' := ?_) #[true, true, true, true, true, true, true, false, false, false, false, false, false, false] rfl rfl (any_of HT_.out (by kernel_rfl)) (fun _ _ _ h => h) (Or.inl ⟨by rfl, ?_⟩) ?_ ?_
                rotate_left
                ·intro w'
                 go_simp
                 with_reducible rfl
                rotate_left
                ·simp only [Act.put, List.setIfInBounds_toArray, List.set_cons_zero, List.set_cons_succ, i64_w, i32_w]
                 rfl
                refine pure_ (i := 7) (N := some 56) (v := ?_) (a' := ?_) #[true, true, true, true, true, true, true, true, false, false, false, false, false, false] rfl rfl (any_of HT_.out (by kernel_rfl)) (fun _ _ _ h => h) (Or.inl ⟨by rfl, ?_⟩) ?_ ?_
                rotate_left
                ·intro w'
                 go_simp
                 with_reducible rfl
                rotate_left
                ·simp only [Act.put, List.setIfInBounds_toArray, List.set_cons_zero, List.set_cons_succ, i64_w, i32_w]
                 rfl
                refine pure_ (i := 8) (N := some 57) (v := ?_) (a' := ?_) #[true, true, true, true, true, true, true, true, true, false, false, false, false, false] rfl rfl (any_of HT_.out (by kernel_rfl)) (fun _ _ _ h => h) (Or.inl ⟨by rfl, ?_⟩) ?_ ?_
                rotate_left
                ·intro w'
                 go_simp
                 with_reducible rfl
                rotate_left
                ·simp only [Act.put, List.setIfInBounds_toArray, List.set_cons_zero, List.set_cons_succ, i64_w, i32_w]
                 rfl
                refine pure_ (i := 9) (N := some 58) (v := ?_) (a' := ?_) #[true, true, true, true, true, true, true, true, true, true, false, false, false, false] rfl rfl (any_of HT_.out (by kernel_rfl)) (fun _ _ _ h => h) (Or.inl ⟨by rfl, ?_⟩) ?_ ?_
                rotate_left
                ·intro w'
                 go_simp
                 with_reducible rfl
                rotate_left
                ·simp only [Act.put, List.setIfInBounds_toArray, List.set_cons_zero, List.set_cons_succ, i64_w, i32_w]
                 rfl
                refine one_ (i := 10) (N := some 59) #[true, true, true, true, true, true, true, true, true, true, true, false, false, false] rfl rfl (one_of HT_.out (by kernel_rfl)) (by decide) (fun K hK => ?_)
                refine Kd.R_lit_step Kd.string _ 9 ?hg (N := 59) ?hd (xs := ([a0.extract (x4_1 : Int).toNat (t115 : Int).toNat, x5_2, a0.extract ((ji20) : Int).toNat (t115 : Int).toNat] : List ByteArray)) (inner := [.string (a0.extract (x4_1 : Int).toNat (t115 : Int).toNat), .string x5_2, .string (a0.extract ((ji20) : Int).toNat (t115 : Int).toNat)]) (ok := fun _ => True) (okp := fun _ => True) ?hr ?hp (fun _ hk => hk) trivial (Below.refl _ _) (Nat.le_refl _) (by simp) ?_; (case hd => rfl); (case hg => rfl); (case hr => first | (go_simp; done) | (go_simp; rfl)); (case hp => exact (Reps.one (show Kd.M Kd.string _ _ _ (a0.extract (x4_1 : Int).toNat (t115 : Int).toNat) [.string (a0.extract (x4_1 : Int).toNat (t115 : Int).toNat)] from rfl) (Reps.one (show Kd.M Kd.string _ _ _ x5_2 [.string x5_2] from rfl) (Reps.one (show Kd.M Kd.string _ _ _ (a0.extract ((ji20) : Int).toNat (t115 : Int).toNat) [.string (a0.extract ((ji20) : Int).toNat (t115 : Int).toNat)] from rfl) (Reps.none _ _)))))
                intro v117 w26 ho27 hb hg_ hnew_
                clear hg_ hnew_
                (first | rw [← Ny116.out] at ho27 | (simp only [Int.reduceToNat] at ho27; rw [← Ny116.out] at ho27))
                have n0_ := Aside0.mk (Kd.S_elder' (by (with_reducible repeat (first | apply Kd.S_alloc | apply Kd.S_drewN | apply Kd.S_drew)); exact HO_3.out) (Kd.R_base ho27) hb)
                have n1_ := Aside0.mk (Kd.R_elder' (by (with_reducible repeat (first | apply Kd.R_alloc | apply Kd.R_drewN | apply Kd.R_drew)); exact HO_20.out) (Kd.R_base ho27) hb)
                have n2_ := Aside0.mk (Kd.R_lower (Kd.R_new' ho27 (Kd.R_lt (by (with_reducible repeat (first | apply Kd.R_alloc | apply Kd.R_drewN | apply Kd.R_drew)); exact HO_20.out))) (below_size (by (with_reducible exact HB.out))))
                have n3_ := Aside0.mk (below_step (by (with_reducible exact HB.out)) hb)
                clear HO_3
                clear HO_20
                clear HB
                have HO_3 := n0_
                have HO_20 := n1_
                have HO118 := n2_
                have HB := n3_
                clear n0_ n1_ n2_ n3_
                clear hb ho27
                obtain ⟨Ao29, co29, eo29⟩ := Kd.R_slice HO118.out
                (first | subst eo29 | (injection eo29 with f1_ f2_ f3_; have f4_ := f1_.symm; have f5_ := f3_.symm; clear f1_ f2_ f3_; subst f4_; subst f5_))
                refine hK.out _ _ trivial (fun hHeld => ?_)
                clear hK K
                refine norm_ (a' := ?_) ?_ ?_
                rotate_left
                ·show Act.put _ (some 59) _ = _
                 simp only [Act.put, List.setIfInBounds_toArray, List.set_cons_zero, List.set_cons_succ, i64_w, i32_w]
                 rfl
                refine one_ (i := 11) (N := some 60) #[true, true, true, true, true, true, true, true, true, true, true, true, false, false] rfl rfl (one_of HT_.out (by kernel_rfl)) (by decide) (fun K hK => ?_)
                refine value_ (w1 := ?_) (v := ?_) (by rfl) rfl ?_ ?_
                rotate_left 2
                ·go_simp
                 constructor
                 ·rfl
                 ·rfl
                refine hK.out _ _ trivial (fun hHeld => ?_)
                clear hK K
                refine norm_ (a' := ?_) ?_ ?_
                rotate_left
                ·show Act.put _ (some 60) _ = _
                 simp only [Act.put, List.setIfInBounds_toArray, List.set_cons_zero, List.set_cons_succ, i64_w, i32_w]
                 rfl
                refine one_ (i := 12) (N := some 61) #[true, true, true, true, true, true, true, true, true, true, true, true, true, false] rfl rfl (one_of HT_.out (by kernel_rfl)) (by decide) (fun K hK => ?_)
                refine Kd.S_append_step (Kd.slice 9 Kd.string) (w0 := w) w.heap.size (by rfl) (.tmp 49) (.tmp 60) 112 42 (.slice none 0 0) 24 rfl Tryd.underlying112 info42 rfl (by decide) (by omega) u3 x3_1 y116 [.slice Ao29 y116.length co29] (fun k_ => some k_ ≠ (.slice Ao8 y110.length co8 : Value).ownBlock) (fun k_ => some k_ = (.slice Ao29 y116.length co29 : Value).ownBlock) rfl rfl ?aP (fun k_ hk_ => ((Kd.R_mono (ok' := fun k_ => ((fun k_ => some k_ ≠ (.slice Ao8 y110.length co8 : Value).ownBlock)) k_ ∧ some k_ ≠ (u3 : Value).ownBlock) (Kd.R_apart' (HO118.out) (Kd.S_typed HO_3.out) (by decide)) (fun k_ hk => ⟨hk.1.2, hk.2⟩))).1 k_ hk_.symm) ?aF ?aO ?aB ?aS ?aL ?_
                (case aP => exact Kd.M_row (Kd.R_mono (Kd.R_tight rfl (Kd.R_mono (ok' := fun k_ => ((fun k_ => some k_ ≠ (.slice Ao8 y110.length co8 : Value).ownBlock)) k_ ∧ some k_ ≠ (u3 : Value).ownBlock) (Kd.R_apart' (HO118.out) (Kd.S_typed HO_3.out) (by decide)) (fun k_ hk => ⟨hk.1.2, hk.2⟩))) (fun _ h_ => h_)))
                (case aB => exact (by (with_reducible exact HB.out)))
                (case aF => exact (fun k_ hk => Kd.fresh' (Kd.R_lt (by (with_reducible repeat (first | apply Kd.R_alloc | apply Kd.R_drewN | apply Kd.R_drew)); exact HO_20.out)) k_ hk))
                (case aO => exact (by (with_reducible repeat (first | apply Kd.S_alloc | apply Kd.S_drewN | apply Kd.S_drew)); exact Kd.S_mono HO_3.out (fun k_ hk => ⟨hk.1, fun e_ => hk.2 e_⟩)))
                (case aS => exact (below_size (by (with_reducible exact HB.out))))
                (case aL => have := LMc24.out; omega)
                intro v120 w28 ho hb hg hat
                rw [← Ny119.out] at ho
                replace HO_20 := Aside0.mk (Kd.R_over' (by (with_reducible repeat (first | apply Kd.R_alloc | apply Kd.R_drewN | apply Kd.R_drew)); exact HO_20.out) (Kd.S_typed (by (with_reducible repeat (first | apply Kd.S_alloc | apply Kd.S_drewN | apply Kd.S_drew)); exact HO_3.out)) (by decide) hg)
                have HO121 := Aside0.mk ho
                replace HB := Aside0.mk hb
                clear HO_3 HO118
                clear ho hb hg hat
                refine hK.out _ _ trivial (fun hHeld => ?_)
                clear hK K
                refine norm_ (a' := ?_) ?_ ?_
                rotate_left
                ·show Act.put _ (some 61) _ = _
                 simp only [Act.put, List.setIfInBounds_toArray, List.set_cons_zero, List.set_cons_succ, i64_w, i32_w]
                 rfl
                refine pure_ (i := 13) (N := some 3) (v := ?_) (a' := ?_) #[true, true, true, true, true, true, true, true, true, true, true, true, true, true] rfl rfl (any_of HT_.out (by kernel_rfl)) (fun _ _ _ h => h) (Or.inl ⟨by rfl, ?_⟩) ?_ ?_
                rotate_left
                ·intro w'
                 go_simp
                 with_reducible rfl
                rotate_left
                ·simp only [Act.put, List.setIfInBounds_toArray, List.set_cons_zero, List.set_cons_succ, i64_w, i32_w]
                 rfl
                refine done_ (done_of HT_.out (by kernel_rfl)) ?_
                try go_wp2
                go_roundg k2
                case measure => have := HK1.out; have := HK2.out; omega
                case rel => exact ⟨(y119), (t115), (by rfl), H', ⟨by have := HK1.out; have := HK2.out; omega⟩, ⟨by (with_reducible repeat (first | apply Kd.S_alloc | apply Kd.S_drewN | apply Kd.S_drew)); exact Kd.S_mono HO121.out (fun _ hk => trivial)⟩, ⟨by (with_reducible exact HB.out)⟩⟩
               ·rw [if_neg c24] at H
                exact absurd H (by simp)
              ·rw [if_neg c22] at H
               exact absurd H (by simp)
             ·rw [if_neg c21] at H
              exact absurd H (by simp)
            ·rw [if_neg c19] at H
             exact absurd H (by simp)
           ·rw [if_neg c18] at H
            exact absurd H (by simp)
          ·rw [if_neg c17] at H
           exact absurd H (by simp)
     ·rw [if_neg c5] at H
      have c5b0 : ((bt a0 x4_1) == 95) = false := beq_eq_false_iff_ne.mpr c5
      have c5b1 : ((bt a0 x4_1) != 95) = true := bne_iff_ne.mpr c5
      have H' := Aside0.mk H
      clear H
      have p4 : 0 ≤ (x4_1 : Int) := of_decide_eq_true (by (with_reducible assumption))
      have q4 : x4_1 < (a0.size : Int) := of_decide_eq_true (by (with_reducible assumption))
      have hx4 := bt_at a0 x4_1
      replace p4 := eq_true p4
      replace q4 := eq_true q4
      go_wp2
      go_roundg k1
      case measure => have := HK1.out; omega
      case rel => exact ⟨(x3_1), (wrap64 (x4_1 + 1)), (by rfl), H', ⟨by have := HK1.out; omega⟩, ⟨by (with_reducible repeat (first | apply Kd.S_alloc | apply Kd.S_drewN | apply Kd.S_drew)); exact HO_3.out⟩, ⟨by (with_reducible exact HB.out)⟩⟩
    ·rw [if_neg c3] at H
     exact absurd H (by simp)
   ·rw [if_neg c2] at H
    have c2b0 : decide (x4_1 < (a0.size : Int)) = false := decide_eq_false c2
    clear c2
    obtain rfl := Option.some.inj H
    go_wp2
    go_ret
    exact ⟨_, by rfl, by (with_reducible repeat (first | apply Kd.S_alloc | apply Kd.S_drewN | apply Kd.S_drew)); exact HO_3.out, by (with_reducible exact HB.out)⟩
def semantic_weightAlpineSuffixString.l0 : Nat → ByteArray → List ByteArray → List ByteArray → Int → Int → Option (Int)
 | 0, _, _, _, _, _ => none
 | k + 1, x0, x3, x7, x8, x9 => if x9 < x8 then (if 0 ≤ x9 then (if x9 < (x7.length : Int) then (if x0.toList = (rdOf ByteArray.empty x7 x9).toList then (some x9) else (semantic_weightAlpineSuffixString.l0 k x0 x3 x7 x8 (wrap64 (x9 + 1)))) else (none)) else (none)) else (some (x3.length : Int))
def semantic_weightAlpineSuffixString.f (k : Nat) (a0 : ByteArray) : Option (Int) := (some (([(⟨#[97, 108, 112, 104, 97]⟩ : ByteArray), (⟨#[98, 101, 116, 97]⟩ : ByteArray), (⟨#[112, 114, 101]⟩ : ByteArray), (⟨#[114, 99]⟩ : ByteArray), (⟨#[]⟩ : ByteArray), (⟨#[99, 118, 115]⟩ : ByteArray), (⟨#[115, 118, 110]⟩ : ByteArray), (⟨#[103, 105, 116]⟩ : ByteArray), (⟨#[104, 103]⟩ : ByteArray)] : List ByteArray) : List ByteArray)).bind fun y122 => (semantic_weightAlpineSuffixString.l0 k a0 y122 y122 (y122.length : Int) 0)
set_option maxHeartbeats 8000000 in
set_option maxRecDepth 100000 in
theorem semantic_weightAlpineSuffixString.calls (k : Nat) (a0 : ByteArray) (r : Int) (w : World) (h : semantic_weightAlpineSuffixString.f k a0 = some r) :
  Calls Tryd.prog 56 #[.string a0] w fun e w' => e = .returned (.int .i64 r) ∧ Below w.heap.size w w' := by
 have HB := Aside0.mk (Below.refl w.heap.size w)
 have H : ((some (([(⟨#[97, 108, 112, 104, 97]⟩ : ByteArray), (⟨#[98, 101, 116, 97]⟩ : ByteArray), (⟨#[112, 114, 101]⟩ : ByteArray), (⟨#[114, 99]⟩ : ByteArray), (⟨#[]⟩ : ByteArray), (⟨#[99, 118, 115]⟩ : ByteArray), (⟨#[115, 118, 110]⟩ : ByteArray), (⟨#[103, 105, 116]⟩ : ByteArray), (⟨#[104, 103]⟩ : ByteArray)] : List ByteArray) : List ByteArray)).bind fun y122 => (semantic_weightAlpineSuffixString.l0 k a0 y122 y122 (y122.length : Int) 0)) = some r := h
 clear h
 obtain ⟨y122, hy122⟩ : ∃ y_ : List ByteArray, y_ = (([(⟨#[97, 108, 112, 104, 97]⟩ : ByteArray), (⟨#[98, 101, 116, 97]⟩ : ByteArray), (⟨#[112, 114, 101]⟩ : ByteArray), (⟨#[114, 99]⟩ : ByteArray), (⟨#[]⟩ : ByteArray), (⟨#[99, 118, 115]⟩ : ByteArray), (⟨#[115, 118, 110]⟩ : ByteArray), (⟨#[103, 105, 116]⟩ : ByteArray), (⟨#[104, 103]⟩ : ByteArray)] : List ByteArray)) := ⟨_, rfl⟩
 replace H : (semantic_weightAlpineSuffixString.l0 k a0 y122 y122 (y122.length : Int) 0) = some r := by (have H2_ := (Option.bind_some _ _).symm.trans H; rw [hy122]; with_reducible exact H2_)
 have Ny122 := Aside0.mk hy122
 clear hy122
 have H' := Aside0.mk H
 clear H
 go_enter Tryd.func56, Tryd.ntmps56
 go_wp2_with (((with_reducible refine gate_dst (N := 6) rfl ?_); refine Kd.R_lit Kd.string _ 9 ?hg (N := 6) ?hd (xs := ([(⟨#[97, 108, 112, 104, 97]⟩ : ByteArray), (⟨#[98, 101, 116, 97]⟩ : ByteArray), (⟨#[112, 114, 101]⟩ : ByteArray), (⟨#[114, 99]⟩ : ByteArray), (⟨#[]⟩ : ByteArray), (⟨#[99, 118, 115]⟩ : ByteArray), (⟨#[115, 118, 110]⟩ : ByteArray), (⟨#[103, 105, 116]⟩ : ByteArray), (⟨#[104, 103]⟩ : ByteArray)] : List ByteArray)) (inner := [.string (⟨#[97, 108, 112, 104, 97]⟩ : ByteArray), .string (⟨#[98, 101, 116, 97]⟩ : ByteArray), .string (⟨#[112, 114, 101]⟩ : ByteArray), .string (⟨#[114, 99]⟩ : ByteArray), .string ⟨#[]⟩, .string (⟨#[99, 118, 115]⟩ : ByteArray), .string (⟨#[115, 118, 110]⟩ : ByteArray), .string (⟨#[103, 105, 116]⟩ : ByteArray), .string (⟨#[104, 103]⟩ : ByteArray)]) (ok := fun _ => True) (okp := fun _ => True) ?hr ?hp (fun _ hk => hk) trivial (Below.refl _ _) (Nat.le_refl _) (by simp) ?_; (case hd => rfl); (case hg => rfl); (case hr => first | (go_simp; done) | (go_simp; rfl)); (case hp => exact (Reps.one (show Kd.M Kd.string _ _ _ (⟨#[97, 108, 112, 104, 97]⟩ : ByteArray) [.string (⟨#[97, 108, 112, 104, 97]⟩ : ByteArray)] from rfl) (Reps.one (show Kd.M Kd.string _ _ _ (⟨#[98, 101, 116, 97]⟩ : ByteArray) [.string (⟨#[98, 101, 116, 97]⟩ : ByteArray)] from rfl) (Reps.one (show Kd.M Kd.string _ _ _ (⟨#[112, 114, 101]⟩ : ByteArray) [.string (⟨#[112, 114, 101]⟩ : ByteArray)] from rfl) (Reps.one (show Kd.M Kd.string _ _ _ (⟨#[114, 99]⟩ : ByteArray) [.string (⟨#[114, 99]⟩ : ByteArray)] from rfl) (Reps.one (show Kd.M Kd.string _ _ _ (⟨#[]⟩ : ByteArray) [.string ⟨#[]⟩] from rfl) (Reps.one (show Kd.M Kd.string _ _ _ (⟨#[99, 118, 115]⟩ : ByteArray) [.string (⟨#[99, 118, 115]⟩ : ByteArray)] from rfl) (Reps.one (show Kd.M Kd.string _ _ _ (⟨#[115, 118, 110]⟩ : ByteArray) [.string (⟨#[115, 118, 110]⟩ : ByteArray)] from rfl) (Reps.one (show Kd.M Kd.string _ _ _ (⟨#[103, 105, 116]⟩ : ByteArray) [.string (⟨#[103, 105, 116]⟩ : ByteArray)] from rfl) (Reps.one (show Kd.M Kd.string _ _ _ (⟨#[104, 103]⟩ : ByteArray) [.string (⟨#[104, 103]⟩ : ByteArray)] from rfl) (Reps.none _ _))))))))))); intro v123 w2 ho3 hb hg_ hnew_; clear hg_ hnew_; (first | rw [← Ny122.out] at ho3 | (simp only [Int.reduceToNat] at ho3; rw [← Ny122.out] at ho3)); have HO124 := Aside0.mk (Kd.R_lower ho3 (below_size (by (with_reducible exact HB.out)))); replace HB := Aside0.mk (below_step (by (with_reducible exact HB.out)) hb); clear hb ho3; obtain ⟨Ao4, co4, eo4⟩ := Kd.R_slice HO124.out; subst eo4))
 (try simp only [Act.put, List.setIfInBounds_toArray, List.set_cons_zero, List.set_cons_succ])
 go_loopg [9] k (fun kq v9 w' => ∃ (x9_1 : Int), v9 = .int .i64 x9_1 ∧ Aside0 (semantic_weightAlpineSuffixString.l0 kq a0 y122 y122 (y122.length : Int) x9_1 = some r) ∧ Aside0 (kq ≤ k) ∧ Aside0 (Kd.R Kd.string 9 w' w.heap.size (fun _ => True) (.slice Ao4 y122.length co4) y122) ∧ Aside0 (Kd.R Kd.string 9 w' w.heap.size (fun _ => True) (.slice Ao4 y122.length co4) y122) ∧ Aside0 (Below w.heap.size w w'))
 case atStart => exact ⟨(0), (by rfl), H', ⟨Nat.le_refl _⟩, ⟨by (with_reducible repeat (first | apply Kd.R_alloc | apply Kd.R_drewN | apply Kd.R_drew)); exact HO124.out⟩, ⟨by (with_reducible repeat (first | apply Kd.R_alloc | apply Kd.R_drewN | apply Kd.R_drew)); exact HO124.out⟩, ⟨by (with_reducible exact HB.out)⟩⟩
 case round =>
  clear H'
  obtain ⟨x9_1, rfl, HA, HK1, HO_3, HO_7, HB⟩ := hrel
  cases gk with
  | zero => exact absurd HA.out (by simp [semantic_weightAlpineSuffixString.l0])
  | succ k1 =>
   have H := HA.out
   clear HA
   simp only [semantic_weightAlpineSuffixString.l0] at H
   by_cases c5 : x9_1 < (y122.length : Int)
   ·rw [if_pos c5] at H
    have c5b0 : decide (x9_1 < (y122.length : Int)) = true := decide_eq_true c5
    clear c5
    by_cases c6 : 0 ≤ x9_1
    ·rw [if_pos c6] at H
     have c6b0 : decide (0 ≤ x9_1) = true := decide_eq_true c6
     clear c6
     by_cases c7 : x9_1 < (y122.length : Int)
     ·rw [if_pos c7] at H
      have c7b0 : decide (x9_1 < (y122.length : Int)) = true := decide_eq_true c7
      clear c7
      by_cases c8 : a0.toList = (rdOf ByteArray.empty y122 x9_1).toList
      ·rw [if_pos c8] at H
       have c8b0 : (a0.toList == (rdOf ByteArray.empty y122 x9_1).toList) = true := beq_iff_eq.mpr c8
       have c8b1 : (a0.toList != (rdOf ByteArray.empty y122 x9_1).toList) = false := bne_eq_false_iff_eq.mpr c8
       clear c8
       obtain rfl := Option.some.inj H
       have p125 : 0 ≤ (x9_1 : Int) := of_decide_eq_true (by (with_reducible assumption))
       have q125 : x9_1 < (y122.length : Int) := of_decide_eq_true (by (with_reducible assumption))
       obtain ⟨ad125, e125, hx125_0⟩ := Kd.at_string (Kd.R_reads' HO_7.out).2.2 x9_1 p125 q125
       cases e125
       replace p125 := eq_true p125
       replace q125 := eq_true q125
       go_wp2
       go_ret
       exact ⟨by rfl, by (with_reducible exact HB.out)⟩
      ·rw [if_neg c8] at H
       have c8b0 : (a0.toList == (rdOf ByteArray.empty y122 x9_1).toList) = false := beq_eq_false_iff_ne.mpr c8
       have c8b1 : (a0.toList != (rdOf ByteArray.empty y122 x9_1).toList) = true := bne_iff_ne.mpr c8
       have H' := Aside0.mk H
       clear H
       have p125 : 0 ≤ (x9_1 : Int) := of_decide_eq_true (by (with_reducible assumption))
       have q125 : x9_1 < (y122.length : Int) := of_decide_eq_true (by (with_reducible assumption))
       obtain ⟨ad125, e125, hx125_0⟩ := Kd.at_string (Kd.R_reads' HO_7.out).2.2 x9_1 p125 q125
       cases e125
       replace p125 := eq_true p125
       replace q125 := eq_true q125
       go_wp2
       go_roundg k1
       case measure => have := HK1.out; omega
       case rel => exact ⟨(wrap64 (x9_1 + 1)), (by rfl), H', ⟨by have := HK1.out; omega⟩, ⟨by (with_reducible repeat (first | apply Kd.R_alloc | apply Kd.R_drewN | apply Kd.R_drew)); exact HO_3.out⟩, ⟨by (with_reducible repeat (first | apply Kd.R_alloc | apply Kd.R_drewN | apply Kd.R_drew)); exact HO_7.out⟩, ⟨by (with_reducible exact HB.out)⟩⟩
     ·rw [if_neg c7] at H
      exact absurd H (by simp)
    ·rw [if_neg c6] at H
     exact absurd H (by simp)
   ·rw [if_neg c5] at H
    have c5b0 : decide (x9_1 < (y122.length : Int)) = false := decide_eq_false c5
    clear c5
    obtain rfl := Option.some.inj H
    go_wp2
    go_ret
    exact ⟨by rfl, by (with_reducible exact HB.out)⟩
end Go.Proofs.YtapaijpglfmfgaaDoor.S
end
section -- Sx3
namespace Go.Proofs.YtapaijpglfmfgaaDoor.S
open Go.RowKit Go.Proofs.YtapaijpglfmfgaaDoorH Go.Proofs.YtapaijpglfmfgaaDoorW.PrintWords Go.Proofs.YtapaijpglfmfgaaDoorW.PrintLast Go.Proofs.YtapaijpglfmfgaaDoorW.PrintMore
attribute [local go_sem] max2_int min2_int max_two min_two max_three min_three max_four min_four
set_option linter.unusedVariables false
set_option linter.unusedSimpArgs false
mutual
def semantic_zzAlpineHash.j0 : Nat → ByteArray → Bool → Option (ByteArray)
 | 0, _, _ => none
 | k + 1, x0, x10 => if x10 = true then (some (⟨#[]⟩ : ByteArray)) else (semantic_zzAlpineHash.l0 k x0 1)
def semantic_zzAlpineHash.l0 : Nat → ByteArray → Int → Option (ByteArray)
 | 0, _, _ => none
 | k + 1, x0, x3 => if x3 < (x0.size : Int) then (if 0 ≤ x3 then ((semantic_zzDigit.f (bt x0 x3)).bind fun t126 => (if t126 = true then (semantic_zzAlpineHash.l0 k x0 (wrap64 (x3 + 1))) else (if (bt x0 x3) ≥ 97 then (if (bt x0 x3) ≤ 102 then (semantic_zzAlpineHash.l0 k x0 (wrap64 (x3 + 1))) else (if x3 = 1 then (some (⟨#[]⟩ : ByteArray)) else (if x3 ≤ (x0.size : Int) then (some (x0.extract 0 (x3 : Int).toNat)) else (none)))) else (if x3 = 1 then (some (⟨#[]⟩ : ByteArray)) else (if x3 ≤ (x0.size : Int) then (some (x0.extract 0 (x3 : Int).toNat)) else (none)))))) else (none)) else (if x3 = 1 then (some (⟨#[]⟩ : ByteArray)) else (if 0 ≤ x3 then (if x3 ≤ (x0.size : Int) then (some (x0.extract 0 (x3 : Int).toNat)) else (none)) else (none)))
end
def semantic_zzAlpineHash.f (k : Nat) (a0 : ByteArray) : Option (ByteArray) := if a0.toList = ([] : List UInt8) then (semantic_zzAlpineHash.j0 k a0 true) else (if 0 < (a0.size : Int) then (semantic_zzAlpineHash.j0 k a0 ((bt a0 0) != 126)) else (none))
set_option maxHeartbeats 8000000 in
set_option maxRecDepth 100000 in
theorem semantic_zzAlpineHash.calls (k : Nat) (a0 : ByteArray) (r : ByteArray) (w : World) (h : semantic_zzAlpineHash.f k a0 = some r) :
  Calls Tryd.prog 57 #[.string a0] w fun e w' => e = .returned (.string r) ∧ Drawn0 w w' := by
 have H : (if a0.toList = ([] : List UInt8) then (semantic_zzAlpineHash.j0 k a0 true) else (if 0 < (a0.size : Int) then (semantic_zzAlpineHash.j0 k a0 ((bt a0 0) != 126)) else (none))) = some r := h
 clear h
 have HC2 := Aside0.mk H
 clear H
 go_enter Tryd.func57, Tryd.ntmps57
 go_upto_region 1 with (fail)
 go_cut [10] (fun v10 wc => ∃ (kq : Nat) (x10_1 : Bool), v10 = .bool x10_1 ∧ Aside0 (semantic_zzAlpineHash.j0 kq a0 x10_1 = some r) ∧ Aside0 (kq ≤ k) ∧ Drawn0 w wc)
 case first =>
  have H := HC2.out
  clear HC2
  by_cases c3 : a0.toList = ([] : List UInt8)
  ·rw [if_pos c3] at H
   have c3b0 : (a0.toList == ([] : List UInt8)) = true := beq_iff_eq.mpr c3
   have c3b1 : (a0.toList != ([] : List UInt8)) = false := bne_eq_false_iff_eq.mpr c3
   try have c3b9 : a0.toList.isEmpty = true := by simpa using c3b0
   clear c3
   (first | rw [c3b0] | (simp only [i64_w, i32_w]; rw [c3b0]) | rw [c3b9] | skip)
   have H' := Aside0.mk H
   clear H
   go_wp2
   go_meet
   case rel => exact ⟨_, (true), (by rfl), H', ⟨by omega⟩, by repeat (first | exact Drawn0.refl _ | apply Drawn0.step)⟩
  ·rw [if_neg c3] at H
   have c3b0 : (a0.toList == ([] : List UInt8)) = false := beq_eq_false_iff_ne.mpr c3
   have c3b1 : (a0.toList != ([] : List UInt8)) = true := bne_iff_ne.mpr c3
   try have c3b9 : a0.toList.isEmpty = false := by simpa using c3b0
   (first | rw [c3b0] | (simp only [i64_w, i32_w]; rw [c3b0]) | rw [c3b9] | skip)
   by_cases c4 : 0 < (a0.size : Int)
   ·rw [if_pos c4] at H
    have c4b0 : decide (0 < (a0.size : Int)) = true := decide_eq_true c4
    have c4b1 : decide (0 < a0.size) = true := decide_eq_true (by omega)
    clear c4
    have H' := Aside0.mk H
    clear H
    have p5 : 0 ≤ (0 : Int) := (by omega)
    have q5 : 0 < a0.size := (by have : (0 : Int) < (a0.size : Int) := of_decide_eq_true (by (with_reducible assumption)); omega)
    have hx5 : ∀ h : 0 < a0.size, ((a0[0]'h).toNat : Int) = bt a0 0 := bt_at a0 0
    clear p5
    have qi5 : (0 < (a0.size : Int)) = True := eq_true (of_decide_eq_true (by (with_reducible assumption)))
    replace q5 := eq_true q5
    go_wp2
    go_meet
    case rel => exact ⟨_, (((bt a0 0) != 126)), (by rfl), H', ⟨by omega⟩, by repeat (first | exact Drawn0.refl _ | apply Drawn0.step)⟩
   ·rw [if_neg c4] at H
    exact absurd H (by simp)
 case rest =>
  clear HC2
  obtain ⟨kq, x10_1, rfl, HA, HJ1, ⟨mc1, rfl⟩⟩ := hcut
  cases kq with
  | zero => exact absurd HA.out (by simp [semantic_zzAlpineHash.j0])
  | succ kj1 =>
   have H := HA.out
   clear HA
   simp only [semantic_zzAlpineHash.j0] at H
   by_cases c6 : x10_1 = true
   ·subst c6
    have H1 : (some (⟨#[]⟩ : ByteArray)) = some r := by rw [if_pos rfl] at H; exact H
    clear H
    have H := H1
    clear H1
    obtain rfl := Option.some.inj H
    go_wp2
    go_ret
    exact ⟨by rfl, by repeat (first | exact Drawn0.refl _ | apply Drawn0.step)⟩
   ·replace c6 := Bool.eq_false_iff.mpr c6
    subst c6
    have H1 : (semantic_zzAlpineHash.l0 kj1 a0 1) = some r := by rw [if_neg (show ¬ (false = true) by decide)] at H; exact H
    clear H
    have H := H1
    clear H1
    have H' := Aside0.mk H
    clear H
    go_wp2
    (try simp only [Act.put, List.setIfInBounds_toArray, List.set_cons_zero, List.set_cons_succ])
    go_loopg [3] kj1 (fun kq v3 w' => ∃ (x3_2 : Int), v3 = .int .i64 x3_2 ∧ Aside0 (semantic_zzAlpineHash.l0 kq a0 x3_2 = some r) ∧ Aside0 (kq ≤ kj1) ∧ Drawn0 w w')
    case atStart => exact ⟨(1), (by rfl), H', ⟨Nat.le_refl _⟩, by repeat (first | exact Drawn0.refl _ | apply Drawn0.step)⟩
    case round =>
     clear H'
     obtain ⟨x3_2, rfl, HA, HK2, ⟨m2, rfl⟩⟩ := hrel
     cases gk with
     | zero => exact absurd HA.out (by simp [semantic_zzAlpineHash.l0])
     | succ k2 =>
      have H := HA.out
      clear HA
      simp only [semantic_zzAlpineHash.l0] at H
      by_cases c7 : x3_2 < (a0.size : Int)
      ·rw [if_pos c7] at H
       have c7b0 : decide (x3_2 < (a0.size : Int)) = true := decide_eq_true c7
       clear c7
       by_cases c8 : 0 ≤ x3_2
       ·rw [if_pos c8] at H
        have c8b0 : decide (0 ≤ x3_2) = true := decide_eq_true c8
        clear c8
        replace H := Option.bind_eq_some_iff.mp H
        obtain ⟨t126, A100, H⟩ := H
        replace H : (if t126 = true then (semantic_zzAlpineHash.l0 k2 a0 (wrap64 (x3_2 + 1))) else (if (bt a0 x3_2) ≥ 97 then (if (bt a0 x3_2) ≤ 102 then (semantic_zzAlpineHash.l0 k2 a0 (wrap64 (x3_2 + 1))) else (if x3_2 = 1 then (some (⟨#[]⟩ : ByteArray)) else (if x3_2 ≤ (a0.size : Int) then (some (a0.extract 0 (x3_2 : Int).toNat)) else (none)))) else (if x3_2 = 1 then (some (⟨#[]⟩ : ByteArray)) else (if x3_2 ≤ (a0.size : Int) then (some (a0.extract 0 (x3_2 : Int).toNat)) else (none))))) = some r := H
        have A10 := Aside0.mk A100
        clear A100
        by_cases c11 : t126 = true
        ·subst c11
         have H1 : (semantic_zzAlpineHash.l0 k2 a0 (wrap64 (x3_2 + 1))) = some r := by rw [if_pos rfl] at H; exact H
         clear H
         have H := H1
         clear H1
         have H' := Aside0.mk H
         clear H
         have p9 : 0 ≤ (x3_2 : Int) := of_decide_eq_true (by (with_reducible assumption))
         have q9 : x3_2 < (a0.size : Int) := of_decide_eq_true (by (with_reducible assumption))
         have hx9 := bt_at a0 x3_2
         replace p9 := eq_true p9
         replace q9 := eq_true q9
         go_wp2_with ((go_at_call 73; (with_reducible refine (semantic_zzDigit.calls (bt a0 x3_2) true _ A10.out).mono ?_); rintro e w' ⟨rfl, ⟨nd, rfl⟩⟩))
         go_roundg k2
         case measure => have := HJ1.out; have := HK2.out; omega
         case rel => exact ⟨(wrap64 (x3_2 + 1)), (by rfl), H', ⟨by have := HJ1.out; have := HK2.out; omega⟩, by repeat (first | exact Drawn0.refl _ | apply Drawn0.step)⟩
        ·replace c11 := Bool.eq_false_iff.mpr c11
         subst c11
         have H1 : (if (bt a0 x3_2) ≥ 97 then (if (bt a0 x3_2) ≤ 102 then (semantic_zzAlpineHash.l0 k2 a0 (wrap64 (x3_2 + 1))) else (if x3_2 = 1 then (some (⟨#[]⟩ : ByteArray)) else (if x3_2 ≤ (a0.size : Int) then (some (a0.extract 0 (x3_2 : Int).toNat)) else (none)))) else (if x3_2 = 1 then (some (⟨#[]⟩ : ByteArray)) else (if x3_2 ≤ (a0.size : Int) then (some (a0.extract 0 (x3_2 : Int).toNat)) else (none)))) = some r := by rw [if_neg (show ¬ (false = true) by decide)] at H; exact H
         clear H
         have H := H1
         clear H1
         by_cases c13 : (bt a0 x3_2) ≥ 97
         ·rw [if_pos c13] at H
          have c13b0 : decide (97 ≤ (bt a0 x3_2)) = true := decide_eq_true c13
          clear c13
          by_cases c15 : (bt a0 x3_2) ≤ 102
          ·rw [if_pos c15] at H
           have c15b0 : decide ((bt a0 x3_2) ≤ 102) = true := decide_eq_true c15
           clear c15
           have H' := Aside0.mk H
           clear H
           have p9 : 0 ≤ (x3_2 : Int) := of_decide_eq_true (by (with_reducible assumption))
           have q9 : x3_2 < (a0.size : Int) := of_decide_eq_true (by (with_reducible assumption))
           have hx9 := bt_at a0 x3_2
           replace p9 := eq_true p9
           replace q9 := eq_true q9
           go_wp2_with ((go_at_call 73; (with_reducible refine (semantic_zzDigit.calls (bt a0 x3_2) false _ A10.out).mono ?_); rintro e w' ⟨rfl, ⟨nd, rfl⟩⟩; have p12 : 0 ≤ (x3_2 : Int) := of_decide_eq_true (by (with_reducible assumption)); have q12 : x3_2 < (a0.size : Int) := of_decide_eq_true (by (with_reducible assumption)); have hx12 := bt_at a0 x3_2; replace p12 := eq_true p12; replace q12 := eq_true q12; have p14 : 0 ≤ (x3_2 : Int) := of_decide_eq_true (by (with_reducible assumption)); have q14 : x3_2 < (a0.size : Int) := of_decide_eq_true (by (with_reducible assumption)); have hx14 := bt_at a0 x3_2; replace p14 := eq_true p14; replace q14 := eq_true q14))
           go_roundg k2
           case measure => have := HJ1.out; have := HK2.out; omega
           case rel => exact ⟨(wrap64 (x3_2 + 1)), (by rfl), H', ⟨by have := HJ1.out; have := HK2.out; omega⟩, by repeat (first | exact Drawn0.refl _ | apply Drawn0.step)⟩
          ·rw [if_neg c15] at H
           have c15b0 : decide ((bt a0 x3_2) ≤ 102) = false := decide_eq_false c15
           clear c15
           by_cases c16 : x3_2 = 1
           ·rw [if_pos c16] at H
            have c16b0 : (x3_2 == 1) = true := beq_iff_eq.mpr c16
            have c16b1 : (x3_2 != 1) = false := bne_eq_false_iff_eq.mpr c16
            clear c16
            obtain rfl := Option.some.inj H
            have p9 : 0 ≤ (x3_2 : Int) := of_decide_eq_true (by (with_reducible assumption))
            have q9 : x3_2 < (a0.size : Int) := of_decide_eq_true (by (with_reducible assumption))
            have hx9 := bt_at a0 x3_2
            replace p9 := eq_true p9
            replace q9 := eq_true q9
            go_wp2_with ((go_at_call 73; (with_reducible refine (semantic_zzDigit.calls (bt a0 x3_2) false _ A10.out).mono ?_); rintro e w' ⟨rfl, ⟨nd, rfl⟩⟩; have p12 : 0 ≤ (x3_2 : Int) := of_decide_eq_true (by (with_reducible assumption)); have q12 : x3_2 < (a0.size : Int) := of_decide_eq_true (by (with_reducible assumption)); have hx12 := bt_at a0 x3_2; replace p12 := eq_true p12; replace q12 := eq_true q12; have p14 : 0 ≤ (x3_2 : Int) := of_decide_eq_true (by (with_reducible assumption)); have q14 : x3_2 < (a0.size : Int) := of_decide_eq_true (by (with_reducible assumption)); have hx14 := bt_at a0 x3_2; replace p14 := eq_true p14; replace q14 := eq_true q14))
            go_ret
            exact ⟨by rfl, by repeat (first | exact Drawn0.refl _ | apply Drawn0.step)⟩
           ·rw [if_neg c16] at H
            have c16b0 : (x3_2 == 1) = false := beq_eq_false_iff_ne.mpr c16
            have c16b1 : (x3_2 != 1) = true := bne_iff_ne.mpr c16
            have c17b0 := eq_true (of_decide_eq_true (by (with_reducible assumption)) : 0 ≤ x3_2)
            by_cases c18 : x3_2 ≤ (a0.size : Int)
            ·rw [if_pos c18] at H
             have c18b0 := eq_true c18
             have c18b1 : decide (x3_2 ≤ (a0.size : Int)) = true := decide_eq_true c18
             clear c18
             obtain rfl := Option.some.inj H
             have p9 : 0 ≤ (x3_2 : Int) := of_decide_eq_true (by (with_reducible assumption))
             have q9 : x3_2 < (a0.size : Int) := of_decide_eq_true (by (with_reducible assumption))
             have hx9 := bt_at a0 x3_2
             replace p9 := eq_true p9
             replace q9 := eq_true q9
             go_wp2_with ((go_at_call 73; (with_reducible refine (semantic_zzDigit.calls (bt a0 x3_2) false _ A10.out).mono ?_); rintro e w' ⟨rfl, ⟨nd, rfl⟩⟩; have p12 : 0 ≤ (x3_2 : Int) := of_decide_eq_true (by (with_reducible assumption)); have q12 : x3_2 < (a0.size : Int) := of_decide_eq_true (by (with_reducible assumption)); have hx12 := bt_at a0 x3_2; replace p12 := eq_true p12; replace q12 := eq_true q12; have p14 : 0 ≤ (x3_2 : Int) := of_decide_eq_true (by (with_reducible assumption)); have q14 : x3_2 < (a0.size : Int) := of_decide_eq_true (by (with_reducible assumption)); have hx14 := bt_at a0 x3_2; replace p14 := eq_true p14; replace q14 := eq_true q14))
             go_ret
             exact ⟨by rfl, by repeat (first | exact Drawn0.refl _ | apply Drawn0.step)⟩
            ·rw [if_neg c18] at H
             exact absurd H (by simp)
         ·rw [if_neg c13] at H
          have c13b0 : decide (97 ≤ (bt a0 x3_2)) = false := decide_eq_false c13
          clear c13
          by_cases c19 : x3_2 = 1
          ·rw [if_pos c19] at H
           have c19b0 : (x3_2 == 1) = true := beq_iff_eq.mpr c19
           have c19b1 : (x3_2 != 1) = false := bne_eq_false_iff_eq.mpr c19
           clear c19
           obtain rfl := Option.some.inj H
           have p9 : 0 ≤ (x3_2 : Int) := of_decide_eq_true (by (with_reducible assumption))
           have q9 : x3_2 < (a0.size : Int) := of_decide_eq_true (by (with_reducible assumption))
           have hx9 := bt_at a0 x3_2
           replace p9 := eq_true p9
           replace q9 := eq_true q9
           go_wp2_with ((go_at_call 73; (with_reducible refine (semantic_zzDigit.calls (bt a0 x3_2) false _ A10.out).mono ?_); rintro e w' ⟨rfl, ⟨nd, rfl⟩⟩; have p12 : 0 ≤ (x3_2 : Int) := of_decide_eq_true (by (with_reducible assumption)); have q12 : x3_2 < (a0.size : Int) := of_decide_eq_true (by (with_reducible assumption)); have hx12 := bt_at a0 x3_2; replace p12 := eq_true p12; replace q12 := eq_true q12))
           go_ret
           exact ⟨by rfl, by repeat (first | exact Drawn0.refl _ | apply Drawn0.step)⟩
          ·rw [if_neg c19] at H
           have c19b0 : (x3_2 == 1) = false := beq_eq_false_iff_ne.mpr c19
           have c19b1 : (x3_2 != 1) = true := bne_iff_ne.mpr c19
           have c20b0 := eq_true (of_decide_eq_true (by (with_reducible assumption)) : 0 ≤ x3_2)
           by_cases c21 : x3_2 ≤ (a0.size : Int)
           ·rw [if_pos c21] at H
            have c21b0 := eq_true c21
            have c21b1 : decide (x3_2 ≤ (a0.size : Int)) = true := decide_eq_true c21
            clear c21
            obtain rfl := Option.some.inj H
            have p9 : 0 ≤ (x3_2 : Int) := of_decide_eq_true (by (with_reducible assumption))
            have q9 : x3_2 < (a0.size : Int) := of_decide_eq_true (by (with_reducible assumption))
            have hx9 := bt_at a0 x3_2
            replace p9 := eq_true p9
            replace q9 := eq_true q9
            go_wp2_with ((go_at_call 73; (with_reducible refine (semantic_zzDigit.calls (bt a0 x3_2) false _ A10.out).mono ?_); rintro e w' ⟨rfl, ⟨nd, rfl⟩⟩; have p12 : 0 ≤ (x3_2 : Int) := of_decide_eq_true (by (with_reducible assumption)); have q12 : x3_2 < (a0.size : Int) := of_decide_eq_true (by (with_reducible assumption)); have hx12 := bt_at a0 x3_2; replace p12 := eq_true p12; replace q12 := eq_true q12))
            go_ret
            exact ⟨by rfl, by repeat (first | exact Drawn0.refl _ | apply Drawn0.step)⟩
           ·rw [if_neg c21] at H
            exact absurd H (by simp)
       ·rw [if_neg c8] at H
        exact absurd H (by simp)
      ·rw [if_neg c7] at H
       have c7b0 : decide (x3_2 < (a0.size : Int)) = false := decide_eq_false c7
       clear c7
       by_cases c22 : x3_2 = 1
       ·rw [if_pos c22] at H
        have c22b0 : (x3_2 == 1) = true := beq_iff_eq.mpr c22
        have c22b1 : (x3_2 != 1) = false := bne_eq_false_iff_eq.mpr c22
        clear c22
        obtain rfl := Option.some.inj H
        go_wp2
        go_ret
        exact ⟨by rfl, by repeat (first | exact Drawn0.refl _ | apply Drawn0.step)⟩
       ·rw [if_neg c22] at H
        have c22b0 : (x3_2 == 1) = false := beq_eq_false_iff_ne.mpr c22
        have c22b1 : (x3_2 != 1) = true := bne_iff_ne.mpr c22
        by_cases c23 : 0 ≤ x3_2
        ·rw [if_pos c23] at H
         have c23b0 := eq_true c23
         have c23b1 : decide (0 ≤ x3_2) = true := decide_eq_true c23
         clear c23
         by_cases c24 : x3_2 ≤ (a0.size : Int)
         ·rw [if_pos c24] at H
          have c24b0 := eq_true c24
          have c24b1 : decide (x3_2 ≤ (a0.size : Int)) = true := decide_eq_true c24
          clear c24
          obtain rfl := Option.some.inj H
          go_wp2
          go_ret
          exact ⟨by rfl, by repeat (first | exact Drawn0.refl _ | apply Drawn0.step)⟩
         ·rw [if_neg c24] at H
          exact absurd H (by simp)
        ·rw [if_neg c23] at H
         exact absurd H (by simp)
def stringslite_HasPrefix.f (a0 : ByteArray) (a1 : ByteArray) : Option (Bool) := if (a0.size : Int) ≥ (a1.size : Int) then (if 0 ≤ (a1.size : Int) then (if (a1.size : Int) ≤ (a0.size : Int) then (some ((a0.extract 0 ((a1.size : Int) : Int).toNat).toList == a1.toList)) else (none)) else (none)) else (some false)
set_option maxHeartbeats 8000000 in
set_option maxRecDepth 100000 in
theorem stringslite_HasPrefix.calls (a0 : ByteArray) (a1 : ByteArray) (r : Bool) (w : World) (h : stringslite_HasPrefix.f a0 a1 = some r) :
  Calls Tryd.prog 83 #[.string a0, .string a1] w fun e w' => e = .returned (.bool r) ∧ Drawn0 w w' := by
 have H : (if (a0.size : Int) ≥ (a1.size : Int) then (if 0 ≤ (a1.size : Int) then (if (a1.size : Int) ≤ (a0.size : Int) then (some ((a0.extract 0 ((a1.size : Int) : Int).toNat).toList == a1.toList)) else (none)) else (none)) else (some false)) = some r := h
 clear h
 by_cases c3 : (a0.size : Int) ≥ (a1.size : Int)
 ·rw [if_pos c3] at H
  have c3b0 : decide ((a1.size : Int) ≤ (a0.size : Int)) = true := decide_eq_true c3
  have c3b1 : decide (a1.size ≤ a0.size) = true := decide_eq_true (Int.ofNat_le.mp c3)
  clear c3
  by_cases c4 : 0 ≤ (a1.size : Int)
  ·rw [if_pos c4] at H
   have c4b0 := eq_true c4
   have c4b1 : decide (0 ≤ (a1.size : Int)) = true := decide_eq_true c4
   clear c4
   by_cases c5 : (a1.size : Int) ≤ (a0.size : Int)
   ·rw [if_pos c5] at H
    have c5b0 := eq_true c5
    have c5b1 : decide ((a1.size : Int) ≤ (a0.size : Int)) = true := decide_eq_true c5
    clear c5
    obtain rfl := Option.some.inj H
    go_enter Tryd.func83, Tryd.ntmps83
    go_wp2
    go_ret
    exact ⟨by rfl, by repeat (first | exact Drawn0.refl _ | apply Drawn0.step)⟩
   ·rw [if_neg c5] at H
    exact absurd H (by simp)
  ·rw [if_neg c4] at H
   exact absurd H (by simp)
 ·rw [if_neg c3] at H
  have c3b0 : decide ((a1.size : Int) ≤ (a0.size : Int)) = false := decide_eq_false c3
  have c3b1 : decide (a1.size ≤ a0.size) = false := decide_eq_false (fun h => c3 (Int.ofNat_le.mpr h))
  clear c3
  obtain rfl := Option.some.inj H
  go_enter Tryd.func83, Tryd.ntmps83
  go_wp2
  go_ret
  exact ⟨by rfl, by repeat (first | exact Drawn0.refl _ | apply Drawn0.step)⟩
def stringslite_TrimPrefix.f (a0 : ByteArray) (a1 : ByteArray) : Option (ByteArray) := (stringslite_HasPrefix.f a0 a1).bind fun t127 => (if t127 = true then (if 0 ≤ (a1.size : Int) then (if (a1.size : Int) ≤ (a0.size : Int) then (some (a0.extract ((a1.size : Int) : Int).toNat a0.size)) else (none)) else (none)) else (some a0))
set_option maxHeartbeats 8000000 in
set_option maxRecDepth 100000 in
theorem stringslite_TrimPrefix.calls (a0 : ByteArray) (a1 : ByteArray) (r : ByteArray) (w : World) (h : stringslite_TrimPrefix.f a0 a1 = some r) :
  Calls Tryd.prog 71 #[.string a0, .string a1] w fun e w' => e = .returned (.string r) ∧ Drawn0 w w' := by
 have H : ((stringslite_HasPrefix.f a0 a1).bind fun t127 => (if t127 = true then (if 0 ≤ (a1.size : Int) then (if (a1.size : Int) ≤ (a0.size : Int) then (some (a0.extract ((a1.size : Int) : Int).toNat a0.size)) else (none)) else (none)) else (some a0))) = some r := h
 clear h
 replace H := Option.bind_eq_some_iff.mp H
 obtain ⟨t127, A30, H⟩ := H
 replace H : (if t127 = true then (if 0 ≤ (a1.size : Int) then (if (a1.size : Int) ≤ (a0.size : Int) then (some (a0.extract ((a1.size : Int) : Int).toNat a0.size)) else (none)) else (none)) else (some a0)) = some r := H
 have A3 := Aside0.mk A30
 clear A30
 by_cases c4 : t127 = true
 ·subst c4
  have H1 : (if 0 ≤ (a1.size : Int) then (if (a1.size : Int) ≤ (a0.size : Int) then (some (a0.extract ((a1.size : Int) : Int).toNat a0.size)) else (none)) else (none)) = some r := by rw [if_pos rfl] at H; exact H
  clear H
  have H := H1
  clear H1
  by_cases c5 : 0 ≤ (a1.size : Int)
  ·rw [if_pos c5] at H
   have c5b0 := eq_true c5
   have c5b1 : decide (0 ≤ (a1.size : Int)) = true := decide_eq_true c5
   clear c5
   by_cases c6 : (a1.size : Int) ≤ (a0.size : Int)
   ·rw [if_pos c6] at H
    have c6b0 := eq_true c6
    have c6b1 : decide ((a1.size : Int) ≤ (a0.size : Int)) = true := decide_eq_true c6
    clear c6
    obtain rfl := Option.some.inj H
    go_enter Tryd.func71, Tryd.ntmps71
    go_wp2_with (((with_reducible refine gate_callee (f := 83) rfl ?_); refine goesL_ (some 7) rfl rfl Tryd.func83 (by kernel_rfl) rfl #[.string a0, .string a1] rfl (by (try simp only [List.map_toArray, List.map_cons, List.map_nil]); first | done | rfl | (simp only [List.length_drop, List.length_take]; rfl)) ?_; (with_reducible refine (stringslite_HasPrefix.calls a0 a1 true _ A3.out).mono ?_); rintro e w' ⟨rfl, ⟨nd, rfl⟩⟩; refine ⟨_, rfl, ?_⟩))
    go_ret
    exact ⟨by rfl, by repeat (first | exact Drawn0.refl _ | apply Drawn0.step)⟩
   ·rw [if_neg c6] at H
    exact absurd H (by simp)
  ·rw [if_neg c5] at H
   exact absurd H (by simp)
 ·replace c4 := Bool.eq_false_iff.mpr c4
  subst c4
  have H1 : (some a0) = some r := by rw [if_neg (show ¬ (false = true) by decide)] at H; exact H
  clear H
  have H := H1
  clear H1
  obtain rfl := Option.some.inj H
  go_enter Tryd.func71, Tryd.ntmps71
  go_wp2_with (((with_reducible refine gate_callee (f := 83) rfl ?_); refine goesL_ (some 7) rfl rfl Tryd.func83 (by kernel_rfl) rfl #[.string a0, .string a1] rfl (by (try simp only [List.map_toArray, List.map_cons, List.map_nil]); first | done | rfl | (simp only [List.length_drop, List.length_take]; rfl)) ?_; (with_reducible refine (stringslite_HasPrefix.calls a0 a1 false _ A3.out).mono ?_); rintro e w' ⟨rfl, ⟨nd, rfl⟩⟩; refine ⟨_, rfl, ?_⟩))
  go_ret
  exact ⟨by rfl, by repeat (first | exact Drawn0.refl _ | apply Drawn0.step)⟩
def strings_TrimPrefix.f (a0 : ByteArray) (a1 : ByteArray) : Option (ByteArray) := (stringslite_TrimPrefix.f a0 a1).bind fun t128 => (some t128)
set_option maxHeartbeats 8000000 in
set_option maxRecDepth 100000 in
theorem strings_TrimPrefix.calls (a0 : ByteArray) (a1 : ByteArray) (r : ByteArray) (w : World) (h : strings_TrimPrefix.f a0 a1 = some r) :
  Calls Tryd.prog 53 #[.string a0, .string a1] w fun e w' => e = .returned (.string r) ∧ Drawn0 w w' := by
 have H : ((stringslite_TrimPrefix.f a0 a1).bind fun t128 => (some t128)) = some r := h
 clear h
 replace H := Option.bind_eq_some_iff.mp H
 obtain ⟨t128, A30, H⟩ := H
 replace H : (some t128) = some r := H
 have A3 := Aside0.mk A30
 clear A30
 obtain rfl := Option.some.inj H
 go_enter Tryd.func53, Tryd.ntmps53
 go_wp2_with (((with_reducible refine gate_callee (f := 71) rfl ?_); refine goesL_ (some 7) rfl rfl Tryd.func71 (by kernel_rfl) rfl #[.string a0, .string a1] rfl (by (try simp only [List.map_toArray, List.map_cons, List.map_nil]); first | done | rfl | (simp only [List.length_drop, List.length_take]; rfl)) ?_; (with_reducible refine (stringslite_TrimPrefix.calls a0 a1 t128 _ A3.out).mono ?_); rintro e w' ⟨rfl, ⟨nd, rfl⟩⟩; refine ⟨_, rfl, ?_⟩))
 go_ret
 exact ⟨by rfl, by repeat (first | exact Drawn0.refl _ | apply Drawn0.step)⟩
mutual
def bigall_nat_bytes.l0 : Nat → List Int → Int → List Int → Int → Int → Option (Int)
 | 0, _, _, _, _, _ => none
 | k + 1, x1, x4, x10, x11, x12 => if x12 < x11 then (if 0 ≤ x12 then (if x12 < (x10.length : Int) then (bigall_nat_bytes.l1 k x1 x4 (rd x10 x12) 0 x10 x11 x12) else (none)) else (none)) else (if x4 < 0 then (bigall_nat_bytes.j2 k x1 0) else (bigall_nat_bytes.j2 k x1 x4))
def bigall_nat_bytes.l1 : Nat → List Int → Int → Int → Int → List Int → Int → Int → Option (Int)
 | 0, _, _, _, _, _, _, _ => none
 | k + 1, x1, x4, x6, x7, x10, x11, x12 => if x7 < 8 then (if (wrap64 (x4 - 1)) ≥ 0 then (none) else (if ((x6) % 256) = 0 then (bigall_nat_bytes.l1 k x1 (wrap64 (x4 - 1)) (x6 / 256) (wrap64 (x7 + 1)) x10 x11 x12) else (none))) else (bigall_nat_bytes.l0 k x1 x4 x10 x11 (wrap64 (x12 + 1)))
def bigall_nat_bytes.j2 : Nat → List Int → Int → Option (Int)
 | 0, _, _ => none
 | k + 1, x1, x4 => bigall_nat_bytes.l2 k x1 x4
def bigall_nat_bytes.l2 : Nat → List Int → Int → Option (Int)
 | 0, _, _ => none
 | k + 1, x1, x4 => if x4 < (x1.length : Int) then (if 0 ≤ x4 then (if (rd x1 x4) = 0 then (bigall_nat_bytes.l2 k x1 (wrap64 (x4 + 1))) else (some x4)) else (none)) else (some x4)
end
def bigall_nat_bytes.f (k : Nat) (l0 : List Int) (l1 : List Int) : Option (Int) := bigall_nat_bytes.l0 k l1 (l1.length : Int) l0 (l0.length : Int) 0
end Go.Proofs.YtapaijpglfmfgaaDoor.S
end
section -- A6
namespace Go.Proofs.YtapaijpglfmfgaaDoorG
open Go.RowKit Go.Proofs.YtapaijpglfmfgaaDoorH Go.Proofs.YtapaijpglfmfgaaDoor.S Go.Proofs.YtapaijpglfmfgaaDoorW.PrintWords Go.Proofs.YtapaijpglfmfgaaDoorW.PrintLast
set_option linter.unusedVariables false
set_option linter.unusedSimpArgs false
theorem gr_then {w w1 w2 : World} {g : Nat} {row : Option Nat} (h : w.grownBy w1 (some g)) (k : w1.grownBy w2 row) (hr : ∀ b, row = some b → b = g ∨ w.heap.size ≤ b) : w.grownBy w2 (some g) :=
 ⟨k.os.trans h.os, k.tape.trans h.tape, k.output.trans h.output, Nat.le_trans h.size k.size, fun b hb hne => (k.block b (Nat.lt_of_lt_of_le hb h.size) (fun e => by
  rcases hr b e.symm with h1 | h1
  ·exact hne (by rw [h1])
  ·omega)).trans (h.block b hb hne)⟩
theorem gr_refl (w : World) (row : Option Nat) : w.grownBy w row := ⟨rfl, rfl, rfl, Nat.le_refl _, fun _ _ _ => rfl⟩
theorem gr_below {w w1 w2 : World} {g : Nat} (h : w.grownBy w1 (some g)) (k : Below w1.heap.size w1 w2) : w.grownBy w2 (some g) :=
 gr_then (row := none) h ⟨k.os, k.tape, k.output, k.size, fun b hb _ => k.block b hb⟩ (fun b e => by cases e)
theorem gr_drewN {w w1 : World} {g : Nat} (h : w.grownBy w1 (some g)) (n : Nat) : w.grownBy (w1.drewN n) (some g) := gr_below h (pw_below_drewN (Below.refl _ _) n)
theorem gr_set {w w1 : World} {g : Nat} (h : w.grownBy w1 (some g)) {b : Nat} (hb : b = g ∨ w.heap.size ≤ b) (j : Nat) (u : Value) : w.grownBy (w1.setCell ⟨b, j, none⟩ u) (some g) :=
 gr_then (row := some b) h ⟨rfl, rfl, rfl, by simp [World.setCell], fun k hk hne => Below.heap_setCell _ _ _ _ (fun e => hne (by rw [e]))⟩ (fun k e => by cases e; exact hb)
theorem gr_gr {w w1 w2 : World} {g : Nat} (h : w.grownBy w1 (some g)) (k : w1.grownBy w2 (some g)) : w.grownBy w2 (some g) := gr_then h k (fun b e => by cases e; exact .inl rfl)
theorem gr_from {w w1 w2 : World} {g base : Nat} (h : Below base w w1) (hs : base ≤ w1.heap.size) (k : w1.grownBy w2 (some g)) (hb : base ≤ g) : Below base w w2 := h.grown k hs (fun b e => by cases e; exact hb)
theorem R_keptT {α : Type} {d : Kd α} {e base : Nat} {w w' : World} {ok : Nat → Prop} {v : Value} {xs : List α} {p : TypeId → Bool} (hE : d.E = []) (hp : p e = true) (h : Kd.R d e w base ok v xs) (k : KeptT p w w') : Kd.R d e w' base ok v xs :=
 Kd.R_mono (Kd.R_move (Kd.R_bound h) (fun b hb => by
  obtain ⟨_, _, _, q, hq, cells, hc⟩ := hb
  rw [hE] at hq
  have : q = e := by simpa using hq
  subst this
  exact k b _ _ _ hc hp)) (fun _ hk => hk.1)
theorem KeptT.row {α : Type} {d : Kd α} {e base : Nat} {w w' : World} {ok : Nat → Prop} {v : Value} {xs : List α} {p : TypeId → Bool} (hp : p e = false) (h : Kd.R d e w base ok v xs) (k : w.grownBy w' v.ownBlock) : KeptT p w w' := fun b cs2 t2 fr2 hb hq => k.block b (by
 rcases Nat.lt_or_ge b w.heap.size with hl | hl
 ·exact hl
 ·rw [Array.getElem?_eq_none hl] at hb; cases hb) (fun e2 => by
 obtain ⟨cells, hc⟩ := Kd.R_typed h b e2.symm
 rw [hc] at hb
 cases hb
 rw [hp] at hq
 cases hq)
def VBlk (w : World) (g : Nat) (o : ByteArray) (i : Bool) (r : ByteArray) (cv : Value) (l : ByteArray) (sv : Value) (h : ByteArray) (bv : Value) : Prop :=
 w.heap[g]? = some (.cells #[.string o, .bool i, .string r, cv, .string l, sv, .string h, bv] 69 (0, 0))
theorem VBlk.lt {w : World} {g : Nat} {o : ByteArray} {i : Bool} {r : ByteArray} {cv : Value} {l : ByteArray} {sv : Value} {h : ByteArray} {bv : Value} (k : VBlk w g o i r cv l sv h bv) : g < w.heap.size := blk_lt k
set_option maxRecDepth 100000 in
theorem parseLetter_ (w : World) (g : Nat) (o : ByteArray) (i : Bool) (r : ByteArray) (cv sv : Value) (h : ByteArray) (bv : Value) (s rest : ByteArray) (b : Bool) (hv : VBlk w g o i r cv ⟨#[]⟩ sv h bv)
  (h1 : semantic_zzAlpineLower.f s = some b) (h2 : strings_TrimPrefix.f s (if b then s.extract 0 1 else ⟨#[]⟩) = some rest) (h3 : b = true → 0 < s.size) :
  Calls Tryd.prog 43 #[.pointer (some ⟨g, 0, none⟩), .string s] w fun e w' => e = .returned (.string rest) ∧ VBlk w' g o i r cv (if b then s.extract 0 1 else ⟨#[]⟩) sv h bv ∧ w.grownBy w' (some g) := by
 unfold VBlk at hv ⊢
 have HG := Aside0.mk hv
 have H1 := Aside0.mk h1
 have H2 := Aside0.mk h2
 clear hv h1 h2
 cases b with
 | true =>
  simp only [if_true] at H2 ⊢
  have q1 : (1 ≤ (s.size : Int)) = True := eq_true (by have := h3 rfl; omega)
  have q2 : (1 ≤ s.size) = True := eq_true (by have := h3 rfl; omega)
  clear h3
  go_enter Tryd.func43, Tryd.ntmps43
  go_wp2_with (first | (go_at_call 54; (with_reducible refine (semantic_zzAlpineLower.calls s true _ H1.out).mono ?_); rintro e' w' ⟨rfl, ⟨nd, rfl⟩⟩; have g0 := blk_drewN HG.out nd; have x0 := (blk_cell HG.out 4).trans rfl; have f4 := blk_frozen g0 4; have g1 := blk_put (cs' := #[.string o, .bool i, .string r, cv, .string (s.extract 0 1), sv, .string h, bv]) g0 4 (.string (s.extract 0 1)) rfl; have x4 := (blk_cell g1 4).trans rfl; have G1 := Aside0.mk g1; clear g0 g1) | (go_at_call 53; (with_reducible refine (strings_TrimPrefix.calls s (s.extract 0 1) rest _ H2.out).mono ?_); rintro e' w' ⟨rfl, ⟨nd2, rfl⟩⟩))
  go_ret
  exact ⟨rfl, blk_drewN G1.out _, gr_drewN (gr_set (gr_drewN (gr_refl w _) _) (.inl rfl) _ _) _⟩
 | false =>
  simp only [Bool.false_eq_true, if_false] at H2 ⊢
  clear h3
  go_enter Tryd.func43, Tryd.ntmps43
  go_wp2_with (first | (go_at_call 54; (with_reducible refine (semantic_zzAlpineLower.calls s false _ H1.out).mono ?_); rintro e' w' ⟨rfl, ⟨nd, rfl⟩⟩; have x0 := (blk_cell HG.out 4).trans rfl) | (go_at_call 53; (with_reducible refine (strings_TrimPrefix.calls s ⟨#[]⟩ rest _ H2.out).mono ?_); rintro e' w' ⟨rfl, ⟨nd2, rfl⟩⟩))
  go_ret
  exact ⟨rfl, blk_drewN HG.out _, gr_drewN (gr_refl w _) _⟩
set_option maxRecDepth 100000 in
theorem parseHash_ (w : World) (g : Nat) (o : ByteArray) (i : Bool) (r : ByteArray) (cv sv : Value) (l : ByteArray) (h : ByteArray) (bv : Value) (s hs rest : ByteArray) (k : Nat) (hv : VBlk w g o i r cv l sv h bv)
  (h1 : semantic_zzAlpineHash.f k s = some hs) (h2 : strings_TrimPrefix.f s hs = some rest) :
  Calls Tryd.prog 45 #[.pointer (some ⟨g, 0, none⟩), .string s] w fun e w' => e = .returned (.string rest) ∧ VBlk w' g o i r cv l sv hs bv ∧ w.grownBy w' (some g) := by
 unfold VBlk at hv ⊢
 have HG := Aside0.mk hv
 have H1 := Aside0.mk h1
 have H2 := Aside0.mk h2
 clear hv h1 h2
 go_enter Tryd.func45, Tryd.ntmps45
 go_wp2_with (first | (go_at_call 57; (with_reducible refine (semantic_zzAlpineHash.calls k s hs _ H1.out).mono ?_); rintro e' w' ⟨rfl, ⟨nd, rfl⟩⟩; have g0 := blk_drewN HG.out nd; have x0 := (blk_cell HG.out 6).trans rfl; have f6 := blk_frozen g0 6; have g1 := blk_put (cs' := #[.string o, .bool i, .string r, cv, .string l, sv, .string hs, bv]) g0 6 (.string hs) rfl; have x6 := (blk_cell g1 6).trans rfl; have G1 := Aside0.mk g1; clear g0 g1) | (go_at_call 53; (with_reducible refine (strings_TrimPrefix.calls s hs rest _ H2.out).mono ?_); rintro e' w' ⟨rfl, ⟨nd2, rfl⟩⟩))
 go_ret
 exact ⟨rfl, blk_drewN G1.out _, gr_drewN (gr_set (gr_drewN (gr_refl w _) _) (.inl rfl) _ _) _⟩
set_option maxRecDepth 100000 in
theorem alpBuild_no (w : World) (s : ByteArray) (h1 : semantic_zzHas.f s 0 ⟨#[45, 114]⟩ = some false) :
  Calls Tryd.prog 58 #[.string s] w fun e w' => e = .returned (.slice none 0 0) ∧ Below w.heap.size w w' := by
 have HB := Aside0.mk (Below.refl w.heap.size w)
 have H1 := Aside0.mk h1
 clear h1
 go_enter Tryd.func58, Tryd.ntmps58
 go_wp2_with (first | (go_at_call 72; (with_reducible refine (semantic_zzHas.calls s 0 ⟨#[45, 114]⟩ false _ H1.out).mono ?_); rintro e' w' ⟨rfl, ⟨nd, rfl⟩⟩))
 go_ret
 exact ⟨rfl, pw_below_drewN HB.out _⟩
set_option maxRecDepth 100000 in
theorem alpBuild_yes (w : World) (s : ByteArray) (k n : Nat) (h1 : semantic_zzHas.f s 0 ⟨#[45, 114]⟩ = some true) (h2 : semantic_zzDigits.f k s 2 = some (n : Int)) (h3 : 2 ≤ n) (h4 : n ≤ s.size) :
  Calls Tryd.prog 58 #[.string s] w fun e w' => e = .returned (.slice (some ⟨w.heap.size, 0, none⟩) 2 2) ∧ w'.heap[w.heap.size]? = some (.cells #[.string (s.extract 0 n), .string (s.extract 2 n)] 9 (0, 0)) ∧ Below w.heap.size w w' := by
 have HB := Aside0.mk (Below.refl w.heap.size w)
 have H1 := Aside0.mk h1
 have H2 := Aside0.mk h2
 have q1 : (0 ≤ (n : Int)) = True := eq_true (by omega)
 have q2 : ((n : Int) ≤ (s.size : Int)) = True := eq_true (by omega)
 have q3 : (2 ≤ (n : Int)) = True := eq_true (by omega)
 have q4 : (n ≤ s.size) = True := eq_true (by omega)
 have q5 : (2 ≤ n) = True := eq_true (by omega)
 have q6 : decide (n ≤ s.size) = true := decide_eq_true (by omega)
 have q7 : decide (2 ≤ n) = true := decide_eq_true (by omega)
 clear h1 h2 h3 h4
 go_enter Tryd.func58, Tryd.ntmps58
 go_upto_region 4 with (first | (go_at_call 72; (with_reducible refine (semantic_zzHas.calls s 0 ⟨#[45, 114]⟩ true _ H1.out).mono ?_); rintro e' w' ⟨rfl, ⟨nd, rfl⟩⟩) | (go_at_call 68; (with_reducible refine (semantic_zzDigits.calls k s 2 (n : Int) _ H2.out).mono ?_); rintro e' w' ⟨rfl, ⟨nd2, rfl⟩⟩))
 go_region_with (fail)
 all_goals (try go_wp2)
 all_goals go_ret
 all_goals exact ⟨rfl, blk_new (w.drewN _) _, below_alloc (pw_below_drewN HB.out _) _⟩
end Go.Proofs.YtapaijpglfmfgaaDoorG
end
section -- A7
namespace Go.Proofs.YtapaijpglfmfgaaDoorG
open Go.RowKit Go.Proofs.YtapaijpglfmfgaaDoorH Go.Proofs.YtapaijpglfmfgaaDoor.S Go.Proofs.YtapaijpglfmfgaaDoorW.PrintWords Go.Proofs.YtapaijpglfmfgaaDoorW.PrintLast
set_option linter.unusedVariables false
set_option linter.unusedSimpArgs false
theorem conv_at (W : World) (s : ByteArray) (hp : Plain s) (hG : GLe W) (hd : AllDig s) :
  Calls Tryd.prog 52 #[.string s] W fun e w' => ∃ a, e = .returned (.tuple #[.pointer (some ⟨a, 0, none⟩), .nilIface]) ∧ BigAt w' a (dv s s.size) ∧ Below W.heap.size W w' := by
 refine (conv_yes W s hp hG hd).mono ?_
 rintro e w' ⟨rfl, h1, h2⟩
 exact ⟨_, rfl, h1, h2⟩
theorem GLe.lt {w w' : World} (h : GLe w) (hb : Below w.heap.size w w') : GLe w' := h.below hb (Nat.le_refl _)
set_option maxRecDepth 100000 in
theorem parseBuild_e (w : World) (g : Nat) (s : ByteArray) (h0 : s.toList = []) :
  Calls Tryd.prog 46 #[.pointer (some ⟨g, 0, none⟩), .string s] w fun e w' => e = .returned (.tuple #[.string s, .nilIface]) ∧ w' = w := by
 have e1 : (s.toList == []) = true := by simpa using h0
 have e2 : (s.toList != []) = false := by simpa using h0
 have e3 : s.toList.isEmpty = true := by simpa using h0
 clear h0
 go_enter Tryd.func46, Tryd.ntmps46
 go_wp2
 go_ret2
 exact ⟨rfl, rfl⟩
theorem eql_nil_nil : ∀ W : World, (binOp .eql 42 (.slice none 0 0) (.slice none 0 0)).run Tryd.prog W = .ok (.bool true) W := by
 intro W
 have h : ∀ d : Nat, (Op.equalIn (d + 1) 42 (.slice none 0 0) (.slice none 0 0)).run Tryd.prog W = .ok true W := fun d => by
  simp [Op.equalIn, run_underlying Tryd.underlying42]
 simp only [binOp]
 simp [Op.equal, Op.maxDepth, h 9999]
set_option maxRecDepth 100000 in
theorem parseBuild_n (w : World) (g : Nat) (o : ByteArray) (i : Bool) (r : ByteArray) (cv sv : Value) (l h : ByteArray) (bv : Value) (s : ByteArray) (hv : VBlk w g o i r cv l sv h bv) (h0 : s.toList ≠ []) (h1 : semantic_zzHas.f s 0 ⟨#[45, 114]⟩ = some false) :
  Calls Tryd.prog 46 #[.pointer (some ⟨g, 0, none⟩), .string s] w fun e w' => e = .returned (.tuple #[.string s, .nilIface]) ∧ VBlk w' g o true r cv l sv h bv ∧ w.grownBy w' (some g) := by
 unfold VBlk at hv ⊢
 have e1 : (s.toList == []) = false := by simpa using h0
 have e2 : (s.toList != []) = true := by simpa using h0
 have e3 : s.toList.isEmpty = false := by simpa using h0
 have HG := Aside0.mk hv
 have HC := Aside0.mk (alpBuild_no w s h1)
 have z1 := eql_nil_nil
 clear h0 hv h1
 go_enter Tryd.func46, Tryd.ntmps46
 go_wp2_with (first | (go_at_call 58; (with_reducible refine HC.out.mono ?_); rintro e' w1 ⟨rfl, hb⟩; have g0 := blk_below HG.out hb; have x0 := (blk_cell g0 1).trans rfl; have f0 := blk_frozen g0 1; have g1 := blk_put (cs' := #[.string o, .bool true, .string r, cv, .string l, sv, .string h, bv]) g0 1 (.bool true) rfl; have G1 := Aside0.mk g1; have B1 := Aside0.mk hb; clear g0 g1 hb))
 go_ret2
 exact ⟨rfl, G1.out, gr_set (gr_below (gr_refl w _) B1.out) (.inl rfl) _ _⟩
def or0 (d : ByteArray) : ByteArray := if d.toList = [] then ⟨#[48]⟩ else d
theorem eql_slice_nil (a : Addr) (n c : Nat) : ∀ W : World, (binOp .eql 42 (.slice (some a) n c) (.slice none 0 0)).run Tryd.prog W = .ok (.bool false) W := by
 intro W
 have h : ∀ d : Nat, (Op.equalIn (d + 1) 42 (.slice (some a) n c) (.slice none 0 0)).run Tryd.prog W = .ok false W := fun d => by
  simp [Op.equalIn, run_underlying Tryd.underlying42]
 simp only [binOp]
 simp [Op.equal, Op.maxDepth, h 9999]
set_option maxRecDepth 100000 in
theorem parseBuild_y (w : World) (g : Nat) (o : ByteArray) (i : Bool) (r : ByteArray) (cv sv : Value) (l h : ByteArray) (bv : Value) (s rest : ByteArray) (k n : Nat) (hv : VBlk w g o i r cv l sv h bv) (hGL : GLe w) (h0 : s.toList ≠ [])
  (h1 : semantic_zzHas.f s 0 ⟨#[45, 114]⟩ = some true) (h2 : semantic_zzDigits.f k s 2 = some (n : Int)) (h3 : 2 ≤ n) (h4 : n ≤ s.size) (h5 : Plain (or0 (s.extract 2 n))) (h6 : AllDig (or0 (s.extract 2 n))) (h7 : strings_TrimPrefix.f s (s.extract 0 n) = some rest) :
  Calls Tryd.prog 46 #[.pointer (some ⟨g, 0, none⟩), .string s] w fun e w' => ∃ a, e = .returned (.tuple #[.string rest, .nilIface]) ∧ VBlk w' g o i r cv l sv h (.pointer (some ⟨a, 0, none⟩)) ∧ BigAt w' a (dv (or0 (s.extract 2 n)) (or0 (s.extract 2 n)).size) ∧ w.grownBy w' (some g) := by
 have hlt := hv.lt
 unfold VBlk at hv ⊢
 have e1 : (s.toList == []) = false := by simpa using h0
 have e2 : (s.toList != []) = true := by simpa using h0
 have e3 : s.toList.isEmpty = false := by simpa using h0
 have HG := Aside0.mk hv
 have hC := alpBuild_yes w s k n h1 h2 h3 h4
 obtain ⟨d0, hd0⟩ : ∃ d, d = s.extract 0 n := ⟨_, rfl⟩
 obtain ⟨d1, hd1⟩ : ∃ d, d = s.extract 2 n := ⟨_, rfl⟩
 rw [← hd0] at hC h7
 rw [← hd1] at hC h5 h6 ⊢
 have HC := Aside0.mk hC
 have HS := Aside0.mk h7
 have HNE := Aside0.mk (show w.heap.size ≠ g by omega)
 have HMS := Aside0.mk (Nat.le_refl w.heap.size)
 have z1 := eql_slice_nil ⟨w.heap.size, 0, none⟩ 2 2
 clear h0 hv h1 h2 h3 h4 h7 hlt hC hd0 hd1
 by_cases hd : d1.toList = []
 ·have c1 : (d1.toList == []) = true := by simpa using hd
  have c2 : (d1.toList != []) = false := by simpa using hd
  have c3 : d1.toList.isEmpty = true := by simpa using hd
  have eo : or0 d1 = ⟨#[48]⟩ := if_pos hd
  rw [eo] at h5 h6 ⊢
  have HV := Aside0.mk (fun W (hb : Below w.heap.size w W) => conv_at W _ h5 (hGL.lt hb) h6)
  clear hd eo h5 h6 hGL
  go_enter Tryd.func46, Tryd.ntmps46
  go_wp2_with (first | (go_at_call 58; (with_reducible refine HC.out.mono ?_); rintro e' w1 ⟨rfl, hm1, hb⟩; have y0 := (blk_cell hm1 1).trans rfl; have yf := blk_frozen hm1 1; have hm2 := blk_put (cs' := #[.string d0, .string ⟨#[48]⟩]) hm1 1 (.string ⟨#[48]⟩) rfl; have y1 := (blk_cell hm2 1).trans rfl; have M2 := Aside0.mk hm2; have B2 := Aside0.mk (below_set (v := .string ⟨#[48]⟩) (j := 1) hb HMS.out); clear hm1 hm2 hb) | (go_at_call 52; (with_reducible refine (HV.out _ B2.out).mono ?_); rintro e' w3 ⟨a, rfl, hA, hb⟩; have B3 := Aside0.mk (below_step B2.out hb); have HA := Aside0.mk hA; have g0 := blk_below HG.out B3.out; have x0 := (blk_cell g0 7).trans rfl; have f0 := blk_frozen g0 7; have g1 := blk_put (cs' := #[.string o, .bool i, .string r, cv, .string l, sv, .string h, .pointer (some ⟨a, 0, none⟩)]) g0 7 (.pointer (some ⟨a, 0, none⟩)) rfl; have G0 := Aside0.mk g0; have G1 := Aside0.mk g1; have hm3 := blk_below M2.out hb; have y3 := (blk_cell (blk_far hm3 (p := ⟨g, 7, none⟩) HNE.out (.pointer (some ⟨a, 0, none⟩))) 0).trans rfl; clear g0 g1 hm3 hb hA) | (go_at_call 53; (with_reducible refine (strings_TrimPrefix.calls s d0 rest _ HS.out).mono ?_); rintro e' w' ⟨rfl, ⟨nd2, rfl⟩⟩))
  go_ret2
  exact ⟨a, rfl, blk_drewN G1.out _, (HA.out.kept (KeptT.set G0.out (by decide) 7 _)).below (pw_below_drewN (Below.refl _ _) _), gr_drewN (gr_set (gr_below (gr_refl w _) B3.out) (.inl rfl) _ _) _⟩
 ·have c1 : (d1.toList == []) = false := by simpa using hd
  have c2 : (d1.toList != []) = true := by simpa using hd
  have c3 : d1.toList.isEmpty = false := by simpa using hd
  have eo : or0 d1 = d1 := if_neg hd
  rw [eo] at h5 h6 ⊢
  have HV := Aside0.mk (fun W (hb : Below w.heap.size w W) => conv_at W _ h5 (hGL.lt hb) h6)
  clear hd eo h5 h6 hGL
  go_enter Tryd.func46, Tryd.ntmps46
  go_wp2_with (first | (go_at_call 58; (with_reducible refine HC.out.mono ?_); rintro e' w1 ⟨rfl, hm1, hb⟩; have y0 := (blk_cell hm1 1).trans rfl; have M2 := Aside0.mk hm1; have B2 := Aside0.mk hb; clear hm1 hb) | (go_at_call 52; (with_reducible refine (HV.out _ B2.out).mono ?_); rintro e' w3 ⟨a, rfl, hA, hb⟩; have B3 := Aside0.mk (below_step B2.out hb); have HA := Aside0.mk hA; have g0 := blk_below HG.out B3.out; have x0 := (blk_cell g0 7).trans rfl; have f0 := blk_frozen g0 7; have g1 := blk_put (cs' := #[.string o, .bool i, .string r, cv, .string l, sv, .string h, .pointer (some ⟨a, 0, none⟩)]) g0 7 (.pointer (some ⟨a, 0, none⟩)) rfl; have G0 := Aside0.mk g0; have G1 := Aside0.mk g1; have hm3 := blk_below M2.out hb; have y3 := (blk_cell (blk_far hm3 (p := ⟨g, 7, none⟩) HNE.out (.pointer (some ⟨a, 0, none⟩))) 0).trans rfl; clear g0 g1 hm3 hb hA) | (go_at_call 53; (with_reducible refine (strings_TrimPrefix.calls s d0 rest _ HS.out).mono ?_); rintro e' w' ⟨rfl, ⟨nd2, rfl⟩⟩))
  go_ret2
  exact ⟨a, rfl, blk_drewN G1.out _, (HA.out.kept (KeptT.set G0.out (by decide) 7 _)).below (pw_below_drewN (Below.refl _ _) _), gr_drewN (gr_set (gr_below (gr_refl w _) B3.out) (.inl rfl) _ _) _⟩
end Go.Proofs.YtapaijpglfmfgaaDoorG
end
section -- A8
namespace Go.Proofs.YtapaijpglfmfgaaDoorG
open Go.RowKit Go.Proofs.YtapaijpglfmfgaaDoorH Go.Proofs.YtapaijpglfmfgaaDoor.S Go.Proofs.YtapaijpglfmfgaaDoorW.PrintWords Go.Proofs.YtapaijpglfmfgaaDoorW.PrintLast
set_option linter.unusedVariables false
set_option linter.unusedSimpArgs false
theorem infoNum : (Tryd.prog.info? 103).map (fun i => (i.zero, i.size, i.bytes)) = some (some (.agg #[.string ⟨#[]⟩, .pointer none, .int .i64 0]), 3, 32) := by kernel_rfl
theorem infoSuf : (Tryd.prog.info? 106).map (fun i => (i.zero, i.size, i.bytes)) = some (some (.agg #[.int .i64 0, .pointer none]), 2, 16) := by kernel_rfl
def nmCell (x : Nm × Nat) : List Value := [.string x.1.o, .pointer (some ⟨x.1.a, 0, none⟩), .int .i64 (x.2 : Int)]
def nmCells (l : List Nm) : List (List Value) := l.zipIdx.map nmCell
theorem nmCells_snoc (l : List Nm) (x : Nm) : nmCells (l ++ [x]) = nmCells l ++ [[.string x.o, .pointer (some ⟨x.a, 0, none⟩), .int .i64 (l.length : Int)]] := by
 unfold nmCells
 rw [Kd.zip_snoc]
 simp [nmCell]
theorem nmCells_len (l : List Nm) : (nmCells l).length = l.length := by simp [nmCells]
def NGood (w : World) (x : Nm) : Prop := BigAt w x.a x.n ∧ x.n = dv x.o x.o.size ∧ 0 < x.o.size
def NOwn (w : World) (base : Nat) (v : Value) (l : List Nm) : Prop := Kd.R (Kd.raw 3) 103 w base (fun _ => True) v (nmCells l) ∧ ∀ x ∈ l, NGood w x
theorem NOwn.crow {w : World} {base : Nat} {v : Value} {l : List Nm} (h : NOwn w base v l) (hl : l.length ≤ 1000000) : CRow w v l := by
 obtain ⟨hr, hx⟩ := h
 rcases Nat.eq_zero_or_pos l.length with h0 | h0
 ·obtain ⟨A, c, e, _⟩ := Kd.R_reads hr
  rw [nmCells_len] at e
  exact ⟨A, c, e, hl, fun i x hi => by rw [List.eq_nil_of_length_eq_zero h0] at hi; simp at hi⟩
 ·obtain ⟨g, cap, e, _⟩ := Kd.R_form hr (by rw [nmCells_len]; exact h0)
  subst e
  refine ⟨some ⟨g, 0, none⟩, cap, by rw [nmCells_len], hl, fun i x hi => ⟨g, rfl, ?_⟩⟩
  have hil : i < l.length := (List.getElem?_eq_some_iff.1 hi).1
  obtain ⟨c, hc1, hM, hcc, _⟩ := Kd.R_elem hr [] (i : Int) (by omega) (by rw [nmCells_len]; omega)
  have hgd : (nmCells l).getD (i : Int).toNat [] = [.string x.o, .pointer (some ⟨x.a, 0, none⟩), .int .i64 (i : Int)] := by
   rw [List.getD_eq_getElem?_getD]
   unfold nmCells
   rw [List.getElem?_map, show ((i : Int).toNat) = i by omega, Kd.zip_at hi]
   rfl
  rw [hgd] at hM
  obtain ⟨rfl, _⟩ := hM
  have h0' := hcc 0 _ rfl
  have h1' := hcc 1 _ rfl
  have h2' := hcc 2 _ rfl
  obtain ⟨k1, _, k3⟩ := hx x (List.mem_of_getElem? hi)
  exact ⟨h0', h1', h2', k1, k3⟩
theorem NGood.below {w w' : World} {x : Nm} (h : NGood w x) (hb : Below w.heap.size w w') : NGood w' x := ⟨h.1.below hb, h.2⟩
theorem NGood.kept {w w' : World} {x : Nm} (h : NGood w x) (hb : KeptT numT w w') : NGood w' x := ⟨h.1.kept hb, h.2⟩
theorem KeptT.sub {p q : TypeId → Bool} {w w' : World} (h : KeptT q w w') (hpq : ∀ t, p t = true → q t = true) : KeptT p w w' := fun k cs t fr hk hp => h k cs t fr hk (hpq t hp)
theorem KeptT.blk {p : TypeId → Bool} {w w' : World} {g : Nat} {cs : Array Value} {t : TypeId} {fr : Nat × Nat} (h : KeptT p w w') (hg : w.heap[g]? = some (.cells cs t fr)) (hp : p t = true) : w'.heap[g]? = some (.cells cs t fr) := (h g cs t fr hg hp).trans hg
def takeNe (l : List ByteArray) : List ByteArray := l.takeWhile (fun d => decide (d.toList ≠ []))
theorem takeNe_at {l : List ByteArray} {k : Nat} (h1 : ∀ d ∈ l.take k, d.toList ≠ []) : (l.length ≤ k ∨ ∃ d, l[k]? = some d ∧ d.toList = []) → takeNe l = l.take k := by
 induction l generalizing k with
 | nil => simp [takeNe]
 | cons a l ih =>
  intro h
  cases k with
  | zero =>
   rcases h with h | ⟨d, h2, h3⟩
   ·simp at h
   ·simp at h2
    subst h2
    simp [takeNe, h3]
  | succ k =>
   have ha : a.toList ≠ [] := h1 a (by simp)
   have := ih (k := k) (fun d hd => h1 d (by simp [hd])) (by simpa using h)
   simp only [takeNe, List.takeWhile_cons, List.take_succ_cons] at this ⊢
   rw [if_pos (by simpa using ha), this]
theorem takeNe_mem {l : List ByteArray} {k : Nat} {d : ByteArray} (h1 : ∀ d ∈ l.take k, d.toList ≠ []) (h2 : l[k]? = some d) (h3 : d.toList ≠ []) : d ∈ takeNe l := by
 induction l generalizing k with
 | nil => simp at h2
 | cons a l ih =>
  cases k with
  | zero =>
   simp at h2
   subst h2
   simp [takeNe, h3]
  | succ k =>
   have ha : a.toList ≠ [] := h1 a (by simp)
   have := ih (k := k) (fun d hd => h1 d (by simp [hd])) (by simpa using h2)
   simp only [takeNe, List.takeWhile_cons] at this ⊢
   rw [if_pos (by simpa using ha)]
   exact List.mem_cons_of_mem _ this
set_option maxRecDepth 100000 in
theorem parseNums_e (w : World) (g : Nat) (s sub : ByteArray) (k : Nat) (h1 : semantic_zzAlpineNumbers.f k s = some sub) (h0 : sub.toList = []) :
  Calls Tryd.prog 42 #[.pointer (some ⟨g, 0, none⟩), .string s] w fun e w' => e = .returned (.tuple #[.string s, .nilIface]) ∧ ∃ n, w' = w.drewN n := by
 have e1 : (sub.toList == []) = true := by simpa using h0
 have e2 : (sub.toList != []) = false := by simpa using h0
 have e3 : sub.toList.isEmpty = true := by simpa using h0
 have H1 := Aside0.mk h1
 clear h0 h1
 go_enter Tryd.func42, Tryd.ntmps42
 go_wp2_with (first | (go_at_call 50; (with_reducible refine (semantic_zzAlpineNumbers.calls k s sub _ H1.out).mono ?_); rintro e' w' ⟨rfl, ⟨nd, rfl⟩⟩))
 go_ret2
 exact ⟨rfl, _, rfl⟩
structure NInv (w wr : World) (g : Nat) (o : ByteArray) (i : Bool) (r : ByteArray) (cv : Value) (l : ByteArray) (sv : Value) (h : ByteArray) (bv : Value) (sp : Value) (parts : List ByteArray) (k : Nat) (ns : List Nm) : Prop where
  told : ns.map (·.o) = parts.take k
  ne : ∀ d ∈ parts.take k, d.toList ≠ []
  blk : VBlk wr g o i r cv l sv h bv
  own : NOwn wr w.heap.size cv ns
  row : Kd.R Kd.string 9 wr w.heap.size (fun _ => True) sp parts
  gr : w.grownBy wr (some g)
theorem NInv.below {w wr w' : World} {g : Nat} {o : ByteArray} {i : Bool} {r : ByteArray} {cv : Value} {l : ByteArray} {sv : Value} {h : ByteArray} {bv sp : Value} {parts : List ByteArray} {k : Nat} {ns : List Nm} (H : NInv w wr g o i r cv l sv h bv sp parts k ns) (hb : Below wr.heap.size wr w') : NInv w w' g o i r cv l sv h bv sp parts k ns :=
 ⟨H.told, H.ne, blk_below H.blk hb, ⟨Kd.R_below H.own.1 hb, fun x hx => (H.own.2 x hx).below hb⟩, Kd.R_below H.row hb, gr_below H.gr hb⟩
def notNum (t : TypeId) : Bool := t != 103
theorem numT_notNum (t : TypeId) (h : numT t = true) : notNum t = true := by
 unfold numT at h
 unfold notNum
 rcases Bool.or_eq_true_iff.mp h with h | h
 ·rw [of_decide_eq_true h]; decide
 ·rw [of_decide_eq_true h]; decide
theorem NInv.step {w wr w7 : World} {g : Nat} {o : ByteArray} {i : Bool} {r : ByteArray} {cv v1 : Value} {l : ByteArray} {sv : Value} {h : ByteArray} {bv sp : Value} {parts : List ByteArray} {k : Nat} {ns : List Nm} (H : NInv w wr g o i r cv l sv h bv sp parts k ns) {d : ByteArray} {a : Nat} (hd : parts[k]? = some d) (hne : d.toList ≠ []) (hA : BigAt wr a (dv d d.size)) (hs : 0 < d.size)
    (ho : Kd.R (Kd.raw 3) 103 w7 w.heap.size (fun _ => True) v1 (nmCells ns ++ [[.string d, .pointer (some ⟨a, 0, none⟩), .int .i64 (k : Int)]])) (hg : wr.grownBy w7 cv.ownBlock) : NInv w (w7.setCell ⟨g, 3, none⟩ v1) g o i r v1 l sv h bv sp parts (k + 1) (ns ++ [⟨d, a, dv d d.size⟩]) := by
  have hk : ns.length = k := by
    have := congrArg List.length H.told
    have hkl := (List.getElem?_eq_some_iff.1 hd).1
    simpa [Nat.min_eq_left (Nat.le_of_lt hkl)] using this
  have K : KeptT notNum wr w7 := KeptT.row (by decide) H.own.1 hg
  have KN : KeptT numT wr w7 := K.sub numT_notNum
  have B7 : VBlk w7 g o i r cv l sv h bv := K.blk H.blk (by decide)
  have KN2 : KeptT numT wr (w7.setCell ⟨g, 3, none⟩ v1) := KN.trans (KeptT.set B7 (by decide) 3 _)
  have ht : parts.take (k + 1) = parts.take k ++ [d] := by
    rw [List.take_add_one, hd]; rfl
  refine ⟨by rw [ht, List.map_append, H.told]; rfl, fun x hx => ?_, blk_put B7 3 _ rfl, ⟨?_, fun x hx => ?_⟩, ?_, ?_⟩
  · rw [ht] at hx
    rcases List.mem_append.mp hx with hx | hx
    · exact H.ne x hx
    · simp at hx; subst hx; exact hne
  · rw [nmCells_snoc, hk]
    exact Kd.R_set ho B7 (by intro q hq; have : q = 103 := by simpa [Kd.raw] using hq
                             subst this; decide) 3 _
  · rcases List.mem_append.mp hx with hx | hx
    · exact (H.own.2 x hx).kept KN2
    · simp at hx; subst hx; exact ⟨hA.kept KN2, rfl, hs⟩
  · refine R_keptT (p := fun t => t == 9) rfl (by decide) H.row ((K.sub fun t ht => ?_).trans (KeptT.set B7 (by decide) 3 _))
    rw [of_decide_eq_true ht]; decide
  · refine gr_set (gr_then H.gr hg (fun b hb => ?_)) (.inl rfl) _ _
    exact .inr (Kd.R_base H.own.1 b hb)
set_option maxRecDepth 100000 in
set_option maxHeartbeats 4000000 in
theorem parseNums_ (w : World) (g : Nat) (o : ByteArray) (i : Bool) (r : ByteArray) (sv : Value) (l h : ByteArray) (bv : Value) (s sub rest : ByteArray) (k1 k2 : Nat) (parts : List ByteArray) (hv : VBlk w g o i r (.slice none 0 0) l sv h bv) (hGL : ∀ W, w.grownBy W (some g) → GLe W)
    (h1 : semantic_zzAlpineNumbers.f k1 s = some sub) (h0 : sub.toList ≠ []) (h2 : semantic_zzSplit.f k2 sub ⟨#[46]⟩ = some parts) (hp : 0 < parts.length) (hl : parts.length ≤ 1000000) (h4 : ∀ d ∈ takeNe parts, Plain d ∧ AllDig d) (h5 : strings_TrimPrefix.f s sub = some rest) :
    Calls Tryd.prog 42 #[.pointer (some ⟨g, 0, none⟩), .string s] w fun e w' => ∃ cv ns, e = .returned (.tuple #[.string rest, .nilIface]) ∧ VBlk w' g o i r cv l sv h bv ∧ NOwn w' w.heap.size cv ns ∧ ns.map (·.o) = takeNe parts ∧ w.grownBy w' (some g) := by
  have e1 : (sub.toList == []) = false := by simpa using h0
  have e2 : (sub.toList != []) = true := by simpa using h0
  have e3 : sub.toList.isEmpty = false := by simpa using h0
  have HG := Aside0.mk hv
  have H1 := Aside0.mk h1
  have H2 := Aside0.mk h2
  have H4 := Aside0.mk h4
  have H5 := Aside0.mk h5
  have HGL := Aside0.mk hGL
  have HP := Aside0.mk hp
  have HL := Aside0.mk hl
  clear h0 h1 h2 h4 h5 hv hGL hp hl
  go_enter Tryd.func42, Tryd.ntmps42
  go_wp2_with (first | (go_at_call 50; (with_reducible refine (semantic_zzAlpineNumbers.calls k1 s sub _ H1.out).mono ?_); rintro e' w' ⟨rfl, ⟨nd, rfl⟩⟩) | (go_at_call 51; (with_reducible refine (semantic_zzSplit.calls k2 sub ⟨#[46]⟩ parts _ H2.out).mono ?_); rintro e' w1 ⟨sp, rfl, hr, hb⟩; obtain ⟨b, cap, rfl, hb1, hb2, hb3⟩ := Kd.R_form hr HP.out; have B1 := Aside0.mk (below_then (pw_below_drewN (Below.refl w.heap.size w) nd) (Nat.le_refl w.heap.size) hb); have R1 := Aside0.mk hr; clear hr hb hb1 hb2 hb3))
  have I0 : Aside0 (NInv w w1 g o i r (.slice none 0 0) l sv h bv (.slice (some ⟨b, 0, none⟩) parts.length cap) parts 0 []) := ⟨⟨rfl, fun d hd => by simp at hd, blk_below HG.out B1.out, ⟨Kd.R_nil _ _ _ _ _, fun x hx => by simp at hx⟩, R1.out, gr_below (gr_refl w _) B1.out⟩⟩
  go_loopw [19] (fun iv wr => ∃ (k : Nat) (ns : List Nm) (cv : Value), k ≤ parts.length ∧ iv = .int .i64 k ∧ Aside0 (NInv w wr g o i r cv l sv h bv (.slice (some ⟨b, 0, none⟩) parts.length cap) parts k ns)) (fun iv _ => parts.length - (intOf iv).toNat)
  case atStart => exact ⟨0, [], _, Nat.zero_le _, rfl, I0⟩
  case round =>
    obtain ⟨k, ns, cv, hk, rfl, HI⟩ := hrel
    by_cases hlt : k < parts.length
    · have i3 : decide ((k : Int) < (parts.length : Int)) = true := decide_eq_true (by omega)
      have i4 : ((k : Int) < (parts.length : Int)) = True := eq_true (by omega)
      have i5 : (0 ≤ (k : Int)) = True := eq_true (by omega)
      have WR : wrap64 ((k : Int) + 1) = ((k + 1 : Nat) : Int) := by have := HL.out; unfold wrap64; omega
      have LT := Aside0.mk hlt
      obtain ⟨d, hd⟩ : ∃ d, parts[k]? = some d := ⟨_, List.getElem?_eq_getElem (by omega)⟩
      have HD := Aside0.mk hd
      have y0 : wr.cell? ⟨b, k, none⟩ = some (.string d) := by
        obtain ⟨c, hc1, hM, hcc, _⟩ := Kd.R_elem HI.out.row ByteArray.empty (k : Int) (by omega) (by omega)
        have hgd : parts.getD (k : Int).toNat ByteArray.empty = d := by
          rw [List.getD_eq_getElem?_getD, show ((k : Int).toNat) = k by omega, hd]; rfl
        rw [hgd] at hM
        have hM2 : c = [.string d] := hM
        have := hcc 0 (.string d) (by rw [hM2]; rfl)
        rw [show (k : Int).toNat * Kd.string.sz + 0 = k by show (k : Int).toNat * 1 + 0 = k; omega] at this
        exact this
      clear hlt hk hd
      by_cases hde : d.toList = []
      · have c1 : (d.toList == []) = true := by simpa using hde
        have c2 : (d.toList != []) = false := by simpa using hde
        have c3 : d.toList.isEmpty = true := by simpa using hde
        have HE := Aside0.mk (takeNe_at HI.out.ne (.inr ⟨d, HD.out, hde⟩))
        clear hde
        go_wp2_with (first | (go_at_call 53; (with_reducible refine (strings_TrimPrefix.calls s sub rest _ H5.out).mono ?_); rintro e' w' ⟨rfl, ⟨nd2, rfl⟩⟩))
        go_ret2
        exact ⟨cv, ns, rfl, blk_drewN HI.out.blk _, ⟨Kd.R_drewN HI.out.own.1 _, fun x hx => (HI.out.own.2 x hx).below (pw_below_drewN (Below.refl _ _) _)⟩, by rw [HI.out.told, HE.out], gr_drewN HI.out.gr _⟩
      · have c1 : (d.toList == []) = false := by simpa using hde
        have c2 : (d.toList != []) = true := by simpa using hde
        have c3 : d.toList.isEmpty = false := by simpa using hde
        have HDE := Aside0.mk hde
        have hgood := H4.out d (takeNe_mem HI.out.ne HD.out hde)
        have HDS := Aside0.mk hgood.2.1
        have HNL : Aside0 (ns.length ≤ 1000000) := ⟨by have q1 := congrArg List.length HI.out.told; have q2 := HL.out; rw [List.length_map, List.length_take] at q1; omega⟩
        have HV := Aside0.mk (conv_at wr d hgood.1 (HGL.out wr HI.out.gr) hgood.2)
        clear hde hgood
        go_wp2_with (first | (go_at_call 52; (with_reducible refine HV.out.mono ?_); rintro e' w3 ⟨a, rfl, hA, hb⟩; have I3 := Aside0.mk (HI.out.below hb); have HA := Aside0.mk hA; have x3 := (blk_cell I3.out.blk 3).trans rfl; clear hb hA) | ((with_reducible refine gate_builtin (b := .append) (xs := #[.tmp 38, .tmp 43]) rfl ?_); at_builtin; refine Kd.R_append (Kd.raw 3) (w0 := w3) w.heap.size rfl (.tmp 38) (.tmp 43) 65 103 (.agg #[.string ⟨#[]⟩, .pointer none, .int .i64 0]) 32 rfl Tryd.underlying65 infoNum rfl (by decide) (by omega) cv (nmCells ns) [.string d, .pointer (some ⟨a, 0, none⟩), .int .i64 (k : Int)] [.string d, .pointer (some ⟨a, 0, none⟩), .int .i64 (k : Int)] (fun _ => True) (fun _ => False) rfl rfl ?aP (fun _ hk => hk.elim) (fun _ _ => trivial) I3.out.own.1 (Below.refl _ _) I3.out.gr.size ?aL ?_; (case aP => exact ⟨rfl, rfl, by intro u hu; simp at hu; rcases hu with rfl | rfl | rfl <;> rfl⟩); (case aL => rw [nmCells_len]; have := HNL.out; omega); intro v1 w7 ho hb hg hat; obtain ⟨A1, n1, cp1, rfl⟩ : ∃ A n c, v1 = .slice A n c := (by obtain ⟨A, c, e⟩ := Kd.R_slice ho; exact ⟨A, _, c, e⟩); have K7 := KeptT.row (p := notNum) (by decide) I3.out.own.1 hg; have B7 := Aside0.mk (K7.blk I3.out.blk (by decide)); have x7 := (blk_cell B7.out 3).trans rfl; have f7 := blk_frozen B7.out 3; have I7 := Aside0.mk (I3.out.step HD.out HDE.out HA.out HDS.out ho hg); clear ho hb hg hat K7))
        go_roundw
        all_goals first | exact ⟨k + 1, _, .slice A1 n1 cp1, LT.out, by first | rfl | go_num, I7⟩ | exact meas_up0 _ k LT.out | exact meas_up1 _ k LT.out | exact meas_up2 _ k LT.out WR
    · obtain rfl : k = parts.length := by omega
      have i3 : decide ((parts.length : Int) < (parts.length : Int)) = false := decide_eq_false (by omega)
      have i4 : ((parts.length : Int) < (parts.length : Int)) = False := eq_false (by omega)
      have HE := Aside0.mk (takeNe_at HI.out.ne (.inl (Nat.le_refl _)))
      clear hlt hk
      go_wp2_with (first | (go_at_call 53; (with_reducible refine (strings_TrimPrefix.calls s sub rest _ H5.out).mono ?_); rintro e' w' ⟨rfl, ⟨nd2, rfl⟩⟩))
      go_ret2
      exact ⟨cv, ns, rfl, blk_drewN HI.out.blk _, ⟨Kd.R_drewN HI.out.own.1 _, fun x hx => (HI.out.own.2 x hx).below (pw_below_drewN (Below.refl _ _) _)⟩, by rw [HI.out.told, HE.out], gr_drewN HI.out.gr _⟩
end Go.Proofs.YtapaijpglfmfgaaDoorG
end
