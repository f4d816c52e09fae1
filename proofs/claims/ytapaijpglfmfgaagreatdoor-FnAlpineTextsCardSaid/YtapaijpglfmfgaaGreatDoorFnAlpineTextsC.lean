/- Proved here, for the row of the law FnAlpineTexts: contracts of the Go functions that it reaches, each as its theorem 'calls' says, and the words and plain laws that they need (A13, A7, A8, A9, A10, A11, E1x1, E2x1, P, AQ, AR, AT, WEqStruct, Qx0, A14, Tx1, AX, AY). -/
import Derived.Test.YtapaijpglfmfgaaGreatDoorFnAlpineTextsB
import Derived.Below
import Derived.Deep.Draws
import Derived.Deep.AppendLies
import Derived.Maps.AppendAt
import Derived.OwnWalk
import Derived.Laws.BytesArg
import Derived.Laws.MakeOwn
import Derived.Laws.OwnMore
import Derived.Deep.OwnRows
import Derived.Tactics
import Derived.Lib.ConvBytes
import Derived.Laws.Slices
import Derived.WalkKit
import Derived.KernelRfl
import Derived.RowKit3
import Derived.Deep.LoopGhost
import Derived.Deep.QuietTactic
import Derived.BigQuiet
import Derived.WideLaws
import Derived.Deep.DeepCutAuto
import Derived.Deep.CutBlock
import Derived.Deep.RegionHeld3
import Derived.Laws.Rows
import Derived.Lib.AppendStr
import Derived.ArgAppend
import Derived.Laws.IdiomCopy
import Derived.RowKit
import Derived.Test.YtapaijpglfmfgaaGreatDoorProg
import Derived.OrdersHeld
import Derived.Laws.BitsLemmas
import Derived.Laws.ResultCell
import Derived.Laws.StructEq
import Derived.Laws.BitsAllLaws
set_option linter.unusedVariables false
set_option linter.unusedSimpArgs false
set_option maxHeartbeats 8000000
set_option maxRecDepth 100000
section
namespace Go.Proofs.YtapaijpglfmfgaaGreatDoorG
open Go.RowKit YtapaijpglfmfgaaGreatDoorH YtapaijpglfmfgaaGreatDoorB YtapaijpglfmfgaaGreatDoorM YtapaijpglfmfgaaGreatDoorW.PrintWords YtapaijpglfmfgaaGreatDoorW.PrintLast
def BC (n : Int) : Value := .int .u8 n
def Bs (w : World) (B : Nat) (l : List Int) : Prop := w.heap[B]? = some (.cells (l.map BC).toArray 5 (0, 0))
theorem Bs.cell {w : World} {B : Nat} {l : List Int} (h : Bs w B l) (i : Nat) (hi : i < l.length) : w.cell? ⟨B, i, none⟩ = some (.int .u8 (l.getD i 0)) := by
 unfold Bs at h
 simp [World.cell?, h, hi, BC, List.getD_eq_getElem?_getD]
theorem Bs.free {w : World} {B : Nat} {l : List Int} (h : Bs w B l) (i : Nat) : w.frozen? ⟨B, i, none⟩ = false := by
 unfold Bs at h
 simp [World.frozen?, h]
theorem Bs.set {w : World} {B : Nat} {l : List Int} (h : Bs w B l) (i : Nat) (v : Int) : Bs (w.setCell ⟨B, i, none⟩ (.int .u8 v)) B (l.set i v) := by
 unfold Bs at h ⊢
 have e1 : (w.setCell ⟨B, i, none⟩ (.int .u8 v)).heap[B]? = some (.cells ((l.map BC).toArray.setIfInBounds i (BC v)) 5 (0, 0)) := by
  simp [World.setCell, Array.getElem?_modify, h, BC]
 rw [e1]
 congr 2
 apply Array.toList_inj.1
 simp [List.map_set]
theorem Bs.below {w w' : World} {B : Nat} {l : List Int} (h : Bs w B l) (hb : Below w.heap.size w w') : Bs w' B l := by
 unfold Bs at h ⊢
 rw [hb.block B (Array.getElem?_eq_some_iff.1 h).1]
 exact h
def b8 (x j : Nat) : Int := ((x / 256 ^ j % 256 : Nat) : Int)
def bsx (x : Nat) : Nat → List Int
 | 0 => []
 | j + 1 => bsx x j ++ [b8 x j]
theorem bsx_len (x : Nat) : ∀ j, (bsx x j).length = j
 | 0 => rfl
 | j + 1 => by simp [bsx, bsx_len x j]
theorem bsx_byt (x : Nat) : ∀ j, Byt (bsx x j)
 | 0 => fun c hc => by simp [bsx] at hc
 | j + 1 => (bsx_byt x j).append (fun c hc => by have : c = b8 x j := (by simpa using hc); subst this; unfold b8; omega)
theorem bsx_val (x : Nat) : ∀ j, val (bsx x j) = x % 256 ^ j
 | 0 => by simp [bsx, val, Nat.mod_one]
 | j + 1 => by
  simp only [bsx]
  rw [zwg, bsx_val x j, bsx_len]
  unfold b8
  rw [Int.toNat_natCast, Nat.pow_succ, Nat.mod_mul]
def lb : List Nat → List Int
 | [] => []
 | x :: l => bsx x 8 ++ lb l
theorem lb_len : ∀ l, (lb l).length = 8 * l.length
 | [] => rfl
 | x :: l => by simp only [lb, List.length_append, bsx_len, lb_len l, List.length_cons]; omega
theorem lb_byt : ∀ l, Byt (lb l)
 | [] => fun c hc => by simp [lb] at hc
 | x :: l => (bsx_byt x 8).append (lb_byt l)
theorem lb_snoc : ∀ (l : List Nat) (x : Nat), lb (l ++ [x]) = lb l ++ bsx x 8
 | [], x => by simp [lb]
 | y :: l, x => by simp only [List.cons_append, lb, lb_snoc l x, List.append_assoc]
theorem val_append : ∀ (a b : List Int), val (a ++ b) = val a + 256 ^ a.length * val b
 | [], b => by simp [val]
 | x :: a, b => by
  simp only [List.cons_append, val, val_append a b, List.length_cons, Nat.pow_succ]
  rw [Nat.mul_add, Nat.mul_comm (256 ^ a.length) 256, Nat.mul_assoc, Nat.add_assoc]
theorem lb_val : ∀ l : List Nat, (∀ x ∈ l, IsW x) → val (lb l) = num l
 | [], _ => rfl
 | x :: l, h => by
  simp only [lb, num]
  have hx := h x List.mem_cons_self
  unfold IsW at hx
  have e : (256 : Nat) ^ 8 = W64 := by decide
  rw [val_append, bsx_val, bsx_len, lb_val l (fun y hy => h y (List.mem_cons_of_mem _ hy)), e, Nat.mod_eq_of_lt hx]
def zfe (L : Nat) (t : List Int) : List Int := List.replicate (L - t.length) 0 ++ t.reverse
theorem content_len {L : Nat} {t : List Int} (h : t.length ≤ L) : (zfe L t).length = L := by simp [zfe]; omega
theorem znj {L : Nat} {t : List Int} (b : Int) (h : t.length < L) : (zfe L t).set (L - t.length - 1) b = zfe L (t ++ [b]) := by
 unfold zfe
 have e : L - t.length = (L - t.length - 1) + 1 := by omega
 have e2 : L - (t ++ [b]).length = L - t.length - 1 := by simp; omega
 rw [e2, e, List.replicate_succ', List.append_assoc, List.reverse_append]
 rw [List.set_append]
 simp
theorem zhj (L : Nat) {t : List Int} (h : t.length = L) : zfe L t = t.reverse := by
 unfold zfe
 rw [h, Nat.sub_self]
 rfl
theorem meas8 (j : Nat) (h : j < 8) : 8 - (intOf (.int .i64 ((j + 1 : Nat) : Int))).toNat < 8 - (intOf (.int .i64 (j : Int))).toNat := by
 simp only [intOf]
 omega
theorem shr8 (x j : Nat) : x / 256 ^ j / 256 = x / 256 ^ (j + 1) := by rw [Nat.pow_succ, Nat.div_div_eq_div_mul]
theorem znh (l : List Int) (i : Nat) (h : ∀ j, j < i → l.getD j 0 = 0) (hi : i ≤ l.length) (hs : i = l.length ∨ l.getD i 0 ≠ 0) : l.drop i = l.dropWhile (fun x => decide (x = 0)) := by
 induction l generalizing i with
 | nil => simp
 | cons x l ih =>
  cases i with
  | zero =>
   rcases hs with hs | hs
   ·simp at hs
   ·have : x ≠ 0 := hs
    rw [List.dropWhile_cons_of_neg (by simpa using this)]
    rfl
  | succ i =>
   have hx : x = 0 := h 0 (by omega)
   rw [List.dropWhile_cons_of_pos (by simpa using hx), List.drop_succ_cons]
   refine ih i (fun j hj => h (j + 1) (by omega)) (by simpa using hi) ?_
   rcases hs with hs | hs
   ·left; simpa using hs
   ·right; exact hs
theorem bytes_ (w : World) (B By : Nat) (vx : Value) (l : List Nat) (hx : NatS w By vx l) (hl : l.length ≤ 1000000) (hB : Bs w B (List.replicate (8 * l.length) 0)) (hne : ∀ g n c, vx = .slice (some ⟨g, 0, none⟩) n c → g ≠ B) :
  Calls Tryz.prog 91 #[vx, .slice (some ⟨B, 0, none⟩) (8 * l.length) (8 * l.length)] w fun e w' => ∃ i : Nat, e = .returned (.int .i64 (i : Int)) ∧ i ≤ 8 * l.length ∧ Bs w' B (lb l).reverse ∧ (lb l).reverse.drop i = (lb l).reverse.dropWhile (fun x => decide (x = 0)) ∧ w.grownBy w' (some B) := by
 obtain ⟨g, c, p, rfl, rx⟩ := hx.reads
 have hne2 : l.length ≠ 0 → g ≠ B := fun h => hne g _ _ (by rw [(rx h).1])
 obtain ⟨L, hL⟩ : ∃ L, L = 8 * l.length := ⟨_, rfl⟩
 rw [← hL] at hB
 have eL : ((8 * l.length : Nat)) = L := hL.symm
 rw [eL]
 have RX := za.mk rx
 have NE := za.mk hne2
 have HL := za.mk (And.intro hL hl)
 have HB := za.mk hB
 clear hne2 hne rx hB hL eL hl hx
 go_enter Tryz.func91, Tryz.ntmps91
 go_wp2
 go_loopw [4, 12] (fun iv kv wr => ∃ k : Nat, k ≤ l.length ∧ iv = .int .i64 ((L - 8 * k : Nat) : Int) ∧ kv = .int .i64 (k : Int) ∧ za (Bs wr B (zfe L (lb (l.take k)))) ∧ za (w.grownBy wr (some B))) (fun _ kv _ => l.length - (intOf kv).toNat)
 case atStart => exact ⟨0, Nat.zero_le _, by simp, rfl, ⟨by simpa [zfe, lb] using HB.out⟩, ⟨zyf w _⟩⟩
 case round =>
  obtain ⟨k, hk, rfl, rfl, hb, hg⟩ := hrel
  by_cases hlt : k < l.length
  ·obtain ⟨hp, hc⟩ := RX.out (by omega)
   subst hp
   have hgB := NE.out (by omega)
   have hc0 := hc k hlt
   have hgl : g < w.heap.size := by
    rcases Nat.lt_or_ge g w.heap.size with h | h
    ·exact h
    ·unfold World.cell? at hc0
     rw [Array.getElem?_eq_none h] at hc0
     cases hc0
   have hcw : wr.cell? ⟨g, k, none⟩ = some (.int .u64 (l.getD k 0 : Nat)) := by
    rw [← hc0]
    exact World.cell?_of_block (hg.out.block g hgl (fun e => hgB (Option.some.inj e)))
   obtain ⟨x, hx⟩ : ∃ x, x = l.getD k 0 := ⟨_, rfl⟩
   rw [← hx] at hcw
   have HX := za.mk hx
   have LT := za.mk hlt
   have i3 : decide ((k : Int) < (l.length : Int)) = true := decide_eq_true (by omega)
   have i4 : ((k : Int) < (l.length : Int)) = True := eq_true (by omega)
   have i5 : (0 ≤ (k : Int)) = True := eq_true (by omega)
   have START : za (Bs wr B (zfe L (lb (l.take k) ++ bsx x 0))) := ⟨by simpa [bsx] using hb.out⟩
   clear hc hc0 hgl hgB hx hlt hk
   go_wp2
   go_loopw [4, 6, 7] (fun iv dv jv wr2 => ∃ j : Nat, j ≤ 8 ∧ iv = .int .i64 ((L - 8 * k - j : Nat) : Int) ∧ dv = .int .u64 ((x / 256 ^ j : Nat) : Int) ∧ jv = .int .i64 (j : Int) ∧ za (Bs wr2 B (zfe L (lb (l.take k) ++ bsx x j))) ∧ za (w.grownBy wr2 (some B))) (fun _ _ jv _ => 8 - (intOf jv).toNat)
   case atStart => exact ⟨0, Nat.zero_le _, by simp, by simp, rfl, START, hg⟩
   case round =>
    obtain ⟨j, hj, rfl, rfl, rfl, hb2, hg2⟩ := hrel
    clear hb hg
    by_cases hj8 : j < 8
    ·have F := za.mk (And.intro hj8 (And.intro HL.out.1 LT.out))
     have htl : (lb (l.take k) ++ bsx x j).length = 8 * k + j := by
      rw [List.length_append, lb_len, bsx_len, List.length_take]
      have := LT.out
      omega
     have hct : (zfe L (lb (l.take k) ++ bsx x j)).length = L := content_len (by rw [htl]; have := F.out; omega)
     obtain ⟨i, hi⟩ : ∃ i, i = L - 8 * k - j - 1 := ⟨_, rfl⟩
     have e1 : ((L - 8 * k - j : Nat) : Int) - 1 = (i : Int) := by have := F.out; omega
     have e2 : wrap64 (i : Int) = (i : Int) := by have := HL.out; unfold wrap64; omega
     have j1 : decide ((j : Int) < 8) = true := decide_eq_true (by omega)
     have j2 : decide (j < 8) = true := decide_eq_true hj8
     have i0 : decide (0 ≤ (i : Int)) = true := decide_eq_true (by omega)
     have i1 : (0 ≤ (i : Int)) = True := eq_true (by omega)
     have i2 : ((i : Int) < (L : Int)) = True := eq_true (by have := F.out; omega)
     have yc := hb2.out.cell i (by rw [hct]; have := F.out; omega)
     have yf := hb2.out.free i
     obtain ⟨d, hd⟩ : ∃ d, d = x / 256 ^ j := ⟨_, rfl⟩
     have hset := hb2.out.set i ((d : Int) % 256)
     have hb8 : (d : Int) % 256 = b8 x j := by unfold b8; rw [← hd]; omega
     have hbi : i = L - (lb (l.take k) ++ bsx x j).length - 1 := by rw [htl]; omega
     rw [hb8] at hset
     rw [hbi, znj _ (by rw [htl]; have := F.out; omega), ← hbi, List.append_assoc] at hset
     have hset2 : Bs (wr.setCell ⟨B, i, none⟩ (.int .u8 ((d : Int) % 256))) B (zfe L (lb (l.take k) ++ bsx x (j + 1))) := by rw [hb8]; exact hset
     have SET := za.mk hset2
     have HD := za.mk hd
     have HI := za.mk hi
     have ej : wrap64 ((j : Int) + 1) = ((j + 1 : Nat) : Int) := by unfold wrap64; omega
     rw [← hd]
     clear hj8 hj hi hset hset2 hb8 hbi hct htl hd hb2
     go_wp2
     go_roundw
     case rel =>
      refine ⟨j + 1, F.out.1, ?_, ?_, by first | rfl | go_num | rw [ej], SET, ⟨gr_set hg2.out (.inl rfl) _ _⟩⟩
      ·have h1 := HI.out; have h2 := F.out; congr 1; omega
      ·rw [← shr8, ← HD.out]; congr 1
     case measure => first | exact meas8 j F.out.1 | (rw [ej]; exact meas8 j F.out.1)
    ·obtain rfl : j = 8 := by omega
     have hdone : Bs wr B (zfe L (lb (l.take (k + 1)))) := by
      have e : l.take (k + 1) = l.take k ++ [x] := by
       rw [List.take_add_one, HX.out, List.getD_eq_getElem?_getD, List.getElem?_eq_getElem LT.out]
       rfl
      rw [e, lb_snoc]
      exact hb2.out
     have DONE := za.mk hdone
     have j1 : decide ((8 : Int) < 8) = false := by decide
     have ek : wrap64 ((k : Int) + 1) = ((k + 1 : Nat) : Int) := by have := HL.out; have := LT.out; unfold wrap64; omega
     have IE : za (((L - 8 * k - 8 : Nat) : Int) = ((L - 8 * (k + 1) : Nat) : Int)) := ⟨by congr 1⟩
     clear hj8 hj hdone hb2
     go_wp2
     go_roundw
     case rel => exact ⟨k + 1, LT.out, by rw [← IE.out], by first | rfl | go_num | rw [ek], DONE, hg2⟩
     case measure => first | exact zge _ k LT.out | exact meas_up1 _ k LT.out | exact zre _ k LT.out ek
  ·obtain rfl : k = l.length := by omega
   have i3 : decide ((l.length : Int) < (l.length : Int)) = false := decide_eq_false (by omega)
   have i4 : ((l.length : Int) < (l.length : Int)) = False := eq_false (by omega)
   have e0 : ((L - 8 * l.length : Nat) : Int) = 0 := by have := HL.out; omega
   have hdone : Bs wr B (lb l).reverse := by
    have h := hb.out
    rw [List.take_length, zhj L (by rw [lb_len]; exact HL.out.1.symm)] at h
    exact h
   have hlen : (lb l).reverse.length = L := by rw [List.length_reverse, lb_len]; exact HL.out.1.symm
   obtain ⟨bs, hbs⟩ : ∃ bs, bs = (lb l).reverse := ⟨_, rfl⟩
   rw [← hbs] at hdone hlen
   rw [e0]
   have HBS := za.mk hbs
   have DONE := za.mk hdone
   have LEN := za.mk hlen
   clear hb hk hlt hdone hlen hbs e0
   go_wp2
   go_loopw [4] (fun iv wr2 => ∃ i : Nat, i ≤ L ∧ iv = .int .i64 (i : Int) ∧ za (∀ j, j < i → bs.getD j 0 = 0) ∧ za (Bs wr2 B bs) ∧ za (w.grownBy wr2 (some B))) (fun iv _ => L - (intOf iv).toNat)
   case atStart => exact ⟨0, Nat.zero_le _, rfl, ⟨fun j hj => by omega⟩, DONE, hg⟩
   case round =>
    obtain ⟨i, hi, rfl, hz, hb2, hg2⟩ := hrel
    clear hg
    have hi2 := za.mk hi
    by_cases hlt : i < L
    ·have LT := za.mk hlt
     have i5 : decide ((i : Int) < (L : Int)) = true := decide_eq_true (by omega)
     have i5n : decide (i < L) = true := decide_eq_true hlt
     have i6 : ((i : Int) < (L : Int)) = True := eq_true (by omega)
     have i7 : (0 ≤ (i : Int)) = True := eq_true (by omega)
     have yc := hb2.out.cell i (by rw [LEN.out]; exact hlt)
     obtain ⟨y, hy⟩ : ∃ y, y = bs.getD i 0 := ⟨_, rfl⟩
     rw [← hy] at yc
     have HY := za.mk hy
     have ei : wrap64 ((i : Int) + 1) = ((i + 1 : Nat) : Int) := by have := HL.out; unfold wrap64; omega
     by_cases h0 : y = 0
     ·have y1 : (y == 0) = true := by simpa using h0
      have H0 := za.mk h0
      clear hlt hi hy h0
      go_wp2
      (try go_quiet (fail))
      go_wp2
      go_roundw
      case rel =>
       refine ⟨i + 1, LT.out, by first | rfl | go_num | rw [ei], ⟨fun j hj => ?_⟩, ⟨hb2.out.below (by repeat (first | exact Below.refl _ _ | apply zd | apply zed))⟩, ⟨zje hg2.out (by repeat (first | exact Below.refl _ _ | apply zd | apply zed))⟩⟩
       rcases Nat.lt_or_ge j i with h | h
       ·exact hz.out j h
       ·have : j = i := by omega
        rw [this, ← HY.out]; exact H0.out
      case measure => first | exact zge _ i LT.out | exact meas_up1 _ i LT.out | exact zre _ i LT.out ei
     ·have y1 : (y == 0) = false := by simpa using h0
      have H0 := za.mk h0
      clear hlt hi hy h0
      go_wp2
      (try go_quiet (fail))
      go_wp2
      go_ret
      rw [← HBS.out]
      refine ⟨i, rfl, hi2.out, hb2.out.below (by repeat (first | exact Below.refl _ _ | apply zd | apply zed)), znh bs i hz.out (by rw [LEN.out]; exact hi2.out) (.inr (by rw [← HY.out]; exact H0.out)), zje hg2.out (by repeat (first | exact Below.refl _ _ | apply zd | apply zed))⟩
    ·obtain rfl : i = L := by omega
     have i5 : decide ((i : Int) < (i : Int)) = false := decide_eq_false (by omega)
     have i6 : ((i : Int) < (i : Int)) = False := eq_false (by omega)
     clear hlt hi
     go_wp2
     (try go_quiet (fail))
     go_wp2
     go_ret
     rw [← HBS.out]
     refine ⟨i, rfl, hi2.out, hb2.out.below (by repeat (first | exact Below.refl _ _ | apply zd | apply zed)), znh bs i hz.out (by rw [LEN.out]; exact hi2.out) (.inl LEN.out.symm), zje hg2.out (by repeat (first | exact Below.refl _ _ | apply zd | apply zed))⟩
theorem sign_ (w : World) (a n : Nat) (h : BigAt w a n) :
  Calls Tryz.prog 75 #[.pointer (some ⟨a, 0, none⟩)] w fun e w' => e = .returned (.int .i64 (if n = 0 then 0 else 1)) ∧ Below w.heap.size w w' := by
 obtain ⟨v, l, h1, h2, h3, h4, _⟩ := h
 have HB := za.mk (Below.refl w.heap.size w)
 obtain ⟨g, c, p, rfl, _⟩ := h2.reads
 unfold Bg at h1
 have x0 := (zb h1 0).trans rfl
 have x1 := (zb h1 1).trans rfl
 by_cases h0 : l.length = 0
 ·have hl : l = [] := List.length_eq_zero_iff.1 h0
  have hn : n = 0 := by rw [← h3, hl]; rfl
  rw [if_pos hn]
  have b1 : ((l.length : Int) == 0) = true := by rw [beq_iff_eq]; omega
  have b2 : ((l.length : Int) = 0) = True := eq_true (by omega)
  clear h2 h3 h4 h1 hl hn h0
  go_enter Tryz.func75, Tryz.ntmps75
  go_wp2
  go_ret
  exact ⟨rfl, HB.out⟩
 ·have hn : n ≠ 0 := by
   rw [← h3]
   have := num_low l h4 (by omega)
   have h5 : 0 < W64 ^ (l.length - 1) := Nat.pow_pos W64_pos
   omega
  rw [if_neg hn]
  have b1 : ((l.length : Int) == 0) = false := by rw [beq_eq_false_iff_ne]; omega
  have b2 : ((l.length : Int) = 0) = False := eq_false (by omega)
  clear h2 h3 h4 h1 hn h0
  go_enter Tryz.func75, Tryz.ntmps75
  go_wp2
  go_ret
  exact ⟨rfl, HB.out⟩
theorem infoByte : (Tryz.prog.info? 5).map (fun i => (i.zero, i.size, i.bytes)) = some (some (.int .u8 0), 1, 1) := by kernel_rfl
theorem make_bytes (n : Nat) (hn : n ≤ 1099511627776) : ∀ W : World, (Instr.makeSlice 23 (.int .i64 (n : Int)) (.int .i64 (n : Int))).run Tryz.prog W = .ok (.slice (some ⟨W.heap.size, 0, none⟩) n n) (W.alloc (.cells (Array.replicate n (BC 0)) 5)) := by
 intro W
 obtain ⟨i, hi, hzz⟩ := Option.map_eq_some_iff.1 infoByte
 simp only [Prod.mk.injEq] at hzz
 obtain ⟨hz0, hz1, hz2⟩ := hzz
 have h := run_make (P := Tryz.prog) W 23 5 i _ Tryz.underlying23 hi hz0 .i64 .i64 (n : Int) (n : Int) (by omega) (by omega) (by rw [hz2]; omega) (by omega)
 rw [h]
 simp only [Int.toNat_natCast, hz1, Nat.mul_one]
 congr 3
 apply Array.toList_inj.1
 apply List.ext_getElem
 ·simp [madeCells]
 ·intro i h1 h2
  simp [madeCells, Nat.mod_one, Value.cells, BC]
theorem bytesOf_ (w : World) (a n : Nat) (h : BigAt w a n) :
  Calls Tryz.prog 76 #[.pointer (some ⟨a, 0, none⟩)] w fun e w' => ∃ (A : Addr) (c : Nat), e = .returned (.slice (some A) (magL n).length c) ∧ zsh w' .u8 (some A) (magL n).length (magL n) ∧ Below w.heap.size w w' := by
 obtain ⟨v, l, h1, h2, h3, h4, h5⟩ := h
 have HB := za.mk (Below.refl w.heap.size w)
 have hmag : ∀ i : Nat, (lb l).reverse.drop i = (lb l).reverse.dropWhile (fun x => decide (x = 0)) → (lb l).reverse.drop i = magL n := fun i e => by
  rw [e]
  exact mag_drop (lb_byt l) ((lb_val l h2.words).trans h3)
 have hC := za.mk (fun W (hb : Below w.heap.size w W) (hB : Bs W w.heap.size (List.replicate (8 * l.length) 0)) => bytes_ W w.heap.size a v l (h2.lt hb) h5 hB (fun g m c e => by
  subst e
  rcases h2 with ⟨h, _⟩ | ⟨g2, full, h, _, hw, _⟩
  ·cases h
  ·have := hw.lt
   injection h with h _ _
   injection h with h
   injection h with h
   omega))
 have HBS : za (Bs (w.alloc (.cells (Array.replicate (8 * l.length) (BC 0)) 5)) w.heap.size (List.replicate (8 * l.length) 0)) := ⟨by
  unfold Bs
  rw [show ((List.replicate (8 * l.length) (0 : Int)).map BC).toArray = Array.replicate (8 * l.length) (BC 0) by simp]
  exact zvc w _⟩
 have hm := make_bytes (8 * l.length) (by omega)
 have em : wrap64 ((8 * l.length : Nat) : Int) = ((8 * l.length : Nat) : Int) := by unfold wrap64; omega
 have em2 : (l.length : Int) * 8 = ((8 * l.length : Nat) : Int) := by omega
 have HMAG := za.mk hmag
 have HLL := za.mk (lb_len l)
 obtain ⟨g, c, p, rfl, _⟩ := h2.reads
 unfold Bg at h1
 have x1 := (zb h1 1).trans rfl
 have y1 := (zb (zvb h1 (.cells (Array.replicate (8 * l.length) (BC 0)) 5)) 1).trans rfl
 have HL5 := za.mk h5
 clear h1 h2 h3 h4 h5 hmag
 obtain ⟨L, hL⟩ : ∃ L, L = 8 * l.length := ⟨_, rfl⟩
 rw [← hL] at hC HBS hm em em2 y1 HLL
 have HL := za.mk hL
 clear hL
 go_enter Tryz.func76, Tryz.ntmps76
 go_wp2_with (first | (go_at_call 91; (with_reducible refine (hC.out _ (zj HB.out _) HBS.out).mono ?_); rintro e' w1 ⟨i, rfl, hi, hb, hd, hg⟩; have B1 := za.mk hb; have G1 := za.mk hg; have D1 := za.mk (HMAG.out i hd); have I1 := za.mk hi; clear hb hg hd))
 ·go_ret
  have hlen : (magL n).length = 0 := by rw [← D1.out, List.length_drop, List.length_reverse, HLL.out]; omega
  refine ⟨⟨w.heap.size, 0, none⟩, ⟨0, by rw [hlen]; rfl⟩, ⟨rfl, by omega, fun h => ?_⟩, gr_from (zj HB.out _) (by rw [zsb]; omega) G1.out (Nat.le_refl _)⟩
  omega
 ·go_ret
  have hlen : L - i = (magL n).length := by rw [← D1.out, List.length_drop, List.length_reverse, HLL.out]
  refine ⟨⟨w.heap.size, i, none⟩, ⟨L - i, by rw [← hlen]; rfl⟩, ⟨rfl, by have := HL.out; have := HL5.out; omega, fun _ => ⟨_, rfl, fun j hj => ?_⟩⟩, gr_from (zj HB.out _) (by rw [zsb]; omega) G1.out (Nat.le_refl _)⟩
  rw [show (⟨w.heap.size, i, none⟩ : Addr).add j = ⟨w.heap.size, i + j, none⟩ by simp [Addr.add], B1.out.cell (i + j) (by rw [List.length_reverse, HLL.out]; omega), ← D1.out]
  simp [List.getD_eq_getElem?_getD]
theorem zzPlain_ (w : World) (a n : Nat) (h : BigAt w a n) :
  Calls Tryz.prog 57 #[.pointer (some ⟨a, 0, none⟩)] w fun e w' => e = .returned (.agg #[.bool false, .string (magB n)]) ∧ Below w.heap.size w w' := by
 have HB := za.mk (Below.refl w.heap.size w)
 have hS := za.mk (fun W (hb : Below w.heap.size w W) => sign_ W a n (h.below hb))
 have hY := za.mk (fun W (hb : Below w.heap.size w W) => bytesOf_ W a n (h.below hb))
 obtain ⟨s, hs⟩ : ∃ s : Int, s = if n = 0 then 0 else 1 := ⟨_, rfl⟩
 rw [← hs] at hS
 have s1 : decide (s < 0) = false := by rw [decide_eq_false_iff_not, hs]; split <;> omega
 have MB : za (strOfNums (magL n) = magB n) := ⟨rfl⟩
 clear h hs
 go_enter Tryz.func57, Tryz.ntmps57
 go_wp2_with (first | (go_at_call 75; (with_reducible refine (hS.out _ (zj HB.out _)).mono ?_); rintro e' w1 ⟨rfl, hb⟩; have B1 := za.mk (zib (zj HB.out _) hb); have g1 := za.mk (zc (zvc w (.cells #[.bool false, .string ⟨#[]⟩] 85)) hb); clear hb) | (go_at_call 76; (with_reducible refine (hY.out _ B1.out).mono ?_); rintro e' w2 ⟨A, c, rfl, hr, hb⟩; have B2 := za.mk (zib B1.out hb); have g2 := zc g1.out hb; have cv := string_of_reads (P := Tryz.prog) (c := c) Tryz.underlying23 Tryz.underlying5 Tryz.underlying9 hr; have f0 := zz g2 0; have f1 := zz g2 1; have y0 := zb g2 0; have y1 := zb g2 1; have G2 := za.mk g2; clear hb hr g2))
 (try simp only [Exit.inBlock, Exit.then])
 refine bodyPost_ret (results_cell_row rfl _ _ w.heap.size 85 #[.bool false, .string (strOfNums (magL n))] (0, 0) _ rfl (zq (zq G2.out 0 _ rfl) 1 _ rfl) Tryz.underlying85 rfl (by kernel_rfl)) rfl ?_
 exact ⟨by rw [MB.out], zl (zl B2.out (Nat.le_refl _)) (Nat.le_refl _)⟩
end Go.Proofs.YtapaijpglfmfgaaGreatDoorG
end
section
namespace Go.Proofs.YtapaijpglfmfgaaGreatDoorG
open Go.RowKit YtapaijpglfmfgaaGreatDoorH YtapaijpglfmfgaaGreatDoor.S YtapaijpglfmfgaaGreatDoorW.PrintWords YtapaijpglfmfgaaGreatDoorW.PrintLast
theorem conv_at (W : World) (s : ByteArray) (hp : Plain s) (hG : GLe W) (hd : zae s) :
  Calls Tryz.prog 62 #[.string s] W fun e w' => ∃ a, e = .returned (.tuple #[.pointer (some ⟨a, 0, none⟩), .nilIface]) ∧ BigAt w' a (dv s s.size) ∧ Below W.heap.size W w' := by
 refine (conv_yes W s hp hG hd).mono ?_
 rintro e w' ⟨rfl, h1, h2⟩
 exact ⟨_, rfl, h1, h2⟩
theorem GLe.lt {w w' : World} (h : GLe w) (hb : Below w.heap.size w w') : GLe w' := h.below hb (Nat.le_refl _)
theorem parseBuild_e (w : World) (g : Nat) (s : ByteArray) (h0 : s.toList = []) :
  Calls Tryz.prog 52 #[.pointer (some ⟨g, 0, none⟩), .string s] w fun e w' => e = .returned (.tuple #[.string s, .nilIface]) ∧ w' = w := by
 have e1 : (s.toList == []) = true := by simpa using h0
 have e2 : (s.toList != []) = false := by simpa using h0
 have e3 : s.toList.isEmpty = true := by simpa using h0
 clear h0
 go_enter Tryz.func52, Tryz.ntmps52
 go_wp2
 go_ret2
 exact ⟨rfl, rfl⟩
theorem eql_nil_nil : ∀ W : World, (binOp .eql 57 (.slice none 0 0) (.slice none 0 0)).run Tryz.prog W = .ok (.bool true) W := by
 intro W
 have h : ∀ d : Nat, (Op.equalIn (d + 1) 57 (.slice none 0 0) (.slice none 0 0)).run Tryz.prog W = .ok true W := fun d => by
  simp [Op.equalIn, run_underlying Tryz.underlying57]
 simp only [binOp]
 simp [Op.equal, Op.maxDepth, h 9999]
theorem parseBuild_n (w : World) (g : Nat) (o : ByteArray) (i : Bool) (r : ByteArray) (cv sv : Value) (l h : ByteArray) (bv : Value) (s : ByteArray) (hv : VBlk w g o i r cv l sv h bv) (h0 : s.toList ≠ []) (h1 : zgc.f s 0 ⟨#[45, 114]⟩ = some false) :
  Calls Tryz.prog 52 #[.pointer (some ⟨g, 0, none⟩), .string s] w fun e w' => e = .returned (.tuple #[.string s, .nilIface]) ∧ VBlk w' g o true r cv l sv h bv ∧ w.grownBy w' (some g) := by
 unfold VBlk at hv ⊢
 have e1 : (s.toList == []) = false := by simpa using h0
 have e2 : (s.toList != []) = true := by simpa using h0
 have e3 : s.toList.isEmpty = false := by simpa using h0
 have HG := za.mk hv
 have HC := za.mk (alpBuild_no w s h1)
 have z1 := eql_nil_nil
 clear h0 hv h1
 go_enter Tryz.func52, Tryz.ntmps52
 go_wp2_with (first | (go_at_call 68; (with_reducible refine HC.out.mono ?_); rintro e' w1 ⟨rfl, hb⟩; have g0 := zc HG.out hb; have x0 := (zb g0 1).trans rfl; have f0 := zz g0 1; have g1 := zq (cs' := #[.string o, .bool true, .string r, cv, .string l, sv, .string h, bv]) g0 1 (.bool true) rfl; have G1 := za.mk g1; have B1 := za.mk hb; clear g0 g1 hb))
 go_ret2
 exact ⟨rfl, G1.out, gr_set (zje (zyf w _) B1.out) (.inl rfl) _ _⟩
def or0 (d : ByteArray) : ByteArray := if d.toList = [] then ⟨#[48]⟩ else d
theorem eql_slice_nil (a : Addr) (n c : Nat) : ∀ W : World, (binOp .eql 57 (.slice (some a) n c) (.slice none 0 0)).run Tryz.prog W = .ok (.bool false) W := by
 intro W
 have h : ∀ d : Nat, (Op.equalIn (d + 1) 57 (.slice (some a) n c) (.slice none 0 0)).run Tryz.prog W = .ok false W := fun d => by
  simp [Op.equalIn, run_underlying Tryz.underlying57]
 simp only [binOp]
 simp [Op.equal, Op.maxDepth, h 9999]
theorem parseBuild_y (w : World) (g : Nat) (o : ByteArray) (i : Bool) (r : ByteArray) (cv sv : Value) (l h : ByteArray) (bv : Value) (s rest : ByteArray) (k n : Nat) (hv : VBlk w g o i r cv l sv h bv) (hGL : GLe w) (h0 : s.toList ≠ [])
  (h1 : zgc.f s 0 ⟨#[45, 114]⟩ = some true) (h2 : zgb.f k s 2 = some (n : Int)) (h3 : 2 ≤ n) (h4 : n ≤ s.size) (h5 : Plain (or0 (s.extract 2 n))) (h6 : zae (or0 (s.extract 2 n))) (h7 : zhb.f s (s.extract 0 n) = some rest) :
  Calls Tryz.prog 52 #[.pointer (some ⟨g, 0, none⟩), .string s] w fun e w' => ∃ a, e = .returned (.tuple #[.string rest, .nilIface]) ∧ VBlk w' g o i r cv l sv h (.pointer (some ⟨a, 0, none⟩)) ∧ BigAt w' a (dv (or0 (s.extract 2 n)) (or0 (s.extract 2 n)).size) ∧ w.grownBy w' (some g) := by
 have hlt := hv.lt
 unfold VBlk at hv ⊢
 have e1 : (s.toList == []) = false := by simpa using h0
 have e2 : (s.toList != []) = true := by simpa using h0
 have e3 : s.toList.isEmpty = false := by simpa using h0
 have HG := za.mk hv
 have hC := alpBuild_yes w s k n h1 h2 h3 h4
 obtain ⟨d0, hd0⟩ : ∃ d, d = s.extract 0 n := ⟨_, rfl⟩
 obtain ⟨d1, hd1⟩ : ∃ d, d = s.extract 2 n := ⟨_, rfl⟩
 rw [← hd0] at hC h7
 rw [← hd1] at hC h5 h6 ⊢
 have HC := za.mk hC
 have HS := za.mk h7
 have HNE := za.mk (show w.heap.size ≠ g by omega)
 have HMS := za.mk (Nat.le_refl w.heap.size)
 have z1 := eql_slice_nil ⟨w.heap.size, 0, none⟩ 2 2
 clear h0 hv h1 h2 h3 h4 h7 hlt hC hd0 hd1
 by_cases hd : d1.toList = []
 ·have c1 : (d1.toList == []) = true := by simpa using hd
  have c2 : (d1.toList != []) = false := by simpa using hd
  have c3 : d1.toList.isEmpty = true := by simpa using hd
  have eo : or0 d1 = ⟨#[48]⟩ := if_pos hd
  rw [eo] at h5 h6 ⊢
  have HV := za.mk (fun W (hb : Below w.heap.size w W) => conv_at W _ h5 (hGL.lt hb) h6)
  clear hd eo h5 h6 hGL
  go_enter Tryz.func52, Tryz.ntmps52
  go_wp2_with (first | (go_at_call 68; (with_reducible refine HC.out.mono ?_); rintro e' w1 ⟨rfl, hm1, hb⟩; have y0 := (zb hm1 1).trans rfl; have yf := zz hm1 1; have hm2 := zq (cs' := #[.string d0, .string ⟨#[48]⟩]) hm1 1 (.string ⟨#[48]⟩) rfl; have y1 := (zb hm2 1).trans rfl; have M2 := za.mk hm2; have B2 := za.mk (zl (v := .string ⟨#[48]⟩) (j := 1) hb HMS.out); clear hm1 hm2 hb) | (go_at_call 62; (with_reducible refine (HV.out _ B2.out).mono ?_); rintro e' w3 ⟨a, rfl, hA, hb⟩; have B3 := za.mk (zib B2.out hb); have HA := za.mk hA; have g0 := zc HG.out B3.out; have x0 := (zb g0 7).trans rfl; have f0 := zz g0 7; have g1 := zq (cs' := #[.string o, .bool i, .string r, cv, .string l, sv, .string h, .pointer (some ⟨a, 0, none⟩)]) g0 7 (.pointer (some ⟨a, 0, none⟩)) rfl; have G0 := za.mk g0; have G1 := za.mk g1; have hm3 := zc M2.out hb; have y3 := (zb (zwb hm3 (p := ⟨g, 7, none⟩) HNE.out (.pointer (some ⟨a, 0, none⟩))) 0).trans rfl; clear g0 g1 hm3 hb hA) | (go_at_call 63; (with_reducible refine (zhb.calls s d0 rest _ HS.out).mono ?_); rintro e' w' ⟨rfl, ⟨nd2, rfl⟩⟩))
  go_ret2
  exact ⟨a, rfl, zid G1.out _, (HA.out.kept (KeptT.set G0.out (by decide) 7 _)).below (zd (Below.refl _ _) _), zqf (gr_set (zje (zyf w _) B3.out) (.inl rfl) _ _) _⟩
 ·have c1 : (d1.toList == []) = false := by simpa using hd
  have c2 : (d1.toList != []) = true := by simpa using hd
  have c3 : d1.toList.isEmpty = false := by simpa using hd
  have eo : or0 d1 = d1 := if_neg hd
  rw [eo] at h5 h6 ⊢
  have HV := za.mk (fun W (hb : Below w.heap.size w W) => conv_at W _ h5 (hGL.lt hb) h6)
  clear hd eo h5 h6 hGL
  go_enter Tryz.func52, Tryz.ntmps52
  go_wp2_with (first | (go_at_call 68; (with_reducible refine HC.out.mono ?_); rintro e' w1 ⟨rfl, hm1, hb⟩; have y0 := (zb hm1 1).trans rfl; have M2 := za.mk hm1; have B2 := za.mk hb; clear hm1 hb) | (go_at_call 62; (with_reducible refine (HV.out _ B2.out).mono ?_); rintro e' w3 ⟨a, rfl, hA, hb⟩; have B3 := za.mk (zib B2.out hb); have HA := za.mk hA; have g0 := zc HG.out B3.out; have x0 := (zb g0 7).trans rfl; have f0 := zz g0 7; have g1 := zq (cs' := #[.string o, .bool i, .string r, cv, .string l, sv, .string h, .pointer (some ⟨a, 0, none⟩)]) g0 7 (.pointer (some ⟨a, 0, none⟩)) rfl; have G0 := za.mk g0; have G1 := za.mk g1; have hm3 := zc M2.out hb; have y3 := (zb (zwb hm3 (p := ⟨g, 7, none⟩) HNE.out (.pointer (some ⟨a, 0, none⟩))) 0).trans rfl; clear g0 g1 hm3 hb hA) | (go_at_call 63; (with_reducible refine (zhb.calls s d0 rest _ HS.out).mono ?_); rintro e' w' ⟨rfl, ⟨nd2, rfl⟩⟩))
  go_ret2
  exact ⟨a, rfl, zid G1.out _, (HA.out.kept (KeptT.set G0.out (by decide) 7 _)).below (zd (Below.refl _ _) _), zqf (gr_set (zje (zyf w _) B3.out) (.inl rfl) _ _) _⟩
end Go.Proofs.YtapaijpglfmfgaaGreatDoorG
end
section
namespace Go.Proofs.YtapaijpglfmfgaaGreatDoorG
open Go.RowKit YtapaijpglfmfgaaGreatDoorH YtapaijpglfmfgaaGreatDoor.S YtapaijpglfmfgaaGreatDoorW.PrintWords YtapaijpglfmfgaaGreatDoorW.PrintLast
theorem infoNum : (Tryz.prog.info? 114).map (fun i => (i.zero, i.size, i.bytes)) = some (some (.agg #[.string ⟨#[]⟩, .pointer none, .int .i64 0]), 3, 32) := by kernel_rfl
theorem infoSuf : (Tryz.prog.info? 117).map (fun i => (i.zero, i.size, i.bytes)) = some (some (.agg #[.int .i64 0, .pointer none]), 2, 16) := by kernel_rfl
def nmCell (x : Nm × Nat) : List Value := [.string x.1.o, .pointer (some ⟨x.1.a, 0, none⟩), .int .i64 (x.2 : Int)]
def zse (l : List Nm) : List (List Value) := l.zipIdx.map nmCell
theorem zlj (l : List Nm) (x : Nm) : zse (l ++ [x]) = zse l ++ [[.string x.o, .pointer (some ⟨x.a, 0, none⟩), .int .i64 (l.length : Int)]] := by
 unfold zse
 rw [Kd.zip_snoc]
 simp [nmCell]
theorem zlf (l : List Nm) : (zse l).length = l.length := by simp [zse]
def NGood (w : World) (x : Nm) : Prop := BigAt w x.a x.n ∧ x.n = dv x.o x.o.size ∧ 0 < x.o.size
def NOwn (w : World) (base : Nat) (v : Value) (l : List Nm) : Prop := Kd.R (Kd.raw 3) 114 w base (fun _ => True) v (zse l) ∧ ∀ x ∈ l, NGood w x
theorem NOwn.crow {w : World} {base : Nat} {v : Value} {l : List Nm} (h : NOwn w base v l) (hl : l.length ≤ 1000000) : CRow w v l := by
 obtain ⟨hr, hx⟩ := h
 rcases Nat.eq_zero_or_pos l.length with h0 | h0
 ·obtain ⟨A, c, e, _⟩ := Kd.R_reads hr
  rw [zlf] at e
  exact ⟨A, c, e, hl, fun i x hi => by rw [List.eq_nil_of_length_eq_zero h0] at hi; simp at hi⟩
 ·obtain ⟨g, cap, e, _⟩ := Kd.R_form hr (by rw [zlf]; exact h0)
  subst e
  refine ⟨some ⟨g, 0, none⟩, cap, by rw [zlf], hl, fun i x hi => ⟨g, rfl, ?_⟩⟩
  have hil : i < l.length := (List.getElem?_eq_some_iff.1 hi).1
  obtain ⟨c, hc1, hM, hcc, _⟩ := Kd.R_elem hr [] (i : Int) (by omega) (by rw [zlf]; omega)
  have hgd : (zse l).getD (i : Int).toNat [] = [.string x.o, .pointer (some ⟨x.a, 0, none⟩), .int .i64 (i : Int)] := by
   rw [List.getD_eq_getElem?_getD]
   unfold zse
   rw [List.getElem?_map, show ((i : Int).toNat) = i by omega, Kd.zip_at hi]
   rfl
  rw [hgd] at hM
  obtain ⟨rfl, _⟩ := hM
  have h0' := hcc 0 _ rfl
  have h1' := hcc 1 _ rfl
  have h2' := hcc 2 _ rfl
  obtain ⟨k1, _, k3⟩ := hx x (List.mem_of_getElem? hi)
  exact ⟨h0', h1', h2', k1, k3⟩
theorem NGood.below {w w' : World} {x : Nm} (h : NGood w x) (hb : Below w.heap.size w w') : NGood w' x := ⟨h.1.below hb, h.2⟩
theorem NGood.kept {w w' : World} {x : Nm} (h : NGood w x) (hb : KeptT numT w w') : NGood w' x := ⟨h.1.kept hb, h.2⟩
theorem KeptT.sub {p q : TypeId → Bool} {w w' : World} (h : KeptT q w w') (hpq : ∀ t, p t = true → q t = true) : KeptT p w w' := fun k cs t fr hk hp => h k cs t fr hk (hpq t hp)
theorem KeptT.blk {p : TypeId → Bool} {w w' : World} {g : Nat} {cs : Array Value} {t : TypeId} {fr : Nat × Nat} (h : KeptT p w w') (hg : w.heap[g]? = some (.cells cs t fr)) (hp : p t = true) : w'.heap[g]? = some (.cells cs t fr) := (h g cs t fr hg hp).trans hg
def zef (l : List ByteArray) : List ByteArray := l.takeWhile (fun d => decide (d.toList ≠ []))
theorem takeNe_at {l : List ByteArray} {k : Nat} (h1 : ∀ d ∈ l.take k, d.toList ≠ []) : (l.length ≤ k ∨ ∃ d, l[k]? = some d ∧ d.toList = []) → zef l = l.take k := by
 induction l generalizing k with
 | nil => simp [zef]
 | cons a l ih =>
  intro h
  cases k with
  | zero =>
   rcases h with h | ⟨d, h2, h3⟩
   ·simp at h
   ·simp at h2
    subst h2
    simp [zef, h3]
  | succ k =>
   have ha : a.toList ≠ [] := h1 a (by simp)
   have := ih (k := k) (fun d hd => h1 d (by simp [hd])) (by simpa using h)
   simp only [zef, List.takeWhile_cons, List.take_succ_cons] at this ⊢
   rw [if_pos (by simpa using ha), this]
theorem takeNe_mem {l : List ByteArray} {k : Nat} {d : ByteArray} (h1 : ∀ d ∈ l.take k, d.toList ≠ []) (h2 : l[k]? = some d) (h3 : d.toList ≠ []) : d ∈ zef l := by
 induction l generalizing k with
 | nil => simp at h2
 | cons a l ih =>
  cases k with
  | zero =>
   simp at h2
   subst h2
   simp [zef, h3]
  | succ k =>
   have ha : a.toList ≠ [] := h1 a (by simp)
   have := ih (k := k) (fun d hd => h1 d (by simp [hd])) (by simpa using h2)
   simp only [zef, List.takeWhile_cons] at this ⊢
   rw [if_pos (by simpa using ha)]
   exact List.mem_cons_of_mem _ this
theorem parseNums_e (w : World) (g : Nat) (s sub : ByteArray) (k : Nat) (h1 : zy.f k s = some sub) (h0 : sub.toList = []) :
  Calls Tryz.prog 48 #[.pointer (some ⟨g, 0, none⟩), .string s] w fun e w' => e = .returned (.tuple #[.string s, .nilIface]) ∧ ∃ n, w' = w.drewN n := by
 have e1 : (sub.toList == []) = true := by simpa using h0
 have e2 : (sub.toList != []) = false := by simpa using h0
 have e3 : sub.toList.isEmpty = true := by simpa using h0
 have H1 := za.mk h1
 clear h0 h1
 go_enter Tryz.func48, Tryz.ntmps48
 go_wp2_with (first | (go_at_call 60; (with_reducible refine (zy.calls k s sub _ H1.out).mono ?_); rintro e' w' ⟨rfl, ⟨nd, rfl⟩⟩))
 go_ret2
 exact ⟨rfl, _, rfl⟩
structure NInv (w wr : World) (g : Nat) (o : ByteArray) (i : Bool) (r : ByteArray) (cv : Value) (l : ByteArray) (sv : Value) (h : ByteArray) (bv : Value) (sp : Value) (parts : List ByteArray) (k : Nat) (ns : List Nm) : Prop where
 told : ns.map (·.o) = parts.take k
 ne : ∀ d ∈ parts.take k, d.toList ≠ []
 blk : VBlk wr g o i r cv l sv h bv
 own : NOwn wr w.heap.size cv ns
 row : Kd.R Kd.string 9 wr w.heap.size (fun _ => True) sp parts
 gr : w.grownBy wr (some g)
theorem NInv.below {w wr w' : World} {g : Nat} {o : ByteArray} {i : Bool} {r : ByteArray} {cv : Value} {l : ByteArray} {sv : Value} {h : ByteArray} {bv sp : Value} {parts : List ByteArray} {k : Nat} {ns : List Nm} (H : NInv w wr g o i r cv l sv h bv sp parts k ns) (hb : Below wr.heap.size wr w') : NInv w w' g o i r cv l sv h bv sp parts k ns :=
 ⟨H.told, H.ne, zc H.blk hb, ⟨Kd.R_below H.own.1 hb, fun x hx => (H.own.2 x hx).below hb⟩, Kd.R_below H.row hb, zje H.gr hb⟩
def notNum (t : TypeId) : Bool := t != 114
theorem numT_notNum (t : TypeId) (h : numT t = true) : notNum t = true := by
 unfold numT at h
 unfold notNum
 rcases Bool.or_eq_true_iff.mp h with h | h
 ·rw [of_decide_eq_true h]; decide
 ·rw [of_decide_eq_true h]; decide
theorem NInv.step {w wr w7 : World} {g : Nat} {o : ByteArray} {i : Bool} {r : ByteArray} {cv v1 : Value} {l : ByteArray} {sv : Value} {h : ByteArray} {bv sp : Value} {parts : List ByteArray} {k : Nat} {ns : List Nm} (H : NInv w wr g o i r cv l sv h bv sp parts k ns) {d : ByteArray} {a : Nat} (hd : parts[k]? = some d) (hne : d.toList ≠ []) (hA : BigAt wr a (dv d d.size)) (hs : 0 < d.size)
  (ho : Kd.R (Kd.raw 3) 114 w7 w.heap.size (fun _ => True) v1 (zse ns ++ [[.string d, .pointer (some ⟨a, 0, none⟩), .int .i64 (k : Int)]])) (hg : wr.grownBy w7 cv.ownBlock) : NInv w (w7.setCell ⟨g, 3, none⟩ v1) g o i r v1 l sv h bv sp parts (k + 1) (ns ++ [⟨d, a, dv d d.size⟩]) := by
 have hk : ns.length = k := by
  have := congrArg List.length H.told
  have hkl := (List.getElem?_eq_some_iff.1 hd).1
  simpa [Nat.min_eq_left (Nat.le_of_lt hkl)] using this
 have K : KeptT notNum wr w7 := KeptT.row (by decide) H.own.1 hg
 have KN : KeptT numT wr w7 := K.sub numT_notNum
 have B7 : VBlk w7 g o i r cv l sv h bv := K.blk H.blk (by decide)
 have KN2 : KeptT numT wr (w7.setCell ⟨g, 3, none⟩ v1) := KN.trans (KeptT.set B7 (by decide) 3 _)
 have ht : parts.take (k + 1) = parts.take k ++ [d] := by
  rw [List.take_add_one, hd]; rfl
 refine ⟨by rw [ht, List.map_append, H.told]; rfl, fun x hx => ?_, zq B7 3 _ rfl, ⟨?_, fun x hx => ?_⟩, ?_, ?_⟩
 ·rw [ht] at hx
  rcases List.mem_append.mp hx with hx | hx
  ·exact H.ne x hx
  ·simp at hx; subst hx; exact hne
 ·rw [zlj, hk]
  exact Kd.R_set ho B7 (by intro q hq; have : q = 114 := (by simpa [Kd.raw] using hq); subst this; decide) 3 _
 ·rcases List.mem_append.mp hx with hx | hx
  ·exact (H.own.2 x hx).kept KN2
  ·simp at hx; subst hx; exact ⟨hA.kept KN2, rfl, hs⟩
 ·refine zrd (p := fun t => t == 9) rfl (by decide) H.row ((K.sub fun t ht => ?_).trans (KeptT.set B7 (by decide) 3 _))
  rw [of_decide_eq_true ht]; decide
 ·refine gr_set (gr_then H.gr hg (fun b hb => ?_)) (.inl rfl) _ _
  exact .inr (Kd.R_base H.own.1 b hb)
theorem parseNums_ (w : World) (g : Nat) (o : ByteArray) (i : Bool) (r : ByteArray) (sv : Value) (l h : ByteArray) (bv : Value) (s sub rest : ByteArray) (k1 k2 : Nat) (parts : List ByteArray) (hv : VBlk w g o i r (.slice none 0 0) l sv h bv) (hGL : ∀ W, w.grownBy W (some g) → GLe W)
  (h1 : zy.f k1 s = some sub) (h0 : sub.toList ≠ []) (h2 : zob.f k2 sub ⟨#[46]⟩ = some parts) (hp : 0 < parts.length) (hl : parts.length ≤ 1000000) (h4 : ∀ d ∈ zef parts, Plain d ∧ zae d) (h5 : zhb.f s sub = some rest) :
  Calls Tryz.prog 48 #[.pointer (some ⟨g, 0, none⟩), .string s] w fun e w' => ∃ cv ns, e = .returned (.tuple #[.string rest, .nilIface]) ∧ VBlk w' g o i r cv l sv h bv ∧ NOwn w' w.heap.size cv ns ∧ ns.map (·.o) = zef parts ∧ w.grownBy w' (some g) := by
 have e1 : (sub.toList == []) = false := by simpa using h0
 have e2 : (sub.toList != []) = true := by simpa using h0
 have e3 : sub.toList.isEmpty = false := by simpa using h0
 have HG := za.mk hv
 have H1 := za.mk h1
 have H2 := za.mk h2
 have H4 := za.mk h4
 have H5 := za.mk h5
 have HGL := za.mk hGL
 have HP := za.mk hp
 have HL := za.mk hl
 clear h0 h1 h2 h4 h5 hv hGL hp hl
 go_enter Tryz.func48, Tryz.ntmps48
 go_wp2_with (first | (go_at_call 60; (with_reducible refine (zy.calls k1 s sub _ H1.out).mono ?_); rintro e' w' ⟨rfl, ⟨nd, rfl⟩⟩) | (go_at_call 61; (with_reducible refine (zob.calls k2 sub ⟨#[46]⟩ parts _ H2.out).mono ?_); rintro e' w1 ⟨sp, rfl, hr, hb⟩; obtain ⟨b, cap, rfl, hb1, hb2, hb3⟩ := Kd.R_form hr HP.out; have B1 := za.mk (zfb (zd (Below.refl w.heap.size w) nd) (Nat.le_refl w.heap.size) hb); have R1 := za.mk hr; clear hr hb hb1 hb2 hb3))
 have I0 : za (NInv w w1 g o i r (.slice none 0 0) l sv h bv (.slice (some ⟨b, 0, none⟩) parts.length cap) parts 0 []) := ⟨⟨rfl, fun d hd => by simp at hd, zc HG.out B1.out, ⟨Kd.R_nil _ _ _ _ _, fun x hx => by simp at hx⟩, R1.out, zje (zyf w _) B1.out⟩⟩
 go_loopw [19] (fun iv wr => ∃ (k : Nat) (ns : List Nm) (cv : Value), k ≤ parts.length ∧ iv = .int .i64 k ∧ za (NInv w wr g o i r cv l sv h bv (.slice (some ⟨b, 0, none⟩) parts.length cap) parts k ns)) (fun iv _ => parts.length - (intOf iv).toNat)
 case atStart => exact ⟨0, [], _, Nat.zero_le _, rfl, I0⟩
 case round =>
  obtain ⟨k, ns, cv, hk, rfl, HI⟩ := hrel
  by_cases hlt : k < parts.length
  ·have i3 : decide ((k : Int) < (parts.length : Int)) = true := decide_eq_true (by omega)
   have i4 : ((k : Int) < (parts.length : Int)) = True := eq_true (by omega)
   have i5 : (0 ≤ (k : Int)) = True := eq_true (by omega)
   have WR : wrap64 ((k : Int) + 1) = ((k + 1 : Nat) : Int) := by have := HL.out; unfold wrap64; omega
   have LT := za.mk hlt
   obtain ⟨d, hd⟩ : ∃ d, parts[k]? = some d := ⟨_, List.getElem?_eq_getElem (by omega)⟩
   have HD := za.mk hd
   have y0 : wr.cell? ⟨b, k, none⟩ = some (.string d) := by
    obtain ⟨c, hc1, hM, hcc, _⟩ := Kd.R_elem HI.out.row ByteArray.empty (k : Int) (by omega) (by omega)
    have hgd : parts.getD (k : Int).toNat ByteArray.empty = d := by
     rw [List.getD_eq_getElem?_getD, show ((k : Int).toNat) = k by omega, hd]; rfl
    rw [hgd] at hM
    have hM2 : c = [.string d] := hM
    have := hcc 0 (.string d) (by rw [hM2]; rfl)
    rw [show (k : Int).toNat * Kd.string.sz + 0 = k by show (k : Int).toNat * 1 + 0 = k; omega] at this
    exact this
   clear hlt hk hd
   by_cases hde : d.toList = []
   ·have c1 : (d.toList == []) = true := by simpa using hde
    have c2 : (d.toList != []) = false := by simpa using hde
    have c3 : d.toList.isEmpty = true := by simpa using hde
    have HE := za.mk (takeNe_at HI.out.ne (.inr ⟨d, HD.out, hde⟩))
    clear hde
    go_wp2_with (first | (go_at_call 63; (with_reducible refine (zhb.calls s sub rest _ H5.out).mono ?_); rintro e' w' ⟨rfl, ⟨nd2, rfl⟩⟩))
    go_ret2
    exact ⟨cv, ns, rfl, zid HI.out.blk _, ⟨Kd.R_drewN HI.out.own.1 _, fun x hx => (HI.out.own.2 x hx).below (zd (Below.refl _ _) _)⟩, by rw [HI.out.told, HE.out], zqf HI.out.gr _⟩
   ·have c1 : (d.toList == []) = false := by simpa using hde
    have c2 : (d.toList != []) = true := by simpa using hde
    have c3 : d.toList.isEmpty = false := by simpa using hde
    have HDE := za.mk hde
    have hgood := H4.out d (takeNe_mem HI.out.ne HD.out hde)
    have HDS := za.mk hgood.2.1
    have HNL : za (ns.length ≤ 1000000) := ⟨by have q1 := congrArg List.length HI.out.told; have q2 := HL.out; rw [List.length_map, List.length_take] at q1; omega⟩
    have HV := za.mk (conv_at wr d hgood.1 (HGL.out wr HI.out.gr) hgood.2)
    clear hde hgood
    go_wp2_with (first | (go_at_call 62; (with_reducible refine HV.out.mono ?_); rintro e' w3 ⟨a, rfl, hA, hb⟩; have I3 := za.mk (HI.out.below hb); have HA := za.mk hA; have x3 := (zb I3.out.blk 3).trans rfl; clear hb hA) | ((with_reducible refine zyd (b := .append) (xs := #[.tmp 38, .tmp 43]) rfl ?_); at_builtin; refine Kd.R_append (Kd.raw 3) (w0 := w3) w.heap.size rfl (.tmp 38) (.tmp 43) 67 114 (.agg #[.string ⟨#[]⟩, .pointer none, .int .i64 0]) 32 rfl Tryz.underlying67 infoNum rfl (by decide) (by omega) cv (zse ns) [.string d, .pointer (some ⟨a, 0, none⟩), .int .i64 (k : Int)] [.string d, .pointer (some ⟨a, 0, none⟩), .int .i64 (k : Int)] (fun _ => True) (fun _ => False) rfl rfl ?aP (fun _ hk => hk.elim) (fun _ _ => trivial) I3.out.own.1 (Below.refl _ _) I3.out.gr.size ?aL ?_; (case aP => exact ⟨rfl, rfl, by intro u hu; simp at hu; rcases hu with rfl | rfl | rfl <;> rfl⟩); (case aL => rw [zlf]; have := HNL.out; omega); intro v1 w7 ho hb hg hat; obtain ⟨A1, n1, cp1, rfl⟩ : ∃ A n c, v1 = .slice A n c := (by obtain ⟨A, c, e⟩ := Kd.R_slice ho; exact ⟨A, _, c, e⟩); have K7 := KeptT.row (p := notNum) (by decide) I3.out.own.1 hg; have B7 := za.mk (K7.blk I3.out.blk (by decide)); have x7 := (zb B7.out 3).trans rfl; have f7 := zz B7.out 3; have I7 := za.mk (I3.out.step HD.out HDE.out HA.out HDS.out ho hg); clear ho hb hg hat K7))
    go_roundw
    all_goals first | exact ⟨k + 1, _, .slice A1 n1 cp1, LT.out, by first | rfl | go_num, I7⟩ | exact zge _ k LT.out | exact meas_up1 _ k LT.out | exact zre _ k LT.out WR
  ·obtain rfl : k = parts.length := by omega
   have i3 : decide ((parts.length : Int) < (parts.length : Int)) = false := decide_eq_false (by omega)
   have i4 : ((parts.length : Int) < (parts.length : Int)) = False := eq_false (by omega)
   have HE := za.mk (takeNe_at HI.out.ne (.inl (Nat.le_refl _)))
   clear hlt hk
   go_wp2_with (first | (go_at_call 63; (with_reducible refine (zhb.calls s sub rest _ H5.out).mono ?_); rintro e' w' ⟨rfl, ⟨nd2, rfl⟩⟩))
   go_ret2
   exact ⟨cv, ns, rfl, zid HI.out.blk _, ⟨Kd.R_drewN HI.out.own.1 _, fun x hx => (HI.out.own.2 x hx).below (zd (Below.refl _ _) _)⟩, by rw [HI.out.told, HE.out], zqf HI.out.gr _⟩
end Go.Proofs.YtapaijpglfmfgaaGreatDoorG
end
section
namespace Go.Proofs.YtapaijpglfmfgaaGreatDoorG
open Go.RowKit YtapaijpglfmfgaaGreatDoorH YtapaijpglfmfgaaGreatDoor.S YtapaijpglfmfgaaGreatDoorW.PrintWords YtapaijpglfmfgaaGreatDoorW.PrintLast
def zne (l : List Sx) : List (List Value) := l.map fun x => [.int .i64 x.wt, .pointer (some ⟨x.a, 0, none⟩)]
theorem zwe (l : List Sx) : (zne l).length = l.length := by simp [zne]
theorem zjj (l : List Sx) (x : Sx) : zne (l ++ [x]) = zne l ++ [[.int .i64 x.wt, .pointer (some ⟨x.a, 0, none⟩)]] := by simp [zne]
def SOwn (w : World) (base : Nat) (v : Value) (l : List Sx) : Prop := Kd.R (Kd.raw 2) 117 w base (fun _ => True) v (zne l) ∧ ∀ x ∈ l, BigAt w x.a x.n
theorem SOwn.srow {w : World} {base : Nat} {v : Value} {l : List Sx} (h : SOwn w base v l) (hl : l.length ≤ 1000000) : SRow w v l := by
 obtain ⟨hr, hx⟩ := h
 rcases Nat.eq_zero_or_pos l.length with h0 | h0
 ·obtain ⟨A, c, e, _⟩ := Kd.R_reads hr
  rw [zwe] at e
  exact ⟨A, c, e, hl, fun i x hi => by rw [List.eq_nil_of_length_eq_zero h0] at hi; simp at hi⟩
 ·obtain ⟨g, cap, e, _⟩ := Kd.R_form hr (by rw [zwe]; exact h0)
  subst e
  refine ⟨some ⟨g, 0, none⟩, cap, by rw [zwe], hl, fun i x hi => ⟨g, rfl, ?_⟩⟩
  have hil : i < l.length := (List.getElem?_eq_some_iff.1 hi).1
  obtain ⟨c, hc1, hM, hcc, _⟩ := Kd.R_elem hr [] (i : Int) (by omega) (by rw [zwe]; omega)
  have hgd : (zne l).getD (i : Int).toNat [] = [.int .i64 x.wt, .pointer (some ⟨x.a, 0, none⟩)] := by
   rw [List.getD_eq_getElem?_getD]
   unfold zne
   rw [List.getElem?_map, show ((i : Int).toNat) = i by omega, hi]
   rfl
  rw [hgd] at hM
  obtain ⟨rfl, _⟩ := hM
  exact ⟨hcc 0 _ rfl, hcc 1 _ rfl, hx x (List.mem_of_getElem? hi)⟩
def MRest (f : Nat → Nat) (A : Option Addr) (base : Nat) (xs : List (List ByteArray)) (i : Nat) (w : World) : Prop := ∀ j x, i ≤ j → xs[j]? = some x → ∃ g2 v, A = some ⟨g2, 0, none⟩ ∧ (∃ cells, w.heap[g2]? = some (.cells cells 57 (0, 0))) ∧ w.cell? ⟨g2, j, none⟩ = some v ∧ Kd.R Kd.string 9 w base (fun b => f b = j) v x
theorem MRest.move {f : Nat → Nat} {A : Option Addr} {base : Nat} {xs : List (List ByteArray)} {i i' : Nat} {w w' : World} (h : MRest f A base xs i w) (hi : i ≤ i') (k9 : ∀ (b : Nat) (cells : Array Value), w.heap[b]? = some (.cells cells 9 (0, 0)) → i' ≤ f b → w'.heap[b]? = w.heap[b]?) (k42 : ∀ (b : Nat) (cells : Array Value), w.heap[b]? = some (.cells cells 57 (0, 0)) → w'.heap[b]? = w.heap[b]?) : MRest f A base xs i' w' := by
 intro j x hj hx
 obtain ⟨g2, v, e, ⟨cells, h1⟩, h2, h3⟩ := h j x (Nat.le_trans hi hj) hx
 have hk := k42 g2 cells h1
 refine ⟨g2, v, e, ⟨cells, hk.trans h1⟩, (World.cell?_of_block hk).trans h2, ?_⟩
 refine Kd.R_mono (Kd.R_move (Kd.R_bound h3) (fun b hb => ?_)) (fun _ hk => hk.1)
 obtain ⟨e1, _, _, q, hq, cells2, hc⟩ := hb
 have : q = 9 := (by simpa [Kd.string, Kd.scalar] using hq); subst this
 exact k9 b cells2 hc (by omega)
theorem MRest.same {f : Nat → Nat} {A : Option Addr} {base : Nat} {xs : List (List ByteArray)} {i : Nat} {w w' : World} {p : TypeId → Bool} (h : MRest f A base xs i w) (k : KeptT p w w') (h9 : p 9 = true) (h42 : p 57 = true) : MRest f A base xs i w' :=
 h.move (Nat.le_refl _) (fun b cells hb _ => k b _ _ _ hb h9) (fun b cells hb => k b _ _ _ hb h42)
theorem MRest.first {A : Option Addr} {n c base : Nat} {xs : List (List ByteArray)} {w : World} {ok : Nat → Prop} (h : Kd.S (Kd.slice 9 Kd.string) 57 w base ok (.slice A n c) xs) : ∃ f, MRest f A base xs 0 w := by
 obtain ⟨f, hR⟩ := h
 refine ⟨f, fun j x _ hx => ?_⟩
 have hjl : j < xs.length := (List.getElem?_eq_some_iff.1 hx).1
 have hzl : xs.zipIdx.length = xs.length := List.length_zipIdx
 obtain ⟨g2, cap, e, _, _, ht⟩ := Kd.R_form hR (by omega)
 injection e with e1 e2 e3
 subst e1
 obtain ⟨c', hc1, hM, hcc, _⟩ := Kd.R_elem hR (([] : List ByteArray), 0) (j : Int) (by omega) (by rw [e2]; omega)
 have hgd : xs.zipIdx.getD (j : Int).toNat (([] : List ByteArray), 0) = (x, j) := by
  rw [List.getD_eq_getElem?_getD, show ((j : Int).toNat) = j by omega, Kd.zip_at hx]; rfl
 rw [hgd] at hM
 obtain ⟨v, rfl, hv⟩ := hM
 refine ⟨g2, v, rfl, ht, ?_, Kd.R_mono hv (fun _ hk => hk.2)⟩
 have := hcc 0 v rfl
 rw [show (j : Int).toNat * (Kd.tag f (Kd.slice 9 Kd.string)).sz + 0 = j by show (j : Int).toNat * 1 + 0 = j; omega] at this
 exact this
def notSuf (t : TypeId) : Bool := t != 117
theorem numT_notSuf (t : TypeId) (h : numT t = true) : notSuf t = true := by
 unfold numT at h
 unfold notSuf
 rcases Bool.or_eq_true_iff.mp h with h | h
 ·rw [of_decide_eq_true h]; decide
 ·rw [of_decide_eq_true h]; decide
def zhf (k : Nat) : List (List ByteArray) → ByteArray → Option (List (Int × ByteArray) × ByteArray)
 | [], s => some ([], s)
 | [m0, wd, dg] :: ms, s => (zr.f k wd).bind fun wt => (zhb.f s m0).bind fun s' => if Plain (or0 dg) ∧ zae (or0 dg) then (zhf k ms s').map (fun r => ((wt, or0 dg) :: r.1, r.2)) else none
 | _ :: _, _ => none
theorem sufRun_step {k : Nat} {m : List ByteArray} {ms : List (List ByteArray)} {s : ByteArray} {r : List (Int × ByteArray) × ByteArray} (h : zhf k (m :: ms) s = some r) : ∃ m0 wd dg wt s' r', m = [m0, wd, dg] ∧ zr.f k wd = some wt ∧ zhb.f s m0 = some s' ∧ Plain (or0 dg) ∧ zae (or0 dg) ∧ zhf k ms s' = some r' ∧ r = ((wt, or0 dg) :: r'.1, r'.2) := by
 match m, h with
 | [m0, wd, dg], h =>
  simp only [zhf] at h
  obtain ⟨wt, h1, h⟩ := Option.bind_eq_some_iff.mp h
  obtain ⟨s', h2, h⟩ := Option.bind_eq_some_iff.mp h
  by_cases hc : Plain (or0 dg) ∧ zae (or0 dg)
  ·rw [if_pos hc] at h
   obtain ⟨r', h3, rfl⟩ := Option.map_eq_some_iff.mp h
   exact ⟨m0, wd, dg, wt, s', r', rfl, h1, h2, hc.1, hc.2, h3, rfl⟩
  ·rw [if_neg hc] at h
   cases h
 | [], h => simp [zhf] at h
 | [_], h => simp [zhf] at h
 | [_, _], h => simp [zhf] at h
 | _ :: _ :: _ :: _ :: _, h => simp [zhf] at h
def zuc (l : List Sx) : List (Int × Nat) := l.map fun x => (x.wt, x.n)
def zoe (l : List (Int × ByteArray)) : List (Int × Nat) := l.map fun x => (x.1, dv x.2 x.2.size)
structure SInv (w wr : World) (g : Nat) (o : ByteArray) (i : Bool) (r : ByteArray) (cv : Value) (l : ByteArray) (sv : Value) (h : ByteArray) (bv : Value) (f : Nat → Nat) (A : Option Addr) (xs : List (List ByteArray)) (k : Nat) (ns : List Sx) : Prop where
 len : ns.length = k
 blk : VBlk wr g o i r cv l sv h bv
 own : SOwn wr w.heap.size sv ns
 rest : MRest f A w.heap.size xs k wr
 gr : w.grownBy wr (some g)
structure SMid (w wr : World) (g : Nat) (o : ByteArray) (i : Bool) (r : ByteArray) (cv : Value) (l : ByteArray) (sv : Value) (h : ByteArray) (bv : Value) (f : Nat → Nat) (A : Option Addr) (xs : List (List ByteArray)) (k : Nat) (ns : List Sx) (b : Nat) (m0 wd : ByteArray) (a n : Nat) : Prop where
 len : ns.length = k
 blk : VBlk wr g o i r cv l sv h bv
 own : SOwn wr w.heap.size sv ns
 rest : MRest f A w.heap.size xs (k + 1) wr
 gr : w.grownBy wr (some g)
 ty : ∃ cells, wr.heap[b]? = some (.cells cells 9 (0, 0))
 c0 : wr.cell? ⟨b, 0, none⟩ = some (.string m0)
 c1 : wr.cell? ⟨b, 1, none⟩ = some (.string wd)
 num : BigAt wr a n
section
variable {w wr w' : World} {g : Nat} {o : ByteArray} {i : Bool} {r : ByteArray} {cv : Value} {l : ByteArray} {sv : Value} {h : ByteArray} {bv : Value} {f : Nat → Nat} {A : Option Addr} {xs : List (List ByteArray)} {k : Nat} {ns : List Sx} {b : Nat} {m0 wd : ByteArray} {a n : Nat}
theorem SOwn.below {base : Nat} (H : SOwn wr base sv ns) (hb : Below wr.heap.size wr w') : SOwn w' base sv ns := ⟨Kd.R_below H.1 hb, fun x hx => (H.2 x hx).below hb⟩
theorem SMid.below (H : SMid w wr g o i r cv l sv h bv f A xs k ns b m0 wd a n) (hb : Below wr.heap.size wr w') : SMid w w' g o i r cv l sv h bv f A xs k ns b m0 wd a n :=
 ⟨H.len, zc H.blk hb, H.own.below hb, H.rest.same (p := fun _ => true) (KeptT.below hb) rfl rfl, zje H.gr hb, by obtain ⟨cells, hc⟩ := H.ty; exact ⟨cells, zc hc hb⟩, zlc hb H.c0, zlc hb H.c1, H.num.below hb⟩
theorem SMid.drew (H : SMid w wr g o i r cv l sv h bv f A xs k ns b m0 wd a n) : SMid w wr.drew g o i r cv l sv h bv f A xs k ns b m0 wd a n := H.below (zed (Below.refl _ _))
theorem SInv.below (H : SInv w wr g o i r cv l sv h bv f A xs k ns) (hb : Below wr.heap.size wr w') : SInv w w' g o i r cv l sv h bv f A xs k ns :=
 ⟨H.len, zc H.blk hb, H.own.below hb, H.rest.same (p := fun _ => true) (KeptT.below hb) rfl rfl, zje H.gr hb⟩
theorem SInv.mid (H : SInv w wr g o i r cv l sv h bv f A xs k ns) (hb9 : ∃ cells, wr.heap[b]? = some (.cells cells 9 (0, 0))) (hfb : f b = k) (hbw : w.heap.size ≤ b) (h0 : wr.cell? ⟨b, 0, none⟩ = some (.string m0)) (h1 : wr.cell? ⟨b, 1, none⟩ = some (.string wd)) {W : World} (hW : W = wr ∨ W = wr.setCell ⟨b, 2, none⟩ (.string ⟨#[48]⟩)) (hb : Below W.heap.size W w') (hn : BigAt w' a n) : SMid w w' g o i r cv l sv h bv f A xs k ns b m0 wd a n := by
 have key : SMid w W g o i r cv l sv h bv f A xs k ns b m0 wd a n ∨ True := .inr trivial
 clear key
 obtain ⟨cells, hc⟩ := hb9
 rcases hW with rfl | rfl
 ·exact ⟨H.len, zc H.blk hb, H.own.below hb, (H.rest.move (Nat.le_succ k) (fun _ _ _ _ => rfl) (fun _ _ _ => rfl)).same (p := fun _ => true) (KeptT.below hb) rfl rfl, zje H.gr hb, ⟨cells, zc hc hb⟩, zlc hb h0, zlc hb h1, hn⟩
 ·have K : KeptT (fun t => t != 9) wr (wr.setCell ⟨b, 2, none⟩ (.string ⟨#[48]⟩)) := KeptT.set hc (by decide) 2 _
  have KN : KeptT numT wr (wr.setCell ⟨b, 2, none⟩ (.string ⟨#[48]⟩)) := KeptT.set hc (by decide) 2 _
  have hc' := blk_set hc 2 (.string ⟨#[48]⟩)
  have cell_ne : ∀ j, j ≠ 2 → (wr.setCell ⟨b, 2, none⟩ (.string ⟨#[48]⟩)).cell? ⟨b, j, none⟩ = wr.cell? ⟨b, j, none⟩ := fun j hj => by
   rw [zb hc', zb hc, Array.getElem?_setIfInBounds]
   rw [if_neg (by omega)]
  refine ⟨H.len, zc (K.blk H.blk (by decide)) hb, SOwn.below ⟨zrd (p := fun t => t != 9) rfl (by decide) H.own.1 K, fun x hx => (H.own.2 x hx).kept KN⟩ hb, (H.rest.move (Nat.le_succ k) (fun b' cells' hb' hf => ?_) (fun b' cells' hb' => ?_)).same (p := fun _ => true) (KeptT.below hb) rfl rfl, zje (gr_set H.gr (.inr hbw) 2 _) hb, ⟨_, zc hc' hb⟩, zlc hb ((cell_ne 0 (by decide)).trans h0), zlc hb ((cell_ne 1 (by decide)).trans h1), hn⟩
  ·exact Below.heap_setCell _ _ _ _ (fun e => by have e2 : b' = b := e; subst e2; omega)
  ·exact K b' _ _ _ hb' (by decide)
theorem SMid.step (H : SMid w wr g o i r cv l sv h bv f A xs k ns b m0 wd a n) {w7 : World} {v1 : Value} {wt : Int} (ho : Kd.R (Kd.raw 2) 117 w7 w.heap.size (fun _ => True) v1 (zne ns ++ [[.int .i64 wt, .pointer (some ⟨a, 0, none⟩)]])) (hg : wr.grownBy w7 sv.ownBlock) :
  SInv w (w7.setCell ⟨g, 5, none⟩ v1) g o i r cv l v1 h bv f A xs (k + 1) (ns ++ [⟨wt, a, n⟩]) ∧ (w7.setCell ⟨g, 5, none⟩ v1).cell? ⟨b, 0, none⟩ = some (.string m0) := by
 have K : KeptT notSuf wr w7 := KeptT.row (by decide) H.own.1 hg
 have B7 : VBlk w7 g o i r cv l sv h bv := K.blk H.blk (by decide)
 have KN2 : KeptT numT wr (w7.setCell ⟨g, 5, none⟩ v1) := (K.sub numT_notSuf).trans (KeptT.set B7 (by decide) 5 _)
 have KM : KeptT (fun t => t == 9 || t == 57) wr (w7.setCell ⟨g, 5, none⟩ v1) := (K.sub (fun t ht => by
  rcases Bool.or_eq_true_iff.mp ht with ht | ht
  ·rw [of_decide_eq_true ht]; decide
  ·rw [of_decide_eq_true ht]; decide)).trans (KeptT.set B7 (by decide) 5 _)
 refine ⟨⟨by rw [List.length_append, H.len]; rfl, zq B7 5 _ rfl, ⟨?_, fun x hx => ?_⟩, H.rest.same KM (by decide) (by decide), gr_set (gr_then H.gr hg (fun b hb => .inr (Kd.R_base H.own.1 b hb))) (.inl rfl) _ _⟩, ?_⟩
 ·rw [zjj]
  exact Kd.R_set ho B7 (by intro q hq; have : q = 117 := (by simpa [Kd.raw] using hq); subst this; decide) 5 _
 ·rcases List.mem_append.mp hx with hx | hx
  ·exact (H.own.2 x hx).kept KN2
  ·simp at hx; subst hx; exact H.num.kept KN2
 ·obtain ⟨cells, hc⟩ := H.ty
  exact (World.cell?_of_block (KM b _ _ _ hc (by decide))).trans H.c0
end
theorem parseSufs_ (w : World) (g : Nat) (o : ByteArray) (i : Bool) (r : ByteArray) (cv : Value) (l h : ByteArray) (bv : Value) (s rest : ByteArray) (kq k2 : Nat) (xs : List (List ByteArray)) (L : List (Int × ByteArray)) (hv : VBlk w g o i r cv l (.slice none 0 0) h bv) (hGL : ∀ W, w.grownBy W (some g) → GLe W)
  (h1 : zh.f k2 s = some xs) (hl : xs.length ≤ 1000000) (h2 : zhf kq xs s = some (L, rest)) :
  Calls Tryz.prog 50 #[.pointer (some ⟨g, 0, none⟩), .string s] w fun e w' => ∃ sv ns, e = .returned (.tuple #[.string rest, .nilIface]) ∧ VBlk w' g o i r cv l sv h bv ∧ SOwn w' w.heap.size sv ns ∧ zuc ns = zoe L ∧ w.grownBy w' (some g) := by
 have HG := za.mk hv
 have H1 := za.mk h1
 have H2 : za (∃ L', zhf kq (xs.drop 0) s = some (L', rest) ∧ zuc [] ++ zoe L' = zoe L) := ⟨⟨L, by simpa using h2, rfl⟩⟩
 have HGL := za.mk hGL
 have HL := za.mk hl
 clear h1 h2 hv hGL hl
 go_enter Tryz.func50, Tryz.ntmps50
 go_wp2_with (first | (go_at_call 65; (with_reducible refine (zh.calls k2 s xs _ H1.out).mono ?_); rintro e' w1 ⟨v0, rfl, hr, hb⟩; obtain ⟨A, cap, rfl⟩ := Kd.S_slice hr; have B1 := za.mk hb; have R1 := za.mk (MRest.first hr); clear hr hb))
 obtain ⟨f, hf⟩ := R1.out
 have I0 : za (SInv w w1 g o i r cv l (.slice none 0 0) h bv f A xs 0 []) := ⟨⟨rfl, zc HG.out B1.out, ⟨Kd.R_nil _ _ _ _ _, fun x hx => by simp at hx⟩, hf, zje (zyf w _) B1.out⟩⟩
 clear hf R1
 go_loopw [1, 13] (fun tv iv wr => ∃ (k : Nat) (ns : List Sx) (sv : Value) (t : ByteArray), k ≤ xs.length ∧ tv = .string t ∧ iv = .int .i64 k ∧ za (SInv w wr g o i r cv l sv h bv f A xs k ns) ∧ za (∃ L', zhf kq (xs.drop k) t = some (L', rest) ∧ zuc ns ++ zoe L' = zoe L)) (fun _ iv _ => xs.length - (intOf iv).toNat)
 case atStart => exact ⟨0, [], _, s, Nat.zero_le _, rfl, rfl, I0, H2⟩
 case round =>
  clear H2
  obtain ⟨k, ns, sv, t, hk, rfl, rfl, HI, HR⟩ := hrel
  by_cases hlt : k < xs.length
  ·have i3 : decide ((k : Int) < (xs.length : Int)) = true := decide_eq_true (by omega)
   have i4 : ((k : Int) < (xs.length : Int)) = True := eq_true (by omega)
   have i5 : (0 ≤ (k : Int)) = True := eq_true (by omega)
   have WR : wrap64 ((k : Int) + 1) = ((k + 1 : Nat) : Int) := by have := HL.out; unfold wrap64; omega
   have LT := za.mk hlt
   have HNL : za (ns.length ≤ 1000000) := ⟨by have q1 := HI.out.len; have q2 := HL.out; omega⟩
   obtain ⟨L', hL1, hL2⟩ := HR.out
   rw [List.drop_eq_getElem_cons hlt] at hL1
   obtain ⟨m0, wd, dg, wt, t', r', hm, hw, ht, hp, hd, hrun, hr⟩ := sufRun_step hL1
   have HNX : ∀ a n, n = dv (or0 dg) (or0 dg).size → za (∃ L', zhf kq (xs.drop (k + 1)) t' = some (L', rest) ∧ zuc (ns ++ [⟨wt, a, n⟩]) ++ zoe L' = zoe L) := fun a n hn => ⟨⟨r'.1, by
    rw [hrun]
    have e := congrArg Prod.snd hr
    have e2 : rest = r'.2 := e
    rw [e2], by
    have e := congrArg Prod.fst hr
    have e2 : L' = (wt, or0 dg) :: r'.1 := e
    rw [← hL2, e2, hn]
    simp [zuc, zoe]⟩⟩
   have HW := za.mk hw
   have HT := za.mk ht
   have hx : xs[k]? = some [m0, wd, dg] := by rw [List.getElem?_eq_getElem hlt, hm]
   obtain ⟨g2, v, e, ⟨cells2, hg2⟩, hcell, hrow⟩ := HI.out.rest k _ (Nat.le_refl _) hx
   subst e
   obtain ⟨b, cap2, e, hb1, hb2, hb3⟩ := Kd.R_form hrow (by simp)
   subst e
   have hfb : f b = k := hrow.1 b rfl
   have el : ∀ j : Nat, j < 3 → wr.cell? ⟨b, j, none⟩ = some (.string ([m0, wd, dg].getD j ByteArray.empty)) ∧ wr.frozen? ⟨b, j, none⟩ = false := fun j hj => by
    obtain ⟨c, hc1, hM, hcc, hfr⟩ := Kd.R_elem hrow ByteArray.empty (j : Int) (by omega) (by simp; omega)
    have hM2 : c = [.string ([m0, wd, dg].getD (j : Int).toNat ByteArray.empty)] := hM
    have h3 := hcc 0 _ (by rw [hM2]; rfl)
    have h4 := hfr 0
    rw [show (j : Int).toNat * Kd.string.sz + 0 = j by show (j : Int).toNat * 1 + 0 = j; omega] at h3 h4
    rw [show (j : Int).toNat = j by omega] at h3
    exact ⟨h3, h4⟩
   have y0 : wr.cell? ⟨g2, k, none⟩ = some (.slice (some ⟨b, 0, none⟩) 3 cap2) := hcell
   have e0 : wr.cell? ⟨b, 0, none⟩ = some (.string m0) := (el 0 (by decide)).1
   have e1 : wr.cell? ⟨b, 1, none⟩ = some (.string wd) := (el 1 (by decide)).1
   have e2 : wr.cell? ⟨b, 2, none⟩ = some (.string dg) := (el 2 (by decide)).1
   have f2 : wr.frozen? ⟨b, 2, none⟩ = false := (el 2 (by decide)).2
   have HGE := za.mk (HGL.out wr HI.out.gr)
   have HB3 := za.mk hb3
   have HGE2 : za (GLe (wr.setCell ⟨b, 2, none⟩ (.string ⟨#[48]⟩))) := ⟨HGL.out _ (gr_set HI.out.gr (.inr hb1) _ _)⟩
   have HM : za (∀ (W w' : World) (a : Nat), (W = wr ∨ W = wr.setCell ⟨b, 2, none⟩ (.string ⟨#[48]⟩)) → Below W.heap.size W w' → BigAt w' a (dv (or0 dg) (or0 dg).size) → SMid w w' g o i r cv l sv h bv f (some ⟨g2, 0, none⟩) xs k ns b m0 wd a (dv (or0 dg) (or0 dg).size)) :=
    ⟨fun W w' a hW hb hn => HI.out.mid hb3 hfb hb1 e0 e1 hW hb hn⟩
   have HP := za.mk (And.intro hp hd)
   clear hlt hk hL1 hL2 hm hw ht hp hd hrun hr hx hg2 hcell hrow hb1 hb2 hfb el e0 e1 hb3 HR I0 HI
   by_cases hde : dg.toList = []
   ·have c1 : (dg.toList == []) = true := by simpa using hde
    have c2 : (dg.toList != []) = false := by simpa using hde
    have c3 : dg.toList.isEmpty = true := by simpa using hde
    have eo : or0 dg = ⟨#[48]⟩ := if_pos hde
    rw [eo] at HM HP HNX
    have HV : za (∀ W, GLe W → Calls Tryz.prog 62 #[.string ⟨#[48]⟩] W fun e w' => ∃ a, e = .returned (.tuple #[.pointer (some ⟨a, 0, none⟩), .nilIface]) ∧ BigAt w' a (dv ⟨#[48]⟩ (⟨#[48]⟩ : ByteArray).size) ∧ Below W.heap.size W w') := ⟨fun W hW => conv_at W _ HP.out.1 hW HP.out.2⟩
    clear hde eo HP
    have y2 : (wr.setCell ⟨b, 2, none⟩ (.string ⟨#[48]⟩)).cell? ⟨b, 2, none⟩ = some (.string ⟨#[48]⟩) := by
     obtain ⟨cells, hc⟩ := HB3.out
     rw [zb (blk_set hc 2 _), Array.getElem?_setIfInBounds]
     rw [zb hc] at e2
     have := (Array.getElem?_eq_some_iff.1 e2).1
     simp [this]
    go_upto_region 9 with (first | (go_at_call 62; (with_reducible refine (HV.out _ HGE2.out).mono ?_); rintro e' w3 ⟨a, rfl, hA, hb⟩; have M3 := za.mk (HM.out _ w3 a (.inr rfl) hb hA); have NX := HNX a _ rfl; clear hb hA HNX HB3))
    refine zuf (n := 16) (S := fun w' => w'.cell? ⟨g, 5, none⟩ = some sv ∧ w'.cell? ⟨b, 1, none⟩ = some (.string wd)) (ds := [12, 15]) #[false, false, false, false, false, false, false, false, false, false, false, false, false, false, false, false] (by kernel_rfl) rfl rfl ⟨(zb M3.out.drew.blk 5).trans rfl, M3.out.drew.c1⟩ (fun hHeld => ?_)
    have M4 := za.mk M3.out.drew
    clear M3 HM
    generalize w3.drew = w4 at M4 hHeld ⊢
    refine pure_ (i := 0) (N := some 33) #[true, false, false, false, false, false, false, false, false, false, false, false, false, false, false, false] rfl rfl (by kernel_rfl) (fun _ _ _ h => h) (Or.inl ⟨by rfl, fun w' => by go_simp; with_reducible rfl⟩) (by simp only [Act.put, List.setIfInBounds_toArray, List.set_cons_zero, List.set_cons_succ, i64_w, i32_w]; rfl) ?_
    refine pure_ (i := 1) (N := some 34) #[true, true, false, false, false, false, false, false, false, false, false, false, false, false, false, false] rfl rfl (by kernel_rfl) (fun _ _ _ h => h) (Or.inl ⟨by rfl, fun w' => by go_simp; with_reducible rfl⟩) (by simp only [Act.put, List.setIfInBounds_toArray, List.set_cons_zero, List.set_cons_succ, i64_w, i32_w]; rfl) ?_
    refine pure_ (i := 2) (N := some 35) #[true, true, true, false, false, false, false, false, false, false, false, false, false, false, false, false] rfl rfl (by kernel_rfl) (fun _ _ _ h => h) (Or.inl ⟨by rfl, fun w' => by go_simp; with_reducible rfl⟩) (by simp only [Act.put, List.setIfInBounds_toArray, List.set_cons_zero, List.set_cons_succ, i64_w, i32_w]; rfl) ?_
    refine pure_ (i := 3) (N := some 36) #[true, true, true, true, false, false, false, false, false, false, false, false, false, false, false, false] rfl rfl (by kernel_rfl) (fun _ _ _ h => h) (Or.inl ⟨by rfl, fun w' => by go_simp; with_reducible rfl⟩) (by simp only [Act.put, List.setIfInBounds_toArray, List.set_cons_zero, List.set_cons_succ, i64_w, i32_w]; rfl) ?_
    refine pure_ (i := 5) (N := some 38) #[true, true, true, true, false, true, false, false, false, false, false, false, false, false, false, false] rfl rfl (by kernel_rfl) (fun _ _ _ h => h) (Or.inl ⟨by rfl, fun w' => by go_simp; with_reducible rfl⟩) (by simp only [Act.put, List.setIfInBounds_toArray, List.set_cons_zero, List.set_cons_succ, i64_w, i32_w]; rfl) ?_
    refine pure_ (i := 6) (N := some 39) #[true, true, true, true, false, true, true, false, false, false, false, false, false, false, false, false] rfl rfl (by kernel_rfl) (fun _ _ _ h => h) (Or.inl ⟨by rfl, fun w' => by go_simp; with_reducible rfl⟩) (by simp only [Act.put, List.setIfInBounds_toArray, List.set_cons_zero, List.set_cons_succ, i64_w, i32_w]; rfl) ?_
    refine pure_ (i := 9) (N := some 42) #[true, true, true, true, false, true, true, false, false, true, false, false, false, false, false, false] rfl rfl (by kernel_rfl) (fun _ _ _ h => h) (Or.inl ⟨by rfl, fun w' => by go_simp; with_reducible rfl⟩) (by simp only [Act.put, List.setIfInBounds_toArray, List.set_cons_zero, List.set_cons_succ, i64_w, i32_w]; rfl) ?_
    refine take_ (i := 4) (N := some 37) #[true, true, true, true, true, true, true, false, false, true, false, false, false, false, false, false] rfl rfl (by kernel_rfl) (fun _ _ _ h => h) (Or.inl ⟨by rfl, by rintro w' ⟨s0, s1⟩; go_simp; with_reducible rfl⟩) hHeld (by simp only [Act.put, List.setIfInBounds_toArray, List.set_cons_zero, List.set_cons_succ, i64_w, i32_w]; rfl) ?_
    refine take_ (i := 7) (N := some 40) #[true, true, true, true, true, true, true, true, false, true, false, false, false, false, false, false] rfl rfl (by kernel_rfl) (fun _ _ _ h => h) (Or.inl ⟨by rfl, by rintro w' ⟨s0, s1⟩; go_simp; with_reducible rfl⟩) hHeld (by simp only [Act.put, List.setIfInBounds_toArray, List.set_cons_zero, List.set_cons_succ, i64_w, i32_w]; rfl) ?_
    refine one_ (i := 8) (N := some 41) #[true, true, true, true, true, true, true, true, true, true, false, false, false, false, false, false] rfl rfl (by kernel_rfl) (by decide) (fun K hK => ?_)
    refine goes_ Tryz.func66 (by kernel_rfl) rfl #[.string wd] (by rfl) rfl rfl (by simp only [List.map_toArray, List.map_cons, List.map_nil]; rfl) ?_
    with_reducible refine (zr.calls kq wd wt _ HW.out).mono ?_
    rintro e w5 ⟨rfl, hb⟩
    refine ⟨_, rfl, ?_⟩
    have M5 := za.mk (M4.out.below hb)
    clear hb M4
    refine hK.out _ _ ⟨(zb M5.out.blk 5).trans rfl, M5.out.c1⟩ (fun hHeld => ?_)
    clear hK K
    refine Go.Proofs.YtapaijpglfmfgaaGreatDoorW.PrintLast.norm_ (by show Act.put _ (some 41) _ = _; simp only [Act.put, List.setIfInBounds_toArray, List.set_cons_zero, List.set_cons_succ, i64_w, i32_w]; rfl) ?_
    refine pure_ (i := 10) (N := some 43) #[true, true, true, true, true, true, true, true, true, true, true, false, false, false, false, false] rfl rfl (by kernel_rfl) (fun _ _ _ h => h) (Or.inl ⟨by rfl, fun w' => by go_simp; with_reducible rfl⟩) (by simp only [Act.put, List.setIfInBounds_toArray, List.set_cons_zero, List.set_cons_succ, i64_w, i32_w]; rfl) ?_
    refine one_ (i := 11) (N := some 44) #[true, true, true, true, true, true, true, true, true, true, true, true, false, false, false, false] rfl rfl (by kernel_rfl) (by decide) (fun K hK => ?_)
    refine zoh (w1 := ?_) (v := ?_) (by rfl) rfl ?_ ?_
    rotate_left 2
    ·go_simp
     constructor
     ·rfl
     ·rfl
    refine hK.out _ _ ⟨(zb (zvb M5.out.blk _) 5).trans rfl, (zlc (zj (Below.refl _ _) _) M5.out.c1)⟩ (fun hHeld => ?_)
    clear hK K
    refine Go.Proofs.YtapaijpglfmfgaaGreatDoorW.PrintLast.norm_ (by show Act.put _ (some 44) _ = _; simp only [Act.put, List.setIfInBounds_toArray, List.set_cons_zero, List.set_cons_succ, i64_w, i32_w]; rfl) ?_
    refine last_ (i := 12) (N := some 45) #[true, true, true, true, true, true, true, true, true, true, true, true, true, false, false, false] rfl rfl (by kernel_rfl) (by decide) (fun K hK => ?_)
    refine Kd.R_append_step (Kd.raw 2) (w0 := w5) w.heap.size (by rfl) (.tmp 37) (.tmp 44) 68 117 (.agg #[.int .i64 0, .pointer none]) 16 rfl Tryz.underlying68 infoSuf rfl (by decide) (by omega) sv (zne ns) [.int .i64 wt, .pointer (some ⟨a, 0, none⟩)] [.int .i64 wt, .pointer (some ⟨a, 0, none⟩)] (fun _ => True) (fun _ => False) rfl rfl ?aP (fun _ hk => hk.elim) (fun _ _ => trivial) M5.out.own.1 (Below.refl _ _) M5.out.gr.size ?aL ?_
    (case aP => exact ⟨rfl, rfl, by intro u hu; simp at hu; rcases hu with rfl | rfl <;> rfl⟩)
    (case aL => rw [zwe]; have := HNL.out; omega)
    intro v1 w7 ho hb hg hat
    obtain ⟨A1, n1, cp1, rfl⟩ : ∃ A n c, v1 = .slice A n c := by
     obtain ⟨A, c, e⟩ := Kd.R_slice ho
     exact ⟨A, _, c, e⟩
    have B7 := za.mk ((KeptT.row (p := notSuf) (by decide) M5.out.own.1 hg).blk M5.out.blk (by decide))
    have x7 := (zb B7.out 5).trans rfl
    have f7 := zz B7.out 5
    have I7 := za.mk (M5.out.step ho hg)
    clear ho hb hg hat
    refine hK.out _ _ ?_
    clear hK K
    refine Go.Proofs.YtapaijpglfmfgaaGreatDoorW.PrintLast.norm_ (by show Act.put _ (some 45) _ = _; simp only [Act.put, List.setIfInBounds_toArray, List.set_cons_zero, List.set_cons_succ, i64_w, i32_w]; rfl) ?_
    refine pure_ (i := 13) (N := some 46) #[true, true, true, true, true, true, true, true, true, true, true, true, true, true, false, false] rfl rfl (by kernel_rfl) (fun _ _ _ h => h) (Or.inl ⟨by rfl, fun w' => by go_simp; with_reducible rfl⟩) (by simp only [Act.put, List.setIfInBounds_toArray, List.set_cons_zero, List.set_cons_succ, i64_w, i32_w]; rfl) ?_
    refine pure_ (i := 14) (N := some 47) #[true, true, true, true, true, true, true, true, true, true, true, true, true, true, true, false] rfl rfl (by kernel_rfl) (fun _ _ _ h => h) (Or.inl ⟨by rfl, fun w' => by go_simp; with_reducible rfl⟩) (by simp only [Act.put, List.setIfInBounds_toArray, List.set_cons_zero, List.set_cons_succ, i64_w, i32_w]; rfl) ?_
    refine last_ (i := 15) (N := none) #[true, true, true, true, true, true, true, true, true, true, true, true, true, true, true, true] rfl rfl (by kernel_rfl) (by decide) (fun K hK => ?_)
    refine skip_ (w1 := ?_) (by rfl) rfl ?_ ?_
    rotate_left
    ·go_simp
     rfl
    refine hK.out _ _ ?_
    clear hK K
    refine done_ (by kernel_rfl) ?_
    have x8 := I7.out.2
    go_wp2_with (first | (go_at_call 63; (with_reducible refine (zhb.calls t m0 t' _ HT.out).mono ?_); rintro e' w' ⟨rfl, ⟨nd2, rfl⟩⟩))
    go_roundw
    all_goals first | exact ⟨k + 1, _, .slice A1 n1 cp1, t', LT.out, rfl, by first | rfl | go_num, ⟨I7.out.1.below (zd (Below.refl _ _) _)⟩, NX⟩ | exact zge _ k LT.out | exact meas_up1 _ k LT.out | exact zre _ k LT.out WR
   ·have c1 : (dg.toList == []) = false := by simpa using hde
    have c2 : (dg.toList != []) = true := by simpa using hde
    have c3 : dg.toList.isEmpty = false := by simpa using hde
    have eo : or0 dg = dg := if_neg hde
    rw [eo] at HM HP HNX
    have HV : za (∀ W, GLe W → Calls Tryz.prog 62 #[.string dg] W fun e w' => ∃ a, e = .returned (.tuple #[.pointer (some ⟨a, 0, none⟩), .nilIface]) ∧ BigAt w' a (dv dg dg.size) ∧ Below W.heap.size W w') := ⟨fun W hW => conv_at W _ HP.out.1 hW HP.out.2⟩
    clear hde eo HP
    go_upto_region 9 with (first | (go_at_call 62; (with_reducible refine (HV.out _ HGE.out).mono ?_); rintro e' w3 ⟨a, rfl, hA, hb⟩; have M3 := za.mk (HM.out _ w3 a (.inl rfl) hb hA); have NX := HNX a _ rfl; clear hb hA HNX HB3))
    refine zuf (n := 16) (S := fun w' => w'.cell? ⟨g, 5, none⟩ = some sv ∧ w'.cell? ⟨b, 1, none⟩ = some (.string wd)) (ds := [12, 15]) #[false, false, false, false, false, false, false, false, false, false, false, false, false, false, false, false] (by kernel_rfl) rfl rfl ⟨(zb M3.out.drew.blk 5).trans rfl, M3.out.drew.c1⟩ (fun hHeld => ?_)
    have M4 := za.mk M3.out.drew
    clear M3 HM
    generalize w3.drew = w4 at M4 hHeld ⊢
    refine pure_ (i := 0) (N := some 33) #[true, false, false, false, false, false, false, false, false, false, false, false, false, false, false, false] rfl rfl (by kernel_rfl) (fun _ _ _ h => h) (Or.inl ⟨by rfl, fun w' => by go_simp; with_reducible rfl⟩) (by simp only [Act.put, List.setIfInBounds_toArray, List.set_cons_zero, List.set_cons_succ, i64_w, i32_w]; rfl) ?_
    refine pure_ (i := 1) (N := some 34) #[true, true, false, false, false, false, false, false, false, false, false, false, false, false, false, false] rfl rfl (by kernel_rfl) (fun _ _ _ h => h) (Or.inl ⟨by rfl, fun w' => by go_simp; with_reducible rfl⟩) (by simp only [Act.put, List.setIfInBounds_toArray, List.set_cons_zero, List.set_cons_succ, i64_w, i32_w]; rfl) ?_
    refine pure_ (i := 2) (N := some 35) #[true, true, true, false, false, false, false, false, false, false, false, false, false, false, false, false] rfl rfl (by kernel_rfl) (fun _ _ _ h => h) (Or.inl ⟨by rfl, fun w' => by go_simp; with_reducible rfl⟩) (by simp only [Act.put, List.setIfInBounds_toArray, List.set_cons_zero, List.set_cons_succ, i64_w, i32_w]; rfl) ?_
    refine pure_ (i := 3) (N := some 36) #[true, true, true, true, false, false, false, false, false, false, false, false, false, false, false, false] rfl rfl (by kernel_rfl) (fun _ _ _ h => h) (Or.inl ⟨by rfl, fun w' => by go_simp; with_reducible rfl⟩) (by simp only [Act.put, List.setIfInBounds_toArray, List.set_cons_zero, List.set_cons_succ, i64_w, i32_w]; rfl) ?_
    refine pure_ (i := 5) (N := some 38) #[true, true, true, true, false, true, false, false, false, false, false, false, false, false, false, false] rfl rfl (by kernel_rfl) (fun _ _ _ h => h) (Or.inl ⟨by rfl, fun w' => by go_simp; with_reducible rfl⟩) (by simp only [Act.put, List.setIfInBounds_toArray, List.set_cons_zero, List.set_cons_succ, i64_w, i32_w]; rfl) ?_
    refine pure_ (i := 6) (N := some 39) #[true, true, true, true, false, true, true, false, false, false, false, false, false, false, false, false] rfl rfl (by kernel_rfl) (fun _ _ _ h => h) (Or.inl ⟨by rfl, fun w' => by go_simp; with_reducible rfl⟩) (by simp only [Act.put, List.setIfInBounds_toArray, List.set_cons_zero, List.set_cons_succ, i64_w, i32_w]; rfl) ?_
    refine pure_ (i := 9) (N := some 42) #[true, true, true, true, false, true, true, false, false, true, false, false, false, false, false, false] rfl rfl (by kernel_rfl) (fun _ _ _ h => h) (Or.inl ⟨by rfl, fun w' => by go_simp; with_reducible rfl⟩) (by simp only [Act.put, List.setIfInBounds_toArray, List.set_cons_zero, List.set_cons_succ, i64_w, i32_w]; rfl) ?_
    refine take_ (i := 4) (N := some 37) #[true, true, true, true, true, true, true, false, false, true, false, false, false, false, false, false] rfl rfl (by kernel_rfl) (fun _ _ _ h => h) (Or.inl ⟨by rfl, by rintro w' ⟨s0, s1⟩; go_simp; with_reducible rfl⟩) hHeld (by simp only [Act.put, List.setIfInBounds_toArray, List.set_cons_zero, List.set_cons_succ, i64_w, i32_w]; rfl) ?_
    refine take_ (i := 7) (N := some 40) #[true, true, true, true, true, true, true, true, false, true, false, false, false, false, false, false] rfl rfl (by kernel_rfl) (fun _ _ _ h => h) (Or.inl ⟨by rfl, by rintro w' ⟨s0, s1⟩; go_simp; with_reducible rfl⟩) hHeld (by simp only [Act.put, List.setIfInBounds_toArray, List.set_cons_zero, List.set_cons_succ, i64_w, i32_w]; rfl) ?_
    refine one_ (i := 8) (N := some 41) #[true, true, true, true, true, true, true, true, true, true, false, false, false, false, false, false] rfl rfl (by kernel_rfl) (by decide) (fun K hK => ?_)
    refine goes_ Tryz.func66 (by kernel_rfl) rfl #[.string wd] (by rfl) rfl rfl (by simp only [List.map_toArray, List.map_cons, List.map_nil]; rfl) ?_
    with_reducible refine (zr.calls kq wd wt _ HW.out).mono ?_
    rintro e w5 ⟨rfl, hb⟩
    refine ⟨_, rfl, ?_⟩
    have M5 := za.mk (M4.out.below hb)
    clear hb M4
    refine hK.out _ _ ⟨(zb M5.out.blk 5).trans rfl, M5.out.c1⟩ (fun hHeld => ?_)
    clear hK K
    refine Go.Proofs.YtapaijpglfmfgaaGreatDoorW.PrintLast.norm_ (by show Act.put _ (some 41) _ = _; simp only [Act.put, List.setIfInBounds_toArray, List.set_cons_zero, List.set_cons_succ, i64_w, i32_w]; rfl) ?_
    refine pure_ (i := 10) (N := some 43) #[true, true, true, true, true, true, true, true, true, true, true, false, false, false, false, false] rfl rfl (by kernel_rfl) (fun _ _ _ h => h) (Or.inl ⟨by rfl, fun w' => by go_simp; with_reducible rfl⟩) (by simp only [Act.put, List.setIfInBounds_toArray, List.set_cons_zero, List.set_cons_succ, i64_w, i32_w]; rfl) ?_
    refine one_ (i := 11) (N := some 44) #[true, true, true, true, true, true, true, true, true, true, true, true, false, false, false, false] rfl rfl (by kernel_rfl) (by decide) (fun K hK => ?_)
    refine zoh (w1 := ?_) (v := ?_) (by rfl) rfl ?_ ?_
    rotate_left 2
    ·go_simp
     constructor
     ·rfl
     ·rfl
    refine hK.out _ _ ⟨(zb (zvb M5.out.blk _) 5).trans rfl, (zlc (zj (Below.refl _ _) _) M5.out.c1)⟩ (fun hHeld => ?_)
    clear hK K
    refine Go.Proofs.YtapaijpglfmfgaaGreatDoorW.PrintLast.norm_ (by show Act.put _ (some 44) _ = _; simp only [Act.put, List.setIfInBounds_toArray, List.set_cons_zero, List.set_cons_succ, i64_w, i32_w]; rfl) ?_
    refine last_ (i := 12) (N := some 45) #[true, true, true, true, true, true, true, true, true, true, true, true, true, false, false, false] rfl rfl (by kernel_rfl) (by decide) (fun K hK => ?_)
    refine Kd.R_append_step (Kd.raw 2) (w0 := w5) w.heap.size (by rfl) (.tmp 37) (.tmp 44) 68 117 (.agg #[.int .i64 0, .pointer none]) 16 rfl Tryz.underlying68 infoSuf rfl (by decide) (by omega) sv (zne ns) [.int .i64 wt, .pointer (some ⟨a, 0, none⟩)] [.int .i64 wt, .pointer (some ⟨a, 0, none⟩)] (fun _ => True) (fun _ => False) rfl rfl ?aP (fun _ hk => hk.elim) (fun _ _ => trivial) M5.out.own.1 (Below.refl _ _) M5.out.gr.size ?aL ?_
    (case aP => exact ⟨rfl, rfl, by intro u hu; simp at hu; rcases hu with rfl | rfl <;> rfl⟩)
    (case aL => rw [zwe]; have := HNL.out; omega)
    intro v1 w7 ho hb hg hat
    obtain ⟨A1, n1, cp1, rfl⟩ : ∃ A n c, v1 = .slice A n c := by
     obtain ⟨A, c, e⟩ := Kd.R_slice ho
     exact ⟨A, _, c, e⟩
    have B7 := za.mk ((KeptT.row (p := notSuf) (by decide) M5.out.own.1 hg).blk M5.out.blk (by decide))
    have x7 := (zb B7.out 5).trans rfl
    have f7 := zz B7.out 5
    have I7 := za.mk (M5.out.step ho hg)
    clear ho hb hg hat
    refine hK.out _ _ ?_
    clear hK K
    refine Go.Proofs.YtapaijpglfmfgaaGreatDoorW.PrintLast.norm_ (by show Act.put _ (some 45) _ = _; simp only [Act.put, List.setIfInBounds_toArray, List.set_cons_zero, List.set_cons_succ, i64_w, i32_w]; rfl) ?_
    refine pure_ (i := 13) (N := some 46) #[true, true, true, true, true, true, true, true, true, true, true, true, true, true, false, false] rfl rfl (by kernel_rfl) (fun _ _ _ h => h) (Or.inl ⟨by rfl, fun w' => by go_simp; with_reducible rfl⟩) (by simp only [Act.put, List.setIfInBounds_toArray, List.set_cons_zero, List.set_cons_succ, i64_w, i32_w]; rfl) ?_
    refine pure_ (i := 14) (N := some 47) #[true, true, true, true, true, true, true, true, true, true, true, true, true, true, true, false] rfl rfl (by kernel_rfl) (fun _ _ _ h => h) (Or.inl ⟨by rfl, fun w' => by go_simp; with_reducible rfl⟩) (by simp only [Act.put, List.setIfInBounds_toArray, List.set_cons_zero, List.set_cons_succ, i64_w, i32_w]; rfl) ?_
    refine last_ (i := 15) (N := none) #[true, true, true, true, true, true, true, true, true, true, true, true, true, true, true, true] rfl rfl (by kernel_rfl) (by decide) (fun K hK => ?_)
    refine skip_ (w1 := ?_) (by rfl) rfl ?_ ?_
    rotate_left
    ·go_simp
     rfl
    refine hK.out _ _ ?_
    clear hK K
    refine done_ (by kernel_rfl) ?_
    have x8 := I7.out.2
    go_wp2_with (first | (go_at_call 63; (with_reducible refine (zhb.calls t m0 t' _ HT.out).mono ?_); rintro e' w' ⟨rfl, ⟨nd2, rfl⟩⟩))
    go_roundw
    all_goals first | exact ⟨k + 1, _, .slice A1 n1 cp1, t', LT.out, rfl, by first | rfl | go_num, ⟨I7.out.1.below (zd (Below.refl _ _) _)⟩, NX⟩ | exact zge _ k LT.out | exact meas_up1 _ k LT.out | exact zre _ k LT.out WR
  ·obtain rfl : k = xs.length := by omega
   have i3 : decide ((xs.length : Int) < (xs.length : Int)) = false := decide_eq_false (by omega)
   have i4 : ((xs.length : Int) < (xs.length : Int)) = False := eq_false (by omega)
   obtain ⟨L', hL1, hL2⟩ := HR.out
   rw [List.drop_length] at hL1
   obtain ⟨rfl, rfl⟩ : [] = L' ∧ t = rest := by simpa [zhf] using hL1
   have HE := za.mk hL2
   clear hlt hk hL1 hL2 HR
   go_wp2
   go_ret2
   exact ⟨sv, ns, rfl, HI.out.blk, HI.out.own, by rw [← HE.out]; simp [zoe], HI.out.gr⟩
end Go.Proofs.YtapaijpglfmfgaaGreatDoorG
end
section
namespace Go.Proofs.YtapaijpglfmfgaaGreatDoorG
open Go.RowKit YtapaijpglfmfgaaGreatDoorH YtapaijpglfmfgaaGreatDoor.S YtapaijpglfmfgaaGreatDoorW.PrintWords YtapaijpglfmfgaaGreatDoorW.PrintLast
def numsRun (k : Nat) (s : ByteArray) : Option (List ByteArray × ByteArray) := (zy.f k s).bind fun sub => if sub.toList = [] then some ([], s) else (zob.f k sub ⟨#[46]⟩).bind fun parts =>
 if 0 < parts.length ∧ parts.length ≤ 1000000 ∧ ∀ d ∈ zef parts, Plain d ∧ zae d then (zhb.f s sub).map fun rest => (zef parts, rest) else none
def zig (s : ByteArray) : Option (ByteArray × ByteArray) := (zec.f s).bind fun b => if b = true ∧ s.size = 0 then none else (zhb.f s (if b then s.extract 0 1 else ⟨#[]⟩)).map fun rest => (if b then s.extract 0 1 else ⟨#[]⟩, rest)
def sufsRun (k : Nat) (s : ByteArray) : Option (List (Int × ByteArray) × ByteArray) := (zh.f k s).bind fun xs => if xs.length ≤ 1000000 then zhf k xs s else none
def hashRun (k : Nat) (s : ByteArray) : Option (ByteArray × ByteArray) := (zv.f k s).bind fun hs => (zhb.f s hs).map fun rest => (hs, rest)
def zuh (k : Nat) (s : ByteArray) : Option (Bool × Nat × ByteArray) := if s.toList = [] then some (false, 0, s) else (zgc.f s 0 ⟨#[45, 114]⟩).bind fun t => if t = true then
  (zgb.f k s 2).bind fun n => if 2 ≤ n ∧ n ≤ (s.size : Int) ∧ Plain (or0 (s.extract 2 n.toNat)) ∧ zae (or0 (s.extract 2 n.toNat)) then (zhb.f s (s.extract 0 n.toNat)).map fun rest => (false, dv (or0 (s.extract 2 n.toNat)) (or0 (s.extract 2 n.toNat)).size, rest) else none
 else some (true, 0, s)
theorem zkg {P : Program} {fn : Func} {p u : Tmp} {ty : TypeId} (h : fn.results = #[.cell p ty, .tmp u]) (tmps : Array Value) (w : World) (g : Nat) (t : TypeId) (cs : Array Value) (fr : Nat × Nat) (d : TypeDesc)
  (hp : tmps.getD p undef = .pointer (some ⟨g, 0, none⟩)) (hg : w.heap[g]? = some (.cells cs t fr))
  (hu : P.underlying ty = some d) (hd : (match d with | .struct _ | .array _ _ => true | _ => false) = true) (hi : (P.info? ty).map (·.size) = some cs.size) :
  (results fn tmps).run P w = .ok (.tuple #[.agg cs, tmps.getD u undef]) w := by
 rw [results_cell_tmp h, hp]
 simp [asAddr, run_loadVar_row w g t ty cs fr d hg hu hd hi, Result.andThen]
theorem KeptT.gr {w w' : World} {g : Nat} {o : ByteArray} {i : Bool} {r : ByteArray} {cv : Value} {l : ByteArray} {sv : Value} {h : ByteArray} {bv : Value} (hv : VBlk w g o i r cv l sv h bv) (k : w.grownBy w' (some g)) : KeptT (fun t => t != 71) w w' := KeptT.grown hv (by decide) k
theorem zsf (t : TypeId) (h : numT t = true) : (t != 71) = true := by
 unfold numT at h
 rcases Bool.or_eq_true_iff.mp h with h | h
 ·rw [of_decide_eq_true h]; decide
 ·rw [of_decide_eq_true h]; decide
section
variable {w w' : World} {g : Nat} {o : ByteArray} {i : Bool} {r : ByteArray} {cv : Value} {l : ByteArray} {sv : Value} {h : ByteArray} {bv : Value}
theorem NOwn.gr {base : Nat} {v : Value} {ns : List Nm} (H : NOwn w base v ns) (hv : VBlk w g o i r cv l sv h bv) (k : w.grownBy w' (some g)) : NOwn w' base v ns :=
 ⟨zrd (p := fun t => t != 71) rfl (by decide) H.1 (KeptT.gr hv k), fun x hx => (H.2 x hx).kept ((KeptT.gr hv k).sub zsf)⟩
theorem SOwn.gr {base : Nat} {v : Value} {ns : List Sx} (H : SOwn w base v ns) (hv : VBlk w g o i r cv l sv h bv) (k : w.grownBy w' (some g)) : SOwn w' base v ns :=
 ⟨zrd (p := fun t => t != 71) rfl (by decide) H.1 (KeptT.gr hv k), fun x hx => (H.2 x hx).kept ((KeptT.gr hv k).sub zsf)⟩
theorem BigAt.gr {a n : Nat} (H : BigAt w a n) (hv : VBlk w g o i r cv l sv h bv) (k : w.grownBy w' (some g)) : BigAt w' a n := H.kept ((KeptT.gr hv k).sub zsf)
end
theorem nums_at (w : World) (g : Nat) (o : ByteArray) (i : Bool) (r : ByteArray) (sv : Value) (l h : ByteArray) (bv : Value) (s rest : ByteArray) (k : Nat) (ds : List ByteArray) (hv : VBlk w g o i r (.slice none 0 0) l sv h bv) (hGL : ∀ W, w.grownBy W (some g) → GLe W) (h1 : numsRun k s = some (ds, rest)) :
  Calls Tryz.prog 48 #[.pointer (some ⟨g, 0, none⟩), .string s] w fun e w' => ∃ cv ns base, e = .returned (.tuple #[.string rest, .nilIface]) ∧ VBlk w' g o i r cv l sv h bv ∧ NOwn w' base cv ns ∧ ns.map (·.o) = ds ∧ ns.length ≤ 1000000 ∧ w.grownBy w' (some g) := by
 unfold numsRun at h1
 obtain ⟨sub, h2, h1⟩ := Option.bind_eq_some_iff.mp h1
 by_cases h0 : sub.toList = []
 ·rw [if_pos h0] at h1
  cases h1
  refine (parseNums_e w g s sub k h2 h0).mono ?_
  rintro e w' ⟨rfl, n, rfl⟩
  exact ⟨_, [], 0, rfl, zid hv _, ⟨Kd.R_nil _ _ _ _ _, fun x hx => by simp at hx⟩, rfl, by simp, zqf (zyf w _) _⟩
 ·rw [if_neg h0] at h1
  obtain ⟨parts, h3, h1⟩ := Option.bind_eq_some_iff.mp h1
  by_cases hc : 0 < parts.length ∧ parts.length ≤ 1000000 ∧ ∀ d ∈ zef parts, Plain d ∧ zae d
  ·rw [if_pos hc] at h1
   obtain ⟨rest', h4, h5⟩ := Option.map_eq_some_iff.mp h1
   cases h5
   refine (parseNums_ w g o i r sv l h bv s sub rest k k parts hv hGL h2 h0 h3 hc.1 hc.2.1 hc.2.2 h4).mono ?_
   rintro e w' ⟨cv, ns, rfl, k1, k2, k3, k4⟩
   refine ⟨cv, ns, _, rfl, k1, k2, k3, ?_, k4⟩
   have q1 := congrArg List.length k3
   rw [List.length_map] at q1
   have q2 : (zef parts).length ≤ parts.length := by
    unfold zef
    exact (List.takeWhile_sublist _).length_le
   have q3 := hc.2.1
   omega
  ·rw [if_neg hc] at h1
   cases h1
theorem letter_at (w : World) (g : Nat) (o : ByteArray) (i : Bool) (r : ByteArray) (cv sv : Value) (h : ByteArray) (bv : Value) (s L rest : ByteArray) (hv : VBlk w g o i r cv ⟨#[]⟩ sv h bv) (h1 : zig s = some (L, rest)) :
  Calls Tryz.prog 49 #[.pointer (some ⟨g, 0, none⟩), .string s] w fun e w' => e = .returned (.string rest) ∧ VBlk w' g o i r cv L sv h bv ∧ w.grownBy w' (some g) := by
 unfold zig at h1
 obtain ⟨b, h2, h1⟩ := Option.bind_eq_some_iff.mp h1
 by_cases hc : b = true ∧ s.size = 0
 ·rw [if_pos hc] at h1
  cases h1
 ·rw [if_neg hc] at h1
  obtain ⟨rest', h4, h5⟩ := Option.map_eq_some_iff.mp h1
  cases h5
  exact parseLetter_ w g o i r cv sv h bv s rest b hv h2 h4 (fun hb => by
   rcases Nat.eq_zero_or_pos s.size with h0 | h0
   ·exact absurd ⟨hb, h0⟩ hc
   ·exact h0)
theorem sufs_at (w : World) (g : Nat) (o : ByteArray) (i : Bool) (r : ByteArray) (cv : Value) (l h : ByteArray) (bv : Value) (s rest : ByteArray) (k : Nat) (L : List (Int × ByteArray)) (hv : VBlk w g o i r cv l (.slice none 0 0) h bv) (hGL : ∀ W, w.grownBy W (some g) → GLe W) (h1 : sufsRun k s = some (L, rest)) :
  Calls Tryz.prog 50 #[.pointer (some ⟨g, 0, none⟩), .string s] w fun e w' => ∃ sv ns base, e = .returned (.tuple #[.string rest, .nilIface]) ∧ VBlk w' g o i r cv l sv h bv ∧ SOwn w' base sv ns ∧ zuc ns = zoe L ∧ ns.length ≤ 1000000 ∧ w.grownBy w' (some g) := by
 unfold sufsRun at h1
 obtain ⟨xs, h2, h1⟩ := Option.bind_eq_some_iff.mp h1
 by_cases hc : xs.length ≤ 1000000
 ·rw [if_pos hc] at h1
  refine (parseSufs_ w g o i r cv l h bv s rest k k xs L hv hGL h2 hc h1).mono ?_
  rintro e w' ⟨sv, ns, rfl, k1, k2, k3, k4⟩
  refine ⟨sv, ns, _, rfl, k1, k2, k3, ?_, k4⟩
  have key : ∀ (xs : List (List ByteArray)) (s : ByteArray) (L : List (Int × ByteArray)) (rest : ByteArray), zhf k xs s = some (L, rest) → L.length = xs.length := by
   intro xs
   induction xs with
   | nil => intro s L rest h; simp [zhf] at h; rw [h.1]; rfl
   | cons m ms ih =>
    intro s L rest h
    obtain ⟨m0, wd, dg, wt, s', r', _, _, _, _, _, h6, h7⟩ := sufRun_step h
    have e1 := congrArg Prod.fst h7
    have e2 : L = (wt, or0 dg) :: r'.1 := e1
    rw [e2, List.length_cons, List.length_cons, ih s' r'.1 r'.2 h6]
  have q1 := congrArg List.length k3
  simp only [zuc, zoe, List.length_map] at q1
  rw [q1, key _ _ _ _ h1]
  exact hc
 ·rw [if_neg hc] at h1
  cases h1
theorem hash_at (w : World) (g : Nat) (o : ByteArray) (i : Bool) (r : ByteArray) (cv sv : Value) (l h : ByteArray) (bv : Value) (s hs rest : ByteArray) (k : Nat) (hv : VBlk w g o i r cv l sv h bv) (h1 : hashRun k s = some (hs, rest)) :
  Calls Tryz.prog 51 #[.pointer (some ⟨g, 0, none⟩), .string s] w fun e w' => e = .returned (.string rest) ∧ VBlk w' g o i r cv l sv hs bv ∧ w.grownBy w' (some g) := by
 unfold hashRun at h1
 obtain ⟨hs', h2, h1⟩ := Option.bind_eq_some_iff.mp h1
 obtain ⟨rest', h4, h5⟩ := Option.map_eq_some_iff.mp h1
 cases h5
 exact parseHash_ w g o i r cv sv l h bv s hs rest k hv h2 h4
theorem build_at (w : World) (g : Nat) (o : ByteArray) (r : ByteArray) (cv sv : Value) (l h : ByteArray) (a0 : Nat) (s rest : ByteArray) (inv : Bool) (n k : Nat) (hv : VBlk w g o false r cv l sv h (.pointer (some ⟨a0, 0, none⟩))) (hz : BigAt w a0 0) (hGL : GLe w) (h1 : zuh k s = some (inv, n, rest)) :
  Calls Tryz.prog 52 #[.pointer (some ⟨g, 0, none⟩), .string s] w fun e w' => ∃ a, e = .returned (.tuple #[.string rest, .nilIface]) ∧ VBlk w' g o inv r cv l sv h (.pointer (some ⟨a, 0, none⟩)) ∧ BigAt w' a n ∧ w.grownBy w' (some g) := by
 unfold zuh at h1
 by_cases h0 : s.toList = []
 ·rw [if_pos h0] at h1
  cases h1
  refine (parseBuild_e w g s h0).mono ?_
  rintro e w' ⟨rfl, rfl⟩
  exact ⟨a0, rfl, hv, hz, zyf _ _⟩
 ·rw [if_neg h0] at h1
  obtain ⟨t, h2, h1⟩ := Option.bind_eq_some_iff.mp h1
  cases t with
  | false =>
   rw [if_neg (by simp)] at h1
   cases h1
   refine (parseBuild_n w g o false r cv sv l h _ s hv h0 h2).mono ?_
   rintro e w' ⟨rfl, k1, k2⟩
   exact ⟨a0, rfl, k1, hz.gr hv k2, k2⟩
  | true =>
   rw [if_pos rfl] at h1
   obtain ⟨m, h3, h1⟩ := Option.bind_eq_some_iff.mp h1
   by_cases hc : 2 ≤ m ∧ m ≤ (s.size : Int) ∧ Plain (or0 (s.extract 2 m.toNat)) ∧ zae (or0 (s.extract 2 m.toNat))
   ·rw [if_pos hc] at h1
    obtain ⟨rest', h4, h5⟩ := Option.map_eq_some_iff.mp h1
    cases h5
    obtain ⟨m', rfl⟩ : ∃ m' : Nat, m = (m' : Int) := ⟨m.toNat, by omega⟩
    exact parseBuild_y w g o false r cv sv l h _ s rest k m' hv hGL h0 h2 h3 (by omega) (by omega) hc.2.2.1 hc.2.2.2 h4
   ·rw [if_neg hc] at h1
    cases h1
structure AP where
 o : ByteArray
 i : Bool
 r : ByteArray
 c : List ByteArray
 l : ByteArray
 s : List (Int × ByteArray)
 h : ByteArray
 b : Nat
def parseA (k : Nat) (s : ByteArray) : Option AP := (numsRun k s).bind fun a1 => (zig a1.2).bind fun a2 => (sufsRun k a2.2).bind fun a3 => (hashRun k a3.2).bind fun a4 => (zuh k a4.2).bind fun a5 => some ⟨s, a5.1, a5.2.2, a1.1, a2.1, a3.1, a4.1, a5.2.1⟩
def Told (x : AV) (p : AP) : Prop := x.o = p.o ∧ x.i = p.i ∧ x.r = p.r ∧ x.c.map (·.o) = p.c ∧ (∀ y ∈ x.c, y.n = dv y.o y.o.size) ∧ x.l = p.l ∧ zuc x.s = zoe p.s ∧ x.h = p.h ∧ x.b = p.b
theorem parseA_inv {k : Nat} {s : ByteArray} {p : AP} (h : parseA k s = some p) : ∃ s1 s2 s3 s4, numsRun k s = some (p.c, s1) ∧ zig s1 = some (p.l, s2) ∧ sufsRun k s2 = some (p.s, s3) ∧ hashRun k s3 = some (p.h, s4) ∧ zuh k s4 = some (p.i, p.b, p.r) ∧ p.o = s := by
 unfold parseA at h
 obtain ⟨⟨ds, s1⟩, h1, h⟩ := Option.bind_eq_some_iff.mp h
 obtain ⟨⟨L, s2⟩, h2, h⟩ := Option.bind_eq_some_iff.mp h
 obtain ⟨⟨sf, s3⟩, h3, h⟩ := Option.bind_eq_some_iff.mp h
 obtain ⟨⟨hs, s4⟩, h4, h⟩ := Option.bind_eq_some_iff.mp h
 obtain ⟨⟨inv, n, rest⟩, h5, h⟩ := Option.bind_eq_some_iff.mp h
 obtain rfl := Option.some.inj h
 exact ⟨s1, s2, s3, s4, h1, h2, h3, h4, h5, rfl⟩
theorem parse_ (w : World) (s : ByteArray) (p : AP) (k : Nat) (hGL : GLe w) (h0 : parseA k s = some p) :
  Calls Tryz.prog 30 #[.string s] w fun e w' => ∃ v x, e = .returned (.tuple #[v, .nilIface]) ∧ AVAt w' v x ∧ Told x p ∧ Below w.heap.size w w' := by
 obtain ⟨s1, s2, s3, s4, h1, h2, h3, h4, h5, h6⟩ := parseA_inv h0
 subst h6
 have HGL := za.mk hGL
 have HB := za.mk (Below.refl w.heap.size w)
 have H1 := za.mk h1
 have H2 := za.mk h2
 have H3 := za.mk h3
 have H4 := za.mk h4
 have H5 := za.mk h5
 clear h0 h1 h2 h3 h4 h5 hGL
 obtain ⟨W0, hW0⟩ : ∃ W0, W0 = (((w.alloc (.cells #[.string ⟨#[]⟩, .bool false, .string ⟨#[]⟩, .slice none 0 0, .string ⟨#[]⟩, .slice none 0 0, .string ⟨#[]⟩, .pointer none] 71)).alloc (.cells #[.bool false, .slice none 0 0] 100)).alloc (.cells #[.string p.o, .bool false, .string ⟨#[]⟩, .slice none 0 0, .string ⟨#[]⟩, .slice none 0 0, .string ⟨#[]⟩, .pointer (some ⟨w.heap.size + 1, 0, none⟩)] 71)) := ⟨_, rfl⟩
 have b0 : Below w.heap.size w W0 := by rw [hW0]; exact zj (zj (zj HB.out _) _) _
 have v0 : VBlk W0 (w.heap.size + 1 + 1) p.o false ⟨#[]⟩ (.slice none 0 0) ⟨#[]⟩ (.slice none 0 0) ⟨#[]⟩ (.pointer (some ⟨w.heap.size + 1, 0, none⟩)) := by
  unfold VBlk
  have h := zvc ((w.alloc (.cells #[.string ⟨#[]⟩, .bool false, .string ⟨#[]⟩, .slice none 0 0, .string ⟨#[]⟩, .slice none 0 0, .string ⟨#[]⟩, .pointer none] 71)).alloc (.cells #[.bool false, .slice none 0 0] 100)) (.cells #[.string p.o, .bool false, .string ⟨#[]⟩, .slice none 0 0, .string ⟨#[]⟩, .slice none 0 0, .string ⟨#[]⟩, .pointer (some ⟨w.heap.size + 1, 0, none⟩)] 71)
  rw [zsb, zsb] at h
  rw [hW0]
  exact h
 have z0 : BigAt W0 (w.heap.size + 1) 0 := by
  have h := (big_zero (w.alloc (.cells #[.string ⟨#[]⟩, .bool false, .string ⟨#[]⟩, .slice none 0 0, .string ⟨#[]⟩, .slice none 0 0, .string ⟨#[]⟩, .pointer none] 71))).below (zj (Below.refl _ _) (.cells #[.string p.o, .bool false, .string ⟨#[]⟩, .slice none 0 0, .string ⟨#[]⟩, .slice none 0 0, .string ⟨#[]⟩, .pointer (some ⟨w.heap.size + 1, 0, none⟩)] 71))
  rw [zsb] at h
  rw [hW0]
  exact h
 have r0 : W0.heap[w.heap.size]? = some (.cells #[.string ⟨#[]⟩, .bool false, .string ⟨#[]⟩, .slice none 0 0, .string ⟨#[]⟩, .slice none 0 0, .string ⟨#[]⟩, .pointer none] 71 (0, 0)) := by
  rw [hW0]
  exact zvb (zvb (zvc w _) _) _
 have s0 : w.heap.size ≤ W0.heap.size := b0.size
 have HGA : za (∀ W, W0.grownBy W (some (w.heap.size + 1 + 1)) → GLe W) := ⟨fun W hW => HGL.out.lt (gr_from b0 s0 hW (by omega))⟩
 have HB0 := za.mk b0
 have V0 := za.mk v0
 have Z0 := za.mk z0
 have R0 := za.mk r0
 have HW0 := za.mk hW0
 have C1 := za.mk (nums_at W0 (w.heap.size + 1 + 1) p.o false ⟨#[]⟩ _ _ _ _ p.o s1 k p.c v0 HGA.out H1.out)
 rw [hW0] at C1
 clear b0 v0 z0 r0 s0 hW0 H1
 go_enter Tryz.func30, Tryz.ntmps30
 go_wp2_with (first | (go_at_call 48; (with_reducible refine C1.out.mono ?_); rintro e' w1 ⟨cv, ns, b1, rfl, v1, n1, t1, l1, g1⟩; obtain ⟨A1, cc1, rfl⟩ := Kd.R_slice n1.1; rw [← HW0.out] at g1; have V1 := za.mk v1; have N1 := za.mk n1; have T1 := za.mk t1; have L1 := za.mk l1; have GR1 := za.mk g1; have Z1 := za.mk (Z0.out.gr V0.out g1); clear v1 n1 t1 l1 g1 C1) | (go_at_call 49; (with_reducible refine (letter_at w1 _ p.o false ⟨#[]⟩ _ _ _ _ s1 p.l s2 V1.out H2.out).mono ?_); rintro e' w2 ⟨rfl, v2, g2⟩; have V2 := za.mk v2; have N2 := za.mk (N1.out.gr V1.out g2); have Z2 := za.mk (Z1.out.gr V1.out g2); have GR2 := za.mk (gr_gr GR1.out g2); clear v2 g2 N1 Z1) | (go_at_call 50; (with_reducible refine (sufs_at w2 _ p.o false ⟨#[]⟩ _ p.l _ _ s2 s3 k p.s V2.out (fun W hW => HGA.out W (gr_gr GR2.out hW)) H3.out).mono ?_); rintro e' w3 ⟨sv, ms, b2, rfl, v3, m3, t3, l3, g3⟩; obtain ⟨A3, cc3, rfl⟩ := Kd.R_slice m3.1; have V3 := za.mk v3; have M3 := za.mk m3; have T3 := za.mk t3; have L3 := za.mk l3; have N3 := za.mk (N2.out.gr V2.out g3); have Z3 := za.mk (Z2.out.gr V2.out g3); have GR3 := za.mk (gr_gr GR2.out g3); clear v3 m3 t3 l3 g3 N2 Z2) | (go_at_call 51; (with_reducible refine (hash_at w3 _ p.o false ⟨#[]⟩ _ _ p.l _ _ s3 p.h s4 k V3.out H4.out).mono ?_); rintro e' w4 ⟨rfl, v4, g4⟩; have V4 := za.mk v4; have M4 := za.mk (M3.out.gr V3.out g4); have N4 := za.mk (N3.out.gr V3.out g4); have Z4 := za.mk (Z3.out.gr V3.out g4); have GR4 := za.mk (gr_gr GR3.out g4); clear v4 g4 N3 M3 Z3) | (go_at_call 52; (with_reducible refine (build_at w4 _ p.o ⟨#[]⟩ _ _ p.l p.h _ s4 p.r p.i p.b k V4.out Z4.out (HGA.out w4 GR4.out) H5.out).mono ?_); rintro e' w5 ⟨a, rfl, v5, z5, g5⟩; have V5 := za.mk v5; have M5 := za.mk (M4.out.gr V4.out g5); have N5 := za.mk (N4.out.gr V4.out g5); have Z5 := za.mk z5; have GR5 := za.mk (gr_gr GR4.out g5); have v6 := zq (cs' := #[.string p.o, .bool p.i, .string p.r, .slice A1 (zse ns).length cc1, .string p.l, .slice A3 (zne ms).length cc3, .string p.h, .pointer (some ⟨a, 0, none⟩)]) V5.out 2 (.string p.r) rfl; have x2 := (zb V5.out 2).trans rfl; have f2 := zz V5.out 2; have x6 := fun j : Nat => zb v6 j; have r5 := (GR5.out.block w.heap.size (zyb R0.out) (by intro e; have := Option.some.inj e; omega)).trans R0.out; have r6 := zwb r5 (p := ⟨w.heap.size + 1 + 1, 2, none⟩) (by show w.heap.size ≠ w.heap.size + 1 + 1; omega) (.string p.r); have y6 := fun j : Nat => zb r6 j; have q6 := fun j : Nat => zz r6 j; have V6 := za.mk v6; have R6 := za.mk r6; have R5 := za.mk r5; clear v5 z5 g5 v6 r5 r6 N4 M4 Z4))
 (try simp only [Exit.inBlock, Exit.then])
 have hk : ∀ (W : World) (k : Nat), (∀ b, b ≠ w.heap.size + 1 + 1 → b ≠ w.heap.size → W.heap[b]? = w5.heap[b]?) → KeptT (fun t => t != 71) w5 W := fun W _ h b cs t fr hb ht => by
  refine h b (fun e => ?_) (fun e => ?_)
  ·subst e; have := V5.out; unfold VBlk at this; rw [this] at hb; cases hb; exact absurd ht (by decide)
  ·subst e; have := R5.out; rw [this] at hb; cases hb; exact absurd ht (by decide)
 refine bodyPost_ret (zkg rfl _ _ w.heap.size 71 #[.string p.o, .bool p.i, .string p.r, .slice A1 (zse ns).length cc1, .string p.l, .slice A3 (zne ms).length cc3, .string p.h, .pointer (some ⟨a, 0, none⟩)] (0, 0) _ rfl (zq (cs' := #[.string p.o, .bool p.i, .string p.r, .slice A1 (zse ns).length cc1, .string p.l, .slice A3 (zne ms).length cc3, .string p.h, .pointer (some ⟨a, 0, none⟩)]) (zq (zq (zq (zq (zq (zq (zq R6.out 0 _ rfl) 1 _ rfl) 2 _ rfl) 3 _ rfl) 4 _ rfl) 5 _ rfl) 6 _ rfl) 7 _ rfl) Tryz.underlying71 rfl (by kernel_rfl)) rfl ?_
 have K := hk (((((((((w5.setCell ⟨w.heap.size + 1 + 1, 2, none⟩ (.string p.r)).setCell ⟨w.heap.size, 0, none⟩ (.string p.o)).setCell ⟨w.heap.size, 1, none⟩ (.bool p.i)).setCell ⟨w.heap.size, 2, none⟩ (.string p.r)).setCell ⟨w.heap.size, 3, none⟩ (.slice A1 (zse ns).length cc1)).setCell ⟨w.heap.size, 4, none⟩ (.string p.l)).setCell ⟨w.heap.size, 5, none⟩ (.slice A3 (zne ms).length cc3)).setCell ⟨w.heap.size, 6, none⟩ (.string p.h)).setCell ⟨w.heap.size, 7, none⟩ (.pointer (some ⟨a, 0, none⟩))) 0 (fun b h1 h2 => by repeat (first | rw [Below.heap_setCell _ _ _ _ h2] | rw [Below.heap_setCell _ _ _ _ h1]))
 refine ⟨_, ⟨p.o, p.i, p.r, ns, p.l, ms, p.h, p.b⟩, rfl, ⟨_, _, a, rfl, ?_, ?_, Z5.out.kept (K.sub zsf)⟩, ⟨rfl, rfl, rfl, T1.out, fun y hy => (N5.out.2 y hy).2.1, rfl, T3.out, rfl, rfl⟩, ?_⟩
 ·exact NOwn.crow (base := b1) ⟨zrd (p := fun t => t != 71) rfl (by decide) N5.out.1 K, fun x hx => (N5.out.2 x hx).kept (K.sub zsf)⟩ L1.out
 ·exact SOwn.srow (base := b2) ⟨zrd (p := fun t => t != 71) rfl (by decide) M5.out.1 K, fun x hx => (M5.out.2 x hx).kept (K.sub zsf)⟩ L3.out
 ·have b5 := gr_from HB0.out HB0.out.size GR5.out (show w.heap.size ≤ w.heap.size + 1 + 1 by omega)
  have b6 := b5.setCell (p := ⟨w.heap.size + 1 + 1, 2, none⟩) (by show w.heap.size ≤ w.heap.size + 1 + 1; omega) (.string p.r)
  repeat (first | (with_reducible exact b6) | refine zl ?_ (Nat.le_refl _))
end Go.Proofs.YtapaijpglfmfgaaGreatDoorG
end
section
namespace Go.Proofs.YtapaijpglfmfgaaGreatDoorG
open Go.RowKit YtapaijpglfmfgaaGreatDoorH YtapaijpglfmfgaaGreatDoor.S YtapaijpglfmfgaaGreatDoorW.PrintWords YtapaijpglfmfgaaGreatDoorW.PrintLast
def toNm (d : ByteArray) : Nm := ⟨d, 0, dv d d.size⟩
def toSx (x : Int × ByteArray) : Sx := ⟨x.1, 0, dv x.2 x.2.size⟩
def apC (p q : AP) : Int := if p.i = true ∧ q.i = true then ztf p.o q.o else
 zkb (zee (p.c.map toNm) (q.c.map toNm)) (zkb (zpc p.l q.l) (zkb (sufsC (p.s.map toSx) (q.s.map toSx)) (zkb (cmpN p.b q.b) (zkb (zod p.r q.r) 0))))
theorem nm_told {l : List Nm} {c : List ByteArray} (h : l.map (·.o) = c) (hn : ∀ y ∈ l, y.n = dv y.o y.o.size) (k : Nat) : nmO l k = nmO (c.map toNm) k ∧ nmN l k = nmN (c.map toNm) k ∧ nmI l k = nmI (c.map toNm) k := by
  subst h
  unfold nmO nmN nmI
  rw [List.map_map, List.getElem?_map]
  cases e : l[k]? with
  | none => exact ⟨rfl, rfl, rfl⟩
  | some x => exact ⟨rfl, hn x (List.mem_of_getElem? e), rfl⟩
theorem fromC_eq {d d' : Nat → Int} (h : ∀ k, d k = d' k) : ∀ n k, fromC d n k = fromC d' n k
 | 0, _ => rfl
 | n + 1, k => by simp only [fromC, h, fromC_eq h n]
theorem zbj {l m : List Nm} {c d : List ByteArray} (h : l.map (·.o) = c) (hn : ∀ y ∈ l, y.n = dv y.o y.o.size) (h' : m.map (·.o) = d) (hn' : ∀ y ∈ m, y.n = dv y.o y.o.size) : zee l m = zee (c.map toNm) (d.map toNm) := by
  unfold zee
  have e1 : l.length = (c.map toNm).length := by rw [← h]; simp
  have e2 : m.length = (d.map toNm).length := by rw [← h']; simp
  rw [e1, e2]
  refine fromC_eq (fun k => ?_) _ _
  obtain ⟨a1, a2, a3⟩ := nm_told h hn k
  obtain ⟨b1, b2, b3⟩ := nm_told h' hn' k
  unfold numD
  rw [a1, a2, a3, b1, b2, b3]
theorem sx_told {l : List Sx} {c : List (Int × ByteArray)} (h : zuc l = zoe c) (k : Nat) : sxW l k = sxW (c.map toSx) k ∧ sxN l k = sxN (c.map toSx) k := by
 have e : (zuc l)[k]? = (zoe c)[k]? := by rw [h]
 unfold zuc zoe at e
 rw [List.getElem?_map, List.getElem?_map] at e
 unfold sxW sxN
 rw [List.getElem?_map]
 cases e1 : l[k]? with
 | none =>
  cases e2 : c[k]? with
  | none => exact ⟨rfl, rfl⟩
  | some y => rw [e1, e2] at e; simp at e
 | some x =>
  cases e2 : c[k]? with
  | none => rw [e1, e2] at e; simp at e
  | some y =>
   rw [e1, e2] at e
   have e3 : (x.wt, x.n) = (y.1, dv y.2 y.2.size) := by simpa using e
   exact ⟨congrArg Prod.fst e3, congrArg Prod.snd e3⟩
theorem sufs_told {l m : List Sx} {c d : List (Int × ByteArray)} (h : zuc l = zoe c) (h' : zuc m = zoe d) : sufsC l m = sufsC (c.map toSx) (d.map toSx) := by
 unfold sufsC
 have e1 : l.length = (c.map toSx).length := by have := congrArg List.length h; simpa [zuc, zoe] using this
 have e2 : m.length = (d.map toSx).length := by have := congrArg List.length h'; simpa [zuc, zoe] using this
 rw [e1, e2]
 refine fromC_eq (fun k => ?_) _ _
 obtain ⟨a1, a2⟩ := sx_told h k
 obtain ⟨b1, b2⟩ := sx_told h' k
 unfold sufD
 rw [a1, a2, b1, b2]
theorem av_told {x y : AV} {p q : AP} (h : Told x p) (h' : Told y q) : avC x y = apC p q := by
 obtain ⟨a1, a2, a3, a4, a5, a6, a7, a8, a9⟩ := h
 obtain ⟨b1, b2, b3, b4, b5, b6, b7, b8, b9⟩ := h'
 unfold avC apC
 rw [a1, a2, a3, a6, a9, b1, b2, b3, b6, b9, zbj a4 a5 b4 b5, sufs_told a7 b7]
theorem AVAt.form {w : World} {v : Value} {x : AV} (h : AVAt w v x) : ∃ p1 c1 p2 c2 a, v = AVv x.o x.i x.r (.slice p1 x.c.length c1) x.l (.slice p2 x.s.length c2) x.h (.pointer (some ⟨a, 0, none⟩)) := by
 obtain ⟨cv, sv, a, rfl, h1, h2, _⟩ := h
 obtain ⟨p1, c1, rfl⟩ := h1.len
 obtain ⟨p2, c2, rfl⟩ := h2.len
 exact ⟨p1, c1, p2, c2, a, rfl⟩
theorem compareStr_ (w : World) (v : Value) (x : AV) (b : ByteArray) (p q : AP) (k : Nat) (hv : AVAt w v x) (ht : Told x p) (hGL : GLe w) (h0 : parseA k b = some q) :
  Calls Tryz.prog 31 #[v, .string b] w fun e w' => e = .returned (.tuple #[.int .i64 (apC p q), .nilIface]) ∧ Below w.heap.size w w' := by
 have HV := za.mk hv
 obtain ⟨p1, c1, p2, c2, a, e⟩ := hv.form
 unfold AVv at e
 subst e
 have HT := za.mk ht
 have HP := za.mk (fun (W : World) (h : Below w.heap.size w W) => parse_ W b q k (hGL.lt h) h0)
 have HB := za.mk (Below.refl w.heap.size w)
 clear hv ht hGL h0
 go_enter Tryz.func31, Tryz.ntmps31
 go_wp2_with (first | (go_at_call 30; (with_reducible refine (HP.out _ (zj HB.out _)).mono ?_); rintro e' w1 ⟨u, y, rfl, hy, hty, hb⟩; have HY := za.mk hy; obtain ⟨p3, c3, p4, c4, a', e⟩ := hy.form; unfold AVv at e; subst e; have HTY := za.mk hty; have B1 := za.mk (zib (zj HB.out _) hb); have xx := fun j : Nat => zb (zvb (zc (zvc w (.cells #[.string x.o, .bool x.i, .string x.r, .slice p1 x.c.length c1, .string x.l, .slice p2 x.s.length c2, .string x.h, .pointer (some ⟨a, 0, none⟩)] 71)) hb) (.cells #[.string y.o, .bool y.i, .string y.r, .slice p3 y.c.length c3, .string y.l, .slice p4 y.s.length c4, .string y.h, .pointer (some ⟨a', 0, none⟩)] 71)) j; clear hy hty hb) | (go_at_call 53; refine (compare_ _ _ _ x y (HV.out.below (zj B1.out _)) (HY.out.below (zj (Below.refl _ _) _))).mono ?_; rintro e' w2 ⟨rfl, hb⟩; have B2 := za.mk (zib (zj B1.out _) hb); clear hb))
 go_ret2
 exact ⟨by rw [av_told HT.out HTY.out]; rfl, B2.out⟩
theorem compareText_ (w : World) (a b : ByteArray) (p q : AP) (k : Nat) (hGL : GLe w) (h1 : parseA k a = some p) (h2 : parseA k b = some q) :
  Calls Tryz.prog 10 #[.string a, .string b] w fun e w' => e = .returned (.tuple #[.int .i64 (apC p q), .bool true]) ∧ Below w.heap.size w w' := by
 have HP := za.mk (parse_ w a p k hGL h1)
 have HS := za.mk (fun (W : World) (v : Value) (x : AV) (h : Below w.heap.size w W) (hv : AVAt W v x) (ht : Told x p) => compareStr_ W v x b p q k hv ht (hGL.lt h) h2)
 have HB := za.mk (Below.refl w.heap.size w)
 clear hGL h1 h2
 go_enter Tryz.func10, Tryz.ntmps10
 go_upto_region 5 with (first | (go_at_call 30; (with_reducible refine HP.out.mono ?_); rintro e' w1 ⟨u, y, rfl, hy, hty, hb⟩; have HY := za.mk hy; obtain ⟨p3, c3, p4, c4, a', e⟩ := hy.form; unfold AVv at e; subst e; have HTY := za.mk hty; have B1 := za.mk hb; clear hy hty hb) | (go_at_call 31; refine (HS.out _ _ y (zj B1.out _) (HY.out.below (zj (Below.refl _ _) _)) HTY.out).mono ?_; rintro e' w2 ⟨rfl, hb⟩; have B2 := za.mk (zib (zj B1.out _) hb); clear hb))
 go_region_with (fail)
 all_goals (try go_wp2)
 all_goals go_ret2
 all_goals exact ⟨rfl, zab B2.out⟩
end Go.Proofs.YtapaijpglfmfgaaGreatDoorG
end
section
namespace Go.Proofs.YtapaijpglfmfgaaGreatDoor.E1
open Go.RowKit YtapaijpglfmfgaaGreatDoorH YtapaijpglfmfgaaGreatDoorW.PrintWords YtapaijpglfmfgaaGreatDoorW.PrintLast YtapaijpglfmfgaaGreatDoorW.PrintMore
attribute [local go_sem] zfd zjd ztd zud zsc ztc zgd zkd
def zqb.f (a0 : Int) : Option (Bool) := if a0 ≥ 48 then (some (decide (a0 ≤ 57))) else (some false)
theorem zqb.calls (a0 : Int) (r : Bool) (w : World) (h : zqb.f a0 = some r) :
  Calls Tryz.prog 40 #[.int .u8 a0] w fun e w' => e = .returned (.bool r) ∧ zn w w' := by
 have H : (if a0 ≥ 48 then (some (decide (a0 ≤ 57))) else (some false)) = some r := h
 clear h
 by_cases c2 : a0 ≥ 48
 ·rw [if_pos c2] at H
  have c2b0 : decide (48 ≤ a0) = true := decide_eq_true c2
  clear c2
  obtain rfl := Option.some.inj H
  go_enter Tryz.func40, Tryz.ntmps40
  go_wp2
  go_ret
  exact ⟨by rfl, by repeat (first | exact zn.refl _ | apply zn.step)⟩
 ·rw [if_neg c2] at H
  have c2b0 : decide (48 ≤ a0) = false := decide_eq_false c2
  clear c2
  obtain rfl := Option.some.inj H
  go_enter Tryz.func40, Tryz.ntmps40
  go_wp2
  go_ret
  exact ⟨by rfl, by repeat (first | exact zn.refl _ | apply zn.step)⟩
def zbb.l0 : Nat → ByteArray → Int → Option (Int)
 | 0, _, _ => none
 | k + 1, x0, x5 => if x5 < (x0.size : Int) then (if 0 ≤ x5 then ((zqb.f (bt x0 x5)).bind fun t101 => (if t101 = true then (zbb.l0 k x0 (wrap64 (x5 + 1))) else (some x5))) else (none)) else (some x5)
def zbb.f (k : Nat) (a0 : ByteArray)  : Option (Int) := zbb.l0 k a0 0
theorem zbb.calls (k : Nat) (a0 : ByteArray)  (r : Int) (w : World) (h : zbb.f k a0 = some r) :
  Calls Tryz.prog 39 #[.string a0, .func (.func 40) #[] #[]] w fun e w' => e = .returned (.int .i64 r) ∧ zn w w' := by
 have H : (zbb.l0 k a0 0) = some r := h
 clear h
 have H' := za.mk H
 clear H
 go_enter Tryz.func39, Tryz.ntmps39
 go_wp2
 (try simp only [Act.put, List.setIfInBounds_toArray, List.set_cons_zero, List.set_cons_succ])
 go_loopg [5] k (fun kq v5 w' => ∃ (x5_1 : Int), v5 = .int .i64 x5_1 ∧ za (zbb.l0 kq a0 x5_1 = some r) ∧ za (kq ≤ k) ∧ zn w w')
 case atStart => exact ⟨(0), (by rfl), H', ⟨Nat.le_refl _⟩, by repeat (first | exact zn.refl _ | apply zn.step)⟩
 case round =>
  clear H'
  obtain ⟨x5_1, rfl, HA, HK1, ⟨m1, rfl⟩⟩ := hrel
  cases gk with
  | zero => exact absurd HA.out (by simp [zbb.l0])
  | succ k1 =>
   have H := HA.out
   clear HA
   simp only [zbb.l0] at H
   by_cases c3 : x5_1 < (a0.size : Int)
   ·rw [if_pos c3] at H
    have c3b0 : decide (x5_1 < (a0.size : Int)) = true := decide_eq_true c3
    clear c3
    by_cases c4 : 0 ≤ x5_1
    ·rw [if_pos c4] at H
     have c4b0 : decide (0 ≤ x5_1) = true := decide_eq_true c4
     clear c4
     replace H := Option.bind_eq_some_iff.mp H
     obtain ⟨t101, A60, H⟩ := H
     replace H : (if t101 = true then (zbb.l0 k1 a0 (wrap64 (x5_1 + 1))) else (some x5_1)) = some r := H
     have A6 := za.mk A60
     clear A60
     by_cases c7 : t101 = true
     ·subst c7
      have H1 : (zbb.l0 k1 a0 (wrap64 (x5_1 + 1))) = some r := by rw [if_pos rfl] at H; exact H
      clear H
      have H := H1
      clear H1
      have H' := za.mk H
      clear H
      have p5 : 0 ≤ (x5_1 : Int) := of_decide_eq_true (by (with_reducible assumption))
      have q5 : x5_1 < (a0.size : Int) := of_decide_eq_true (by (with_reducible assumption))
      have hx5 := bt_at a0 x5_1
      replace p5 := eq_true p5
      replace q5 := eq_true q5
      go_wp2_with ((go_at_call 40; (with_reducible refine (zqb.calls (bt a0 x5_1) true _ A6.out).mono ?_); rintro e w' ⟨rfl, ⟨nd, rfl⟩⟩))
      go_roundg k1
      case measure => have := HK1.out; omega
      case rel => exact ⟨(wrap64 (x5_1 + 1)), (by rfl), H', ⟨by have := HK1.out; omega⟩, by repeat (first | exact zn.refl _ | apply zn.step)⟩
     ·replace c7 := Bool.eq_false_iff.mpr c7
      subst c7
      have H1 : (some x5_1) = some r := by rw [if_neg (show ¬ (false = true) by decide)] at H; exact H
      clear H
      have H := H1
      clear H1
      obtain rfl := Option.some.inj H
      have p5 : 0 ≤ (x5_1 : Int) := of_decide_eq_true (by (with_reducible assumption))
      have q5 : x5_1 < (a0.size : Int) := of_decide_eq_true (by (with_reducible assumption))
      have hx5 := bt_at a0 x5_1
      replace p5 := eq_true p5
      replace q5 := eq_true q5
      go_wp2_with ((go_at_call 40; (with_reducible refine (zqb.calls (bt a0 x5_1) false _ A6.out).mono ?_); rintro e w' ⟨rfl, ⟨nd, rfl⟩⟩))
      go_ret
      exact ⟨by rfl, by repeat (first | exact zn.refl _ | apply zn.step)⟩
    ·rw [if_neg c4] at H
     exact absurd H (by simp)
   ·rw [if_neg c3] at H
    have c3b0 : decide (x5_1 < (a0.size : Int)) = false := decide_eq_false c3
    clear c3
    obtain rfl := Option.some.inj H
    go_wp2
    go_ret
    exact ⟨by rfl, by repeat (first | exact zn.refl _ | apply zn.step)⟩
end Go.Proofs.YtapaijpglfmfgaaGreatDoor.E1
end
section
namespace Go.Proofs.YtapaijpglfmfgaaGreatDoor.E2
open Go.RowKit YtapaijpglfmfgaaGreatDoorH YtapaijpglfmfgaaGreatDoorW.PrintWords YtapaijpglfmfgaaGreatDoorW.PrintLast YtapaijpglfmfgaaGreatDoorW.PrintMore YtapaijpglfmfgaaGreatDoorC
attribute [local go_sem] zfd zjd ztd zud zsc ztc zgd zkd
def zqb.f (a0 : Int) : Option (Bool) := if a0 ≥ 48 then (some (decide (a0 ≤ 57))) else (some false)
theorem zqb.calls (a0 : Int) (r : Bool) (w : World) (h : zqb.f a0 = some r) :
  Calls Tryz.prog 40 #[.int .u8 a0] w fun e w' => e = .returned (.bool r) ∧ zn w w' := by
 have H : (if a0 ≥ 48 then (some (decide (a0 ≤ 57))) else (some false)) = some r := h
 clear h
 by_cases c2 : a0 ≥ 48
 ·rw [if_pos c2] at H
  have c2b0 : decide (48 ≤ a0) = true := decide_eq_true c2
  clear c2
  obtain rfl := Option.some.inj H
  go_enter Tryz.func40, Tryz.ntmps40
  go_wp2
  go_ret
  exact ⟨by rfl, by repeat (first | exact zn.refl _ | apply zn.step)⟩
 ·rw [if_neg c2] at H
  have c2b0 : decide (48 ≤ a0) = false := decide_eq_false c2
  clear c2
  obtain rfl := Option.some.inj H
  go_enter Tryz.func40, Tryz.ntmps40
  go_wp2
  go_ret
  exact ⟨by rfl, by repeat (first | exact zn.refl _ | apply zn.step)⟩
def zbd.f (a0 : Int) : Option (Bool) := (zqb.f a0).bind fun t101 => (if t101 = true then (some true) else (if a0 ≥ 97 then (some (decide (a0 ≤ 102))) else (some false)))
theorem zbd.calls (a0 : Int) (r : Bool) (w : World) (h : zbd.f a0 = some r) :
  Calls Tryz.prog 38 #[.int .u8 a0] w fun e w' => e = .returned (.bool r) ∧ zn w w' := by
 have H : ((zqb.f a0).bind fun t101 => (if t101 = true then (some true) else (if a0 ≥ 97 then (some (decide (a0 ≤ 102))) else (some false)))) = some r := h
 clear h
 replace H := Option.bind_eq_some_iff.mp H
 obtain ⟨t101, A20, H⟩ := H
 replace H : (if t101 = true then (some true) else (if a0 ≥ 97 then (some (decide (a0 ≤ 102))) else (some false))) = some r := H
 have A2 := za.mk A20
 clear A20
 by_cases c3 : t101 = true
 ·subst c3
  have H1 : (some true) = some r := by rw [if_pos rfl] at H; exact H
  clear H
  have H := H1
  clear H1
  obtain rfl := Option.some.inj H
  go_enter Tryz.func38, Tryz.ntmps38
  go_wp2_with (((with_reducible refine zw (f := 40) rfl ?_); refine goesA (some 4) Tryz.func40 #[.int .u8 a0] ?_; (with_reducible refine (zqb.calls a0 true _ A2.out).mono ?_); rintro e w' ⟨rfl, ⟨nd, rfl⟩⟩; refine ⟨_, rfl, ?_⟩))
  go_ret
  exact ⟨by rfl, by repeat (first | exact zn.refl _ | apply zn.step)⟩
 ·replace c3 := Bool.eq_false_iff.mpr c3
  subst c3
  have H1 : (if a0 ≥ 97 then (some (decide (a0 ≤ 102))) else (some false)) = some r := by rw [if_neg (show ¬ (false = true) by decide)] at H; exact H
  clear H
  have H := H1
  clear H1
  by_cases c4 : a0 ≥ 97
  ·rw [if_pos c4] at H
   have c4b0 : decide (97 ≤ a0) = true := decide_eq_true c4
   clear c4
   obtain rfl := Option.some.inj H
   go_enter Tryz.func38, Tryz.ntmps38
   go_wp2_with (((with_reducible refine zw (f := 40) rfl ?_); refine goesA (some 4) Tryz.func40 #[.int .u8 a0] ?_; (with_reducible refine (zqb.calls a0 false _ A2.out).mono ?_); rintro e w' ⟨rfl, ⟨nd, rfl⟩⟩; refine ⟨_, rfl, ?_⟩))
   go_ret
   exact ⟨by rfl, by repeat (first | exact zn.refl _ | apply zn.step)⟩
  ·rw [if_neg c4] at H
   have c4b0 : decide (97 ≤ a0) = false := decide_eq_false c4
   clear c4
   obtain rfl := Option.some.inj H
   go_enter Tryz.func38, Tryz.ntmps38
   go_wp2_with (((with_reducible refine zw (f := 40) rfl ?_); refine goesA (some 4) Tryz.func40 #[.int .u8 a0] ?_; (with_reducible refine (zqb.calls a0 false _ A2.out).mono ?_); rintro e w' ⟨rfl, ⟨nd, rfl⟩⟩; refine ⟨_, rfl, ?_⟩))
   go_ret
   exact ⟨by rfl, by repeat (first | exact zn.refl _ | apply zn.step)⟩
def zbb.l0 : Nat → ByteArray → Int → Option (Int)
 | 0, _, _ => none
 | k + 1, x0, x5 => if x5 < (x0.size : Int) then (if 0 ≤ x5 then ((zbd.f (bt x0 x5)).bind fun t102 => (if t102 = true then (zbb.l0 k x0 (wrap64 (x5 + 1))) else (some x5))) else (none)) else (some x5)
def zbb.f (k : Nat) (a0 : ByteArray)  : Option (Int) := zbb.l0 k a0 0
theorem zbb.calls (k : Nat) (a0 : ByteArray)  (r : Int) (w : World) (h : zbb.f k a0 = some r) :
  Calls Tryz.prog 39 #[.string a0, .func (.func 38) #[] #[]] w fun e w' => e = .returned (.int .i64 r) ∧ zn w w' := by
 have H : (zbb.l0 k a0 0) = some r := h
 clear h
 have H' := za.mk H
 clear H
 go_enter Tryz.func39, Tryz.ntmps39
 go_wp2
 (try simp only [Act.put, List.setIfInBounds_toArray, List.set_cons_zero, List.set_cons_succ])
 go_loopg [5] k (fun kq v5 w' => ∃ (x5_1 : Int), v5 = .int .i64 x5_1 ∧ za (zbb.l0 kq a0 x5_1 = some r) ∧ za (kq ≤ k) ∧ zn w w')
 case atStart => exact ⟨(0), (by rfl), H', ⟨Nat.le_refl _⟩, by repeat (first | exact zn.refl _ | apply zn.step)⟩
 case round =>
  clear H'
  obtain ⟨x5_1, rfl, HA, HK1, ⟨m1, rfl⟩⟩ := hrel
  cases gk with
  | zero => exact absurd HA.out (by simp [zbb.l0])
  | succ k1 =>
   have H := HA.out
   clear HA
   simp only [zbb.l0] at H
   by_cases c3 : x5_1 < (a0.size : Int)
   ·rw [if_pos c3] at H
    have c3b0 : decide (x5_1 < (a0.size : Int)) = true := decide_eq_true c3
    clear c3
    by_cases c4 : 0 ≤ x5_1
    ·rw [if_pos c4] at H
     have c4b0 : decide (0 ≤ x5_1) = true := decide_eq_true c4
     clear c4
     replace H := Option.bind_eq_some_iff.mp H
     obtain ⟨t102, A60, H⟩ := H
     replace H : (if t102 = true then (zbb.l0 k1 a0 (wrap64 (x5_1 + 1))) else (some x5_1)) = some r := H
     have A6 := za.mk A60
     clear A60
     by_cases c7 : t102 = true
     ·subst c7
      have H1 : (zbb.l0 k1 a0 (wrap64 (x5_1 + 1))) = some r := by rw [if_pos rfl] at H; exact H
      clear H
      have H := H1
      clear H1
      have H' := za.mk H
      clear H
      have p5 : 0 ≤ (x5_1 : Int) := of_decide_eq_true (by (with_reducible assumption))
      have q5 : x5_1 < (a0.size : Int) := of_decide_eq_true (by (with_reducible assumption))
      have hx5 := bt_at a0 x5_1
      replace p5 := eq_true p5
      replace q5 := eq_true q5
      go_wp2_with ((go_at_call 38; (with_reducible refine (zbd.calls (bt a0 x5_1) true _ A6.out).mono ?_); rintro e w' ⟨rfl, ⟨nd, rfl⟩⟩))
      go_roundg k1
      case measure => have := HK1.out; omega
      case rel => exact ⟨(wrap64 (x5_1 + 1)), (by rfl), H', ⟨by have := HK1.out; omega⟩, by repeat (first | exact zn.refl _ | apply zn.step)⟩
     ·replace c7 := Bool.eq_false_iff.mpr c7
      subst c7
      have H1 : (some x5_1) = some r := by rw [if_neg (show ¬ (false = true) by decide)] at H; exact H
      clear H
      have H := H1
      clear H1
      obtain rfl := Option.some.inj H
      have p5 : 0 ≤ (x5_1 : Int) := of_decide_eq_true (by (with_reducible assumption))
      have q5 : x5_1 < (a0.size : Int) := of_decide_eq_true (by (with_reducible assumption))
      have hx5 := bt_at a0 x5_1
      replace p5 := eq_true p5
      replace q5 := eq_true q5
      go_wp2_with ((go_at_call 38; (with_reducible refine (zbd.calls (bt a0 x5_1) false _ A6.out).mono ?_); rintro e w' ⟨rfl, ⟨nd, rfl⟩⟩))
      go_ret
      exact ⟨by rfl, by repeat (first | exact zn.refl _ | apply zn.step)⟩
    ·rw [if_neg c4] at H
     exact absurd H (by simp)
   ·rw [if_neg c3] at H
    have c3b0 : decide (x5_1 < (a0.size : Int)) = false := decide_eq_false c3
    clear c3
    obtain rfl := Option.some.inj H
    go_wp2
    go_ret
    exact ⟨by rfl, by repeat (first | exact zn.refl _ | apply zn.step)⟩
end Go.Proofs.YtapaijpglfmfgaaGreatDoor.E2
end
section
namespace Go.Proofs.YtapaijpglfmfgaaGreatDoorP
open Go.RowKit YtapaijpglfmfgaaGreatDoorB YtapaijpglfmfgaaGreatDoorM YtapaijpglfmfgaaGreatDoorW.PrintWords
theorem ztg {p : Int → Bool} : ∀ {l : List Int} {c : Int}, c ∈ l.take (run p l) → p c = true
 | [], c, h => by simp at h
 | x :: l, c, h => by
  cases hx : p x with
  | false => rw [zhg hx] at h; simp at h
  | true =>
   rw [zrg hx, List.take_succ_cons] at h
   rcases List.mem_cons.1 h with rfl | h
   ·exact hx
   ·exact ztg h
def isPt (c : Int) : Bool := decide (c = 46)
theorem splitP_pt (a b : List Int) : zhe isPt (a ++ 46 :: b) = zhe isPt a ++ zhe isPt b := by
 induction a with
 | nil => rfl
 | cons c a ih =>
  simp only [List.cons_append, zhe]
  split
  ·rw [ih]; rfl
  ·rw [ih]
   cases hs : zhe isPt a with
   | nil => exact absurd hs (splitP_ne _ a)
   | cons x L => rfl
theorem splitP_one {l : List Int} (h : ∀ c ∈ l, c ≠ 46) : zhe isPt l = [l] := by
 induction l with
 | nil => rfl
 | cons c l ih =>
  simp only [zhe]
  rw [if_neg (by have := h c List.mem_cons_self; simp [isPt, this]), ih (fun x hx => h x (List.mem_cons_of_mem _ hx))]
  rfl
theorem getD_head {l : List Int} {c : Int} (h : l.getD 0 0 = c) (hc : c ≠ 0) : l = c :: l.drop 1 := by
 cases l with
 | nil => exact absurd h.symm hc
 | cons x l => have : x = c := h; subst this; rfl
def numsP : Nat → List Int → List (List Int) × List Int
 | 0, l => ([], l)
 | n + 1, l => if run isD l = 0 then ([], l) else
  if (l.drop (run isD l)).getD 0 0 = 46 then (l.take (run isD l) :: (numsP n (l.drop (run isD l + 1))).1, (numsP n (l.drop (run isD l + 1))).2)
  else ([l.take (run isD l)], l.drop (run isD l))
theorem numsP_none {l : List Int} (h : run isD l = 0) : ∀ n, numsP n l = ([], l)
 | 0 => rfl
 | n + 1 => by simp only [numsP, h, if_true]
theorem take_run_ne {p : Int → Bool} {l : List Int} (h : run p l ≠ 0) : l.take (run p l) ≠ [] := by
 intro e
 have := congrArg List.length e
 have h1 := zih p l
 rw [List.length_take, List.length_nil] at this
 omega
theorem isD_pt {c : Int} (h : isD c = true) : c ≠ 46 := by
 unfold isD at h
 have := of_decide_eq_true h
 omega
theorem zif : ∀ (n : Nat) (l : List Int), ∃ sub, l = sub ++ (numsP n l).2 ∧ (zhe isPt sub).takeWhile (fun d => decide (d ≠ [])) = (numsP n l).1 ∧ ((numsP n l).1 = [] → sub = []) ∧ (∀ d ∈ (numsP n l).1, d ≠ [] ∧ ∀ c ∈ d, isD c = true)
 | 0, l => ⟨[], rfl, rfl, fun _ => rfl, fun d hd => by simp [numsP] at hd⟩
 | n + 1, l => by
  simp only [numsP]
  by_cases h0 : run isD l = 0
  ·rw [if_pos h0]
   exact ⟨[], rfl, rfl, fun _ => rfl, fun d hd => by simp at hd⟩
  ·rw [if_neg h0]
   have hne := take_run_ne h0
   have hdig : ∀ c ∈ l.take (run isD l), isD c = true := fun c hc => ztg hc
   by_cases h1 : (l.drop (run isD l)).getD 0 0 = 46
   ·rw [if_pos h1]
    obtain ⟨sub, e1, e2, e3, e4⟩ := zif n (l.drop (run isD l + 1))
    have e := getD_head h1 (by omega)
    rw [List.drop_drop] at e
    refine ⟨l.take (run isD l) ++ 46 :: sub, ?_, ?_, fun h => by simp at h, fun d hd => ?_⟩
    ·show l = l.take (run isD l) ++ 46 :: sub ++ (numsP n (l.drop (run isD l + 1))).2
     rw [List.append_assoc, List.cons_append, ← e1, ← e, List.take_append_drop]
    ·rw [splitP_pt, splitP_one (fun c hc => isD_pt (hdig c hc))]
     show (l.take (run isD l) :: zhe isPt sub).takeWhile _ = _
     rw [List.takeWhile_cons_of_pos (by simpa using hne), e2]
    ·rcases List.mem_cons.1 hd with rfl | hd
     ·exact ⟨hne, hdig⟩
     ·exact e4 d hd
   ·rw [if_neg h1]
    refine ⟨l.take (run isD l), (List.take_append_drop _ _).symm, ?_, fun h => by simp at h, fun d hd => ?_⟩
    ·rw [splitP_one (fun c hc => isD_pt (hdig c hc)), List.takeWhile_cons_of_pos (by simpa using hne)]
     rfl
    ·have : d = l.take (run isD l) := by simpa using hd
     subst this
     exact ⟨hne, hdig⟩
theorem numsP_len (n : Nat) (l : List Int) : (numsP n l).2.length ≤ l.length := by
 obtain ⟨sub, e, _⟩ := zif n l
 have := congrArg List.length e
 rw [List.length_append] at this
 omega
theorem numsP_count : ∀ (n : Nat) (l : List Int), (numsP n l).1.length ≤ l.length
 | 0, l => by simp [numsP]
 | n + 1, l => by
  simp only [numsP]
  by_cases h0 : run isD l = 0
  ·rw [if_pos h0]; simp
  ·rw [if_neg h0]
   have hl := zih isD l
   by_cases h1 : (l.drop (run isD l)).getD 0 0 = 46
   ·rw [if_pos h1]
    have := numsP_count n (l.drop (run isD l + 1))
    rw [List.length_drop] at this
    simp only [List.length_cons]
    omega
   ·rw [if_neg h1]; simp; omega
theorem zej : ∀ (n : Nat) (l : List Int), ∀ d ∈ (numsP n l).1, d.length ≤ l.length
 | 0, l, d, h => by simp [numsP] at h
 | n + 1, l, d, h => by
  simp only [numsP] at h
  by_cases h0 : run isD l = 0
  ·rw [if_pos h0] at h; simp at h
  ·rw [if_neg h0] at h
   by_cases h1 : (l.drop (run isD l)).getD 0 0 = 46
   ·rw [if_pos h1] at h
    rcases List.mem_cons.1 h with rfl | h
    ·rw [List.length_take]; omega
    ·have := zej n _ d h
     rw [List.length_drop] at this
     omega
   ·rw [if_neg h1] at h
    have : d = l.take (run isD l) := by simpa using h
    subst this
    rw [List.length_take]; omega
def zbf (l : List Int) : List Int × List Int := if isL (l.getD 0 0) = true then (l.take 1, l.drop 1) else ([], l)
def zpd : List (List Int) := [[97, 108, 112, 104, 97], [98, 101, 116, 97], [112, 114, 101], [114, 99], [99, 118, 115], [115, 118, 110], [103, 105, 116], [104, 103], [112]]
def wgtWords : List (List Int) := [[97, 108, 112, 104, 97], [98, 101, 116, 97], [112, 114, 101], [114, 99], [], [99, 118, 115], [115, 118, 110], [103, 105, 116], [104, 103]]
def wgt (w : List Int) : Nat := wgtWords.idxOf w
def pre (w l : List Int) : Bool := decide (l.take w.length = w)
def zie (l : List Int) : Option (List Int) := if l.getD 0 0 = 95 then zpd.find? (fun w => pre w (l.drop 1)) else none
def sufsP : Nat → List Int → List (List Int × List Int) × List Int
 | 0, l => ([], l)
 | n + 1, l => match zie l with
  | none => ([], l)
  | some w => ((w, (l.drop (1 + w.length)).take (run isD (l.drop (1 + w.length)))) :: (sufsP n ((l.drop (1 + w.length)).drop (run isD (l.drop (1 + w.length))))).1, (sufsP n ((l.drop (1 + w.length)).drop (run isD (l.drop (1 + w.length))))).2)
theorem znf {l : List Int} (h : zie l = none) : ∀ n, sufsP n l = ([], l)
 | 0 => rfl
 | n + 1 => by simp only [sufsP, h]
theorem zjf {l w : List Int} (h : zie l = some w) (n : Nat) : sufsP (n + 1) l = ((w, (l.drop (1 + w.length)).take (run isD (l.drop (1 + w.length)))) :: (sufsP n ((l.drop (1 + w.length)).drop (run isD (l.drop (1 + w.length))))).1, (sufsP n ((l.drop (1 + w.length)).drop (run isD (l.drop (1 + w.length))))).2) := by simp only [sufsP, h]
theorem zve {l w : List Int} (h : zie l = some w) : w ∈ zpd ∧ l = 95 :: (w ++ l.drop (1 + w.length)) := by
 unfold zie at h
 by_cases h0 : l.getD 0 0 = 95
 ·rw [if_pos h0] at h
  have h1 := List.mem_of_find?_eq_some h
  have h2 := List.find?_some h
  unfold pre at h2
  have h3 : (l.drop 1).take w.length = w := of_decide_eq_true h2
  refine ⟨h1, ?_⟩
  have e := getD_head h0 (by omega)
  have e2 : l.drop 1 = w ++ (l.drop 1).drop w.length := by
   have := List.take_append_drop w.length (l.drop 1)
   rw [h3] at this
   exact this.symm
  rw [List.drop_drop] at e2
  rw [← e2]
  exact e
 ·rw [if_neg h0] at h; cases h
theorem zme {w : List Int} (h : w ∈ zpd) : 1 ≤ w.length ∧ w.length ≤ 5 := by
 have : ∀ w ∈ zpd, 1 ≤ w.length ∧ w.length ≤ 5 := by decide
 exact this w h
theorem zmh {w : List Int} (h : w ∈ zpd) : ∀ c ∈ w, 97 ≤ c ∧ c ≤ 122 := by
 have : ∀ w ∈ zpd, ∀ c ∈ w, 97 ≤ c ∧ c ≤ 122 := by decide
 exact this w h
theorem sufsP_len : ∀ (n : Nat) (l : List Int), (sufsP n l).2.length ≤ l.length
 | 0, l => Nat.le_refl _
 | n + 1, l => by
  cases h : zie l with
  | none => rw [znf h]; exact Nat.le_refl _
  | some w =>
   rw [zjf h]
   have := sufsP_len n ((l.drop (1 + w.length)).drop (run isD (l.drop (1 + w.length))))
   rw [List.length_drop, List.length_drop] at this
   simp only
   omega
theorem zci : ∀ (n : Nat) (l : List Int), (sufsP n l).1.length ≤ l.length
 | 0, l => Nat.zero_le _
 | n + 1, l => by
  cases h : zie l with
  | none => rw [znf h]; exact Nat.zero_le _
  | some w =>
   rw [zjf h]
   have := zci n ((l.drop (1 + w.length)).drop (run isD (l.drop (1 + w.length))))
   rw [List.length_drop, List.length_drop] at this
   have h1 := (zve h).2
   have h2 := congrArg List.length h1
   simp only [List.length_cons, List.length_append, List.length_drop] at h2 ⊢
   omega
theorem sufsP_mem : ∀ (n : Nat) (l : List Int), ∀ x ∈ (sufsP n l).1, x.1 ∈ zpd ∧ x.2.length ≤ l.length ∧ ∀ c ∈ x.2, isD c = true
 | 0, l, x, hx => by simp [sufsP] at hx
 | n + 1, l, x, hx => by
  cases h : zie l with
  | none => rw [znf h] at hx; simp at hx
  | some w =>
   rw [zjf h] at hx
   rcases List.mem_cons.1 hx with rfl | hx
   ·refine ⟨(zve h).1, ?_, fun c hc => ztg hc⟩
    simp only [List.length_take, List.length_drop]
    omega
   ·have := sufsP_mem n _ x hx
    refine ⟨this.1, Nat.le_trans this.2.1 ?_, this.2.2⟩
    rw [List.length_drop, List.length_drop]
    omega
def isX (c : Int) : Bool := isD c || decide (97 ≤ c ∧ c ≤ 102)
def hashP (l : List Int) : List Int × List Int := if l.getD 0 0 = 126 ∧ run isX (l.drop 1) ≠ 0 then (l.take (1 + run isX (l.drop 1)), l.drop (1 + run isX (l.drop 1))) else ([], l)
def zzd (l : List Int) : Bool × List Int × List Int := if l = [] then (false, [], []) else
 if l.take 2 = [45, 114] then (false, (l.drop 2).take (run isD (l.drop 2)), (l.drop 2).drop (run isD (l.drop 2))) else (true, [], l)
structure PV where
 o : List Int
 c : List (List Int)
 l : List Int
 s : List (List Int × List Int)
 h : List Int
 i : Bool
 b : List Int
 r : List Int
def rest1 (l : List Int) : List Int := (numsP l.length l).2
def rest2 (l : List Int) : List Int := (zbf (rest1 l)).2
def rest3 (l : List Int) : List Int := (sufsP (rest2 l).length (rest2 l)).2
def rest4 (l : List Int) : List Int := (hashP (rest3 l)).2
def zwc (l : List Int) : PV := ⟨l, (numsP l.length l).1, (zbf (rest1 l)).1, (sufsP (rest2 l).length (rest2 l)).1, (hashP (rest3 l)).1, (zzd (rest4 l)).1, (zzd (rest4 l)).2.1, (zzd (rest4 l)).2.2⟩
def Clear (l : List Int) : Prop := ∀ j, zie (l.drop j) = none
theorem zkh (l : List Int) : (rest1 l).length ≤ l.length := numsP_len _ l
theorem zlg (l : List Int) : (rest2 l).length ≤ l.length := by
 unfold rest2 zbf
 have := zkh l
 split
 ·simp only [List.length_drop]; omega
 ·exact this
theorem rest3_len (l : List Int) : (rest3 l).length ≤ l.length := Nat.le_trans (sufsP_len _ _) (zlg l)
theorem rest4_len (l : List Int) : (rest4 l).length ≤ l.length := by
 unfold rest4 hashP
 have := rest3_len l
 split
 ·simp only [List.length_drop]; omega
 ·exact this
theorem Clear.drop {l : List Int} (h : Clear l) (i : Nat) : Clear (l.drop i) := fun j => by rw [List.drop_drop]; exact h (i + j)
end Go.Proofs.YtapaijpglfmfgaaGreatDoorP
end
section
namespace Go.Proofs.YtapaijpglfmfgaaGreatDoorP
open Go.RowKit YtapaijpglfmfgaaGreatDoorG YtapaijpglfmfgaaGreatDoorH YtapaijpglfmfgaaGreatDoorB YtapaijpglfmfgaaGreatDoorM YtapaijpglfmfgaaGreatDoor.S YtapaijpglfmfgaaGreatDoorW.PrintWords YtapaijpglfmfgaaGreatDoorW.PrintLast
theorem run_drop {p : Int → Bool} : ∀ (l : List Int), run p (l.drop (run p l)) = 0
 | [] => rfl
 | x :: l => by
  cases hx : p x with
  | false => rw [zhg hx, List.drop_zero, zhg hx]
  | true => rw [zrg hx, List.drop_succ_cons]; exact run_drop l
theorem zzDigit_eq (c : Int) : zic.f c = some (isD c) := by
 unfold zic.f isD
 by_cases h : c ≥ 48
 ·rw [if_pos h]; simp; omega
 ·rw [if_neg h]; simp; omega
theorem digits_from (s : ByteArray) (hs : s.size ≤ 2000000) : ∀ (n i : Nat), s.size - i = n → i ≤ s.size →
  Ev (fun k => zgb.l0 k s (i : Int)) ((i + run isD ((bytesOf s).drop i) : Nat) : Int) := by
 intro n
 induction n with
 | zero =>
  intro i hn hi
  refine Ev.succ ?_
  simp only [zgb.l0]
  refine Ev.neg (fun _ => by first | omega | assumption | nofun) ?_
  refine Ev.eq (Ev.now _) ?_
  rw [List.drop_of_length_le (by rw [bytesOf_length]; omega), run_nil]
  rfl
 | succ n ih =>
  intro i hn hi
  have hl : i < (bytesOf s).length := by rw [bytesOf_length]; omega
  refine Ev.succ ?_
  simp only [zgb.l0, zah, zzDigit_eq, Option.bind_some]
  refine Ev.pos (fun _ => by first | omega | trivial | assumption) ?_
  refine Ev.pos (fun _ => by first | omega | trivial | assumption) ?_
  rw [zyg _ _ hl]
  cases hd : isD ((bytesOf s).getD i 0)
  ·refine Ev.neg (fun _ => Bool.false_ne_true) ?_
   refine Ev.eq (Ev.now _) ?_
   rw [zhg hd]
   rfl
  ·refine Ev.pos (fun _ => rfl) ?_
   rw [w64 (by omega) (by omega), zrg hd]
   refine Ev.eq (ih (i + 1) (by omega) (by omega)) ?_
   have : i + 1 + run isD ((bytesOf s).drop (i + 1)) = i + (run isD ((bytesOf s).drop (i + 1)) + 1) := by omega
   rw [this]
theorem zwi (s : ByteArray) (hs : s.size ≤ 2000000) (i : Nat) (hi : i ≤ s.size) : Ev (fun k => zgb.f k s (i : Int)) ((i + run isD ((bytesOf s).drop i) : Nat) : Int) := digits_from s hs _ i rfl hi
theorem zfg (s : ByteArray) (hs : s.size ≤ 2000000) (i : Nat) (hi : i ≤ s.size) (h : run isD ((bytesOf s).drop i) = 0) : Ev (fun k => zy.l0 k s (i : Int)) (s.extract 0 i) := by
 refine Ev.succ ?_
 simp only [zy.l0]
 refine Ev.bind (zwi s hs i hi) ?_
 rw [h, Nat.add_zero]
 refine Ev.pos (fun _ => rfl) ?_
 refine Ev.pos (fun _ => by first | omega | trivial | assumption) ?_
 refine Ev.pos (fun _ => by first | omega | trivial | assumption) ?_
 exact Ev.eq (Ev.now _) (by simp)
theorem numbers_from (s : ByteArray) (hs : s.size ≤ 2000000) : ∀ (n i : Nat), s.size - i ≤ n → i ≤ s.size →
  Ev (fun k => zy.l0 k s (i : Int)) (s.extract 0 (s.size - (numsP n ((bytesOf s).drop i)).2.length)) := by
 intro n
 induction n with
 | zero =>
  intro i hn hi
  have e : (bytesOf s).drop i = [] := List.drop_of_length_le (by rw [bytesOf_length]; omega)
  have := zfg s hs i hi (by rw [e]; rfl)
  rw [e]
  have e2 : s.size - (numsP 0 []).2.length = i := by simp [numsP]; omega
  rw [e2]
  exact this
 | succ n ih =>
  intro i hn hi
  by_cases h0 : run isD ((bytesOf s).drop i) = 0
  ·rw [numsP_none h0]
   have e2 : s.size - ((([] : List (List Int)), (bytesOf s).drop i)).2.length = i := by simp only [List.length_drop, bytesOf_length]; omega
   rw [e2]
   exact zfg s hs i hi h0
  ·have hr := zih isD ((bytesOf s).drop i)
   rw [List.length_drop, bytesOf_length] at hr
   have hdd : ((bytesOf s).drop i).drop (run isD ((bytesOf s).drop i)) = (bytesOf s).drop (i + run isD ((bytesOf s).drop i)) := by rw [List.drop_drop]
   have hdd1 : ((bytesOf s).drop i).drop (run isD ((bytesOf s).drop i) + 1) = (bytesOf s).drop (i + run isD ((bytesOf s).drop i) + 1) := by rw [List.drop_drop, Nat.add_assoc]
   have hz : run isD ((bytesOf s).drop (i + run isD ((bytesOf s).drop i))) = 0 := by rw [← hdd]; exact run_drop _
   have hgt : (((bytesOf s).drop i).drop (run isD ((bytesOf s).drop i))).getD 0 0 = (bytesOf s).getD (i + run isD ((bytesOf s).drop i)) 0 := by
    rw [hdd]; simp [List.getD_eq_getElem?_getD]
   simp only [numsP]
   rw [if_neg h0, hgt, hdd, hdd1]
   have D := zwi s hs i hi
   generalize run isD ((bytesOf s).drop i) = r at D hr hz h0 ⊢
   refine Ev.succ ?_
   simp only [zy.l0]
   refine Ev.bind D ?_
   refine Ev.neg (fun _ => by omega) ?_
   by_cases hlt : i + r < s.size
   ·refine Ev.pos (fun _ => by omega) ?_
    refine Ev.pos (fun _ => by omega) ?_
    rw [zah]
    by_cases h46 : (bytesOf s).getD (i + r) 0 = 46
    ·rw [if_pos h46]
     refine Ev.pos (fun _ => h46) ?_
     rw [w64 (by omega) (by omega)]
     exact ih (i + r + 1) (by omega) (by omega)
    ·rw [if_neg h46]
     refine Ev.neg (fun _ => h46) ?_
     have e2 : s.size - ([((bytesOf s).drop i).take r], (bytesOf s).drop (i + r)).2.length = i + r := by simp only [List.length_drop, bytesOf_length]; omega
     rw [e2]
     exact zfg s hs (i + r) (by omega) hz
   ·refine Ev.neg (fun _ => by omega) ?_
    have e3 : (bytesOf s).drop (i + r) = [] := List.drop_of_length_le (by rw [bytesOf_length]; omega)
    have h46 : (bytesOf s).getD (i + r) 0 ≠ 46 := by
     rw [List.getD_eq_getElem?_getD, List.getElem?_eq_none (by rw [bytesOf_length]; omega)]
     simp
    rw [if_neg h46]
    have e2 : s.size - ([((bytesOf s).drop i).take r], (bytesOf s).drop (i + r)).2.length = i + r := by simp only [List.length_drop, bytesOf_length]; omega
    rw [e2]
    exact zfg s hs (i + r) (by omega) hz
def nPt (c : Int) : Bool := !isPt c
theorem index_from (s : ByteArray) (hs : s.size ≤ 1000000) : ∀ (n i : Nat), s.size - i = n → i ≤ s.size →
  Ev (fun k => zxb.l0 k s (⟨#[46]⟩ : ByteArray) i) (if i + run nPt ((bytesOf s).drop i) < s.size then ((i + run nPt ((bytesOf s).drop i) : Nat) : Int) else -1) := by
 have e1 : ((⟨#[46]⟩ : ByteArray).size : Int) = 1 := rfl
 intro n
 induction n with
 | zero =>
  intro i hn hi
  refine Ev.succ ?_
  simp only [zxb.l0]
  rw [e1, w64 (by omega) (by omega)]
  refine Ev.neg (fun _ => by first | omega | assumption | nofun) ?_
  refine Ev.eq (Ev.now _) ?_
  rw [if_neg (by omega)]
 | succ n ih =>
  intro i hn hi
  have hl : i < (bytesOf s).length := by rw [bytesOf_length]; omega
  have hg := zyg _ _ hl
  have hone : bytesOf (s.extract i (i + 1)) = [(bytesOf s).getD i 0] := by rw [zdf, hg]; simp
  refine Ev.succ ?_
  simp only [zxb.l0]
  rw [e1, w64 (by omega) (by omega)]
  have e2 : ((i : Int) + 1).toNat = i + 1 := by omega
  rw [e2, Int.toNat_natCast]
  refine Ev.pos (fun _ => by first | omega | trivial | assumption) ?_
  refine Ev.pos (fun _ => by first | omega | trivial | assumption) ?_
  refine Ev.pos (fun _ => by first | omega | trivial | assumption) ?_
  cases hp : isPt ((bytesOf s).getD i 0)
  ·refine Ev.neg (fun _ h => ?_) ?_
   ·rw [zmd, hone] at h
    have h2 : [(bytesOf s).getD i 0] = [46] := h
    injection h2 with h2 _
    rw [h2] at hp
    cases hp
   ·refine Ev.eq (ih (i + 1) (by omega) (by omega)) ?_
    rw [hg, zrg (show nPt ((bytesOf s).getD i 0) = true by unfold nPt; rw [hp]; rfl)]
    have e3 : i + 1 + run nPt ((bytesOf s).drop (i + 1)) = i + (run nPt ((bytesOf s).drop (i + 1)) + 1) := by omega
    rw [e3]
  ·refine Ev.pos (fun _ => ?_) ?_
   ·rw [zmd, hone]
    have : (bytesOf s).getD i 0 = 46 := by simpa [isPt] using hp
    rw [this]
    rfl
   ·refine Ev.eq (Ev.now _) ?_
    rw [hg, zhg (show nPt ((bytesOf s).getD i 0) = false by unfold nPt; rw [hp]; rfl), if_pos (by omega)]
    rfl
theorem split_from : ∀ (n : Nat) (s : ByteArray) (out : List ByteArray), s.size ≤ n → n ≤ 1000000 → out.length + n ≤ 2000000 →
  ∃ r, Ev (fun k => zob.l1 k s (⟨#[46]⟩ : ByteArray) out) r ∧ r.map bytesOf = out.map bytesOf ++ zhe isPt (bytesOf s) := by
 have e1 : ((⟨#[46]⟩ : ByteArray).size : Int) = 1 := rfl
 intro n
 induction n using Nat.strongRecOn with
 | _ n ih =>
  intro s out hs hn ho
  have hix := index_from s (by omega) _ 0 rfl (by omega)
  have hix2 : Ev (fun k => zxb.f k s (⟨#[46]⟩ : ByteArray)) (if run nPt (bytesOf s) < s.size then ((run nPt (bytesOf s) : Nat) : Int) else -1) := by simpa [zxb.f] using hix
  have hsp := splitP_run isPt (bytesOf s)
  rw [bytesOf_length] at hsp
  have hrun : run (fun c => !isPt c) (bytesOf s) = run nPt (bytesOf s) := rfl
  rw [hrun] at hsp
  by_cases hlt : run nPt (bytesOf s) < s.size
  ·rw [if_pos hlt] at hix2 hsp
   obtain ⟨m, hm⟩ : ∃ m, m = run nPt (bytesOf s) := ⟨_, rfl⟩
   rw [← hm] at hix2 hsp hlt
   have hb : bytesOf (s.extract (m + 1) s.size) = (bytesOf s).drop (m + 1) := zmg _ _
   have hsz : (s.extract (m + 1) s.size).size = s.size - (m + 1) := by rw [zfc, hb, List.length_drop, bytesOf_length]
   obtain ⟨r, hr, h1⟩ := ih (s.size - (m + 1)) (by omega) (s.extract (m + 1) s.size) (out ++ [s.extract 0 m]) (by omega) (by omega) (by simp; omega)
   refine ⟨r, Ev.succ ?_, ?_⟩
   ·simp only [zob.l1]
    refine Ev.bind hix2 ?_
    rw [e1, w64 (i := (m : Int) + 1) (by omega) (by omega)]
    have e2 : ((m : Int) + 1).toNat = m + 1 := by omega
    rw [e2, Int.toNat_natCast]
    refine Ev.neg (fun _ => by first | omega | assumption | nofun) ?_
    refine Ev.pos (fun _ => by first | omega | trivial | assumption) ?_
    refine Ev.pos (fun _ => by first | omega | trivial | assumption) ?_
    refine Ev.pos (fun _ => by first | omega | trivial | assumption) ?_
    refine Ev.pos (fun _ => by first | omega | trivial | assumption) ?_
    refine Ev.pos (fun _ => by first | omega | trivial | assumption) ?_
    exact hr
   ·rw [h1, hb, hsp, List.map_append, List.map_cons, List.map_nil, zwf]
    simp
  ·rw [if_neg hlt] at hix2 hsp
   refine ⟨out ++ [s], Ev.succ ?_, ?_⟩
   ·simp only [zob.l1]
    refine Ev.bind hix2 ?_
    refine Ev.pos (fun _ => by first | omega | trivial | assumption) ?_
    refine Ev.pos (fun _ => by first | omega | trivial | assumption) ?_
    exact Ev.now _
   ·rw [hsp]; simp
theorem split_ev (s : ByteArray) (hs : s.size ≤ 1000000) : ∃ r, Ev (fun k => zob.f k s (⟨#[46]⟩ : ByteArray)) r ∧ r.map bytesOf = zhe isPt (bytesOf s) := by
 obtain ⟨r, h, h1⟩ := split_from s.size s [] (Nat.le_refl _) hs (by simp; omega)
 refine ⟨r, ?_, by simpa using h1⟩
 simp only [zob.f]
 refine Ev.neg (fun _ h => by cases h) ?_
 exact h
theorem zwh {m : List Int} (h0 : m ≠ []) (h : ∀ c ∈ m, isD c = true) : zae (strOfNums m) ∧ bytesOf (strOfNums m) = m := by
 have hb : bytesOf (strOfNums m) = m := B_str (fun c hc => by have := h c hc; unfold isD at this; have := of_decide_eq_true this; omega)
 refine ⟨⟨by rw [zfc, hb]; exact List.length_pos_iff.2 h0, fun j hj => ?_⟩, hb⟩
 rw [zah, hb]
 rw [zfc, hb] at hj
 have hm : m.getD j 0 ∈ m := by rw [List.getD_eq_getElem?_getD, List.getElem?_eq_getElem hj]; exact List.getElem_mem hj
 have := h _ hm
 unfold isD at this
 exact of_decide_eq_true this
theorem plain_dig {d : ByteArray} (h : zae d) (hs : d.size ≤ 1000000) : Plain d := by
 have := h.2 0 h.1
 unfold Dig at this
 have e : bt d ((0 : Nat) : Int) = bt d 0 := rfl
 rw [e] at this
 exact ⟨hs, by omega, by omega⟩
theorem dv_decL (s : ByteArray) : ∀ k, k ≤ s.size → dv s k = decL ((bytesOf s).take k)
 | 0, _ => rfl
 | k + 1, h => by
  have hl : k < (bytesOf s).length := by rw [bytesOf_length]; omega
  have e : (bytesOf s).take (k + 1) = (bytesOf s).take k ++ [(bytesOf s).getD k 0] := by
   rw [List.take_add_one, List.getElem?_eq_getElem hl, List.getD_eq_getElem?_getD, List.getElem?_eq_getElem hl]
   rfl
  rw [e, decL_snoc, ← dv_decL s k (by omega)]
  show dv s k * 10 + (bt s (k : Int) - 48).toNat = _
  rw [zah]
  omega
theorem dv_all (s : ByteArray) : dv s s.size = decL (bytesOf s) := by
 rw [dv_decL s s.size (Nat.le_refl _), List.take_of_length_le (by rw [bytesOf_length]; exact Nat.le_refl _)]
theorem dv_str {m : List Int} (h : ∀ c ∈ m, 0 ≤ c ∧ c ≤ 255) : dv (strOfNums m) (strOfNums m).size = decL m := by
 rw [dv_all, B_str h]
theorem zxh (s p : ByteArray) (r : List Int) (h : bytesOf s = bytesOf p ++ r) (hs : s.size ≤ 2000000) : ∃ t, zhb.f s p = some t ∧ bytesOf t = r := by
 have hl : p.size ≤ s.size := by rw [zfc, zfc, h, List.length_append]; omega
 unfold zhb.f zyc.f zqc.f
 rw [if_pos (by omega), if_pos (by omega), if_pos (by omega)]
 have e : ((s.extract 0 ((p.size : Int)).toNat).toList == p.toList) = true := by
  rw [beq_iff_eq, zmd, zwf, Int.toNat_natCast, h, zfc, List.take_left]
 rw [e]
 simp only [Option.bind_some]
 rw [if_pos True.intro, if_pos (by omega), if_pos (by omega)]
 simp only [Option.bind_some]
 refine ⟨_, rfl, ?_⟩
 rw [zmg, Int.toNat_natCast, h, zfc, List.drop_left]
theorem takeNe_map {l : List ByteArray} : (zef l).map bytesOf = (l.map bytesOf).takeWhile (fun d => decide (d ≠ [])) := by
 induction l with
 | nil => rfl
 | cons a l ih =>
  unfold zef at ih ⊢
  rw [List.map_cons]
  by_cases h : a.toList = []
  ·have h2 : bytesOf a = [] := (zcc a).1 h
   rw [List.takeWhile_cons_of_neg (by simpa using h), List.takeWhile_cons_of_neg (by simpa using h2)]
   rfl
  ·have h2 : bytesOf a ≠ [] := fun e => h ((zcc a).2 e)
   rw [List.takeWhile_cons_of_pos (by simpa using h), List.takeWhile_cons_of_pos (by simpa using h2), List.map_cons, ih]
theorem nums_ev (s : ByteArray) (hs : s.size ≤ 100000) : ∃ rest, Ev (fun k => numsRun k s) ((numsP (bytesOf s).length (bytesOf s)).1.map strOfNums, rest) ∧ bytesOf rest = rest1 (bytesOf s) := by
 obtain ⟨sub, e1, e2, e3, e4⟩ := zif (bytesOf s).length (bytesOf s)
 have hN := numbers_from s (by omega) (bytesOf s).length 0 (by rw [bytesOf_length]; omega) (Nat.zero_le _)
 rw [List.drop_zero] at hN
 have hsub : bytesOf (s.extract 0 (s.size - (numsP (bytesOf s).length (bytesOf s)).2.length)) = sub := by
  rw [zwf, zfc]
  have : (bytesOf s).length - (numsP (bytesOf s).length (bytesOf s)).2.length = sub.length := by
   have := congrArg List.length e1
   rw [List.length_append] at this
   omega
  rw [this]
  conv => lhs; rw [e1]
  exact List.take_left
 obtain ⟨S, hS⟩ : ∃ S, S = s.extract 0 (s.size - (numsP (bytesOf s).length (bytesOf s)).2.length) := ⟨_, rfl⟩
 rw [← hS] at hN hsub
 have hSs : S.size ≤ 1000000 := by
  have hz := hs
  have := congrArg List.length e1
  rw [List.length_append] at this
  rw [zfc, hsub]
  rw [zfc] at hs
  omega
 unfold numsRun
 by_cases h0 : sub = []
 ·have hn : (numsP (bytesOf s).length (bytesOf s)).1 = [] := by
   rw [← e2, h0]; rfl
  refine ⟨s, ?_, ?_⟩
  ·refine Ev.bind hN ?_
   refine Ev.pos (fun _ => (zcc S).2 (hsub.trans h0)) ?_
   rw [hn]
   exact Ev.now _
  ·unfold rest1
   conv => lhs; rw [e1, h0]
   rfl
 ·obtain ⟨parts, hp, hpb⟩ := split_ev S hSs
  obtain ⟨t, ht, htb⟩ := zxh s S _ (by rw [hsub]; exact e1) (by omega)
  have hpt : (zef parts).map bytesOf = (numsP (bytesOf s).length (bytesOf s)).1 := by rw [takeNe_map, hpb, hsub, e2]
  have hpt2 : zef parts = (numsP (bytesOf s).length (bytesOf s)).1.map strOfNums := by
   rw [← hpt, List.map_map]
   have : (strOfNums ∘ bytesOf) = id := by funext s; exact str_B s
   rw [this, List.map_id]
  refine ⟨t, ?_, htb⟩
  refine Ev.bind hN ?_
  refine Ev.neg (fun _ h => h0 (hsub.symm.trans ((zcc S).1 h))) ?_
  refine Ev.bind hp ?_
  have hlen : parts.length = (zhe isPt sub).length := by rw [← hsub, ← hpb, List.length_map]
  have hl2 := splitP_length isPt sub
  have hl3 : sub.length ≤ 1000000 - 0 := by rw [← hsub, ← zfc]; exact hSs
  have hl4 : sub.length ≤ (bytesOf s).length := by
   have := congrArg List.length e1
   rw [List.length_append] at this
   omega
  have hne : 0 < (zhe isPt sub).length := List.length_pos_iff.2 (splitP_ne _ _)
  have hle : parts.length ≤ 1000000 := by
   have hz := hs
   rw [zfc] at hz
   omega
  have hgood : ∀ d ∈ zef parts, Plain d ∧ zae d := by
   intro d hd
   rw [hpt2] at hd
   obtain ⟨m, hm, rfl⟩ := List.mem_map.1 hd
   obtain ⟨k1, k2⟩ := e4 m hm
   obtain ⟨k3, k4⟩ := zwh k1 k2
   refine ⟨plain_dig k3 ?_, k3⟩
   rw [zfc, k4]
   have := zej (bytesOf s).length (bytesOf s) m hm
   rw [zfc] at hs
   omega
  refine Ev.pos (fun _ => ⟨by omega, hle, hgood⟩) ?_
  rw [ht, hpt2]
  exact Ev.now _
theorem letter_ev (s : ByteArray) (hs : s.size ≤ 100000) : ∃ rest, zig s = some (strOfNums (zbf (bytesOf s)).1, rest) ∧ bytesOf rest = (zbf (bytesOf s)).2 := by
 have hE : zec.f s = some (isL ((bytesOf s).getD 0 0)) := by
  unfold zec.f
  by_cases h0 : bytesOf s = []
  ·rw [if_pos ((zcc s).2 h0), h0]; rfl
  ·have hpos : 0 < s.size := by rw [zfc]; exact List.length_pos_iff.2 h0
   rw [if_neg (fun h => h0 ((zcc s).1 h)), if_pos (by omega), zhi]
   unfold isL
   by_cases h1 : (bytesOf s).getD 0 0 ≥ 97
   ·rw [if_pos h1]
    congr 1
    rw [decide_eq_decide]
    omega
   ·rw [if_neg h1]
    congr 1
    symm
    rw [decide_eq_false_iff_not]
    omega
 unfold zig zbf
 rw [hE]
 simp only [Option.bind_some]
 cases hc : isL ((bytesOf s).getD 0 0)
 ·obtain ⟨t, ht, htb⟩ := zxh s ⟨#[]⟩ (bytesOf s) (by rfl) (by omega)
  refine ⟨t, ?_, ?_⟩
  ·rw [if_neg (by rintro ⟨h, _⟩; cases h)]
   simp only [Bool.false_eq_true, if_false]
   rw [ht]
   rfl
  ·simpa using htb
 ·have hne : bytesOf s ≠ [] := by intro e; rw [e] at hc; exact absurd hc (by decide)
  have hpos : s.size ≠ 0 := fun h => hne ((size_nil s).1 h)
  obtain ⟨t, ht, htb⟩ := zxh s (s.extract 0 1) ((bytesOf s).drop 1) (by rw [zwf]; exact (List.take_append_drop 1 _).symm) (by omega)
  refine ⟨t, ?_, ?_⟩
  ·rw [if_neg (by rintro ⟨_, h⟩; exact hpos h)]
   simp only [if_true]
   rw [ht]
   have : s.extract 0 1 = strOfNums ((bytesOf s).take 1) := by rw [← zwf, str_B]
   rw [this]
   rfl
  ·simpa using htb
theorem has_ev (s w : ByteArray) (i : Nat) (hi : i ≤ s.size) (hs : s.size ≤ 2000000) (hw : w.size ≤ 100) : zgc.f s (i : Int) w = some (pre (bytesOf w) ((bytesOf s).drop i)) := by
 unfold zgc.f pre
 rw [w64 (by omega) (by omega), w64 (by omega) (by omega)]
 have e1 : ((i : Int) + (w.size : Int)).toNat = i + w.size := by omega
 by_cases h : ((s.size : Int) - i) ≥ w.size
 ·rw [if_pos h, if_pos (by omega), if_pos (by omega), if_pos (by omega), e1, Int.toNat_natCast]
  congr 1
  rw [Bool.eq_iff_iff, beq_iff_eq, zmd, decide_eq_true_iff, zdf, Nat.add_sub_cancel_left, zfc]
 ·rw [if_neg h]
  congr 1
  symm
  rw [decide_eq_false_iff_not]
  intro e
  have := congrArg List.length e
  rw [List.length_take, List.length_drop, bytesOf_length, ← zfc] at this
  omega
def pick (L : List Int) : List ByteArray → ByteArray → ByteArray
 | [], w => w
 | x :: xs, w => if w.toList = [] then (if pre (bytesOf x) L = true then pick L xs x else pick L xs w) else pick L xs w
theorem pick_done {L : List Int} : ∀ (xs : List ByteArray) {w : ByteArray}, w.toList ≠ [] → pick L xs w = w
 | [], _, _ => rfl
 | x :: xs, w, h => by simp only [pick]; rw [if_neg h]; exact pick_done xs h
theorem pick_find {L : List Int} : ∀ (xs : List ByteArray), (∀ x ∈ xs, x.toList ≠ []) → bytesOf (pick L xs ⟨#[]⟩) = (((xs.map bytesOf).find? (fun w => pre w L)).getD [])
 | [], _ => rfl
 | x :: xs, h => by
  simp only [pick]
  rw [if_pos (show (⟨#[]⟩ : ByteArray).toList = [] by rw [zrh])]
  simp only [List.map_cons, List.find?_cons]
  by_cases hp : pre (bytesOf x) L = true
  ·rw [if_pos hp, hp, pick_done xs (h x List.mem_cons_self)]
   rfl
  ·rw [if_neg hp, Bool.eq_false_iff.2 hp]
   exact pick_find xs (fun y hy => h y (List.mem_cons_of_mem _ hy))
theorem words_walk (s : ByteArray) (out : List (List ByteArray)) (i : Nat) (hi : i + 1 ≤ s.size) (hs : s.size ≤ 2000000) (ws : List ByteArray) (hw : ∀ w ∈ ws, w.size ≤ 100) (hl : ws.length ≤ 100) {r : List (List ByteArray)} : ∀ (m j : Nat) (word : ByteArray), ws.length - j = m → j ≤ ws.length →
  Ev (fun k => zh.l1 k s out (i : Int) (pick ((bytesOf s).drop (i + 1)) (ws.drop j) word) ws (ws.length : Int) (ws.length : Int)) r → Ev (fun k => zh.l1 k s out (i : Int) word ws (ws.length : Int) (j : Int)) r := by
 intro m
 induction m with
 | zero =>
  intro j word hm hj h
  obtain rfl : j = ws.length := by omega
  rw [List.drop_length] at h
  exact h
 | succ m ih =>
  intro j word hm hj h
  have hlt : j < ws.length := by omega
  have hd : ws.drop j = ws[j] :: ws.drop (j + 1) := List.drop_eq_getElem_cons hlt
  have hrd : rdOf ByteArray.empty ws (j : Int) = ws[j] := by
   simp only [rdOf, Int.toNat_natCast, List.getD_eq_getElem?_getD, List.getElem?_eq_getElem hlt, Option.getD_some]
  rw [hd] at h
  simp only [pick] at h
  refine Ev.succ ?_
  simp only [zh.l1]
  refine Ev.pos (fun _ => by first | omega | trivial | assumption) ?_
  refine Ev.pos (fun _ => by first | omega | trivial | assumption) ?_
  refine Ev.pos (fun _ => by first | omega | trivial | assumption) ?_
  rw [hrd, w64 (i := (j : Int) + 1) (by omega) (by omega)]
  by_cases hne : word.toList = []
  ·rw [if_pos hne] at h
   refine Ev.pos (fun _ => hne) ?_
   rw [w64 (i := (i : Int) + 1) (by omega) (by omega)]
   refine Ev.bind0 (has_ev s ws[j] (i + 1) hi hs (hw _ (List.getElem_mem hlt))) ?_
   by_cases hp : pre (bytesOf ws[j]) ((bytesOf s).drop (i + 1)) = true
   ·rw [if_pos hp] at h
    refine Ev.pos (fun _ => hp) ?_
    exact ih (j + 1) _ (by omega) (by omega) h
   ·rw [if_neg hp] at h
    refine Ev.neg (fun _ => hp) ?_
    exact ih (j + 1) _ (by omega) (by omega) h
  ·rw [if_neg hne] at h
   refine Ev.neg (fun _ => hne) ?_
   exact ih (j + 1) _ (by omega) (by omega) h
def sufBs : List ByteArray := [(⟨#[97, 108, 112, 104, 97]⟩ : ByteArray), (⟨#[98, 101, 116, 97]⟩ : ByteArray), (⟨#[112, 114, 101]⟩ : ByteArray), (⟨#[114, 99]⟩ : ByteArray), (⟨#[99, 118, 115]⟩ : ByteArray), (⟨#[115, 118, 110]⟩ : ByteArray), (⟨#[103, 105, 116]⟩ : ByteArray), (⟨#[104, 103]⟩ : ByteArray), (⟨#[112]⟩ : ByteArray)]
theorem sufBs_B : sufBs.map bytesOf = zpd := by decide
theorem sufBs_ne : ∀ x ∈ sufBs, x.toList ≠ [] := by
 intro x hx e
 have h1 : bytesOf x ∈ zpd := by rw [← sufBs_B]; exact List.mem_map_of_mem hx
 have h2 := zme h1
 rw [(zcc x).1 e] at h2
 simp at h2
theorem sufBs_size : ∀ x ∈ sufBs, x.size ≤ 100 := by
 intro x hx
 have h1 : bytesOf x ∈ zpd := by rw [← sufBs_B]; exact List.mem_map_of_mem hx
 have h2 := zme h1
 rw [← zfc] at h2
 omega
def toM (x : List Int × List Int) : List ByteArray := [strOfNums (95 :: (x.1 ++ x.2)), strOfNums x.1, strOfNums x.2]
theorem suf_round (s : ByteArray) (out : List (List ByteArray)) (i : Nat) (hi : i < s.size) (hs : s.size ≤ 2000000) (ho : out.length ≤ 2000000) {r : List (List ByteArray)}
  (h : match zie ((bytesOf s).drop i) with
   | none => Ev (fun k => zh.l0 k s out ((i + 1 : Nat) : Int)) r
   | some w => Ev (fun k => zh.l0 k s (out ++ [toM (w, (((bytesOf s).drop i).drop (1 + w.length)).take (run isD (((bytesOf s).drop i).drop (1 + w.length))))]) ((i + 1 + w.length + run isD (((bytesOf s).drop i).drop (1 + w.length)) : Nat) : Int)) r) :
  Ev (fun k => zh.l0 k s out (i : Int)) r := by
 have hl : i < (bytesOf s).length := by rw [bytesOf_length]; exact hi
 have hg : ((bytesOf s).drop i).getD 0 0 = (bytesOf s).getD i 0 := by simp [List.getD_eq_getElem?_getD]
 refine Ev.succ ?_
 simp only [zh.l0, zah]
 refine Ev.pos (fun _ => by first | omega | trivial | assumption) ?_
 refine Ev.pos (fun _ => by first | omega | trivial | assumption) ?_
 by_cases h95 : (bytesOf s).getD i 0 = 95
 ·refine Ev.pos (fun _ => h95) ?_
  refine Ev.bind0 rfl ?_
  show Ev (fun k => zh.l1 k s out (i : Int) ⟨#[]⟩ sufBs (sufBs.length : Int) ((0 : Nat) : Int)) r
  refine words_walk s out i (by omega) hs sufBs sufBs_size (by decide) 9 0 _ rfl (by decide) ?_
  rw [List.drop_zero]
  have hp := pick_find (L := (bytesOf s).drop (i + 1)) sufBs sufBs_ne
  rw [sufBs_B] at hp
  have hw : zie ((bytesOf s).drop i) = zpd.find? (fun w => pre w ((bytesOf s).drop (i + 1))) := by
   unfold zie
   rw [if_pos (hg.trans h95), List.drop_drop]
  rw [hw] at h
  have hws := fun w (hq : zpd.find? (fun w => pre w ((bytesOf s).drop (i + 1))) = some w) => zve (hw.trans hq)
  obtain ⟨W, hW⟩ : ∃ W, W = pick ((bytesOf s).drop (i + 1)) sufBs ⟨#[]⟩ := ⟨_, rfl⟩
  rw [← hW] at hp ⊢
  refine Ev.succ ?_
  simp only [zh.l1]
  refine Ev.neg (fun _ => by first | omega | assumption | nofun) ?_
  cases hq : zpd.find? (fun w => pre w ((bytesOf s).drop (i + 1))) with
  | none =>
   rw [hq] at h hp
   refine Ev.pos (fun _ => (zcc W).2 hp) ?_
   rw [w64 (i := (i : Int) + 1) (by omega) (by omega)]
   exact h
  | some w =>
   rw [hq] at h hp
   obtain ⟨k1, k2⟩ := hws w hq
   have hpw : bytesOf W = w := hp
   have hlen := zme k1
   have hWs : W.size = w.length := by rw [zfc, hpw]
   have htot := congrArg List.length k2
   simp only [List.length_cons, List.length_append, List.length_drop, bytesOf_length] at htot
   refine Ev.neg (fun _ e => by have := (zcc W).1 e; rw [hpw] at this; rw [this] at hlen; simp at hlen) ?_
   rw [w64 (i := (i : Int) + 1) (by omega) (by omega), w64 (i := (i : Int) + 1 + (W.size : Int)) (by omega) (by omega), hWs]
   have hdd : ((bytesOf s).drop i).drop (1 + w.length) = (bytesOf s).drop (i + 1 + w.length) := by rw [List.drop_drop, Nat.add_assoc]
   simp only [hdd] at h
   have hr := zih isD ((bytesOf s).drop (i + 1 + w.length))
   rw [List.length_drop, bytesOf_length] at hr
   have D := zwi s hs (i + 1 + w.length) (by omega)
   obtain ⟨n, hn⟩ : ∃ n, n = run isD ((bytesOf s).drop (i + 1 + w.length)) := ⟨_, rfl⟩
   rw [← hn] at D h hr
   have e1 : ((i : Int) + 1 + (w.length : Int)) = ((i + 1 + w.length : Nat) : Int) := by omega
   rw [e1]
   refine Ev.bind D ?_
   refine Ev.pos (fun _ => by omega) ?_
   refine Ev.pos (fun _ => by omega) ?_
   refine Ev.pos (fun _ => by omega) ?_
   refine Ev.pos (fun _ => by omega) ?_
   refine Ev.pos (fun _ => by omega) ?_
   refine Ev.pos (fun _ => by omega) ?_
   refine Ev.eq (g := _) ?_ rfl
   have m0 : s.extract i (i + 1 + w.length + n) = strOfNums (95 :: (w ++ ((bytesOf s).drop (i + 1 + w.length)).take n)) := by
    rw [← str_B (s.extract i (i + 1 + w.length + n)), zdf]
    congr 1
    rw [show i + 1 + w.length + n - i = (w.length + n) + 1 by omega]
    rw [k2]
    rw [List.take_succ_cons, hdd]
    congr 1
    rw [List.take_append, List.take_of_length_le (by omega), Nat.add_sub_cancel_left]
   have m2 : s.extract (i + 1 + w.length) (i + 1 + w.length + n) = strOfNums (((bytesOf s).drop (i + 1 + w.length)).take n) := by
    rw [← str_B (s.extract (i + 1 + w.length) (i + 1 + w.length + n)), zdf]
    rw [Nat.add_sub_cancel_left]
   have m1 : W = strOfNums w := by rw [← hpw, str_B]
   simp only [Int.toNat_natCast]
   rw [m0, m2, m1]
   exact h
 ·refine Ev.neg (fun _ => h95) ?_
  rw [w64 (i := (i : Int) + 1) (by omega) (by omega)]
  have hw : zie ((bytesOf s).drop i) = none := by
   unfold zie
   rw [if_neg (fun e => h95 (hg.symm.trans e))]
  rw [hw] at h
  exact h
theorem sufs_none (s : ByteArray) (hs : s.size ≤ 2000000) (out : List (List ByteArray)) (ho : out.length ≤ 2000000) : ∀ (n i : Nat), s.size - i = n → i ≤ s.size → Clear ((bytesOf s).drop i) →
  Ev (fun k => zh.l0 k s out (i : Int)) out := by
 intro n
 induction n with
 | zero =>
  intro i hn hi hc
  refine Ev.succ ?_
  simp only [zh.l0]
  refine Ev.neg (fun _ => by first | omega | assumption | nofun) ?_
  exact Ev.now _
 | succ n ih =>
  intro i hn hi hc
  refine suf_round s out i (by omega) hs ho ?_
  have h0 : zie ((bytesOf s).drop i) = none := hc 0
  rw [h0]
  refine ih (i + 1) (by omega) (by omega) ?_
  have := hc.drop 1
  rw [List.drop_drop] at this
  exact this
theorem sufs_from (s : ByteArray) (hs : s.size ≤ 1000000) : ∀ (n i : Nat) (out : List (List ByteArray)), s.size - i ≤ n → i ≤ s.size → out.length ≤ i → Clear (sufsP n ((bytesOf s).drop i)).2 →
  Ev (fun k => zh.l0 k s out (i : Int)) (out ++ (sufsP n ((bytesOf s).drop i)).1.map toM) := by
 intro n
 induction n with
 | zero =>
  intro i out hn hi ho hc
  refine Ev.eq (sufs_none s (by omega) out (by omega) _ i rfl hi hc) ?_
  simp [sufsP]
 | succ n ih =>
  intro i out hn hi ho hc
  cases hq : zie ((bytesOf s).drop i) with
  | none =>
   rw [znf hq] at hc ⊢
   refine Ev.eq (sufs_none s (by omega) out (by omega) _ i rfl hi hc) ?_
   simp
  | some w =>
   obtain ⟨k1, k2⟩ := zve hq
   have hlen := zme k1
   have htot := congrArg List.length k2
   simp only [List.length_cons, List.length_append, List.length_drop, bytesOf_length] at htot
   have hdd : ((bytesOf s).drop i).drop (1 + w.length) = (bytesOf s).drop (i + 1 + w.length) := by rw [List.drop_drop, Nat.add_assoc]
   have hr := zih isD ((bytesOf s).drop (i + 1 + w.length))
   rw [List.length_drop, bytesOf_length] at hr
   rw [zjf hq] at hc ⊢
   rw [hdd, List.drop_drop] at hc ⊢
   refine suf_round s out i (by omega) (by omega) (by omega) ?_
   rw [hq]
   simp only
   rw [hdd]
   have := ih (i + 1 + w.length + run isD ((bytesOf s).drop (i + 1 + w.length))) (out ++ [toM (w, ((bytesOf s).drop (i + 1 + w.length)).take (run isD ((bytesOf s).drop (i + 1 + w.length))))]) (by omega) (by omega) (by rw [List.length_append]; simp; omega) hc
   refine Ev.eq this ?_
   rw [List.append_assoc]
   rfl
end Go.Proofs.YtapaijpglfmfgaaGreatDoorP
end
section
namespace Go.Proofs.YtapaijpglfmfgaaGreatDoorP
open Go.RowKit YtapaijpglfmfgaaGreatDoorG YtapaijpglfmfgaaGreatDoorH YtapaijpglfmfgaaGreatDoorB YtapaijpglfmfgaaGreatDoorM YtapaijpglfmfgaaGreatDoor.S YtapaijpglfmfgaaGreatDoorW.PrintWords YtapaijpglfmfgaaGreatDoorW.PrintLast
theorem Ev.map {α β : Type} {g : Nat → Option α} {a : α} {F : α → β} (h : Ev g a) : Ev (fun k => (g k).map F) (F a) := by
 obtain ⟨k0, hk⟩ := h
 exact ⟨k0, fun k h => by show Option.map F (g k) = _; rw [hk k h]; rfl⟩
def wgtBs : List ByteArray := [(⟨#[97, 108, 112, 104, 97]⟩ : ByteArray), (⟨#[98, 101, 116, 97]⟩ : ByteArray), (⟨#[112, 114, 101]⟩ : ByteArray), (⟨#[114, 99]⟩ : ByteArray), (⟨#[]⟩ : ByteArray), (⟨#[99, 118, 115]⟩ : ByteArray), (⟨#[115, 118, 110]⟩ : ByteArray), (⟨#[103, 105, 116]⟩ : ByteArray), (⟨#[104, 103]⟩ : ByteArray)]
theorem wgtBs_B : wgtBs.map bytesOf = wgtWords := by decide
theorem weight_from (x : ByteArray) (ws : List ByteArray) (hl : ws.length ≤ 100) : ∀ (m j : Nat), ws.length - j = m → j ≤ ws.length →
  Ev (fun k => zr.l0 k x ws ws (ws.length : Int) (j : Int)) ((j + ((ws.drop j).map bytesOf).idxOf (bytesOf x) : Nat) : Int) := by
 intro m
 induction m with
 | zero =>
  intro j hm hj
  obtain rfl : j = ws.length := by omega
  refine Ev.succ ?_
  simp only [zr.l0]
  refine Ev.neg (fun _ => by first | omega | assumption | nofun) ?_
  refine Ev.eq (Ev.now _) ?_
  rw [List.drop_length]
  rfl
 | succ m ih =>
  intro j hm hj
  have hlt : j < ws.length := by omega
  have hd : ws.drop j = ws[j] :: ws.drop (j + 1) := List.drop_eq_getElem_cons hlt
  have hrd : rdOf ByteArray.empty ws (j : Int) = ws[j] := by
   simp only [rdOf, Int.toNat_natCast, List.getD_eq_getElem?_getD, List.getElem?_eq_getElem hlt, Option.getD_some]
  refine Ev.succ ?_
  simp only [zr.l0]
  refine Ev.pos (fun _ => by first | omega | trivial | assumption) ?_
  refine Ev.pos (fun _ => by first | omega | trivial | assumption) ?_
  refine Ev.pos (fun _ => by first | omega | trivial | assumption) ?_
  rw [hrd, hd, List.map_cons, List.idxOf_cons]
  by_cases h : bytesOf x = bytesOf ws[j]
  ·refine Ev.pos (fun _ => (zmd _ _).2 h) ?_
   refine Ev.eq (Ev.now _) ?_
   have : (bytesOf ws[j] == bytesOf x) = true := by rw [beq_iff_eq]; exact h.symm
   rw [this]
   rfl
  ·refine Ev.neg (fun _ e => h ((zmd _ _).1 e)) ?_
   rw [w64 (i := (j : Int) + 1) (by omega) (by omega)]
   refine Ev.eq (ih (j + 1) (by omega) (by omega)) ?_
   have : (bytesOf ws[j] == bytesOf x) = false := by rw [beq_eq_false_iff_ne]; exact fun e => h e.symm
   rw [this]
   simp only [cond_false]
   omega
theorem weight_ev (x : ByteArray) : Ev (fun k => zr.f k x) (wgt (bytesOf x) : Int) := by
 simp only [zr.f]
 refine Ev.bind0 rfl ?_
 have h := weight_from x wgtBs (by decide) 9 0 rfl (by decide)
 rw [List.drop_zero, wgtBs_B] at h
 refine Ev.eq h ?_
 unfold wgt
 rw [Nat.zero_add]
def convS (x : List Int × List Int) : Int × ByteArray := ((wgt x.1 : Int), or0 (strOfNums x.2))
theorem digs_asc {d : List Int} (h : ∀ c ∈ d, isD c = true) : ∀ c ∈ d, 0 ≤ c ∧ c ≤ 255 := fun c hc => by
 have := h c hc
 unfold isD at this
 have := of_decide_eq_true this
 omega
theorem zxi {d : List Int} (h : ∀ c ∈ d, isD c = true) (hl : d.length ≤ 1000000) : Plain (or0 (strOfNums d)) ∧ zae (or0 (strOfNums d)) ∧ dv (or0 (strOfNums d)) (or0 (strOfNums d)).size = decL d := by
 have hb := B_str (digs_asc h)
 unfold or0
 by_cases h0 : d = []
 ·subst h0
  rw [if_pos ((zcc _).2 hb)]
  refine ⟨by decide, ?_, by decide⟩
  have := (zwh (m := [48]) (by simp) (by decide)).1
  exact this
 ·rw [if_neg (fun e => h0 (hb.symm.trans ((zcc _).1 e)))]
  obtain ⟨k1, k2⟩ := zwh h0 h
  refine ⟨plain_dig k1 (by rw [zfc, hb]; exact hl), k1, ?_⟩
  rw [dv_all, hb]
theorem sufRun_ev : ∀ (n : Nat) (s : ByteArray), s.size ≤ 100000 → ∃ rest, Ev (fun k => zhf k ((sufsP n (bytesOf s)).1.map toM) s) ((sufsP n (bytesOf s)).1.map convS, rest) ∧ bytesOf rest = (sufsP n (bytesOf s)).2 := by
 intro n
 induction n with
 | zero => intro s hs; exact ⟨s, Ev.now _, rfl⟩
 | succ n ih =>
  intro s hs
  cases hq : zie (bytesOf s) with
  | none =>
   rw [znf hq]
   exact ⟨s, Ev.now _, rfl⟩
  | some w =>
   obtain ⟨k1, k2⟩ := zve hq
   rw [zjf hq]
   obtain ⟨D, hD⟩ : ∃ D, D = (bytesOf s).drop (1 + w.length) := ⟨_, rfl⟩
   rw [← hD] at k2 ⊢
   have hdig : ∀ c ∈ D.take (run isD D), isD c = true := fun c hc => ztg hc
   have hDl : D.length ≤ 100000 := by rw [hD, List.length_drop, bytesOf_length]; omega
   have hm0 : bytesOf (strOfNums (95 :: (w ++ D.take (run isD D)))) = 95 :: (w ++ D.take (run isD D)) := B_str (fun c hc => by
    rcases List.mem_cons.1 hc with rfl | hc
    ·omega
    ·rcases List.mem_append.1 hc with hc | hc
     ·have := zmh k1 c hc; omega
     ·exact digs_asc hdig c hc)
   have hw : bytesOf (strOfNums w) = w := B_str (fun c hc => by have := zmh k1 c hc; omega)
   obtain ⟨t, ht, htb⟩ := zxh s (strOfNums (95 :: (w ++ D.take (run isD D)))) (D.drop (run isD D)) (by
    rw [hm0, k2]
    simp only [List.cons_append, List.append_assoc, List.take_append_drop]) (by omega)
   have hts : t.size ≤ 100000 := by rw [zfc, htb, List.length_drop]; omega
   obtain ⟨rest, hr, hrb⟩ := ih t hts
   rw [htb] at hr hrb
   refine ⟨rest, ?_, hrb⟩
   simp only [List.map_cons, toM, zhf]
   have hwe := weight_ev (strOfNums w)
   rw [hw] at hwe
   refine Ev.bind hwe ?_
   refine Ev.bind0 ht ?_
   obtain ⟨g1, g2, _⟩ := zxi hdig (by rw [List.length_take]; omega)
   refine Ev.pos (fun _ => ⟨g1, g2⟩) ?_
   exact Ev.map hr
theorem sufs_ev (s : ByteArray) (hs : s.size ≤ 100000) (hc : Clear (sufsP (bytesOf s).length (bytesOf s)).2) : ∃ rest, Ev (fun k => sufsRun k s) ((sufsP (bytesOf s).length (bytesOf s)).1.map convS, rest) ∧ bytesOf rest = (sufsP (bytesOf s).length (bytesOf s)).2 := by
 obtain ⟨rest, hr, hrb⟩ := sufRun_ev (bytesOf s).length s hs
 refine ⟨rest, ?_, hrb⟩
 have h := sufs_from s (by omega) (bytesOf s).length 0 [] (by rw [bytesOf_length]; omega) (Nat.zero_le _) (Nat.zero_le _) (by rw [List.drop_zero]; exact hc)
 rw [List.drop_zero, List.nil_append] at h
 unfold sufsRun
 refine Ev.bind h ?_
 refine Ev.pos (fun _ => ?_) hr
 rw [List.length_map]
 have := zci (bytesOf s).length (bytesOf s)
 rw [zfc] at hs
 omega
theorem hash_from (s : ByteArray) (hs : s.size ≤ 2000000) : ∀ (m i : Nat), s.size - i = m → 1 ≤ i → i ≤ s.size →
  Ev (fun k => zv.l0 k s (i : Int)) (if i + run isX ((bytesOf s).drop i) = 1 then ⟨#[]⟩ else s.extract 0 (i + run isX ((bytesOf s).drop i))) := by
 intro m
 induction m with
 | zero =>
  intro i hm h1 hi
  refine Ev.succ ?_
  simp only [zv.l0]
  refine Ev.neg (fun _ => by first | omega | assumption | nofun) ?_
  rw [List.drop_of_length_le (by rw [bytesOf_length]; omega), run_nil, Nat.add_zero]
  by_cases h : i = 1
  ·rw [if_pos h]
   refine Ev.pos (fun _ => by omega) ?_
   exact Ev.now _
  ·rw [if_neg h]
   refine Ev.neg (fun _ => by omega) ?_
   refine Ev.pos (fun _ => by first | omega | trivial | assumption) ?_
   refine Ev.pos (fun _ => by first | omega | trivial | assumption) ?_
   exact Ev.eq (Ev.now _) (by simp)
 | succ m ih =>
  intro i hm h1 hi
  have hl : i < (bytesOf s).length := by rw [bytesOf_length]; omega
  have next := ih (i + 1) (by omega) (by omega) (by omega)
  refine Ev.succ ?_
  simp only [zv.l0, zah, zzDigit_eq, Option.bind_some]
  refine Ev.pos (fun _ => by first | omega | trivial | assumption) ?_
  refine Ev.pos (fun _ => by first | omega | trivial | assumption) ?_
  rw [w64 (i := (i : Int) + 1) (by omega) (by omega), zyg _ _ hl]
  obtain ⟨c, hcc⟩ : ∃ c, c = (bytesOf s).getD i 0 := ⟨_, rfl⟩
  rw [← hcc]
  cases hx : isX c with
  | true =>
   rw [zrg hx]
   have e : i + (run isX ((bytesOf s).drop (i + 1)) + 1) = i + 1 + run isX ((bytesOf s).drop (i + 1)) := by omega
   rw [e]
   cases hd : isD c with
   | true => exact Ev.pos (fun _ => rfl) next
   | false =>
    unfold isX at hx
    rw [hd, Bool.false_or] at hx
    have hx2 := of_decide_eq_true hx
    refine Ev.neg (fun _ => Bool.false_ne_true) ?_
    refine Ev.pos (fun _ => by omega) ?_
    exact Ev.pos (fun _ => by omega) next
  | false =>
   rw [zhg hx, Nat.add_zero]
   unfold isX at hx
   have hx1 := (Bool.or_eq_false_iff.1 hx).1
   have hx2 := of_decide_eq_false (Bool.or_eq_false_iff.1 hx).2
   rw [hx1]
   refine Ev.neg (fun _ => Bool.false_ne_true) ?_
   have fin : ∀ {g : Nat → Option ByteArray}, Ev g (if i = 1 then ⟨#[]⟩ else s.extract 0 i) → Ev g (if i = 1 then ⟨#[]⟩ else s.extract 0 i) := fun h => h
   have stop : Ev (fun k : Nat => if (i : Int) = 1 then some (⟨#[]⟩ : ByteArray) else if (i : Int) ≤ (s.size : Int) then some (s.extract 0 ((i : Int)).toNat) else none) (if i = 1 then ⟨#[]⟩ else s.extract 0 i) := by
    by_cases h : i = 1
    ·rw [if_pos h]
     refine Ev.pos (fun _ => by omega) ?_
     exact Ev.now _
    ·rw [if_neg h]
     refine Ev.neg (fun _ => by omega) ?_
     refine Ev.pos (fun _ => by first | omega | trivial | assumption) ?_
     exact Ev.eq (Ev.now _) (by simp)
   by_cases h97 : c ≥ 97
   ·refine Ev.pos (fun _ => h97) ?_
    refine Ev.neg (fun _ => by omega) ?_
    exact stop
   ·refine Ev.neg (fun _ => h97) ?_
    exact stop
theorem hash_ev (s : ByteArray) (hs : s.size ≤ 100000) : ∃ rest, Ev (fun k => hashRun k s) (strOfNums (hashP (bytesOf s)).1, rest) ∧ bytesOf rest = (hashP (bytesOf s)).2 := by
 have hE : Ev (fun k => zv.f k s) (strOfNums (hashP (bytesOf s)).1) := by
  simp only [zv.f]
  by_cases h0 : bytesOf s = []
  ·refine Ev.pos (fun _ => (zcc s).2 h0) ?_
   refine Ev.succ ?_
   simp only [zv.j0]
   rw [h0]
   exact Ev.now _
  ·have hpos : 0 < s.size := by rw [zfc]; exact List.length_pos_iff.2 h0
   refine Ev.neg (fun _ e => h0 ((zcc s).1 e)) ?_
   refine Ev.pos (fun _ => by omega) ?_
   refine Ev.succ ?_
   simp only [zv.j0, zhi]
   by_cases h1 : (bytesOf s).getD 0 0 = 126
   ·refine Ev.neg (fun _ => by rw [h1]; decide) ?_
    have h := hash_from s (by omega) _ 1 rfl (Nat.le_refl 1) (by omega)
    refine Ev.eq h ?_
    unfold hashP
    by_cases h2 : run isX ((bytesOf s).drop 1) = 0
    ·rw [if_pos (by omega), if_neg (fun h => h.2 h2)]
     rfl
    ·rw [if_neg (by omega), if_pos ⟨h1, h2⟩, ← zwf, str_B]
   ·refine Ev.pos (fun _ => by rw [bne_iff_ne]; exact h1) ?_
    refine Ev.eq (Ev.now _) ?_
    unfold hashP
    rw [if_neg (fun h => h1 h.1)]
    rfl
 have hsplit : bytesOf s = (hashP (bytesOf s)).1 ++ (hashP (bytesOf s)).2 := by
  unfold hashP
  split
  ·exact (List.take_append_drop _ _).symm
  ·rfl
 have hb : bytesOf (strOfNums (hashP (bytesOf s)).1) = (hashP (bytesOf s)).1 := B_str (fun c hc => zii s c (by rw [hsplit]; exact List.mem_append_left _ hc))
 obtain ⟨t, ht, htb⟩ := zxh s (strOfNums (hashP (bytesOf s)).1) (hashP (bytesOf s)).2 (by rw [hb]; exact hsplit) (by omega)
 refine ⟨t, ?_, htb⟩
 unfold hashRun
 refine Ev.bind hE ?_
 rw [ht]
 exact Ev.now _
theorem build_ev (s : ByteArray) (hs : s.size ≤ 100000) : ∃ rest, Ev (fun k => zuh k s) ((zzd (bytesOf s)).1, decL (zzd (bytesOf s)).2.1, rest) ∧ bytesOf rest = (zzd (bytesOf s)).2.2 := by
 unfold zuh zzd
 by_cases h0 : bytesOf s = []
 ·refine ⟨s, ?_, ?_⟩
  ·refine Ev.pos (fun _ => (zcc s).2 h0) ?_
   rw [if_pos h0]
   exact Ev.now _
  ·rw [if_pos h0]; exact h0
 ·rw [if_neg h0]
  have hh := has_ev s ⟨#[45, 114]⟩ 0 (Nat.zero_le _) (by omega) (by decide)
  rw [List.drop_zero] at hh
  have hh2 : zgc.f s 0 ⟨#[45, 114]⟩ = some (pre [45, 114] (bytesOf s)) := hh
  by_cases h1 : (bytesOf s).take 2 = [45, 114]
  ·rw [if_pos h1]
   have hp : pre [45, 114] (bytesOf s) = true := decide_eq_true h1
   rw [hp] at hh2
   have hl2 : 2 ≤ s.size := by
    have := congrArg List.length h1
    rw [List.length_take, bytesOf_length] at this
    simp at this
    omega
   have D := zwi s (by omega) 2 hl2
   have hr := zih isD ((bytesOf s).drop 2)
   rw [List.length_drop, bytesOf_length] at hr
   have hdig : ∀ c ∈ ((bytesOf s).drop 2).take (run isD ((bytesOf s).drop 2)), isD c = true := fun c hc => ztg hc
   obtain ⟨n, hn⟩ : ∃ n, n = run isD ((bytesOf s).drop 2) := ⟨_, rfl⟩
   rw [← hn] at D hr hdig ⊢
   have e2 : s.extract 2 (2 + n) = strOfNums (((bytesOf s).drop 2).take n) := by
    rw [← str_B (s.extract 2 (2 + n)), zdf, Nat.add_sub_cancel_left]
   have e0 : bytesOf (s.extract 0 (2 + n)) = (bytesOf s).take (2 + n) := zwf _ _
   obtain ⟨g1, g2, g3⟩ := zxi hdig (by rw [List.length_take]; omega)
   obtain ⟨t, ht, htb⟩ := zxh s (s.extract 0 (2 + n)) (((bytesOf s).drop 2).drop n) (by rw [e0, List.drop_drop]; exact (List.take_append_drop _ _).symm) (by omega)
   refine ⟨t, ?_, htb⟩
   refine Ev.neg (fun _ e => h0 ((zcc s).1 e)) ?_
   refine Ev.bind0 hh2 ?_
   refine Ev.pos (fun _ => rfl) ?_
   refine Ev.bind D ?_
   rw [Int.toNat_natCast, e2]
   refine Ev.pos (fun _ => ⟨by omega, by omega, g1, g2⟩) ?_
   rw [ht, g3]
   exact Ev.now _
  ·rw [if_neg h1]
   have hp : pre [45, 114] (bytesOf s) = false := decide_eq_false h1
   rw [hp] at hh2
   refine ⟨s, ?_, rfl⟩
   refine Ev.neg (fun _ e => h0 ((zcc s).1 e)) ?_
   refine Ev.bind0 hh2 ?_
   refine Ev.neg (fun _ => Bool.false_ne_true) ?_
   exact Ev.now _
def apOf (p : PV) : AP := ⟨strOfNums p.o, p.i, strOfNums p.r, p.c.map strOfNums, strOfNums p.l, p.s.map convS, strOfNums p.h, decL p.b⟩
theorem parseA_ev (s : ByteArray) (hs : s.size ≤ 100000) (hc : Clear (rest3 (bytesOf s))) : Ev (fun k => parseA k s) (apOf (zwc (bytesOf s))) := by
 obtain ⟨s1, h1, b1⟩ := nums_ev s hs
 have z1 : s1.size ≤ 100000 := by rw [zfc, b1]; have := zkh (bytesOf s); rw [zfc] at hs; omega
 obtain ⟨s2, h2, b2⟩ := letter_ev s1 z1
 rw [b1] at h2 b2
 have b2' : bytesOf s2 = rest2 (bytesOf s) := b2
 have z2 : s2.size ≤ 100000 := by rw [zfc, b2']; have := zlg (bytesOf s); rw [zfc] at hs; omega
 obtain ⟨s3, h3, b3⟩ := sufs_ev s2 z2 (by rw [b2']; exact hc)
 rw [b2'] at h3 b3
 have b3' : bytesOf s3 = rest3 (bytesOf s) := b3
 have z3 : s3.size ≤ 100000 := by rw [zfc, b3']; have := rest3_len (bytesOf s); rw [zfc] at hs; omega
 obtain ⟨s4, h4, b4⟩ := hash_ev s3 z3
 rw [b3'] at h4 b4
 have b4' : bytesOf s4 = rest4 (bytesOf s) := b4
 have z4 : s4.size ≤ 100000 := by rw [zfc, b4']; have := rest4_len (bytesOf s); rw [zfc] at hs; omega
 obtain ⟨s5, h5, b5⟩ := build_ev s4 z4
 rw [b4'] at h5 b5
 unfold parseA
 refine Ev.bind h1 ?_
 refine Ev.bind0 h2 ?_
 refine Ev.bind h3 ?_
 refine Ev.bind h4 ?_
 refine Ev.bind h5 ?_
 refine Ev.eq (Ev.now _) ?_
 have e0 : s = strOfNums (bytesOf s) := (str_B s).symm
 have e5 : s5 = strOfNums (zzd (rest4 (bytesOf s))).2.2 := by rw [← b5, str_B]
 unfold apOf zwc
 simp only
 rw [← e5, ← e0]
end Go.Proofs.YtapaijpglfmfgaaGreatDoorP
end
section
namespace Go.Proofs.YtapaijpglfmfgaaGreatDoorG
open Go.RowKit YtapaijpglfmfgaaGreatDoorP YtapaijpglfmfgaaGreatDoorB YtapaijpglfmfgaaGreatDoorW.PrintWords YtapaijpglfmfgaaGreatDoorW.PrintLast
def GL (w : World) : Prop := GLe w
theorem GL.at {w w' : World} (h : GL w) (hb : Below w.heap.size w w') : GL w' := GLe.below h hb (Nat.le_refl _)
def zlh : List Int → Bool
 | [] => true
 | x :: l => (zie (x :: l)).isNone && zlh l
theorem clearB_iff : ∀ (l : List Int), zlh l = true ↔ Clear l
 | [] => ⟨fun _ j => by rw [List.drop_nil]; rfl, fun _ => rfl⟩
 | x :: l => by
  simp only [zlh, Bool.and_eq_true, clearB_iff l]
  constructor
  ·rintro ⟨h1, h2⟩ j
   cases j with
   | zero => exact Option.isNone_iff_eq_none.1 h1
   | succ j => exact h2 j
  ·intro h
   exact ⟨Option.isNone_iff_eq_none.2 (h 0), fun j => h (j + 1)⟩
def AOk (s : ByteArray) : Prop := s.size ≤ 100000 ∧ zlh (rest3 (bytesOf s)) = true
instance (s : ByteArray) : Decidable (AOk s) := inferInstanceAs (Decidable (_ ∧ _))
theorem AOk.ev {s : ByteArray} (h : AOk s) : Ev (fun k => parseA k s) (apOf (zwc (bytesOf s))) := parseA_ev s h.1 ((clearB_iff _).1 h.2)
def zcb.f (a0 a1 : ByteArray) : Option (Int × Bool) := if AOk a0 ∧ AOk a1 then some (apC (apOf (zwc (bytesOf a0))) (apOf (zwc (bytesOf a1))), true) else none
theorem zcb.calls (a0 a1 : ByteArray) (r1 : Int) (r2 : Bool) (w : World) (h : zcb.f a0 a1 = some (r1, r2)) (hG : GL w) :
  Calls Tryz.prog 10 #[.string a0, .string a1] w fun e w' => e = .returned (.tuple #[.int .i64 r1, .bool r2]) ∧ Below w.heap.size w w' := by
 unfold zcb.f at h
 by_cases hc : AOk a0 ∧ AOk a1
 ·rw [if_pos hc] at h
  have h2 := Option.some.inj h
  injection h2 with e1 e2
  subst e1
  subst e2
  obtain ⟨k1, h1⟩ := hc.1.ev
  obtain ⟨k2, h2⟩ := hc.2.ev
  exact compareText_ w a0 a1 _ _ (max k1 k2) hG (h1 _ (Nat.le_max_left _ _)) (h2 _ (Nat.le_max_right _ _))
 ·rw [if_neg hc] at h
  cases h
end Go.Proofs.YtapaijpglfmfgaaGreatDoorG
end
section
namespace Go.Proofs.YtapaijpglfmfgaaGreatDoorW.PrintWords
open Go.RowKit
section
variable {P : Program} {d : Nat} {xs ys : Array Value} {f : Field} {fs : List Field} {a b : Value} {r s : Bool} {w : World}
theorem eqf_last (hn : (f.name == "_") = false) (ha : (part f.type xs f.offset).run P w = .ok a w) (hb : (part f.type ys f.offset).run P w = .ok b w) (he : (Op.equalIn d f.type a b).run P w = .ok r w) : (Op.eqFields d xs ys [f]).run P w = .ok r w := by
 have hn' : f.name ≠ "_" := by simpa using hn
 simp only [Op.eqFields, if_pos hn', Sem.run_bind, ha, hb, he, Result.andThen_ok]
 cases r <;> simp
theorem eqf_cons (hn : (f.name == "_") = false) (ha : (part f.type xs f.offset).run P w = .ok a w) (hb : (part f.type ys f.offset).run P w = .ok b w) (he : (Op.equalIn d f.type a b).run P w = .ok r w) (hr : (Op.eqFields d xs ys fs).run P w = .ok s w) : (Op.eqFields d xs ys (f :: fs)).run P w = .ok (r && s) w := by
 have hn' : f.name ≠ "_" := by simpa using hn
 rw [Op.eqFields]
 simp only [if_pos hn', Sem.run_bind, ha, hb, he, Result.andThen_ok]
 cases r
 ·simp
 ·simpa using hr
theorem eqA_of {t : TypeId} {fs : Array Field} (hu : P.underlying t = some (.struct fs)) (hp : P.stoodInHeld t = false) (h : (Op.eqFields d xs ys fs.toList).run P w = .ok r w) : (Op.equalIn (d + 1) t (.agg xs) (.agg ys)).run P w = .ok r w := by
 have hf : P.fieldsOf t = fs := by simp [Program.fieldsOf, hu]
 rw [run_equalIn_struct (P := P) w d t xs ys (by rw [hf]; exact hu) hp, hf]
 exact h
end
end Go.Proofs.YtapaijpglfmfgaaGreatDoorW.PrintWords
end
section
namespace Go.Proofs.YtapaijpglfmfgaaGreatDoor.Q
open Go.RowKit YtapaijpglfmfgaaGreatDoorH YtapaijpglfmfgaaGreatDoorG YtapaijpglfmfgaaGreatDoorW.PrintWords YtapaijpglfmfgaaGreatDoorW.PrintLast YtapaijpglfmfgaaGreatDoorW.PrintMore
attribute [local go_sem] zfd zjd ztd zud zsc ztc zgd zkd
theorem info5 : (Tryz.prog.info? 5).map (fun i => (i.zero, i.size, i.bytes)) = some (some (.int .u8 0), 1, 1) := by kernel_rfl
theorem info52 : (Tryz.prog.info? 52).map (fun i => (i.zero, i.size, i.bytes)) = some (some (.agg #[(.string ⟨#[]⟩), (.bool false), (.string ⟨#[]⟩), (.int .i64 0)]), 4, 48) := by kernel_rfl
theorem info56 : (Tryz.prog.info? 56).map (fun i => (i.zero, i.size, i.bytes)) = some (some (.agg #[(.int .i64 0), (.bool false), (.string ⟨#[]⟩)]), 3, 32) := by kernel_rfl
structure S85 where
 f0 : Bool
 f1 : ByteArray
def z85 : S85 := ⟨false, (⟨#[]⟩ : ByteArray)⟩
def k85 : Kd S85 := Kd.iso (Kd.pair Kd.bool Kd.string) (fun x : S85 => (x.f0, x.f1))
theorem k85_open {w : World} {x : S85} {cs : List Value} (h : k85.K w x cs) : cs = [.bool x.f0, .string x.f1] := by
 obtain ⟨_, _, rfl, rfl, rfl⟩ := h
 exact rfl
theorem k85_mkM (w : World) (base : Nat) (ok : Nat → Prop) (x : S85)  : k85.M w base ok x [.bool x.f0, .string x.f1] := ⟨[.bool x.f0], [.string x.f1], rfl, rfl, rfl⟩
structure S110 where
 f0 : ByteArray
 f1 : S85
 f2 : Int
def z110 : S110 := ⟨(⟨#[]⟩ : ByteArray), z85, (0 : Int)⟩
def k110 : Kd S110 := Kd.iso (Kd.pair Kd.string (Kd.pair k85 (Kd.int .i64))) (fun x : S110 => (x.f0, x.f1, x.f2))
theorem k110_open {w : World} {x : S110} {cs : List Value} (h : k110.K w x cs) : cs = [.string x.f0, .bool x.f1.f0, .string x.f1.f1, .int .i64 x.f2] := by
 obtain ⟨_, _, rfl, rfl, ⟨_, _, rfl, s1, rfl⟩⟩ := h
 obtain rfl := k85_open s1
 exact rfl
theorem k110_mkM (w : World) (base : Nat) (ok : Nat → Prop) (x : S110)  : k110.M w base ok x [.string x.f0, .bool x.f1.f0, .string x.f1.f1, .int .i64 x.f2] := ⟨[.string x.f0], [.bool x.f1.f0, .string x.f1.f1, .int .i64 x.f2], rfl, rfl, ⟨[.bool x.f1.f0, .string x.f1.f1], [.int .i64 x.f2], rfl, (k85_mkM w base ok x.f1 ), rfl⟩⟩
def zcd (xs : List S110) (i : Int) : S110 := xs.getD i.toNat z110
theorem at_T110 {w : World} {A : Option Addr} {n : Nat} {xs : List S110} (h : Kd.C k110 w A n xs) (i : Int) (h0 : 0 ≤ i) (h1 : i < n) : ∃ ad , A = some ad ∧ w.cell? (ad.add (i.toNat * 4)) = some (.string (zcd xs i).f0) ∧ w.cell? ⟨(ad.add (i.toNat * 4)).block, (ad.add (i.toNat * 4)).off + 1, none⟩ = some (.bool (zcd xs i).f1.f0) ∧ w.cell? ⟨(ad.add (i.toNat * 4)).block, (ad.add (i.toNat * 4)).off + 2, none⟩ = some (.string (zcd xs i).f1.f1) ∧ w.cell? ⟨(ad.add (i.toNat * 4)).block, (ad.add (i.toNat * 4)).off + 3, none⟩ = some (.int .i64 (zcd xs i).f2) := by
 obtain ⟨ad, c, e, _, hK, hc0⟩ := Kd.C_get h z110 i h0 h1
 have hc : ∀ j u, c[j]? = some u → w.cell? (ad.add (i.toNat * 4 + j)) = some u := hc0
 obtain rfl := k110_open hK
 exact ⟨ad, e, hc 0 _ rfl, by rw [← zue _ _ 1 (by omega)]; exact hc 1 _ rfl, by rw [← zue _ _ 2 (by omega)]; exact hc 2 _ rfl, by rw [← zue _ _ 3 (by omega)]; exact hc 3 _ rfl⟩
structure S112 where
 f0 : Int
 f1 : S85
def z112 : S112 := ⟨(0 : Int), z85⟩
def k112 : Kd S112 := Kd.iso (Kd.pair (Kd.int .i64) k85) (fun x : S112 => (x.f0, x.f1))
theorem k112_open {w : World} {x : S112} {cs : List Value} (h : k112.K w x cs) : cs = [.int .i64 x.f0, .bool x.f1.f0, .string x.f1.f1] := by
 obtain ⟨_, _, rfl, rfl, s1⟩ := h
 obtain rfl := k85_open s1
 exact rfl
theorem k112_mkM (w : World) (base : Nat) (ok : Nat → Prop) (x : S112)  : k112.M w base ok x [.int .i64 x.f0, .bool x.f1.f0, .string x.f1.f1] := ⟨[.int .i64 x.f0], [.bool x.f1.f0, .string x.f1.f1], rfl, rfl, (k85_mkM w base ok x.f1 )⟩
def zqd (xs : List S112) (i : Int) : S112 := xs.getD i.toNat z112
theorem at_T112 {w : World} {A : Option Addr} {n : Nat} {xs : List S112} (h : Kd.C k112 w A n xs) (i : Int) (h0 : 0 ≤ i) (h1 : i < n) : ∃ ad , A = some ad ∧ w.cell? (ad.add (i.toNat * 3)) = some (.int .i64 (zqd xs i).f0) ∧ w.cell? ⟨(ad.add (i.toNat * 3)).block, (ad.add (i.toNat * 3)).off + 1, none⟩ = some (.bool (zqd xs i).f1.f0) ∧ w.cell? ⟨(ad.add (i.toNat * 3)).block, (ad.add (i.toNat * 3)).off + 2, none⟩ = some (.string (zqd xs i).f1.f1) := by
 obtain ⟨ad, c, e, _, hK, hc0⟩ := Kd.C_get h z112 i h0 h1
 have hc : ∀ j u, c[j]? = some u → w.cell? (ad.add (i.toNat * 3 + j)) = some u := hc0
 obtain rfl := k112_open hK
 exact ⟨ad, e, hc 0 _ rfl, by rw [← zue _ _ 1 (by omega)]; exact hc 1 _ rfl, by rw [← zue _ _ 2 (by omega)]; exact hc 2 _ rfl⟩
structure S31 where
 f0 : Bool
 f1 : ByteArray
def z31 : S31 := ⟨false, (⟨#[]⟩ : ByteArray)⟩
def k31 : Kd S31 := Kd.iso (Kd.pair Kd.bool Kd.string) (fun x : S31 => (x.f0, x.f1))
theorem k31_open {w : World} {x : S31} {cs : List Value} (h : k31.K w x cs) : cs = [.bool x.f0, .string x.f1] := by
 obtain ⟨_, _, rfl, rfl, rfl⟩ := h
 exact rfl
theorem k31_mkM (w : World) (base : Nat) (ok : Nat → Prop) (x : S31)  : k31.M w base ok x [.bool x.f0, .string x.f1] := ⟨[.bool x.f0], [.string x.f1], rfl, rfl, rfl⟩
structure S52 where
 f0 : ByteArray
 f1 : S31
 f2 : Int
def z52 : S52 := ⟨(⟨#[]⟩ : ByteArray), z31, (0 : Int)⟩
def k52 : Kd S52 := Kd.iso (Kd.pair Kd.string (Kd.pair k31 (Kd.int .i64))) (fun x : S52 => (x.f0, x.f1, x.f2))
theorem k52_open {w : World} {x : S52} {cs : List Value} (h : k52.K w x cs) : cs = [.string x.f0, .bool x.f1.f0, .string x.f1.f1, .int .i64 x.f2] := by
 obtain ⟨_, _, rfl, rfl, ⟨_, _, rfl, s1, rfl⟩⟩ := h
 obtain rfl := k31_open s1
 exact rfl
theorem k52_mkM (w : World) (base : Nat) (ok : Nat → Prop) (x : S52)  : k52.M w base ok x [.string x.f0, .bool x.f1.f0, .string x.f1.f1, .int .i64 x.f2] := ⟨[.string x.f0], [.bool x.f1.f0, .string x.f1.f1, .int .i64 x.f2], rfl, rfl, ⟨[.bool x.f1.f0, .string x.f1.f1], [.int .i64 x.f2], rfl, (k31_mkM w base ok x.f1 ), rfl⟩⟩
def zwd (xs : List S52) (i : Int) : S52 := xs.getD i.toNat z52
theorem at_T52 {w : World} {A : Option Addr} {n : Nat} {xs : List S52} (h : Kd.C k52 w A n xs) (i : Int) (h0 : 0 ≤ i) (h1 : i < n) : ∃ ad , A = some ad ∧ w.cell? (ad.add (i.toNat * 4)) = some (.string (zwd xs i).f0) ∧ w.cell? ⟨(ad.add (i.toNat * 4)).block, (ad.add (i.toNat * 4)).off + 1, none⟩ = some (.bool (zwd xs i).f1.f0) ∧ w.cell? ⟨(ad.add (i.toNat * 4)).block, (ad.add (i.toNat * 4)).off + 2, none⟩ = some (.string (zwd xs i).f1.f1) ∧ w.cell? ⟨(ad.add (i.toNat * 4)).block, (ad.add (i.toNat * 4)).off + 3, none⟩ = some (.int .i64 (zwd xs i).f2) := by
 obtain ⟨ad, c, e, _, hK, hc0⟩ := Kd.C_get h z52 i h0 h1
 have hc : ∀ j u, c[j]? = some u → w.cell? (ad.add (i.toNat * 4 + j)) = some u := hc0
 obtain rfl := k52_open hK
 exact ⟨ad, e, hc 0 _ rfl, by rw [← zue _ _ 1 (by omega)]; exact hc 1 _ rfl, by rw [← zue _ _ 2 (by omega)]; exact hc 2 _ rfl, by rw [← zue _ _ 3 (by omega)]; exact hc 3 _ rfl⟩
structure S56 where
 f0 : Int
 f1 : S31
def z56 : S56 := ⟨(0 : Int), z31⟩
def k56 : Kd S56 := Kd.iso (Kd.pair (Kd.int .i64) k31) (fun x : S56 => (x.f0, x.f1))
theorem k56_open {w : World} {x : S56} {cs : List Value} (h : k56.K w x cs) : cs = [.int .i64 x.f0, .bool x.f1.f0, .string x.f1.f1] := by
 obtain ⟨_, _, rfl, rfl, s1⟩ := h
 obtain rfl := k31_open s1
 exact rfl
theorem k56_mkM (w : World) (base : Nat) (ok : Nat → Prop) (x : S56)  : k56.M w base ok x [.int .i64 x.f0, .bool x.f1.f0, .string x.f1.f1] := ⟨[.int .i64 x.f0], [.bool x.f1.f0, .string x.f1.f1], rfl, rfl, (k31_mkM w base ok x.f1 )⟩
def zhd (xs : List S56) (i : Int) : S56 := xs.getD i.toNat z56
theorem at_T56 {w : World} {A : Option Addr} {n : Nat} {xs : List S56} (h : Kd.C k56 w A n xs) (i : Int) (h0 : 0 ≤ i) (h1 : i < n) : ∃ ad , A = some ad ∧ w.cell? (ad.add (i.toNat * 3)) = some (.int .i64 (zhd xs i).f0) ∧ w.cell? ⟨(ad.add (i.toNat * 3)).block, (ad.add (i.toNat * 3)).off + 1, none⟩ = some (.bool (zhd xs i).f1.f0) ∧ w.cell? ⟨(ad.add (i.toNat * 3)).block, (ad.add (i.toNat * 3)).off + 2, none⟩ = some (.string (zhd xs i).f1.f1) := by
 obtain ⟨ad, c, e, _, hK, hc0⟩ := Kd.C_get h z56 i h0 h1
 have hc : ∀ j u, c[j]? = some u → w.cell? (ad.add (i.toNat * 3 + j)) = some u := hc0
 obtain rfl := k56_open hK
 exact ⟨ad, e, hc 0 _ rfl, by rw [← zue _ _ 1 (by omega)]; exact hc 1 _ rfl, by rw [← zue _ _ 2 (by omega)]; exact hc 2 _ rfl⟩
end Go.Proofs.YtapaijpglfmfgaaGreatDoor.Q
end
section
namespace Go.Proofs.YtapaijpglfmfgaaGreatDoorG
open Go.RowKit YtapaijpglfmfgaaGreatDoorH YtapaijpglfmfgaaGreatDoorB YtapaijpglfmfgaaGreatDoorM YtapaijpglfmfgaaGreatDoor.Q YtapaijpglfmfgaaGreatDoorW.PrintWords YtapaijpglfmfgaaGreatDoorW.PrintLast
theorem infoZN : (Tryz.prog.info? 110).map (fun i => (i.zero, i.size, i.bytes)) = some (some (.agg #[.string ⟨#[]⟩, .bool false, .string ⟨#[]⟩, .int .i64 0]), 4, 48) := by kernel_rfl
theorem infoZS : (Tryz.prog.info? 112).map (fun i => (i.zero, i.size, i.bytes)) = some (some (.agg #[.int .i64 0, .bool false, .string ⟨#[]⟩]), 3, 32) := by kernel_rfl
def tnN (x : Nm) (k : Nat) : S110 := ⟨x.o, ⟨false, magB x.n⟩, (k : Int)⟩
def numsT (l : List Nm) : List S110 := l.zipIdx.map fun p => tnN p.1 p.2
def tsS (x : Sx) : S112 := ⟨x.wt, ⟨false, magB x.n⟩⟩
def sufsT (l : List Sx) : List S112 := l.map tsS
theorem numsT_snoc (l : List Nm) (x : Nm) : numsT (l ++ [x]) = numsT l ++ [tnN x l.length] := by
 unfold numsT
 rw [Kd.zip_snoc]
 simp
theorem zbg (l : List Nm) : (numsT l).length = l.length := by simp [numsT]
theorem zqg {w : World} {g b : Nat} {o : Obj} (h : w.heap[g]? = some o) (hne : b ≠ g) (i : Nat) (v : Value) : (w.setCell ⟨b, i, none⟩ v).heap[g]? = some o := by
 rw [World.setCell, Array.getElem?_modify, if_neg hne]
 exact h
def butT (u : TypeId) (t : TypeId) : Bool := t != u
section
variable {w wr : World} {g1 g2 g3 : Nat} {o r l h : ByteArray} {i : Bool} {cv sv bv : Value} {v5 v6 : Value} {ys : List S110} {zs : List S112} {hb : Bool} {m : ByteArray}
structure TInv (w wr : World) (g1 g2 g3 : Nat) (o r l h : ByteArray) (i : Bool) (cv sv bv v5 v6 : Value) (ys : List S110) (zs : List S112) : Prop where
 b1 : wr.heap[g1]? = some (.cells #[.string o, .bool i, .string r, cv, .string l, sv, .string h, bv] 71 (0, 0))
 b2 : wr.heap[g2]? = some (.cells #[.string ⟨#[]⟩, .string ⟨#[]⟩, .string ⟨#[]⟩, .string ⟨#[]⟩, .bool false, .slice none 0 0, .slice none 0 0, .bool false, .bool false, .string ⟨#[]⟩] 87 (0, 0))
 b3 : wr.heap[g3]? = some (.cells #[.string o, .string r, .string l, .string h, .bool i, v5, v6, .bool false, .bool false, .string ⟨#[]⟩] 87 (0, 0))
 own5 : Kd.R k110 110 wr w.heap.size (fun _ => True) v5 ys
 own6 : Kd.R k112 112 wr w.heap.size (fun _ => True) v6 zs
 below : Below w.heap.size w wr
theorem TInv.to (H : TInv w wr g1 g2 g3 o r l h i cv sv bv v5 v6 ys zs) {w' : World} (k : Below wr.heap.size wr w') : TInv w w' g1 g2 g3 o r l h i cv sv bv v5 v6 ys zs :=
 ⟨zc H.b1 k, zc H.b2 k, zc H.b3 k, Kd.R_below H.own5 k, Kd.R_below H.own6 k, zfb H.below H.below.size k⟩
theorem TInv.step5 (H : TInv w wr g1 g2 g3 o r l h i cv sv bv v5 v6 ys zs) (hg3 : w.heap.size ≤ g3) (h13 : g1 ≠ g3) (h23 : g2 ≠ g3) {w7 : World} {v1 : Value} {ys' : List S110} (ho : Kd.R k110 110 w7 w.heap.size (fun _ => True) v1 ys') (hg : wr.grownBy w7 v5.ownBlock) :
  w7.heap[g3]? = some (.cells #[.string o, .string r, .string l, .string h, .bool i, v5, v6, .bool false, .bool false, .string ⟨#[]⟩] 87 (0, 0)) ∧ TInv w (w7.setCell ⟨g3, 5, none⟩ v1) g1 g2 g3 o r l h i cv sv bv v1 v6 ys' zs := by
 have K : KeptT (butT 110) wr w7 := KeptT.row (by decide) H.own5 hg
 have B3 := K.blk H.b3 (by decide)
 refine ⟨B3, ?_, ?_, zq B3 5 _ rfl, ?_, ?_, ?_⟩
 ·rw [World.setCell, Array.getElem?_modify, if_neg (fun e => h13 e.symm)]; exact K.blk H.b1 (by decide)
 ·rw [World.setCell, Array.getElem?_modify, if_neg (fun e => h23 e.symm)]; exact K.blk H.b2 (by decide)
 ·exact zrd (p := fun t => t != 87) rfl (by decide) ho (KeptT.set B3 (by decide) 5 _)
 ·exact zrd (p := fun t => t == 112) rfl (by decide) H.own6 ((K.sub fun t ht => by rw [of_decide_eq_true ht]; decide).trans (KeptT.set B3 (by decide) 5 _))
 ·exact (H.below.grown hg H.below.size (fun b e => Kd.R_base H.own5 b e)).setCell (p := ⟨g3, 5, none⟩) hg3 _
theorem TInv.step6 (H : TInv w wr g1 g2 g3 o r l h i cv sv bv v5 v6 ys zs) (hg3 : w.heap.size ≤ g3) (h13 : g1 ≠ g3) (h23 : g2 ≠ g3) {w7 : World} {v1 : Value} {zs' : List S112} (ho : Kd.R k112 112 w7 w.heap.size (fun _ => True) v1 zs') (hg : wr.grownBy w7 v6.ownBlock) :
  w7.heap[g3]? = some (.cells #[.string o, .string r, .string l, .string h, .bool i, v5, v6, .bool false, .bool false, .string ⟨#[]⟩] 87 (0, 0)) ∧ TInv w (w7.setCell ⟨g3, 6, none⟩ v1) g1 g2 g3 o r l h i cv sv bv v5 v1 ys zs' := by
 have K : KeptT (butT 112) wr w7 := KeptT.row (by decide) H.own6 hg
 have B3 := K.blk H.b3 (by decide)
 refine ⟨B3, ?_, ?_, zq B3 6 _ rfl, ?_, ?_, ?_⟩
 ·rw [World.setCell, Array.getElem?_modify, if_neg (fun e => h13 e.symm)]; exact K.blk H.b1 (by decide)
 ·rw [World.setCell, Array.getElem?_modify, if_neg (fun e => h23 e.symm)]; exact K.blk H.b2 (by decide)
 ·exact zrd (p := fun t => t == 110) rfl (by decide) H.own5 ((K.sub fun t ht => by rw [of_decide_eq_true ht]; decide).trans (KeptT.set B3 (by decide) 6 _))
 ·exact zrd (p := fun t => t != 87) rfl (by decide) ho (KeptT.set B3 (by decide) 6 _)
 ·exact (H.below.grown hg H.below.size (fun b e => Kd.R_base H.own6 b e)).setCell (p := ⟨g3, 6, none⟩) hg3 _
end
theorem told_ (w : World) (v : Value) (x : AV) (hv : AVAt w v x) :
  Calls Tryz.prog 37 #[v] w fun e w' => ∃ v5 v6, e = .returned (.agg #[.string x.o, .string x.r, .string x.l, .string x.h, .bool x.i, v5, v6, .bool true, .bool false, .string (magB x.b)]) ∧
   Kd.R k110 110 w' w.heap.size (fun _ => True) v5 (numsT x.c) ∧ Kd.R k112 112 w' w.heap.size (fun _ => True) v6 (sufsT x.s) ∧ Below w.heap.size w w' := by
 obtain ⟨o, i, r, xc, l, xs, h, n⟩ := x
 obtain ⟨cv, sv, a, rfl, hc, hs, hn⟩ := hv
 unfold AVv
 simp only at hc hs hn ⊢
 have KC := za.mk hc
 have KS := za.mk hs
 have HP := za.mk (fun (W : World) (y : Nat) (q : Nat) (hb : BigAt W y q) => zzPlain_ W y q hb)
 have HN := za.mk hn
 have LC : za (xc.length ≤ 1000000) := ⟨by obtain ⟨_, _, _, hl, _⟩ := hc; exact hl⟩
 have LS : za (xs.length ≤ 1000000) := ⟨by obtain ⟨_, _, _, hl, _⟩ := hs; exact hl⟩
 obtain ⟨pc, cc, rfl⟩ := hc.len
 obtain ⟨ps, cs, rfl⟩ := hs.len
 clear hc hs hn
 obtain ⟨W0, hW0⟩ : ∃ W0, W0 = (((w.alloc (.cells #[.string o, .bool i, .string r, .slice pc xc.length cc, .string l, .slice ps xs.length cs, .string h, .pointer (some ⟨a, 0, none⟩)] 71)).alloc (.cells #[.string ⟨#[]⟩, .string ⟨#[]⟩, .string ⟨#[]⟩, .string ⟨#[]⟩, .bool false, .slice none 0 0, .slice none 0 0, .bool false, .bool false, .string ⟨#[]⟩] 87)).alloc (.cells #[.string o, .string r, .string l, .string h, .bool i, .slice none 0 0, .slice none 0 0, .bool false, .bool false, .string ⟨#[]⟩] 87)) := ⟨_, rfl⟩
 have I0 : za (TInv w W0 w.heap.size (w.heap.size + 1) (w.heap.size + 1 + 1) o r l h i (.slice pc xc.length cc) (.slice ps xs.length cs) (.pointer (some ⟨a, 0, none⟩)) (.slice none 0 0) (.slice none 0 0) [] []) := ⟨by
  rw [hW0]
  refine ⟨zvb (zvb (zvc w _) _) _, ?_, ?_, Kd.R_nil _ _ _ _ _, Kd.R_nil _ _ _ _ _, zj (zj (zj (Below.refl _ _) _) _) _⟩
  ·have h := zvb (zvc (w.alloc (.cells #[.string o, .bool i, .string r, .slice pc xc.length cc, .string l, .slice ps xs.length cs, .string h, .pointer (some ⟨a, 0, none⟩)] 71)) (.cells #[.string ⟨#[]⟩, .string ⟨#[]⟩, .string ⟨#[]⟩, .string ⟨#[]⟩, .bool false, .slice none 0 0, .slice none 0 0, .bool false, .bool false, .string ⟨#[]⟩] 87)) (.cells #[.string o, .string r, .string l, .string h, .bool i, .slice none 0 0, .slice none 0 0, .bool false, .bool false, .string ⟨#[]⟩] 87)
   rw [zsb] at h
   exact h
  ·have h := zvc ((w.alloc (.cells #[.string o, .bool i, .string r, .slice pc xc.length cc, .string l, .slice ps xs.length cs, .string h, .pointer (some ⟨a, 0, none⟩)] 71)).alloc (.cells #[.string ⟨#[]⟩, .string ⟨#[]⟩, .string ⟨#[]⟩, .string ⟨#[]⟩, .bool false, .slice none 0 0, .slice none 0 0, .bool false, .bool false, .string ⟨#[]⟩] 87)) (.cells #[.string o, .string r, .string l, .string h, .bool i, .slice none 0 0, .slice none 0 0, .bool false, .bool false, .string ⟨#[]⟩] 87)
   rw [zsb, zsb] at h
   exact h⟩
 have HW0 := za.mk hW0
 have y3 := (zb I0.out.b1 3).trans rfl
 rw [hW0] at y3
 clear hW0
 go_enter Tryz.func37, Tryz.ntmps37
 go_wp2
 try rw [← HW0.out]
 go_loopw [22] (fun iv wr => ∃ (k : Nat) (v5 : Value), k ≤ xc.length ∧ iv = .int .i64 (k : Int) ∧ za (TInv w wr w.heap.size (w.heap.size + 1) (w.heap.size + 1 + 1) o r l h i (.slice pc xc.length cc) (.slice ps xs.length cs) (.pointer (some ⟨a, 0, none⟩)) v5 (.slice none 0 0) (numsT (xc.take k)) [])) (fun iv _ => xc.length - (intOf iv).toNat)
 case atStart => exact ⟨0, _, Nat.zero_le _, rfl, I0⟩
 case round =>
  obtain ⟨k, v5, hk, rfl, HI⟩ := hrel
  clear I0
  by_cases hlt : k < xc.length
  ·have i3 : decide ((k : Int) < (xc.length : Int)) = true := decide_eq_true (by omega)
   have i4 : ((k : Int) < (xc.length : Int)) = True := eq_true (by omega)
   have i5 : (0 ≤ (k : Int)) = True := eq_true (by omega)
   have WR : wrap64 ((k : Int) + 1) = ((k + 1 : Nat) : Int) := by have := LC.out; unfold wrap64; omega
   have LT := za.mk hlt
   obtain ⟨x, hx⟩ : ∃ x, x = xc[k] := ⟨_, rfl⟩
   have hx2 : xc[k]? = some x := by rw [hx, List.getElem?_eq_getElem hlt]
   obtain ⟨pc2, cc2, hpe, _, hrows⟩ := KC.out.below HI.out.below
   injection hpe with hp1 _ hp3
   subst hp1
   subst hp3
   obtain ⟨b, rfl, k1, k2, k3, k4, k5⟩ := hrows k x hx2
   have SN : za (numsT (xc.take (k + 1)) = numsT (xc.take k) ++ [tnN x k]) := ⟨by
    rw [List.take_add_one, hx2]
    show numsT (xc.take k ++ [x]) = _
    rw [numsT_snoc, List.length_take, Nat.min_eq_left (Nat.le_of_lt hlt)]⟩
   have K4 := za.mk k4
   have HLY : za ((numsT (xc.take k)).length ≤ 1000000) := ⟨by rw [zbg, List.length_take]; have := LC.out; omega⟩
   clear hlt hk hx hx2 hrows k4 k5
   go_upto_region 5 with (fail)
   have M3 := za.mk (HI.out.to (zj (Below.refl _ _) (.cells #[.string x.o, .pointer (some ⟨x.a, 0, none⟩), .int .i64 (k : Int)] 114)))
   have Y3 := za.mk (zvc wr (.cells #[.string x.o, .pointer (some ⟨x.a, 0, none⟩), .int .i64 (k : Int)] 114))
   have K3 := za.mk (K4.out.below (zj (Below.refl _ _) (.cells #[.string x.o, .pointer (some ⟨x.a, 0, none⟩), .int .i64 (k : Int)] 114)))
   clear HI K4
   generalize wr.alloc (.cells #[.string x.o, .pointer (some ⟨x.a, 0, none⟩), .int .i64 (k : Int)] 114) = w3 at M3 Y3 K3 ⊢
   generalize wr.heap.size = g5 at Y3 ⊢
   refine zuf (n := 14) (S := fun w' => w'.cell? ⟨w.heap.size + 1 + 1, 5, none⟩ = some v5 ∧ w'.cell? ⟨g5, 0, none⟩ = some (.string x.o) ∧ w'.cell? ⟨g5, 1, none⟩ = some (.pointer (some ⟨x.a, 0, none⟩)) ∧ w'.cell? ⟨g5, 2, none⟩ = some (.int .i64 (k : Int))) (ds := [11, 13]) #[false, false, false, false, false, false, false, false, false, false, false, false, false, false] (by kernel_rfl) rfl rfl ⟨(zb (zub M3.out.b3) 5).trans rfl, (zb (zub Y3.out) 0).trans rfl, (zb (zub Y3.out) 1).trans rfl, (zb (zub Y3.out) 2).trans rfl⟩ (fun hHeld => ?_)
   have M4 := za.mk (M3.out.to (zed (Below.refl _ _)))
   have Y4 := za.mk (zub Y3.out)
   have K5 := za.mk (K3.out.below (zed (Below.refl _ _)))
   clear M3 Y3 K3
   generalize w3.drew = w4 at M4 Y4 K5 hHeld ⊢
   refine pure_ (i := 0) (N := some 26) #[true, false, false, false, false, false, false, false, false, false, false, false, false, false] rfl rfl (by kernel_rfl) (fun _ _ _ h => h) (Or.inl ⟨by rfl, fun w' => by go_simp; with_reducible rfl⟩) (by simp only [Act.put, List.setIfInBounds_toArray, List.set_cons_zero, List.set_cons_succ, i64_w, i32_w]; rfl) ?_
   refine pure_ (i := 2) (N := some 28) #[true, false, true, false, false, false, false, false, false, false, false, false, false, false] rfl rfl (by kernel_rfl) (fun _ _ _ h => h) (Or.inl ⟨by rfl, fun w' => by go_simp; with_reducible rfl⟩) (by simp only [Act.put, List.setIfInBounds_toArray, List.set_cons_zero, List.set_cons_succ, i64_w, i32_w]; rfl) ?_
   refine pure_ (i := 4) (N := some 30) #[true, false, true, false, true, false, false, false, false, false, false, false, false, false] rfl rfl (by kernel_rfl) (fun _ _ _ h => h) (Or.inl ⟨by rfl, fun w' => by go_simp; with_reducible rfl⟩) (by simp only [Act.put, List.setIfInBounds_toArray, List.set_cons_zero, List.set_cons_succ, i64_w, i32_w]; rfl) ?_
   refine pure_ (i := 7) (N := some 33) #[true, false, true, false, true, false, false, true, false, false, false, false, false, false] rfl rfl (by kernel_rfl) (fun _ _ _ h => h) (Or.inl ⟨by rfl, fun w' => by go_simp; with_reducible rfl⟩) (by simp only [Act.put, List.setIfInBounds_toArray, List.set_cons_zero, List.set_cons_succ, i64_w, i32_w]; rfl) ?_
   refine take_ (i := 1) (N := some 27) #[true, true, true, false, true, false, false, true, false, false, false, false, false, false] rfl rfl (by kernel_rfl) (fun _ _ _ h => h) (Or.inl ⟨by rfl, by rintro w' ⟨s0, s1, s2, s3⟩; go_simp; with_reducible rfl⟩) hHeld (by simp only [Act.put, List.setIfInBounds_toArray, List.set_cons_zero, List.set_cons_succ, i64_w, i32_w]; rfl) ?_
   refine take_ (i := 3) (N := some 29) #[true, true, true, true, true, false, false, true, false, false, false, false, false, false] rfl rfl (by kernel_rfl) (fun _ _ _ h => h) (Or.inl ⟨by rfl, by rintro w' ⟨s0, s1, s2, s3⟩; go_simp; with_reducible rfl⟩) hHeld (by simp only [Act.put, List.setIfInBounds_toArray, List.set_cons_zero, List.set_cons_succ, i64_w, i32_w]; rfl) ?_
   refine take_ (i := 5) (N := some 31) #[true, true, true, true, true, true, false, true, false, false, false, false, false, false] rfl rfl (by kernel_rfl) (fun _ _ _ h => h) (Or.inl ⟨by rfl, by rintro w' ⟨s0, s1, s2, s3⟩; go_simp; with_reducible rfl⟩) hHeld (by simp only [Act.put, List.setIfInBounds_toArray, List.set_cons_zero, List.set_cons_succ, i64_w, i32_w]; rfl) ?_
   refine take_ (i := 8) (N := some 34) #[true, true, true, true, true, true, false, true, true, false, false, false, false, false] rfl rfl (by kernel_rfl) (fun _ _ _ h => h) (Or.inl ⟨by rfl, by rintro w' ⟨s0, s1, s2, s3⟩; go_simp; with_reducible rfl⟩) hHeld (by simp only [Act.put, List.setIfInBounds_toArray, List.set_cons_zero, List.set_cons_succ, i64_w, i32_w]; rfl) ?_
   refine one_ (i := 6) (N := some 32) #[true, true, true, true, true, true, true, true, true, false, false, false, false, false] rfl rfl (by kernel_rfl) (by decide) (fun K hK => ?_)
   refine goes_ Tryz.func57 (by kernel_rfl) rfl #[.pointer (some ⟨x.a, 0, none⟩)] (by rfl) rfl rfl (by simp only [List.map_toArray, List.map_cons, List.map_nil]; rfl) ?_
   with_reducible refine (HP.out _ x.a x.n K5.out).mono ?_
   rintro e w5 ⟨rfl, hb⟩
   refine ⟨_, rfl, ?_⟩
   have M5 := za.mk (M4.out.to hb)
   have Y5 := za.mk (zc Y4.out hb)
   clear hb M4 Y4 K5
   refine hK.out _ _ ⟨(zb M5.out.b3 5).trans rfl, (zb Y5.out 0).trans rfl, (zb Y5.out 1).trans rfl, (zb Y5.out 2).trans rfl⟩ (fun hHeld => ?_)
   clear hK K
   refine Go.Proofs.YtapaijpglfmfgaaGreatDoorW.PrintLast.norm_ (by show Act.put _ (some 32) _ = _; simp only [Act.put, List.setIfInBounds_toArray, List.set_cons_zero, List.set_cons_succ, i64_w, i32_w]; rfl) ?_
   refine pure_ (i := 9) (N := some 35) #[true, true, true, true, true, true, true, true, true, true, false, false, false, false] rfl rfl (by kernel_rfl) (fun _ _ _ h => h) (Or.inl ⟨by rfl, fun w' => by go_simp; with_reducible rfl⟩) (by simp only [Act.put, List.setIfInBounds_toArray, List.set_cons_zero, List.set_cons_succ, i64_w, i32_w]; rfl) ?_
   refine one_ (i := 10) (N := some 36) #[true, true, true, true, true, true, true, true, true, true, true, false, false, false] rfl rfl (by kernel_rfl) (by decide) (fun K hK => ?_)
   refine zoh (w1 := ?_) (v := ?_) (by rfl) rfl ?_ ?_
   rotate_left 2
   ·go_simp
    constructor
    ·rfl
    ·rfl
   refine hK.out _ _ ⟨(zb (zvb M5.out.b3 _) 5).trans rfl, (zb (zvb Y5.out _) 0).trans rfl, (zb (zvb Y5.out _) 1).trans rfl, (zb (zvb Y5.out _) 2).trans rfl⟩ (fun hHeld => ?_)
   clear hK K
   refine Go.Proofs.YtapaijpglfmfgaaGreatDoorW.PrintLast.norm_ (by show Act.put _ (some 36) _ = _; simp only [Act.put, List.setIfInBounds_toArray, List.set_cons_zero, List.set_cons_succ, i64_w, i32_w]; rfl) ?_
   refine last_ (i := 11) (N := some 37) #[true, true, true, true, true, true, true, true, true, true, true, true, false, false] rfl rfl (by kernel_rfl) (by decide) (fun K hK => ?_)
   refine Kd.R_append_step k110 (w0 := w5) w.heap.size (by rfl) (.tmp 27) (.tmp 36) 83 110 (.agg #[.string ⟨#[]⟩, .bool false, .string ⟨#[]⟩, .int .i64 0]) 48 rfl Tryz.underlying83 infoZN rfl (by decide) (by omega) v5 (numsT (xc.take k)) (tnN x k) [.string x.o, .bool false, .string (magB x.n), .int .i64 (k : Int)] (fun _ => True) (fun _ => False) rfl rfl ?aP (fun _ hk => hk.elim) (fun _ _ => trivial) M5.out.own5 (Below.refl _ _) M5.out.below.size ?aL ?_
   (case aP => exact k110_mkM _ _ _ (tnN x k))
   (case aL => have := HLY.out; omega)
   intro v1 w7 ho hb hg hat
   obtain ⟨A1, n1, cp1, rfl⟩ : ∃ A n c, v1 = .slice A n c := by
    obtain ⟨A, c, e⟩ := Kd.R_slice ho
    exact ⟨A, _, c, e⟩
   obtain ⟨b7, i7⟩ := M5.out.step5 (by omega) (by omega) (by omega) ho hg
   have x7 := (zb b7 5).trans rfl
   have f7 := zz b7 5
   have I7 := za.mk i7
   clear ho hb hg hat b7 i7
   refine hK.out _ _ ?_
   clear hK K
   refine Go.Proofs.YtapaijpglfmfgaaGreatDoorW.PrintLast.norm_ (by show Act.put _ (some 37) _ = _; simp only [Act.put, List.setIfInBounds_toArray, List.set_cons_zero, List.set_cons_succ, i64_w, i32_w]; rfl) ?_
   refine pure_ (i := 12) (N := some 38) #[true, true, true, true, true, true, true, true, true, true, true, true, true, false] rfl rfl (by kernel_rfl) (fun _ _ _ h => h) (Or.inl ⟨by rfl, fun w' => by go_simp; with_reducible rfl⟩) (by simp only [Act.put, List.setIfInBounds_toArray, List.set_cons_zero, List.set_cons_succ, i64_w, i32_w]; rfl) ?_
   refine last_ (i := 13) (N := none) #[true, true, true, true, true, true, true, true, true, true, true, true, true, true] rfl rfl (by kernel_rfl) (by decide) (fun K hK => ?_)
   refine skip_ (w1 := ?_) (by rfl) rfl ?_ ?_
   rotate_left
   ·go_simp
    rfl
   refine hK.out _ _ ?_
   clear hK K
   refine done_ (by kernel_rfl) ?_
   go_wp2
   go_roundw
   all_goals first | exact ⟨k + 1, .slice A1 n1 cp1, LT.out, by first | rfl | go_num, ⟨by rw [SN.out]; exact I7.out⟩⟩ | exact zge _ k LT.out | exact meas_up1 _ k LT.out | exact zre _ k LT.out WR
  ·obtain rfl : k = xc.length := by omega
   have i3 : decide ((xc.length : Int) < (xc.length : Int)) = false := decide_eq_false (by omega)
   have i4 : ((xc.length : Int) < (xc.length : Int)) = False := eq_false (by omega)
   have hi2 := HI.out
   rw [List.take_length] at hi2
   have H2 := za.mk hi2
   have y5 := (zb hi2.b1 5).trans rfl
   clear hlt hk HI hi2
   go_wp2
   go_loopw [43] (fun iv wr => ∃ (k : Nat) (v6 : Value), k ≤ xs.length ∧ iv = .int .i64 (k : Int) ∧ za (TInv w wr w.heap.size (w.heap.size + 1) (w.heap.size + 1 + 1) o r l h i (.slice pc xc.length cc) (.slice ps xs.length cs) (.pointer (some ⟨a, 0, none⟩)) v5 v6 (numsT xc) (sufsT (xs.take k)))) (fun iv _ => xs.length - (intOf iv).toNat)
   case atStart => exact ⟨0, _, Nat.zero_le _, rfl, H2⟩
   case round =>
    obtain ⟨k, v6, hk, rfl, HI⟩ := hrel
    clear H2
    by_cases hlt : k < xs.length
    ·have i3 : decide ((k : Int) < (xs.length : Int)) = true := decide_eq_true (by omega)
     have i4 : ((k : Int) < (xs.length : Int)) = True := eq_true (by omega)
     have i5 : (0 ≤ (k : Int)) = True := eq_true (by omega)
     have WR : wrap64 ((k : Int) + 1) = ((k + 1 : Nat) : Int) := by have := LS.out; unfold wrap64; omega
     have LT := za.mk hlt
     obtain ⟨x, hx⟩ : ∃ x, x = xs[k] := ⟨_, rfl⟩
     have hx2 : xs[k]? = some x := by rw [hx, List.getElem?_eq_getElem hlt]
     obtain ⟨pc2, cc2, hpe, _, hrows⟩ := KS.out.below HI.out.below
     injection hpe with hp1 _ hp3
     subst hp1
     subst hp3
     obtain ⟨b, rfl, k1, k2, k4⟩ := hrows k x hx2
     have SN : za (sufsT (xs.take (k + 1)) = sufsT (xs.take k) ++ [tsS x]) := ⟨by
      rw [List.take_add_one, hx2]
      show sufsT (xs.take k ++ [x]) = _
      simp [sufsT]⟩
     have K4 := za.mk k4
     have HLY : za ((sufsT (xs.take k)).length ≤ 1000000) := ⟨by unfold sufsT; rw [List.length_map, List.length_take]; have := LS.out; omega⟩
     clear hlt hk hx hx2 hrows k4
     go_upto_region 10 with (fail)
     have M3 := za.mk (HI.out.to (zj (Below.refl _ _) (.cells #[.int .i64 x.wt, .pointer (some ⟨x.a, 0, none⟩)] 117)))
     have Y3 := za.mk (zvc wr (.cells #[.int .i64 x.wt, .pointer (some ⟨x.a, 0, none⟩)] 117))
     have K3 := za.mk (K4.out.below (zj (Below.refl _ _) (.cells #[.int .i64 x.wt, .pointer (some ⟨x.a, 0, none⟩)] 117)))
     clear HI K4
     generalize wr.alloc (.cells #[.int .i64 x.wt, .pointer (some ⟨x.a, 0, none⟩)] 117) = w3 at M3 Y3 K3 ⊢
     generalize wr.heap.size = g5 at Y3 ⊢
     refine zuf (n := 12) (S := fun w' => w'.cell? ⟨w.heap.size + 1 + 1, 6, none⟩ = some v6 ∧ w'.cell? ⟨g5, 0, none⟩ = some (.int .i64 x.wt) ∧ w'.cell? ⟨g5, 1, none⟩ = some (.pointer (some ⟨x.a, 0, none⟩))) (ds := [9, 11]) #[false, false, false, false, false, false, false, false, false, false, false, false] (by kernel_rfl) rfl rfl ⟨(zb (zub M3.out.b3) 6).trans rfl, (zb (zub Y3.out) 0).trans rfl, (zb (zub Y3.out) 1).trans rfl⟩ (fun hHeld => ?_)
     have M4 := za.mk (M3.out.to (zed (Below.refl _ _)))
     have Y4 := za.mk (zub Y3.out)
     have K5 := za.mk (K3.out.below (zed (Below.refl _ _)))
     clear M3 Y3 K3
     generalize w3.drew = w4 at M4 Y4 K5 hHeld ⊢
     refine pure_ (i := 0) (N := some 47) #[true, false, false, false, false, false, false, false, false, false, false, false] rfl rfl (by kernel_rfl) (fun _ _ _ h => h) (Or.inl ⟨by rfl, fun w' => by go_simp; with_reducible rfl⟩) (by simp only [Act.put, List.setIfInBounds_toArray, List.set_cons_zero, List.set_cons_succ, i64_w, i32_w]; rfl) ?_
     refine pure_ (i := 2) (N := some 49) #[true, false, true, false, false, false, false, false, false, false, false, false] rfl rfl (by kernel_rfl) (fun _ _ _ h => h) (Or.inl ⟨by rfl, fun w' => by go_simp; with_reducible rfl⟩) (by simp only [Act.put, List.setIfInBounds_toArray, List.set_cons_zero, List.set_cons_succ, i64_w, i32_w]; rfl) ?_
     refine pure_ (i := 4) (N := some 51) #[true, false, true, false, true, false, false, false, false, false, false, false] rfl rfl (by kernel_rfl) (fun _ _ _ h => h) (Or.inl ⟨by rfl, fun w' => by go_simp; with_reducible rfl⟩) (by simp only [Act.put, List.setIfInBounds_toArray, List.set_cons_zero, List.set_cons_succ, i64_w, i32_w]; rfl) ?_
     refine take_ (i := 1) (N := some 48) #[true, true, true, false, true, false, false, false, false, false, false, false] rfl rfl (by kernel_rfl) (fun _ _ _ h => h) (Or.inl ⟨by rfl, by rintro w' ⟨s0, s1, s2⟩; go_simp; with_reducible rfl⟩) hHeld (by simp only [Act.put, List.setIfInBounds_toArray, List.set_cons_zero, List.set_cons_succ, i64_w, i32_w]; rfl) ?_
     refine take_ (i := 3) (N := some 50) #[true, true, true, true, true, false, false, false, false, false, false, false] rfl rfl (by kernel_rfl) (fun _ _ _ h => h) (Or.inl ⟨by rfl, by rintro w' ⟨s0, s1, s2⟩; go_simp; with_reducible rfl⟩) hHeld (by simp only [Act.put, List.setIfInBounds_toArray, List.set_cons_zero, List.set_cons_succ, i64_w, i32_w]; rfl) ?_
     refine take_ (i := 5) (N := some 52) #[true, true, true, true, true, true, false, false, false, false, false, false] rfl rfl (by kernel_rfl) (fun _ _ _ h => h) (Or.inl ⟨by rfl, by rintro w' ⟨s0, s1, s2⟩; go_simp; with_reducible rfl⟩) hHeld (by simp only [Act.put, List.setIfInBounds_toArray, List.set_cons_zero, List.set_cons_succ, i64_w, i32_w]; rfl) ?_
     refine one_ (i := 6) (N := some 53) #[true, true, true, true, true, true, true, false, false, false, false, false] rfl rfl (by kernel_rfl) (by decide) (fun K hK => ?_)
     refine goes_ Tryz.func57 (by kernel_rfl) rfl #[.pointer (some ⟨x.a, 0, none⟩)] (by rfl) rfl rfl (by simp only [List.map_toArray, List.map_cons, List.map_nil]; rfl) ?_
     with_reducible refine (HP.out _ x.a x.n K5.out).mono ?_
     rintro e w5 ⟨rfl, hb⟩
     refine ⟨_, rfl, ?_⟩
     have M5 := za.mk (M4.out.to hb)
     have Y5 := za.mk (zc Y4.out hb)
     clear hb M4 Y4 K5
     refine hK.out _ _ ⟨(zb M5.out.b3 6).trans rfl, (zb Y5.out 0).trans rfl, (zb Y5.out 1).trans rfl⟩ (fun hHeld => ?_)
     clear hK K
     refine Go.Proofs.YtapaijpglfmfgaaGreatDoorW.PrintLast.norm_ (by show Act.put _ (some 53) _ = _; simp only [Act.put, List.setIfInBounds_toArray, List.set_cons_zero, List.set_cons_succ, i64_w, i32_w]; rfl) ?_
     refine pure_ (i := 7) (N := some 54) #[true, true, true, true, true, true, true, true, false, false, false, false] rfl rfl (by kernel_rfl) (fun _ _ _ h => h) (Or.inl ⟨by rfl, fun w' => by go_simp; with_reducible rfl⟩) (by simp only [Act.put, List.setIfInBounds_toArray, List.set_cons_zero, List.set_cons_succ, i64_w, i32_w]; rfl) ?_
     refine one_ (i := 8) (N := some 55) #[true, true, true, true, true, true, true, true, true, false, false, false] rfl rfl (by kernel_rfl) (by decide) (fun K hK => ?_)
     refine zoh (w1 := ?_) (v := ?_) (by rfl) rfl ?_ ?_
     rotate_left 2
     ·go_simp
      constructor
      ·rfl
      ·rfl
     refine hK.out _ _ ⟨(zb (zvb M5.out.b3 _) 6).trans rfl, (zb (zvb Y5.out _) 0).trans rfl, (zb (zvb Y5.out _) 1).trans rfl⟩ (fun hHeld => ?_)
     clear hK K
     refine Go.Proofs.YtapaijpglfmfgaaGreatDoorW.PrintLast.norm_ (by show Act.put _ (some 55) _ = _; simp only [Act.put, List.setIfInBounds_toArray, List.set_cons_zero, List.set_cons_succ, i64_w, i32_w]; rfl) ?_
     refine last_ (i := 9) (N := some 56) #[true, true, true, true, true, true, true, true, true, true, false, false] rfl rfl (by kernel_rfl) (by decide) (fun K hK => ?_)
     refine Kd.R_append_step k112 (w0 := w5) w.heap.size (by rfl) (.tmp 48) (.tmp 55) 84 112 (.agg #[.int .i64 0, .bool false, .string ⟨#[]⟩]) 32 rfl Tryz.underlying84 infoZS rfl (by decide) (by omega) v6 (sufsT (xs.take k)) (tsS x) [.int .i64 x.wt, .bool false, .string (magB x.n)] (fun _ => True) (fun _ => False) rfl rfl ?aP (fun _ hk => hk.elim) (fun _ _ => trivial) M5.out.own6 (Below.refl _ _) M5.out.below.size ?aL ?_
     (case aP => exact k112_mkM _ _ _ (tsS x))
     (case aL => have := HLY.out; omega)
     intro v1 w7 ho hb hg hat
     obtain ⟨A1, n1, cp1, rfl⟩ : ∃ A n c, v1 = .slice A n c := by
      obtain ⟨A, c, e⟩ := Kd.R_slice ho
      exact ⟨A, _, c, e⟩
     obtain ⟨b7, i7⟩ := M5.out.step6 (by omega) (by omega) (by omega) ho hg
     have x7 := (zb b7 6).trans rfl
     have f7 := zz b7 6
     have I7 := za.mk i7
     clear ho hb hg hat b7 i7
     refine hK.out _ _ ?_
     clear hK K
     refine Go.Proofs.YtapaijpglfmfgaaGreatDoorW.PrintLast.norm_ (by show Act.put _ (some 56) _ = _; simp only [Act.put, List.setIfInBounds_toArray, List.set_cons_zero, List.set_cons_succ, i64_w, i32_w]; rfl) ?_
     refine pure_ (i := 10) (N := some 57) #[true, true, true, true, true, true, true, true, true, true, true, false] rfl rfl (by kernel_rfl) (fun _ _ _ h => h) (Or.inl ⟨by rfl, fun w' => by go_simp; with_reducible rfl⟩) (by simp only [Act.put, List.setIfInBounds_toArray, List.set_cons_zero, List.set_cons_succ, i64_w, i32_w]; rfl) ?_
     refine last_ (i := 11) (N := none) #[true, true, true, true, true, true, true, true, true, true, true, true] rfl rfl (by kernel_rfl) (by decide) (fun K hK => ?_)
     refine skip_ (w1 := ?_) (by rfl) rfl ?_ ?_
     rotate_left
     ·go_simp
      rfl
     refine hK.out _ _ ?_
     clear hK K
     refine done_ (by kernel_rfl) ?_
     go_wp2
     go_roundw
     all_goals first | exact ⟨k + 1, .slice A1 n1 cp1, LT.out, by first | rfl | go_num, ⟨by rw [SN.out]; exact I7.out⟩⟩ | exact zge _ k LT.out | exact meas_up1 _ k LT.out | exact zre _ k LT.out WR
    ·obtain rfl : k = xs.length := by omega
     have i3 : decide ((xs.length : Int) < (xs.length : Int)) = false := decide_eq_false (by omega)
     have i4 : ((xs.length : Int) < (xs.length : Int)) = False := eq_false (by omega)
     have hi2 := HI.out
     rw [List.take_length] at hi2
     obtain ⟨A5, c5, e5⟩ := Kd.R_slice hi2.own5
     subst e5
     obtain ⟨A6, c6, e6⟩ := Kd.R_slice hi2.own6
     subst e6
     have H2 := za.mk hi2
     have y7 := (zb hi2.b1 7).trans rfl
     have pn := zcj a
     have HNW := za.mk (HN.out.below hi2.below)
     clear hlt hk HI hi2
     go_wp2_with (first | (go_at_call 57; (with_reducible refine (HP.out _ a n HNW.out).mono ?_); rintro e' w5 ⟨rfl, hb⟩; have H5 := za.mk (H2.out.to hb); have f7 := zz H5.out.b3 7; have f8 := zz H5.out.b3 8; have f9 := zz H5.out.b3 9; have x7 := (zb H5.out.b3 7).trans rfl; have x8 := (zb H5.out.b3 8).trans rfl; have x9 := (zb H5.out.b3 9).trans rfl; have gF := za.mk (zq (cs' := #[.string o, .string r, .string l, .string h, .bool i, .slice A5 (numsT xc).length c5, .slice A6 (sufsT xs).length c6, .bool true, .bool false, .string (magB n)]) (zq (zq H5.out.b3 7 (.bool true) rfl) 8 (.bool false) rfl) 9 (.string (magB n)) rfl); have xF := fun j : Nat => zb gF.out j; have gG := za.mk (zqg (zqg (zqg H5.out.b2 (b := w.heap.size + 1 + 1) (by omega) 7 (.bool true)) (b := w.heap.size + 1 + 1) (by omega) 8 (.bool false)) (b := w.heap.size + 1 + 1) (by omega) 9 (.string (magB n))); have zF := fun j : Nat => zb gG.out j; have zf := fun j : Nat => zz gG.out j; clear hb))
     (try simp only [Exit.inBlock, Exit.then])
     have hk : ∀ (W : World), (∀ b, b ≠ w.heap.size + 1 + 1 → b ≠ w.heap.size + 1 → W.heap[b]? = w5.heap[b]?) → KeptT (butT 87) w5 W := fun W h b cs t fr hb ht => by
      refine h b (fun e => ?_) (fun e => ?_)
      ·subst e; rw [H5.out.b3] at hb; cases hb; exact absurd ht (by decide)
      ·subst e; rw [H5.out.b2] at hb; cases hb; exact absurd ht (by decide)
     have p0 := zq (cs' := #[.string o, .string ⟨#[]⟩, .string ⟨#[]⟩, .string ⟨#[]⟩, .bool false, .slice none 0 0, .slice none 0 0, .bool false, .bool false, .string ⟨#[]⟩]) gG.out 0 (.string o) rfl
     have p1 := zq (cs' := #[.string o, .string r, .string ⟨#[]⟩, .string ⟨#[]⟩, .bool false, .slice none 0 0, .slice none 0 0, .bool false, .bool false, .string ⟨#[]⟩]) p0 1 (.string r) rfl
     have p2 := zq (cs' := #[.string o, .string r, .string l, .string ⟨#[]⟩, .bool false, .slice none 0 0, .slice none 0 0, .bool false, .bool false, .string ⟨#[]⟩]) p1 2 (.string l) rfl
     have p3 := zq (cs' := #[.string o, .string r, .string l, .string h, .bool false, .slice none 0 0, .slice none 0 0, .bool false, .bool false, .string ⟨#[]⟩]) p2 3 (.string h) rfl
     have p4 := zq (cs' := #[.string o, .string r, .string l, .string h, .bool i, .slice none 0 0, .slice none 0 0, .bool false, .bool false, .string ⟨#[]⟩]) p3 4 (.bool i) rfl
     have p5 := zq (cs' := #[.string o, .string r, .string l, .string h, .bool i, .slice A5 (numsT xc).length c5, .slice none 0 0, .bool false, .bool false, .string ⟨#[]⟩]) p4 5 (.slice A5 (numsT xc).length c5) rfl
     have p6 := zq (cs' := #[.string o, .string r, .string l, .string h, .bool i, .slice A5 (numsT xc).length c5, .slice A6 (sufsT xs).length c6, .bool false, .bool false, .string ⟨#[]⟩]) p5 6 (.slice A6 (sufsT xs).length c6) rfl
     have p7 := zq (cs' := #[.string o, .string r, .string l, .string h, .bool i, .slice A5 (numsT xc).length c5, .slice A6 (sufsT xs).length c6, .bool true, .bool false, .string ⟨#[]⟩]) p6 7 (.bool true) rfl
     have p8 := zq (cs' := #[.string o, .string r, .string l, .string h, .bool i, .slice A5 (numsT xc).length c5, .slice A6 (sufsT xs).length c6, .bool true, .bool false, .string ⟨#[]⟩]) p7 8 (.bool false) rfl
     have p9 := zq (cs' := #[.string o, .string r, .string l, .string h, .bool i, .slice A5 (numsT xc).length c5, .slice A6 (sufsT xs).length c6, .bool true, .bool false, .string (magB n)]) p8 9 (.string (magB n)) rfl
     refine bodyPost_ret (results_cell_row rfl _ _ (w.heap.size + 1) 87 #[.string o, .string r, .string l, .string h, .bool i, .slice A5 (numsT xc).length c5, .slice A6 (sufsT xs).length c6, .bool true, .bool false, .string (magB n)] (0, 0) _ rfl p9 Tryz.underlying87 rfl (by kernel_rfl)) rfl ?_
     have K := hk (((((((((((((w5.setCell ⟨w.heap.size + 1 + 1, 7, none⟩ (.bool true)).setCell ⟨w.heap.size + 1 + 1, 8, none⟩ (.bool false)).setCell ⟨w.heap.size + 1 + 1, 9, none⟩ (.string (magB n))).setCell ⟨w.heap.size + 1, 0, none⟩ (.string o)).setCell ⟨w.heap.size + 1, 1, none⟩ (.string r)).setCell ⟨w.heap.size + 1, 2, none⟩ (.string l)).setCell ⟨w.heap.size + 1, 3, none⟩ (.string h)).setCell ⟨w.heap.size + 1, 4, none⟩ (.bool i)).setCell ⟨w.heap.size + 1, 5, none⟩ (.slice A5 (numsT xc).length c5)).setCell ⟨w.heap.size + 1, 6, none⟩ (.slice A6 (sufsT xs).length c6)).setCell ⟨w.heap.size + 1, 7, none⟩ (.bool true)).setCell ⟨w.heap.size + 1, 8, none⟩ (.bool false)).setCell ⟨w.heap.size + 1, 9, none⟩ (.string (magB n))) (fun b h1 h2 => by repeat (first | rw [Below.heap_setCell _ _ _ _ h2] | rw [Below.heap_setCell _ _ _ _ h1]))
     refine ⟨_, _, rfl, zrd (p := butT 87) rfl (by decide) H5.out.own5 K, zrd (p := butT 87) rfl (by decide) H5.out.own6 K, ?_⟩
     have b5 := H5.out.below
     repeat (first | (with_reducible exact b5) | refine zl ?_ (by omega))
end Go.Proofs.YtapaijpglfmfgaaGreatDoorG
end
section
namespace Go.Proofs.YtapaijpglfmfgaaGreatDoor.T
open Go.RowKit YtapaijpglfmfgaaGreatDoorH YtapaijpglfmfgaaGreatDoorW.PrintWords YtapaijpglfmfgaaGreatDoorW.PrintLast YtapaijpglfmfgaaGreatDoorW.PrintMore
attribute [local go_sem] zfd zjd ztd zud zsc ztc zgd zkd
def znd.f (l0 : List Int) : Option (Int) := if 3 < (l0.length : Int) then (if 2 < (l0.length : Int) then (if 1 < (l0.length : Int) then (if 0 < (l0.length : Int) then (some (Go.bits .or .u32 (Go.bits .or .u32 (Go.bits .or .u32 ((rd l0 3) % 4294967296) ((((rd l0 2) % 4294967296) * 256) % 4294967296)) ((((rd l0 1) % 4294967296) * 65536) % 4294967296)) ((((rd l0 0) % 4294967296) * 16777216) % 4294967296))) else (none)) else (none)) else (none)) else (none)
theorem znd.calls (A0 : Option Addr) (c0 : Nat) (l0 : List Int) (r : Int) (w : World) (hr0 : Kd.C (Kd.int .u8) w A0 l0.length l0) (hc0 : l0.length ≤ c0) (h : znd.f l0 = some r) :
  Calls Tryz.prog 110 #[.slice A0 l0.length c0] w fun e w' => e = .returned (.int .u32 r) ∧ zn w w' := by
 have HR0 := za.mk hr0
 have HC0 := za.mk hc0
 clear hr0 hc0
 have H : (if 3 < (l0.length : Int) then (if 2 < (l0.length : Int) then (if 1 < (l0.length : Int) then (if 0 < (l0.length : Int) then (some (Go.bits .or .u32 (Go.bits .or .u32 (Go.bits .or .u32 ((rd l0 3) % 4294967296) ((((rd l0 2) % 4294967296) * 256) % 4294967296)) ((((rd l0 1) % 4294967296) * 65536) % 4294967296)) ((((rd l0 0) % 4294967296) * 16777216) % 4294967296))) else (none)) else (none)) else (none)) else (none)) = some r := h
 clear h
 by_cases c2 : 3 < (l0.length : Int)
 ·rw [if_pos c2] at H
  have c2b0 : decide (3 < (l0.length : Int)) = true := decide_eq_true c2
  have c2b1 : decide (3 < l0.length) = true := decide_eq_true (by omega)
  clear c2
  by_cases c3 : 2 < (l0.length : Int)
  ·rw [if_pos c3] at H
   have c3b0 : decide (2 < (l0.length : Int)) = true := decide_eq_true c3
   have c3b1 : decide (2 < l0.length) = true := decide_eq_true (by omega)
   clear c3
   by_cases c4 : 1 < (l0.length : Int)
   ·rw [if_pos c4] at H
    have c4b0 : decide (1 < (l0.length : Int)) = true := decide_eq_true c4
    have c4b1 : decide (1 < l0.length) = true := decide_eq_true (by omega)
    clear c4
    by_cases c5 : 0 < (l0.length : Int)
    ·rw [if_pos c5] at H
     have c5b0 : decide (0 < (l0.length : Int)) = true := decide_eq_true c5
     have c5b1 : decide (0 < l0.length) = true := decide_eq_true (by omega)
     clear c5
     obtain rfl := Option.some.inj H
     have p101 : 0 ≤ (3 : Int) := (by omega)
     have q101 : 3 < (l0.length : Int) := of_decide_eq_true (by first | (with_reducible assumption) | assumption)
     obtain ⟨ad101, e101, hx101_0⟩ := Kd.at_int HR0.out 3 p101 q101
     cases e101
     (try simp only [show (3 : Int).toNat = 3 from rfl, Nat.reduceMul, Nat.reduceEqDiff, Go.Addr.add, ↓reduceIte] at hx101_0)
     have qi101 : (3 < l0.length) = True := eq_true (by omega)
     (try rw [show ((3 : Int)).toNat = 3 from rfl] at hx101_0)
     replace p101 := eq_true p101
     replace q101 := eq_true q101
     have p102 : 0 ≤ (3 : Int) := (by omega)
     have q102 : 3 < (l0.length : Int) := of_decide_eq_true (by first | (with_reducible assumption) | assumption)
     obtain ⟨ad102, e102, hx102_0⟩ := Kd.at_int HR0.out 3 p102 q102
     obtain rfl : ad101 = ad102 := (by injection e102)
     (try simp only [show (3 : Int).toNat = 3 from rfl, Nat.reduceMul, Nat.reduceEqDiff, Go.Addr.add, ↓reduceIte] at hx102_0)
     have qi102 : (3 < l0.length) = True := eq_true (by omega)
     (try rw [show ((3 : Int)).toNat = 3 from rfl] at hx102_0)
     replace p102 := eq_true p102
     replace q102 := eq_true q102
     have p103 : 0 ≤ (2 : Int) := (by omega)
     have q103 : 2 < (l0.length : Int) := of_decide_eq_true (by first | (with_reducible assumption) | assumption)
     obtain ⟨ad103, e103, hx103_0⟩ := Kd.at_int HR0.out 2 p103 q103
     obtain rfl : ad101 = ad103 := (by injection e103)
     (try simp only [show (2 : Int).toNat = 2 from rfl, Nat.reduceMul, Nat.reduceEqDiff, Go.Addr.add, ↓reduceIte] at hx103_0)
     have qi103 : (2 < l0.length) = True := eq_true (by omega)
     (try rw [show ((2 : Int)).toNat = 2 from rfl] at hx103_0)
     replace p103 := eq_true p103
     replace q103 := eq_true q103
     have p104 : 0 ≤ (1 : Int) := (by omega)
     have q104 : 1 < (l0.length : Int) := of_decide_eq_true (by first | (with_reducible assumption) | assumption)
     obtain ⟨ad104, e104, hx104_0⟩ := Kd.at_int HR0.out 1 p104 q104
     obtain rfl : ad101 = ad104 := (by injection e104)
     (try simp only [show (1 : Int).toNat = 1 from rfl, Nat.reduceMul, Nat.reduceEqDiff, Go.Addr.add, ↓reduceIte] at hx104_0)
     have qi104 : (1 < l0.length) = True := eq_true (by omega)
     (try rw [show ((1 : Int)).toNat = 1 from rfl] at hx104_0)
     replace p104 := eq_true p104
     replace q104 := eq_true q104
     have p105 : 0 ≤ (0 : Int) := (by omega)
     have q105 : 0 < (l0.length : Int) := of_decide_eq_true (by first | (with_reducible assumption) | assumption)
     obtain ⟨ad105, e105, hx105_0⟩ := Kd.at_int HR0.out 0 p105 q105
     obtain rfl : ad101 = ad105 := (by injection e105)
     have qi105 : (0 < l0.length) = True := eq_true (by omega)
     (try rw [show ((0 : Int)).toNat = 0 from rfl] at hx105_0)
     (try rw [Addr.add_zero'] at hx105_0)
     replace p105 := eq_true p105
     replace q105 := eq_true q105
     go_enter Tryz.func110, Tryz.ntmps110
     go_wp2
     repeat (go_quiet (fail); try go_wp2)
     go_ret
     exact ⟨by first | rfl | (simp; done) | (simp [*]; done) | (simp [zxg]; done) | (simp [zxg, *]; done), by repeat (first | exact zn.refl _ | apply zn.step)⟩
    ·rw [if_neg c5] at H
     exact absurd H (by simp)
   ·rw [if_neg c4] at H
    exact absurd H (by simp)
  ·rw [if_neg c3] at H
   exact absurd H (by simp)
 ·rw [if_neg c2] at H
  exact absurd H (by simp)
end Go.Proofs.YtapaijpglfmfgaaGreatDoor.T
end
section
namespace Go.Proofs.YtapaijpglfmfgaaGreatDoorG
open Go.RowKit YtapaijpglfmfgaaGreatDoorH YtapaijpglfmfgaaGreatDoorB YtapaijpglfmfgaaGreatDoorM YtapaijpglfmfgaaGreatDoor.T YtapaijpglfmfgaaGreatDoorW.PrintWords YtapaijpglfmfgaaGreatDoorW.PrintLast
theorem or_low {a b : Nat} (i : Nat) (ha : a < 2 ^ i) : a ||| (b * 2 ^ i) = a + b * 2 ^ i := by
 have := Nat.two_pow_add_eq_or_of_lt ha b
 rw [Nat.or_comm, Nat.mul_comm, ← this, Nat.add_comm]
theorem or_high {a b : Nat} (i : Nat) (hb : b < 2 ^ i) : (a * 2 ^ i) ||| b = a * 2 ^ i + b := by
 rw [Nat.or_comm, or_low i hb, Nat.add_comm]
theorem be32 (a b c d : Nat) (l : List Int) (ha : a < 256) (hb : b < 256) (hc : c < 256) (hd : d < 256) : znd.f ((a : Int) :: b :: c :: d :: l) = some ((d + c * 256 + b * 65536 + a * 16777216 : Nat) : Int) := by
 unfold znd.f
 simp only [List.length_cons]
 rw [if_pos (by omega), if_pos (by omega), if_pos (by omega), if_pos (by omega)]
 have r0 : rd ((a : Int) :: b :: c :: d :: l) 0 = (a : Int) := rfl
 have r1 : rd ((a : Int) :: b :: c :: d :: l) 1 = (b : Int) := rfl
 have r2 : rd ((a : Int) :: b :: c :: d :: l) 2 = (c : Int) := rfl
 have r3 : rd ((a : Int) :: b :: c :: d :: l) 3 = (d : Int) := rfl
 rw [r0, r1, r2, r3]
 have e0 : ((a : Int) % 4294967296 * 16777216) % 4294967296 = ((a * 16777216 : Nat) : Int) := by omega
 have e1 : ((b : Int) % 4294967296 * 65536) % 4294967296 = ((b * 65536 : Nat) : Int) := by omega
 have e2 : ((c : Int) % 4294967296 * 256) % 4294967296 = ((c * 256 : Nat) : Int) := by omega
 have e3 : (d : Int) % 4294967296 = (d : Int) := by omega
 rw [e0, e1, e2, e3, u32_or_nat _ _ (by omega) (by omega)]
 have o1 : d ||| c * 256 = d + c * 256 := or_low 8 (by omega)
 rw [o1, u32_or_nat _ _ (by omega) (by omega)]
 have o2 : (d + c * 256) ||| b * 65536 = d + c * 256 + b * 65536 := or_low 16 (by omega)
 rw [o2, u32_or_nat _ _ (by omega) (by omega)]
 have o3 : (d + c * 256 + b * 65536) ||| a * 16777216 = d + c * 256 + b * 65536 + a * 16777216 := or_low 24 (by omega)
 rw [o3]
theorem zbe {x : Int} (h : 0 ≤ x ∧ x ≤ 255) : ∃ n : Nat, x = (n : Int) ∧ n < 256 := ⟨x.toNat, by omega, by omega⟩
theorem wrap_u64 {n : Nat} (h : n < 18446744073709551616) : IntKind.u64.wrap (n : Int) = (n : Int) := by
 rw [IntKind.wrap_u64]; omega
theorem be_parts {l : List Int} (hl : l.length = 8) (hb : Byt l) : ∃ p q : Nat, znd.f l = some (p : Int) ∧ znd.f (l.drop 4) = some (q : Int) ∧ p < 4294967296 ∧ q < 4294967296 ∧ p * 4294967296 + q = val l.reverse := by
 match l, hl with
 | [a, b, c, d, e, f, g, h], _ =>
  obtain ⟨a, rfl, ha⟩ := zbe (hb a (by simp))
  obtain ⟨b, rfl, hb'⟩ := zbe (hb b (by simp))
  obtain ⟨c, rfl, hc⟩ := zbe (hb c (by simp))
  obtain ⟨d, rfl, hd⟩ := zbe (hb d (by simp))
  obtain ⟨e, rfl, he⟩ := zbe (hb e (by simp))
  obtain ⟨f, rfl, hf⟩ := zbe (hb f (by simp))
  obtain ⟨g, rfl, hg⟩ := zbe (hb g (by simp))
  obtain ⟨h, rfl, hh⟩ := zbe (hb h (by simp))
  refine ⟨_, _, be32 a b c d _ ha hb' hc hd, be32 e f g h [] he hf hg hh, by omega, by omega, ?_⟩
  simp only [List.reverse_cons, List.reverse_nil, List.nil_append, List.cons_append, val, Int.toNat_natCast]
  omega
theorem beU64_ (w : World) (A : Option Addr) (c : Nat) (l : List Int) (hl : l.length = 8) (hb : Byt l) (hr : Kd.C (Kd.int .u8) w A l.length l) (hc : l.length ≤ c) :
  Calls Tryz.prog 109 #[.slice A 8 c] w fun e w' => e = .returned (.int .u64 ((val l.reverse : Nat) : Int)) ∧ zn w w' := by
 obtain ⟨p, q, h1, h2, h3, h4, h5⟩ := be_parts hl hb
 obtain ⟨ad, e7, hx⟩ := Kd.at_int hr 7 (by omega) (by omega)
 cases e7
 obtain ⟨ii, hi, hzz⟩ := Option.map_eq_some_iff.1 infoByte
 simp only [Prod.mk.injEq] at hzz
 obtain ⟨A2, hcut, hA, hC⟩ := print_drop_of (P := Tryz.prog) (Value.int .u8) 0 23 5 .i64 Tryz.underlying23 hi hzz.2.1 (some ad) c l 4 (by omega) (by omega) hc
 have hr2 := Kd.C_of_reads (h1 := fun _ => rfl) (hA _ (Kd.reads_of_C hr))
 have hl4 : (l.drop 4).length = 4 := by rw [List.length_drop, hl]
 have e4 : ((4 : Int)).toNat = 4 := rfl
 have e7 : ((7 : Int)).toNat = 7 := rfl
 rw [hl] at hcut
 rw [e4] at hcut hr2 hC
 rw [e7] at hx
 rw [hl4] at hcut
 simp only [Nat.reduceMul, Nat.reduceEqDiff, Go.Addr.add, ↓reduceIte] at hx
 have HR := za.mk hr
 have HR2 := za.mk hr2
 have HC := za.mk hc
 have HC2 := za.mk hC
 have H1 := za.mk (fun W (k : Kd.C (Kd.int .u8) W (some ad) l.length l) => znd.calls (some ad) c l (p : Int) W k hc h1)
 have H2 := za.mk (fun W (k : Kd.C (Kd.int .u8) W A2 (l.drop 4).length (l.drop 4)) => znd.calls A2 (c - 4) (l.drop 4) (q : Int) W k hC h2)
 rw [hl] at H1 HR
 rw [hl4] at H2 HR2
 have W1 : IntKind.u64.wrap (p : Int) = (p : Int) := wrap_u64 (by omega)
 have W2 : IntKind.u64.wrap (q : Int) = (q : Int) := wrap_u64 (by omega)
 have W3 : IntKind.u64.wrap ((p : Int) * 4294967296) = ((p * 4294967296 : Nat) : Int) := by rw [show (p : Int) * 4294967296 = ((p * 4294967296 : Nat) : Int) by omega, wrap_u64 (by omega)]
 have W4 : Go.bits .or .u64 ((p : Int) * 4294967296) (q : Int) = ((val l.reverse : Nat) : Int) := by
  rw [show (p : Int) * 4294967296 = ((p * 4294967296 : Nat) : Int) by omega]
  rw [u64_or_nat _ _ (by omega) (by omega)]
  have : p * 2 ^ 32 ||| q = p * 2 ^ 32 + q := or_high 32 h4
  rw [show p * 4294967296 = p * 2 ^ 32 from rfl, this]
  exact congrArg _ h5
 clear hr hr2 hc hC hA h1 h2 h3 h4 h5 hl hl4 hzz hi
 go_enter Tryz.func109, Tryz.ntmps109
 go_wp2
 go_quiet (first | (go_at_call 110; (with_reducible refine (H1.out _ ?side1).mono ?_); (case side1 => repeat (first | exact HR.out | (with_reducible refine Kd.C_drewN ?_ _) | (with_reducible refine Kd.C_drew ?_))); rintro e w' ⟨rfl, ⟨nd, rfl⟩⟩; (try first | exact ⟨rfl, _, World.drewN_drewN _ _ _⟩ | exact ⟨rfl, _, Eq.trans (World.drewN_drewN _ _ _) (congrArg (World.drewN _) (Nat.add_assoc _ _ _))⟩)) | (go_at_call 110; (with_reducible refine (H2.out _ ?side1).mono ?_); (case side1 => repeat (first | exact HR2.out | (with_reducible refine Kd.C_drewN ?_ _) | (with_reducible refine Kd.C_drew ?_))); rintro e w' ⟨rfl, ⟨nd, rfl⟩⟩; (try first | exact ⟨rfl, _, World.drewN_drewN _ _ _⟩ | exact ⟨rfl, _, Eq.trans (World.drewN_drewN _ _ _) (congrArg (World.drewN _) (Nat.add_assoc _ _ _))⟩)))
 go_wp2
 go_ret
 exact ⟨rfl, by repeat (first | exact zn.refl _ | apply zn.step)⟩
theorem beWord_ (w : World) (A : Option Addr) (c : Nat) (l : List Int) (hl : l.length = 8) (hb : Byt l) (hr : Kd.C (Kd.int .u8) w A l.length l) (hc : l.length ≤ c) :
  Calls Tryz.prog 104 #[.slice A 8 c] w fun e w' => e = .returned (.int .u64 ((val l.reverse : Nat) : Int)) ∧ zn w w' := by
 have H := za.mk (fun W (k : Kd.C (Kd.int .u8) W A l.length l) => beU64_ W A c l hl hb k hc)
 have HR := za.mk hr
 clear hr hc hl hb
 go_enter Tryz.func104, Tryz.ntmps104
 go_wp2_with (first | (go_at_call 109; (with_reducible refine (H.out _ HR.out).mono ?_); rintro e w' ⟨rfl, ⟨nd, rfl⟩⟩))
 go_ret
 exact ⟨rfl, by repeat (first | exact zn.refl _ | apply zn.step)⟩
def wd (r : List Int) (j : Nat) : Nat := val ((r.drop (8 * j)).take 8)
def wds (r : List Int) : Nat → List Nat
 | 0 => []
 | j + 1 => wds r j ++ [wd r j]
theorem zgg (r : List Int) : ∀ j, (wds r j).length = j
 | 0 => rfl
 | j + 1 => by simp [wds, zgg r j]
theorem wd_lt {r : List Int} (h : Byt r) (j : Nat) : IsW (wd r j) := by
 have h1 := val_lt (m := (r.drop (8 * j)).take 8) (fun x hx => h x (List.mem_of_mem_drop (List.mem_of_mem_take hx)))
 have h2 : (256 : Nat) ^ ((r.drop (8 * j)).take 8).length ≤ 256 ^ 8 := Nat.pow_le_pow_right (by omega) (by rw [List.length_take]; omega)
 have e : (256 : Nat) ^ 8 = W64 := by decide
 unfold IsW wd
 omega
theorem wds_words {r : List Int} (h : Byt r) : ∀ j, ∀ x ∈ wds r j, IsW x
 | 0, x, hx => by simp [wds] at hx
 | j + 1, x, hx => by
  simp only [wds] at hx
  rcases List.mem_append.1 hx with hx | hx
  ·exact wds_words h j x hx
  ·rw [List.mem_singleton.1 hx]; exact wd_lt h j
theorem wds_num {r : List Int} (h : Byt r) : ∀ j, num (wds r j) = val (r.take (8 * j))
 | 0 => by simp [wds, num, val]
 | j + 1 => by
  simp only [wds]
  rw [num_snoc, wds_num h j, zgg]
  have e : r.take (8 * (j + 1)) = r.take (8 * j) ++ (r.drop (8 * j)).take 8 := by
   rw [show 8 * (j + 1) = 8 * j + 8 by omega, List.take_add]
  rw [e, val_append]
  by_cases hl : 8 * j ≤ r.length
  ·rw [List.length_take, Nat.min_eq_left hl]
   have e2 : (256 : Nat) ^ (8 * j) = W64 ^ j := by rw [Nat.pow_mul]; rfl
   rw [e2]
   rfl
  ·have e3 : r.drop (8 * j) = [] := List.drop_of_length_le (by omega)
   unfold wd
   rw [e3]
   simp [val]
theorem wds_set (r : List Int) (k m : Nat) (hm : 0 < m) : (wds r k ++ List.replicate m 0).set k (wd r k) = wds r (k + 1) ++ List.replicate (m - 1) 0 := by
 obtain ⟨m, rfl⟩ : ∃ q, m = q + 1 := ⟨m - 1, by omega⟩
 rw [List.set_append_right _ _ (by rw [zgg]; exact Nat.le_refl _), zgg, Nat.sub_self, List.replicate_succ, List.set_cons_zero]
 simp [wds]
theorem make_nil (w : World) : Calls Tryz.prog 103 #[.slice none 0 0, .int .i64 0] w fun e w' => e = .returned (.slice none 0 0) ∧ w' = w := by
 go_enter Tryz.func103, Tryz.ntmps103
 go_wp2
 go_ret
 exact ⟨rfl, rfl⟩
theorem norm_nil (w : World) : Calls Tryz.prog 105 #[.slice none 0 0] w fun e w' => e = .returned (.slice none 0 0) ∧ w' = w := by
 go_enter Tryz.func105, Tryz.ntmps105
 go_wp2
 go_loopw [3] (fun i wr => i = .int .i64 0 ∧ wr = w) (fun i _ => (intOf i).toNat)
 case atStart => exact ⟨rfl, rfl⟩
 case round =>
  obtain ⟨rfl, rfl⟩ := hrel
  go_wp2
  go_ret
  exact ⟨rfl, rfl⟩
theorem setBytes_nil (w : World) (A : Option Addr) (c : Nat) : Calls Tryz.prog 100 #[.slice none 0 0, .slice A 0 c] w fun e w' => e = .returned (.slice none 0 0) ∧ w' = w := by
 have HM := za.mk (fun W : World => make_nil W)
 have HN := za.mk (fun W : World => norm_nil W)
 go_enter Tryz.func100, Tryz.ntmps100
 go_wp2_with (first | (go_at_call 103; (with_reducible refine (HM.out _).mono ?_); rintro e w' ⟨rfl, hw'⟩; rw [hw']; clear hw'))
 go_loopw [5, 6] (fun i k wr => i = .int .i64 0 ∧ k = .int .i64 0 ∧ wr = w) (fun i _ _ => (intOf i).toNat)
 case atStart => exact ⟨rfl, rfl, rfl⟩
 case round =>
  obtain ⟨rfl, rfl, rfl⟩ := hrel
  go_wp2_with (first | (go_at_call 105; (with_reducible refine (HN.out _).mono ?_); rintro e w' ⟨rfl, hw'⟩; rw [hw']; clear hw'))
  go_ret
  exact ⟨rfl, rfl⟩
theorem small8 {p : Nat} (h : p ≤ 8) : wrap64 (p : Int) = (p : Int) ∧ wrap64 (((p + 1 : Nat) : Int) - 1) = (p : Int) := by
 constructor
 ·unfold wrap64; omega
 ·unfold wrap64; omega
theorem p256 {j : Nat} (h : j ≤ 7) : (256 : Nat) ^ j ≤ 72057594037927936 := by
 have := Nat.pow_le_pow_right (n := 256) (by omega) h
 exact this
theorem shl_byte {x j : Nat} (hx : x < 256) (hj : j ≤ 7) : Op.shift .shl .u64 (IntKind.u64.wrap (x : Int)) .u64 (8 * (j : Int)) = pure (.int .u64 ((x * 256 ^ j : Nat) : Int)) := by
 rw [shift_shl_any _ _ _ _ (by omega), wrap_u64 (by omega)]
 have e : (8 * (j : Int)).toNat = 8 * j := by omega
 have e2 : min (8 * j) IntKind.u64.bits = 8 * j := by
  show min (8 * j) 64 = 8 * j
  omega
 rw [e, e2]
 have hp := p256 hj
 have e3 : (x : Int) * (2 : Int) ^ (8 * j) = ((x * 256 ^ j : Nat) : Int) := by
  have e4 : (256 : Nat) ^ j = 2 ^ (8 * j) := by rw [Nat.pow_mul]
  rw [e4, Int.natCast_mul, Int.natCast_pow]
  rfl
 have hb : x * 256 ^ j ≤ 255 * 72057594037927936 := Nat.mul_le_mul (by omega) hp
 rw [e3, wrap_u64 (by omega)]
theorem cast_shl (x j : Nat) : (x : Int) * (256 : Int) ^ j = ((x * 256 ^ j : Nat) : Int) := by
 rw [Int.natCast_mul, Int.natCast_pow]
 rfl
theorem or_byte_at {a x j : Nat} (ha : a < 256 ^ j) (hx : x < 256) (hj : j ≤ 7) : Go.bits .or .u64 (a : Int) ((x * 256 ^ j : Nat) : Int) = ((a + 256 ^ j * x : Nat) : Int) := by
 have hp := p256 hj
 have hb : x * 256 ^ j ≤ 255 * 72057594037927936 := Nat.mul_le_mul (by omega) hp
 rw [u64_or_nat _ _ (by omega) (by omega)]
 have e : (256 : Nat) ^ j = 2 ^ (8 * j) := by rw [Nat.pow_mul]
 rw [e] at ha ⊢
 rw [or_low (8 * j) ha, Nat.mul_comm]
theorem word_step {q : List Int} {j x : Nat} (h : q.getD j 0 = (x : Int)) (hj : j < q.length) : val (q.take (j + 1)) = val (q.take j) + 256 ^ j * x := by
 rw [List.take_add_one, List.getElem?_eq_getElem hj]
 show val (q.take j ++ [q[j]]) = _
 rw [zwg, List.length_take, Nat.min_eq_left (by omega)]
 rw [List.getD_eq_getElem?_getD, List.getElem?_eq_getElem hj] at h
 have h2 : q[j] = (x : Int) := h
 rw [h2, Int.toNat_natCast]
theorem s_step {j : Nat} (h : j ≤ 8) : IntKind.u64.wrap (8 * (j : Int) + 8) = ((8 * (j + 1) : Nat) : Int) := by
 rw [show 8 * (j : Int) + 8 = ((8 * (j + 1) : Nat) : Int) by omega, wrap_u64 (by omega)]
theorem zkj {wr : World} {B g n cp q : Nat} {r : List Int} (hw : Ws wr g 149 (wds r n ++ List.replicate (cp - n) 0)) (hb : Byt r) (hn : r.length ≤ 8 * n) (hcp : n ≤ cp) (hc9 : cp ≤ 1000000000) (hn6 : n ≤ 1000000) (hq : q ≤ n)
  (h2 : trimW ((wds r n ++ List.replicate (cp - n) 0).take n) = (wds r n ++ List.replicate (cp - n) 0).take q) (hB : B ≤ g) :
  ∃ l, NatS wr B (.slice (some ⟨g, 0, none⟩) q cp) l ∧ num l = val r ∧ l = trimW l ∧ l.length ≤ 1000000 := by
 have hfl : (wds r n ++ List.replicate (cp - n) 0).length = cp := by rw [List.length_append, zgg, List.length_replicate]; omega
 have ht : (wds r n ++ List.replicate (cp - n) 0).take n = wds r n := by
  have := List.take_left (l₁ := wds r n) (l₂ := List.replicate (cp - n) 0)
  rwa [zgg] at this
 have hl : ((wds r n ++ List.replicate (cp - n) 0).take q).length = q := by rw [List.length_take, hfl]; omega
 rw [ht] at h2
 refine ⟨(wds r n ++ List.replicate (cp - n) 0).take q, .inr ⟨g, wds r n ++ List.replicate (cp - n) 0, by rw [hl, hfl], hB, hw, by rw [hl], by rw [hl, hfl]; omega, by rw [hfl]; omega, fun x hx => ?_⟩, ?_, ?_, by rw [hl]; omega⟩
 ·rcases List.mem_append.1 hx with hx | hx
  ·exact wds_words hb n x hx
  ·rw [List.eq_of_mem_replicate hx]; exact W64_pos
 ·rw [← h2, num_trimW, wds_num hb, List.take_of_length_le hn]
 ·rw [← h2, trimW_idem]
theorem setBytes_ (w : World) (A : Option Addr) (c : Nat) (bs : List Int) (h0 : bs ≠ []) (hb : Byt bs) (hl : bs.length ≤ 1000000) (hr : Kd.C (Kd.int .u8) w A bs.length bs) (hc : bs.length ≤ c) :
  Calls Tryz.prog 100 #[.slice none 0 0, .slice A bs.length c] w fun e w' => ∃ v l, e = .returned v ∧ NatS w' w.heap.size v l ∧ num l = val bs.reverse ∧ l = trimW l ∧ l.length ≤ 1000000 ∧ Below w.heap.size w w' := by
 have hp : 0 < bs.length := List.length_pos_iff.2 h0
 obtain ⟨L, hL⟩ : ∃ L, L = bs.length := ⟨_, rfl⟩
 rw [← hL] at hp hl hc ⊢
 obtain ⟨n, hn⟩ : ∃ n, n = (L + 7) / 8 := ⟨_, rfl⟩
 have HM := za.mk (fun W : World => make_fresh W none 0 0 n (by omega) (by omega))
 have q4 : wrap64 ((wrap64 (wrap64 ((L : Int) + 8) - 1)).tdiv 8) = (n : Int) := by
  have e1 : wrap64 ((L : Int) + 8) = (L : Int) + 8 := by unfold wrap64; omega
  have e2 : wrap64 ((L : Int) + 8 - 1) = (L : Int) + 7 := by unfold wrap64; omega
  rw [e1, e2, Int.tdiv_eq_ediv_of_nonneg (by omega)]
  unfold wrap64
  omega
 have HR := za.mk hr
 have HL := za.mk hL
 have HN := za.mk hn
 have HC := za.mk hc
 have HLB := za.mk hl
 have HP := za.mk hp
 have HB := za.mk hb
 clear hr hL hn hc hl hp hb h0
 go_enter Tryz.func100, Tryz.ntmps100
 go_wp2_with (first | (go_at_call 103; rw [q4]; (with_reducible refine (HM.out _).mono ?_); rintro e w' ⟨cp, hcp1, hcp2, rfl, rfl⟩; have W0 : za (Ws (w.alloc (.cells (List.replicate cp (NumC 0)).toArray 149)) w.heap.size 149 (List.replicate cp 0)) := ⟨by unfold Ws; rw [List.map_replicate]; exact zvc w _⟩))
 have HCP := za.mk (And.intro hcp1 hcp2)
 have HRB := za.mk (Byt.reverse HB.out)
 obtain ⟨r, hr⟩ : ∃ r, r = bs.reverse := ⟨_, rfl⟩
 rw [← hr] at HRB
 have HRR := za.mk hr
 clear hcp1 hcp2 hr
 go_loopw [5, 6] (fun iv kv wr => ∃ k : Nat, 8 * k ≤ L ∧ iv = .int .i64 ((L - 8 * k : Nat) : Int) ∧ kv = .int .i64 (k : Int) ∧ za (Ws wr w.heap.size 149 (wds r k ++ List.replicate (cp - k) 0)) ∧ za (Below w.heap.size w wr)) (fun iv _ _ => (intOf iv).toNat)
 case atStart => exact ⟨0, by omega, rfl, rfl, ⟨by simpa [wds] using W0.out⟩, ⟨zj (Below.refl _ _) _⟩⟩
 case round =>
  obtain ⟨k, hk, rfl, rfl, hw, hbl⟩ := hrel
  clear W0
  by_cases hlt : 8 ≤ L - 8 * k
  ·obtain ⟨m, hm⟩ : ∃ m, L - 8 * k = m + 8 := ⟨L - 8 * k - 8, by omega⟩
   rw [hm]
   have b1 : decide (8 ≤ ((m + 8 : Nat) : Int)) = true := decide_eq_true (by omega)
   have b2 : (8 ≤ ((m + 8 : Nat) : Int)) = True := eq_true (by omega)
   have WM : wrap64 (m : Int) = (m : Int) := by have := HLB.out; unfold wrap64; omega
   obtain ⟨ii, hi, hzz⟩ := Option.map_eq_some_iff.1 infoByte
   simp only [Prod.mk.injEq] at hzz
   obtain ⟨A2, hcut, hA, hC2⟩ := print_mid_int (P := Tryz.prog) (k := .u8) 23 5 Tryz.underlying23 hi hzz.2.1 A c bs (m : Int) ((m : Int) + 8) (by omega) (by omega) (by have := HL.out; omega) (by have := HL.out; have := HC.out; omega)
   have em : ((m : Int)).toNat = m := by omega
   have em8 : ((m : Int) + 8).toNat = m + 8 := by omega
   rw [em, em8] at hcut hA hC2
   have h8 : ((bs.take (m + 8)).drop m).length = 8 := by rw [List.length_drop, List.length_take]; have := HL.out; omega
   rw [h8, ← HL.out] at hcut
   have hri := hA _ ((Kd.reads_of_C HR.out).below hbl.out)
   have hrc := Kd.C_of_reads (h1 := fun _ => rfl) hri
   have HBW := za.mk (fun W (k : Kd.C (Kd.int .u8) W A2 ((bs.take (m + 8)).drop m).length ((bs.take (m + 8)).drop m)) => beWord_ W A2 (c - m) _ h8 (fun x hx => HB.out x (List.mem_of_mem_take (List.mem_of_mem_drop hx))) k hC2)
   have HRC : za (Kd.C (Kd.int .u8) wr A2 ((bs.take (m + 8)).drop m).length ((bs.take (m + 8)).drop m)) := ⟨hrc⟩
   have hval : val ((bs.take (m + 8)).drop m).reverse = wd r k := by
    unfold wd
    rw [HRR.out]
    congr 1
    have := HL.out
    rw [List.drop_reverse, List.take_reverse]
    rw [show bs.length - 8 * k = m + 8 by omega]
    rw [List.length_take, show min (m + 8) bs.length - 8 = m by omega]
   rw [hval] at HBW
   have hkn : k < n := by have := HN.out; omega
   have q5 : (0 ≤ (k : Int)) = True := eq_true (by omega)
   have q6 : ((k : Int) < (n : Int)) = True := eq_true (by omega)
   have q7 : (k < n) = True := eq_true hkn
   have wc := hw.out.cell k (by rw [List.length_append, zgg, List.length_replicate]; have := HCP.out; omega)
   have wf := hw.out.free k
   have ws : ∀ nd : Nat, Ws ((wr.drewN nd).setCell ⟨w.heap.size, k, none⟩ (.int .u64 ((wd r k : Nat) : Int))) w.heap.size 149 (wds r (k + 1) ++ List.replicate (cp - k - 1) 0) := fun nd => by
    have h : Ws (wr.drewN nd) w.heap.size 149 (wds r k ++ List.replicate (cp - k) 0) := hw.out
    have := h.set k (wd r k)
    rw [wds_set r k (cp - k) (by have := HCP.out; omega)] at this
    exact this
   have HMM := za.mk hm
   have HK := za.mk hk
   have HKN := za.mk hkn
   have WSN := za.mk ws
   clear hk hlt hm hri hrc h8 hzz hi hA hC2 em em8 hval hkn ws
   go_wp2_with (first | (go_at_call 104; (with_reducible refine (HBW.out _ HRC.out).mono ?_); rintro e w' ⟨rfl, ⟨nd, rfl⟩⟩))
   have e1 : L - 8 * (k + 1) = m := by have := HMM.out; omega
   have e2 : wrap64 ((k : Int) + 1) = ((k + 1 : Nat) : Int) := by have := HLB.out; have := HK.out; unfold wrap64; omega
   refine ⟨⟨k + 1, by have := HMM.out; omega, by rw [e1, WM], by rw [e2], ⟨by have := WSN.out nd; rwa [show cp - k - 1 = cp - (k + 1) by omega] at this⟩, ⟨zl (zd hbl.out nd) (Nat.le_refl _)⟩⟩, ?_⟩
   rw [WM]
   simp only [intOf]
   omega
  ·obtain ⟨m, hm⟩ : ∃ m, m = L - 8 * k := ⟨_, rfl⟩
   rw [← hm]
   have b1 : decide (8 ≤ (m : Int)) = false := decide_eq_false (by omega)
   have b2 : (8 ≤ (m : Int)) = False := eq_false (by omega)
   have hm8 : m < 8 := by omega
   have HMM := za.mk hm
   have HK := za.mk hk
   clear hk hlt hm
   by_cases h0 : m = 0
   ·subst h0
    have hkn : k = n := by have := HN.out; have := HMM.out; have := HK.out; omega
    have HNO := za.mk (norm_ wr w.heap.size n cp _ hw.out (by rw [List.length_append, zgg, List.length_replicate, hkn]; omega) (HCP.out.1) (by have := HN.out; have := HLB.out; omega))
    go_wp2_with (first | (go_at_call 105; (with_reducible refine (HNO.out).mono ?_); rintro e w' ⟨q, hq, hq2, rfl, hw'⟩; rw [hw']; clear hw'))
    go_ret
    subst hkn
    obtain ⟨l, k1, k2, k3, k4⟩ := zkj (B := w.heap.size) hw.out HRB.out (by rw [HRR.out, List.length_reverse]; have := HL.out; have := HMM.out; omega) HCP.out.1 (by have := HN.out; have := HLB.out; have := HCP.out; omega) (by have := HN.out; have := HLB.out; omega) hq hq2 (Nat.le_refl _)
    exact ⟨_, l, rfl, k1, by rw [k2, HRR.out], k3, k4, hbl.out⟩
   ·have b3 : decide (0 < (m : Int)) = true := decide_eq_true (by omega)
    have b4 : (0 < (m : Int)) = True := eq_true (by omega)
    have b5 : decide (0 < m) = true := decide_eq_true (by omega)
    have b6 : (0 < m) = True := eq_true (by omega)
    have H0 := za.mk h0
    clear h0
    go_wp2
    go_loopw [5, 7, 8] (fun iv dv sv wr2 => ∃ j : Nat, j ≤ m ∧ iv = .int .i64 ((m - j : Nat) : Int) ∧ dv = .int .u64 ((val ((r.drop (8 * k)).take j) : Nat) : Int) ∧ sv = .int .u64 ((8 * j : Nat) : Int) ∧ wr2 = wr) (fun iv _ _ _ => (intOf iv).toNat)
    case atStart => exact ⟨0, Nat.zero_le _, rfl, rfl, rfl, rfl⟩
    case round =>
     obtain ⟨j, hj, rfl, rfl, rfl, rfl⟩ := hrel
     by_cases hlt : j < m
     ·obtain ⟨p, hp⟩ : ∃ p, m - j = p + 1 := ⟨m - j - 1, by omega⟩
      rw [hp]
      have c1 : decide (0 < ((p + 1 : Nat) : Int)) = true := decide_eq_true (by omega)
      have c2 : (0 < ((p + 1 : Nat) : Int)) = True := eq_true (by omega)
      have hp8 : p ≤ 8 := by omega
      obtain ⟨c4, c3⟩ := small8 hp8
      have hj7 : j ≤ 7 := by omega
      have hpl : p < bs.length := by have := HL.out; have := HMM.out; omega
      obtain ⟨ad, eA, hcell⟩ := Kd.at_int (Kd.C_below HR.out hbl.out) (p : Int) (by omega) (by omega)
      have hrd : rd bs (p : Int) = (r.drop (8 * k)).getD j 0 := by
       have e1 : rd bs (p : Int) = bs.getD p 0 := by simp [rd]
       rw [e1, HRR.out]
       simp only [List.getD_eq_getElem?_getD, List.getElem?_drop]
       have h3 : 8 * k + j < bs.length := by have := HL.out; have := HMM.out; omega
       rw [List.getElem?_reverse h3, show bs.length - 1 - (8 * k + j) = p by have := HL.out; have := HMM.out; omega]
      have hby := HRB.out ((r.drop (8 * k)).getD j 0) (by
       have h3 : j < (r.drop (8 * k)).length := by rw [List.length_drop, HRR.out, List.length_reverse]; have := HL.out; have := HMM.out; omega
       rw [List.getD_eq_getElem?_getD, List.getElem?_eq_getElem h3]
       exact List.mem_of_mem_drop (List.getElem_mem h3))
      obtain ⟨x, hx, hx2⟩ := zbe hby
      rw [hrd, hx] at hcell
      have d1 : (0 ≤ (p : Int)) = True := eq_true (by omega)
      have d2 : ((p : Int) < (L : Int)) = True := eq_true (by rw [HL.out]; omega)
      have d3 : (p < L) = True := eq_true (by rw [HL.out]; omega)
      cases eA
      have hcell2 : wr.cell? (ad.add p) = some (.int .u8 (x : Int)) := by simpa using hcell
      have sh := shl_byte hx2 hj7
      have hjl : j < (r.drop (8 * k)).length := by rw [List.length_drop, HRR.out, List.length_reverse]; have := HL.out; have := HMM.out; omega
      have hlt8 := val_lt (m := (r.drop (8 * k)).take j) (fun y hy => HRB.out y (List.mem_of_mem_drop (List.mem_of_mem_take hy)))
      rw [List.length_take, Nat.min_eq_left (by omega)] at hlt8
      have or1 := or_byte_at hlt8 hx2 hj7
      rw [← word_step hx hjl] at or1
      have ss := s_step (show j ≤ 8 by omega)
      have HX := za.mk hx
      have HX2 := za.mk hx2
      have HP8 := za.mk hp8
      have HJ := za.mk hj
      have HPP := za.mk hp
      clear hrd hby hx hx2 hj hp hlt hpl hcell hp8 hj7 hjl hlt8
      have CS := za.mk (cast_shl x j)
      have OR1 := za.mk or1
      have C4 := za.mk c4
      go_wp2
      refine ⟨⟨j + 1, by have := HPP.out; omega, ?_, ?_, ?_, trivial⟩, ?_⟩
      ·rw [C4.out, show m - (j + 1) = p by have := HPP.out; omega]
      ·first | rw [OR1.out] | rw [CS.out, OR1.out]
      ·first | (congr 1; done) | (congr 1; omega)
      ·rw [C4.out]; simp only [intOf]; omega
     ·obtain rfl : j = m := by omega
      have c1 : decide (0 < ((j - j : Nat) : Int)) = false := decide_eq_false (by omega)
      have c2 : (0 < ((j - j : Nat) : Int)) = False := eq_false (by omega)
      have hkn : k + 1 = n := by have := HN.out; have := HMM.out; have := HK.out; have := H0.out; omega
      have hd : val ((r.drop (8 * k)).take j) = wd r k := by
       unfold wd
       rw [List.take_of_length_le (by rw [List.length_drop, HRR.out, List.length_reverse]; have := HL.out; have := HMM.out; omega), List.take_of_length_le (by rw [List.length_drop, HRR.out, List.length_reverse]; have := HL.out; have := HMM.out; omega)]
      rw [hd]
      have ws : Ws (wr.setCell ⟨w.heap.size, k, none⟩ (.int .u64 ((wd r k : Nat) : Int))) w.heap.size 149 (wds r n ++ List.replicate (cp - n) 0) := by
       have := hw.out.set k (wd r k)
       rw [wds_set r k (cp - k) (by have := HCP.out; omega), hkn, show cp - k - 1 = cp - n by omega] at this
       exact this
      have wc := hw.out.cell k (by rw [List.length_append, zgg, List.length_replicate]; have := HCP.out; omega)
      have wf := hw.out.free k
      have n1 : wrap64 ((n : Int) - 1) = (k : Int) := by rw [w64 (by have := HN.out; have := HLB.out; omega) (by have := HN.out; have := HLB.out; omega)]; omega
      have n2 : (0 ≤ (k : Int)) = True := eq_true (by omega)
      have n3 : ((k : Int) < (n : Int)) = True := eq_true (by omega)
      have n4 : (k < n) = True := eq_true (by omega)
      have HNO := za.mk (norm_ _ w.heap.size n cp _ ws (by rw [List.length_append, zgg, List.length_replicate]; omega) (HCP.out.1) (by have := HN.out; have := HLB.out; omega))
      have HWS := za.mk ws
      have HKN := za.mk hkn
      clear hkn hd ws hj hlt
      go_wp2_with (first | (go_at_call 105; (with_reducible refine (HNO.out).mono ?_); rintro e w' ⟨q, hq, hq2, rfl, hw'⟩; rw [hw']; clear hw'))
      go_ret
      obtain ⟨l, k1, k2, k3, k4⟩ := zkj (B := w.heap.size) HWS.out HRB.out (by rw [HRR.out, List.length_reverse]; have := HL.out; have := HN.out; omega) HCP.out.1 (by have := HN.out; have := HLB.out; have := HCP.out; omega) (by have := HN.out; have := HLB.out; omega) hq hq2 (Nat.le_refl _)
      exact ⟨_, l, rfl, k1, by rw [k2, HRR.out], k3, k4, zl hbl.out (Nat.le_refl _)⟩
end Go.Proofs.YtapaijpglfmfgaaGreatDoorG
end
section
namespace Go.Proofs.YtapaijpglfmfgaaGreatDoorG
open Go.RowKit YtapaijpglfmfgaaGreatDoorH YtapaijpglfmfgaaGreatDoorB YtapaijpglfmfgaaGreatDoorM YtapaijpglfmfgaaGreatDoorW.PrintWords YtapaijpglfmfgaaGreatDoorW.PrintLast
theorem setBytes_all (w : World) (A : Option Addr) (c : Nat) (bs : List Int) (hb : Byt bs) (hl : bs.length ≤ 1000000) (hr : Kd.C (Kd.int .u8) w A bs.length bs) (hc : bs.length ≤ c) :
  Calls Tryz.prog 100 #[.slice none 0 0, .slice A bs.length c] w fun e w' => ∃ v l, e = .returned v ∧ NatS w' w.heap.size v l ∧ num l = val bs.reverse ∧ l = trimW l ∧ l.length ≤ 1000000 ∧ Below w.heap.size w w' := by
 by_cases h0 : bs = []
 ·subst h0
  refine (setBytes_nil w A c).mono ?_
  rintro e w' ⟨rfl, rfl⟩
  exact ⟨_, [], rfl, .inl ⟨rfl, rfl⟩, rfl, rfl, by simp, Below.refl _ _⟩
 ·exact setBytes_ w A c bs h0 hb hl hr hc
theorem SetBytes_ (w : World) (a : Nat) (A : Option Addr) (c : Nat) (bs : List Int) (hz : Bg w a false (.slice none 0 0)) (hb : Byt bs) (hl : bs.length ≤ 1000000) (hr : Kd.C (Kd.int .u8) w A bs.length bs) (hc : bs.length ≤ c) :
  Calls Tryz.prog 92 #[.pointer (some ⟨a, 0, none⟩), .slice A bs.length c] w fun e w' => e = .returned (.pointer (some ⟨a, 0, none⟩)) ∧ BigAt w' a (val bs.reverse) ∧ Below a w w' := by
 have HS := za.mk (setBytes_all w A c bs hb hl hr hc)
 have HZ := za.mk hz
 have z1 := hz.c1
 clear hb hl hr hc hz
 go_enter Tryz.func92, Tryz.ntmps92
 go_wp2_with (first | (go_at_call 100; (with_reducible refine (HS.out).mono ?_); rintro e' w1 ⟨v, l, rfl, k1, k2, k3, k4, hb⟩; obtain ⟨pv, cv, rfl⟩ := k1.shape; have Z1 := za.mk (HZ.out.same (hb.block a HZ.out.lt)); have d1 := Z1.out.c1; have d0 := Z1.out.c0; have f1 := Z1.out.free 1; have f0 := Z1.out.free 0; have K1 := za.mk k1; have K2 := za.mk (And.intro k2 (And.intro k3 (And.intro k4 hb))); clear k1 k2 k3 k4 hb))
 go_ret
 have hlt := HZ.out.lt
 refine ⟨rfl, ⟨_, l, (Z1.out.set1 (.slice pv l.length cv)).set0 false, ?_, K2.out.1, K2.out.2.1, K2.out.2.2.1⟩, ?_⟩
 ·refine NatS.lower (NatS.other K1.out (fun k h1 h2 => ?_)) (Nat.le_of_lt hlt)
  rw [Below.heap_setCell _ _ _ _ (by show k ≠ a; omega), Below.heap_setCell _ _ _ _ (by show k ≠ a; omega)]
 ·exact zff (zff (zfb (Below.refl a w) (Nat.le_of_lt hlt) K2.out.2.2.2) (Nat.le_refl _)) (Nat.le_refl _)
theorem zzBig_ (w : World) (s : ByteArray) (hs : s.size ≤ 1000000) :
  Calls Tryz.prog 77 #[.agg #[.bool false, .string s]] w fun e w' => ∃ a, e = .returned (.pointer (some ⟨a, 0, none⟩)) ∧ BigAt w' a (val (bytesOf s).reverse) ∧ Below w.heap.size w w' := by
 have HB := za.mk (Below.refl w.heap.size w)
 have hcv := fun W => print_bytes (P := Tryz.prog) 9 23 5 Tryz.underlying9 Tryz.underlying23 Tryz.underlying5 s W
 have hsb := fun W a A c h1 h2 h3 h4 h5 => SetBytes_ W a A c (bytesOf s) h1 h2 h3 h4 h5
 simp only [bytesOf_length] at hsb
 have HSB := za.mk hsb
 have HS := za.mk hs
 have HBY : za (Byt (bytesOf s)) := ⟨zii s⟩
 have HRD := za.mk (fun W => Kd.C_of_reads (h1 := fun _ => rfl) (bytes_reads W 5 s (by omega)))
 have Z0 : za (Bg (Lib.bytesWorld ((w.alloc (.cells #[.bool false, .string s] 85)).alloc (.cells #[.bool false, .slice none 0 0] 100)) 5 s) (w.heap.size + 1) false (.slice none 0 0)) := ⟨by
  have h := zvc (w.alloc (.cells #[.bool false, .string s] 85)) (.cells #[.bool false, .slice none 0 0] 100)
  rw [zsb] at h
  exact zc h (zei (Below.refl _ _) (Nat.le_refl _) _ _)⟩
 have B0 : za (Below w.heap.size w (Lib.bytesWorld ((w.alloc (.cells #[.bool false, .string s] 85)).alloc (.cells #[.bool false, .slice none 0 0] 100)) 5 s)) := ⟨zei (zj (zj HB.out _) _) (by rw [zsb, zsb]; omega) _ _⟩
 have y0 := (zb (zc (zvb (zvc w (.cells #[.bool false, .string s] 85)) (.cells #[.bool false, .slice none 0 0] 100)) (zei (Below.refl _ _) (Nat.le_refl _) 5 s)) 0).trans rfl
 have HRD2 : za (Kd.C (Kd.int .u8) (Lib.bytesWorld ((w.alloc (.cells #[.bool false, .string s] 85)).alloc (.cells #[.bool false, .slice none 0 0] 100)) 5 s) (some ⟨w.heap.size + 1 + 1, 0, none⟩) s.size (bytesOf s)) := ⟨by
  have h := HRD.out ((w.alloc (.cells #[.bool false, .string s] 85)).alloc (.cells #[.bool false, .slice none 0 0] 100))
  rw [zsb, zsb] at h
  exact h⟩
 clear hs hsb
 go_enter Tryz.func77, Tryz.ntmps77
 go_wp2_with (first | (go_at_call 92; go_loud ((with_reducible refine (HSB.out _ (w.heap.size + 1) (some ⟨w.heap.size + 1 + 1, 0, none⟩) _ Z0.out HBY.out HS.out HRD2.out (grownCap_ge _ _ _ _)).mono ?_); rintro e' w1 ⟨rfl, k, hb⟩; have B1 := za.mk (B0.out.trans (hb.mono (Nat.le_succ _))); have K1 := za.mk k; have y1 := (World.cell?_of_block (a := ⟨w.heap.size, 0, none⟩) (hb.block w.heap.size (Nat.lt_succ_self _))).trans y0; clear k hb)))
 go_ret
 exact ⟨_, rfl, K1.out, B1.out⟩
end Go.Proofs.YtapaijpglfmfgaaGreatDoorG
end
