/- Proved here, for the row of the law FnPyPIStages: contracts of the Go functions that it reaches, each as its theorem 'calls' says, and the words and plain laws that they need (WWords, H, B, YT, WLast, WTab, WApart, WFoot, WKept, WShare, WN, WRepsOne, WGuard, WMore, Sx0, Sx1, Sx2, HC). -/
import Derived.Below
import Derived.Deep.Draws
import Derived.Deep.AppendLies
import Derived.Maps.AppendAt
import Derived.OwnWalk
import Derived.Laws.BytesArg
import Derived.Laws.MakeOwn
import Derived.Laws.OwnMore
import Derived.Deep.OwnRows
import Derived.Tactics
import Derived.Lib.ConvBytes
import Derived.Laws.Slices
import Derived.WalkKit
import Derived.KernelRfl
import Derived.RowKit3
import Derived.Deep.LoopGhost
import Derived.Deep.QuietTactic
import Derived.BigQuiet
import Derived.WideLaws
import Derived.Deep.DeepCutAuto
import Derived.Deep.CutBlock
import Derived.Deep.RegionHeld3
import Derived.Laws.Rows
import Derived.Lib.AppendStr
import Derived.ArgAppend
import Derived.Laws.IdiomCopy
import Derived.RowKit
import Derived.Test.YtlijjnjpomnphaaGreatDoorProg
import Derived.Laws.Runes
import Derived.Lib.Strings
import Derived.Lib.Slices
import Derived.Lib.Walk
import Derived.Lib.Bytealg
import Derived.LoopTactic
import Derived.Outline
import Derived.SliceStrings
import Derived.Laws.Strings
import Derived.Shelf.Strings.OnBuilder
import Derived.OrdersHeld
import Derived.Laws.BitsLemmas
set_option linter.unusedVariables false
set_option linter.unusedSimpArgs false
set_option maxHeartbeats 8000000
set_option maxRecDepth 100000
section
namespace Go.Proofs.YtlijjnjpomnphaaGreatDoorW.PrintWords
open Go.RowKit
structure za (p : Prop) : Prop where mk :: (out : p)
structure zo (w w' : World) : Prop where mk :: (out : ∃ n, w' = w.drewN n)
theorem zo.refl (w : World) : zo w w := ⟨⟨0, rfl⟩⟩
theorem zo.step {w w' : World} (h : zo w w') (n : Nat) : zo w (w'.drewN n) := by
 obtain ⟨m, rfl⟩ := h
 exact ⟨⟨m + n, World.drewN_drewN ..⟩⟩
theorem zo.below {w w' : World} (h : zo w w') : Below w.heap.size w w' := by
 obtain ⟨n, rfl⟩ := h
 induction n with
 | zero => exact Below.refl _ _
 | succ n ih => rw [← World.drew_drewN]; exact ih.drew
def rd (xs : List Int) (i : Int) : Int := xs.getD i.toNat 0
def bt (s : ByteArray) (i : Int) : Int := if h : i.toNat < s.size then ((s[i.toNat]'h).toNat : Int) else 0
theorem bt_at (s : ByteArray) (i : Int) : ∀ h : i.toNat < s.size, ((s[i.toNat]'h).toNat : Int) = bt s i := fun h => by simp [bt, h]
theorem bt_range (s : ByteArray) (i : Int) : 0 ≤ bt s i ∧ bt s i ≤ 255 := by
 unfold bt
 split
 ·rename_i h
  have := (s[i.toNat]'h).toNat_lt
  omega
 ·omega
def nums (k : IntKind) (xs : List Int) : List Value := xs.map fun x => .int k x
theorem zm {w W : World} (h : Below w.heap.size w W) (o : Obj) : Below w.heap.size w (W.alloc o) := h.alloc h.size o
theorem below_drew {B : Nat} {w W : World} (h : Below B w W) : Below B w W.drew := ⟨h.os, h.tape, h.output, h.size, h.block⟩
theorem zg {B : Nat} {w W : World} (h : Below B w W) (n : Nat) : Below B w (W.drewN n) := ⟨h.os, h.tape, h.output, h.size, h.block⟩
theorem zq {B : Nat} {w w1 w2 : World} (h : Below B w w1) (hB : B ≤ w1.heap.size) (k : Below w1.heap.size w1 w2) : Below B w w2 :=
 h.trans ⟨k.os, k.tape, k.output, k.size, fun i hi => k.block i (Nat.lt_of_lt_of_le hi hB)⟩
theorem grown_of_below {w w1 : World} (h : Below w.heap.size w w1) (row : Option Nat) : w.grownBy w1 row := ⟨h.os, h.tape, h.output, h.size, fun i hi _ => h.block i hi⟩
theorem zif {w w1 : World} (h : Below w.heap.size w w1) {a : Addr} {v : Value} (hc : w.cell? a = some v) : w1.cell? a = some v := (h.cell (World.block_lt_of_cell? w a hc)).trans hc
theorem add_plain (g j : Nat) : (⟨g, 0, none⟩ : Addr).add j = ⟨g, j, none⟩ := by unfold Addr.add; split <;> simp_all
def zqd (w : World) (k : IntKind) (A : Option Addr) (n : Nat) (xs : List Int) : Prop :=
 xs.length = n ∧ n ≤ 9223372036854775807 ∧ (0 < n → ∃ ad, A = some ad ∧ ∀ j, j < n → w.cell? (ad.add j) = some (.int k (xs.getD j 0)))
theorem zqd.below {w w1 : World} {k : IntKind} {A : Option Addr} {n : Nat} {xs : List Int} (h : zqd w k A n xs) (hb : Below w.heap.size w w1) : zqd w1 k A n xs :=
 ⟨h.1, h.2.1, fun hn => by
  obtain ⟨ad, e, hc⟩ := h.2.2 hn
  exact ⟨ad, e, fun j hj => zif hb (hc j hj)⟩⟩
theorem own_nil (W : World) (base : Nat) (e : TypeId) (size : Nat) : W.ownsRow base e size (.slice none 0 0) 0 [] := ⟨by simp, .inl ⟨rfl, rfl⟩⟩
theorem own_base {w : World} {base : Nat} {e : TypeId} {size n : Nat} {v : Value} {xs : List Value} (h : w.ownsRow base e size v n xs) (k : Nat) (hk : v.ownBlock = some k) : base ≤ k := by
 rcases h.2 with ⟨rfl, _⟩ | ⟨g, cap, cur, rfl, hb, _⟩
 ·simp [Value.ownBlock] at hk
 ·have : g = k := by simpa [Value.ownBlock] using hk
  omega
theorem own_lt {w : World} {base : Nat} {e : TypeId} {size n : Nat} {v : Value} {xs : List Value} (h : w.ownsRow base e size v n xs) (k : Nat) (hk : v.ownBlock = some k) : k < w.heap.size := by
 rcases h.2 with ⟨rfl, _⟩ | ⟨g, cap, cur, rfl, hb, hh, _⟩
 ·simp [Value.ownBlock] at hk
 ·have : g = k := by simpa [Value.ownBlock] using hk
  subst this
  exact (Array.getElem?_eq_some_iff.1 hh).1
theorem pw_own_below {w w1 : World} {base : Nat} {e : TypeId} {size n : Nat} {v : Value} {xs : List Value} (h : w.ownsRow base e size v n xs) (hb : Below w.heap.size w w1) : w1.ownsRow base e size v n xs :=
 h.kept (grown_of_below hb none) (by cases v.ownBlock <;> simp)
theorem own_other {w w1 : World} {base : Nat} {e : TypeId} {size n : Nat} {v : Value} {xs : List Value} (h : w.ownsRow base e size v n xs) {row : Option Nat} (hg : w.grownBy w1 row) (hne : v.ownBlock = none ∨ v.ownBlock ≠ row) : w1.ownsRow base e size v n xs := h.kept hg hne
theorem own_slice {w : World} {base n : Nat} {e : TypeId} {size : Nat} {v : Value} {xs : List Value} (h : w.ownsRow base e size v n xs) : ∃ A c, v = .slice A n c := by
 rcases h.2 with ⟨rfl, rfl⟩ | ⟨g, cap, cur, rfl, _⟩
 ·exact ⟨none, 0, rfl⟩
 ·exact ⟨_, cap, rfl⟩
theorem own_string {P : Program} {w : World} {base n : Nat} {e' src dst e : TypeId} {v : Value} {xs : List Int} (hs : P.underlying src = some (.slice e)) (he : P.underlying e = some (.int .u8)) (hd : P.underlying dst = some .string)
  (h : w.ownsRow base e' 1 v n (nums .u8 xs)) : (convert src dst v).run P w = .ok (.string (strOfNums xs)) w := by
 have hl : xs.length = n := by have := h.1; simp [nums] at this; exact this
 rcases h.2 with ⟨rfl, rfl⟩ | ⟨g, cap, cur, rfl, _⟩
 ·obtain rfl : xs = [] := List.eq_nil_of_length_eq_zero hl
  exact run_convert_bytes_nil w src e hs he 0 0 dst hd
 ·refine run_convert_bytes_arg w src e hs he g 0 n cap xs hl (fun i hi => ?_) dst hd
  have hc := h.cells (g := g) rfl i (.int .u8 (xs.getD i 0)) (by simp [nums, List.getElem?_eq_getElem (show i < xs.length by omega), List.getD_eq_getElem?_getD])
  have ha : (⟨g, 0, none⟩ : Addr).add i = ⟨g, 0 + i, none⟩ := by unfold Addr.add; split <;> simp_all
  rwa [ha] at hc
section
variable {P : Program} {ops : Array Oper} {rest : List Oper} {o : Oper} {a : Act} {Q : Exit → Act → World → Prop}
end
section
variable {P : Program}
end
section
variable {P : Program} {ops : Array Oper} {rest : List Oper} {o : Oper} {a : Act} {Q : Exit → Act → World → Prop}
end
def bytesOf (s : ByteArray) : List Int := s.data.toList.map fun b => (b.toNat : Int)
theorem zpg (s : ByteArray) : s.data.toList.length = s.size := by rw [Array.length_toList]; rfl
theorem bytesOf_length (s : ByteArray) : (bytesOf s).length = s.size := by rw [bytesOf, List.length_map, zpg]
theorem rd_bytesOf (s : ByteArray) (i : Int) : rd (bytesOf s) i = bt s i := by
 unfold rd bt bytesOf
 split
 ·rename_i h
  have h' : i.toNat < s.data.toList.length := by rw [zpg]; exact h
  simp [List.getD_eq_getElem?_getD, List.getElem?_eq_getElem h']
  rfl
 ·rename_i h
  have h' : s.data.toList.length ≤ i.toNat := by rw [zpg]; omega
  simp [List.getD_eq_getElem?_getD, List.getElem?_eq_none h']
def LeO {α : Type} (a b : Option α) : Prop := ∀ r, a = some r → b = some r
theorem LeO.refl {α : Type} (a : Option α) : LeO a a := fun _ h => h
theorem LeO.none {α : Type} (b : Option α) : LeO Option.none b := fun _ h => by cases h
theorem LeO.trans {α : Type} {a b c : Option α} (h : LeO a b) (k : LeO b c) : LeO a c := fun r hr => k r (h r hr)
theorem LeO.bind {α β : Type} {a a' : Option α} {f f' : α → Option β} (h : LeO a a') (k : ∀ x, LeO (f x) (f' x)) : LeO (a.bind f) (a'.bind f') := by
 intro r hr
 obtain ⟨x, hx, hf⟩ := Option.bind_eq_some_iff.1 hr
 exact Option.bind_eq_some_iff.2 ⟨x, h x hx, k x r hf⟩
theorem LeO.map {α β : Type} {a a' : Option α} (f : α → β) (h : LeO a a') : LeO (a.map f) (a'.map f) := by
 intro r hr
 obtain ⟨x, hx, hf⟩ := Option.map_eq_some_iff.1 hr
 exact Option.map_eq_some_iff.2 ⟨x, h x hx, hf⟩
theorem more_rounds {α : Type} {g : Nat → Option α} (h : ∀ k, LeO (g k) (g (k + 1))) (k : Nat) : ∀ j, LeO (g k) (g (k + j))
 | 0 => LeO.refl _
 | j + 1 => (more_rounds h k j).trans (h (k + j))
theorem at_rounds {α : Type} {g : Nat → Option α} (h : ∀ k, LeO (g k) (g (k + 1))) {k k' : Nat} (hk : k ≤ k') {r : α} (hr : g k = some r) : g k' = some r := by
 have := more_rounds h k (k' - k) r hr
 rwa [Nat.add_sub_cancel' hk] at this
def Reps {α : Type} (R : α → List Value → Prop) (size : Nat) (ps : List α) (cs : List Value) : Prop :=
 cs.length = ps.length * size ∧ ∀ j p, ps[j]? = some p → R p ((cs.drop (j * size)).take size)
theorem Reps.none {α : Type} (R : α → List Value → Prop) (size : Nat) : Reps R size [] [] := ⟨by simp, fun j p h => by simp at h⟩
theorem Reps.snoc {α : Type} {R : α → List Value → Prop} {size : Nat} {ps : List α} {cs c : List Value} {p : α} (h : Reps R size ps cs) (hp : R p c) (hc : c.length = size) : Reps R size (ps ++ [p]) (cs ++ c) := by
 refine ⟨by rw [List.length_append, h.1, hc, List.length_append, List.length_singleton, Nat.add_mul, Nat.one_mul], fun j q hq => ?_⟩
 rcases Nat.lt_or_ge j ps.length with hj | hj
 ·rw [List.getElem?_append_left hj] at hq
  have h1 : j * size + size ≤ cs.length := by rw [h.1, ← Nat.succ_mul]; exact Nat.mul_le_mul_right _ hj
  have h2 := h.2 j q hq
  rw [List.drop_append_of_le_length (by omega), List.take_append_of_le_length (by rw [List.length_drop]; omega)]
  exact h2
 ·have hj' : j = ps.length := by
   have := (List.getElem?_eq_some_iff.1 hq).1
   rw [List.length_append, List.length_singleton] at this
   omega
  subst hj'
  have hq' : p = q := by simpa using hq
  subst hq'
  rw [← h.1, List.drop_left, ← hc, List.take_length]
  exact hp
theorem Reps.imp_ {α : Type} {R R' : α → List Value → Prop} {size : Nat} {ps : List α} {cs : List Value} (h : Reps R size ps cs) (hR : ∀ p c, R p c → R' p c) : Reps R' size ps cs := ⟨h.1, fun j p hj => hR _ _ (h.2 j p hj)⟩
def zef {α : Type} (R : α → List Value → Prop) (size : Nat) (w : World) (A : Option Addr) (n : Nat) (ps : List α) : Prop :=
 ps.length = n ∧ n ≤ 9223372036854775807 ∧ (0 < n → ∃ ad, A = some ad ∧ ∀ j p, ps[j]? = some p → ∃ c, c.length = size ∧ R p c ∧ ∀ i u, c[i]? = some u → w.cell? (ad.add (j * size + i)) = some u)
theorem zef.imp_ {α : Type} {R R' : α → List Value → Prop} {size : Nat} {w w1 : World} {A : Option Addr} {n : Nat} {ps : List α} (h : zef R size w A n ps) (hb : Below w.heap.size w w1) (hR : ∀ p c, R p c → R' p c) : zef R' size w1 A n ps :=
 ⟨h.1, h.2.1, fun hn => by
  obtain ⟨ad, e, hc⟩ := h.2.2 hn
  refine ⟨ad, e, fun j p hj => ?_⟩
  obtain ⟨c, hs, hr, hcell⟩ := hc j p hj
  exact ⟨c, hs, hR _ _ hr, fun i u hu => zif hb (hcell i u hu)⟩⟩
theorem own_reads_row {α : Type} {R : α → List Value → Prop} {w : World} {base n size : Nat} {e : TypeId} {v : Value} {ps : List α} {cs : List Value} (h : w.ownsRow base e size v n cs) (hR : Reps R size ps cs) (hn : ps.length = n) :
  ∃ A c, v = .slice A n c ∧ zef R size w A n ps := by
 rcases Nat.eq_zero_or_pos n with h0 | h0
 ·rcases h.2 with ⟨rfl, rfl⟩ | ⟨g, cap, cur, rfl, _⟩
  ·exact ⟨none, 0, rfl, hn, by omega, fun hp => absurd hp (by omega)⟩
  ·exact ⟨_, cap, rfl, hn, by omega, fun hp => absurd hp (by omega)⟩
 ·obtain ⟨g, cap, rfl, _, _⟩ := h.form h0
  have hm : n ≤ 9223372036854775807 := by
   rcases h.2 with ⟨_, h1⟩ | ⟨g', cap', cur, he, _, _, h1, h2, _⟩
   ·omega
   ·simp only [maxLen] at h2
    omega
  refine ⟨_, cap, rfl, hn, hm, fun _ => ⟨_, rfl, fun j p hj => ⟨(cs.drop (j * size)).take size, ?_, hR.2 j p hj, fun i u hu => ?_⟩⟩⟩
  ·have hjl := (List.getElem?_eq_some_iff.1 hj).1
   have h1 : j * size + size ≤ cs.length := by rw [hR.1, ← Nat.succ_mul]; exact Nat.mul_le_mul_right _ hjl
   rw [List.length_take, List.length_drop]
   omega
  ·refine h.cells (g := g) rfl _ u ?_
   rw [List.getElem?_take] at hu
   split at hu
   ·rw [List.getElem?_drop] at hu
    exact hu
   ·cases hu
section
variable {P : Program} {ops : Array Oper} {rest : List Oper} {o : Oper} {a : Act} {Q : Exit → Act → World → Prop}
theorem ztg {w0 W : World} (base : Nat) (hgd : o.guard = none) (s x : Operand) (t e : TypeId) (z : Value) (size bytes : Nat)
  (ho : o.op = .call { callee := .builtin .append, args := #[s, x], argTypes := #[t, t] })
  (ht : P.underlying t = some (.slice e)) (hinfo : (P.info? e).map (fun i => (i.zero, i.size, i.bytes)) = some (some z, size, bytes)) (hz : z.cells.size = size) (hs0 : 0 < size) (hb0 : 0 < bytes)
  (v : Value) (n : Nat) (xs ys : List Value) (hs : a.eval s = v) (hx : a.eval x = .slice (some ⟨W.heap.size, 0, none⟩) 1 1) (hys : ys.length = size) (h1 : ∀ u ∈ ys, u.oneCell' = true)
  (HO : W.ownsRow base e size v n xs) (HB : Below base w0 W) (hbase : base ≤ W.heap.size) (hl : (n + 1) * bytes ≤ 140737488355328)
  (h : ∀ v1 w1, w1.ownsRow base e size v1 (n + 1) (xs ++ ys) → Below base w0 w1 → W.grownBy w1 v.ownBlock → (v1.ownBlock = v.ownBlock ∨ ∃ b, v1.ownBlock = some b ∧ W.heap.size ≤ b) → wpList P ops Q rest (a.put o.dst v1) w1) :
  wpList P ops Q (o :: rest) a (W.alloc (.cells ys.toArray e)) := by
 obtain ⟨i0, hi, hzz⟩ := Option.map_eq_some_iff.1 hinfo
 simp only [Prod.mk.injEq] at hzz
 obtain ⟨hz0, hz1, hz2⟩ := hzz
 have hlen : n + 1 ≤ 140737488355328 := Nat.le_trans (Nat.le_mul_of_pos_right _ hb0) hl
 refine wpList_append_own_at (W.alloc (.cells ys.toArray e)) hgd s x t ho base e i0 z size bytes ht hi hz0 hz1 hz2 hz hs0 v n xs hs (HO.alloc _) ⟨W.heap.size, 0, none⟩ 1 1 ys hx (by rw [hys]; simp)
  (by simpa using World.news_of_block (cs := ys.toArray) (t := e) (fr := (0, 0)) (heap_alloc_new W (.cells ys.toArray e))) h1 (by simp only [maxLen]; omega) hl (by simp; omega) ?_
 intro v1 w1 hown hg _ hat
 refine h v1 w1 hown ((HB.alloc hbase _).grown hg (by simp; omega) (own_base HO)) (World.grownBy.trans (World.grownBy_alloc W _ _) hg) ?_
 rcases hat with hat | hat
 ·exact .inl hat
 ·exact .inr ⟨_, hat, by simp⟩
end
theorem own_ne {w : World} {base : Nat} {e t : TypeId} {size n g : Nat} {v : Value} {xs : List Value} {cs : Array Value} (h : w.ownsRow base e size v n xs) (hg : w.heap[g]? = some (.cells cs t (0, 0))) (hne : e ≠ t) : some g ≠ v.ownBlock := by
 rcases h.2 with ⟨rfl, _⟩ | ⟨g', cap, cur, rfl, _, hh, _⟩
 ·simp [Value.ownBlock]
 ·intro he
  have : g = g' := by simpa [Value.ownBlock] using he
  subst this
  rw [hg] at hh
  injection hh with hh
  injection hh with _ ht
  exact hne ht.symm
theorem blk_set {w : World} {g : Nat} {t : TypeId} {cs : Array Value} (h : w.heap[g]? = some (.cells cs t (0, 0))) (i : Nat) (u : Value) : (w.setCell ⟨g, i, none⟩ u).heap[g]? = some (.cells (cs.setIfInBounds i u) t (0, 0)) := by
 simp [World.setCell, Array.getElem?_modify, h]
theorem zcc {w : World} {g : Nat} {t : TypeId} {cs : Array Value} (h : w.heap[g]? = some (.cells cs t (0, 0))) {p : Addr} (hp : g ≠ p.block) (u : Value) : (w.setCell p u).heap[g]? = some (.cells cs t (0, 0)) := (Below.heap_setCell w p u g hp).trans h
theorem zqe {w : World} {g : Nat} {o : Obj} (h : w.heap[g]? = some o) : g < w.heap.size := (Array.getElem?_eq_some_iff.1 h).1
theorem zd {w : World} {g : Nat} {t : TypeId} {cs : Array Value} (h : w.heap[g]? = some (.cells cs t (0, 0))) (i : Nat) : w.cell? ⟨g, i, none⟩ = cs[i]? := cell_of_row w g i cs t (0, 0) h
theorem zj {w : World} {g : Nat} {t : TypeId} {cs : Array Value} (h : w.heap[g]? = some (.cells cs t (0, 0))) (i : Nat) : w.frozen? ⟨g, i, none⟩ = false := by simp [World.frozen?, h]
theorem zae {w w1 : World} {g : Nat} {o : Obj} {row : Option Nat} (h : w.heap[g]? = some o) (hg : w.grownBy w1 row) (hne : some g ≠ row) : w1.heap[g]? = some o := (hg.block g (zqe h) hne).trans h
def zve (w w' : World) (g : Nat) (row : Option Nat) : Prop := w.heap.size ≤ w'.heap.size ∧ ∀ i, i < w.heap.size → i ≠ g → some i ≠ row → w'.heap[i]? = w.heap[i]?
theorem zve.of_below {w w1 : World} (h : Below w.heap.size w w1) (g : Nat) (row : Option Nat) : zve w w1 g row := ⟨h.size, fun i hi _ _ => h.block i hi⟩
theorem zve.trans {w w1 w2 : World} {g : Nat} {row row1 : Option Nat} (h : zve w w1 g row) (k : zve w1 w2 g row1) (hr : row1 = row ∨ ∃ b, row1 = some b ∧ w.heap.size ≤ b) : zve w w2 g row :=
 ⟨Nat.le_trans h.1 k.1, fun i hi hg hn => by
  refine (k.2 i (Nat.lt_of_lt_of_le hi h.1) hg ?_).trans (h.2 i hi hg hn)
  rcases hr with rfl | ⟨b, rfl, hb⟩
  ·exact hn
  ·intro e
   injection e with e
   omega⟩
theorem zve.blk {w w1 : World} {g g' : Nat} {row : Option Nat} {o : Obj} (h : zve w w1 g row) (hb : w.heap[g']? = some o) (hg : g' ≠ g) (hr : some g' ≠ row) : w1.heap[g']? = some o := (h.2 g' (zqe hb) hg hr).trans hb
theorem zve.own {w w1 : World} {g : Nat} {row : Option Nat} {base : Nat} {e : TypeId} {size n : Nat} {v : Value} {xs : List Value} (h : zve w w1 g row) (ho : w.ownsRow base e size v n xs) (hg : v.ownBlock ≠ some g) (hr : v.ownBlock = none ∨ v.ownBlock ≠ row) : w1.ownsRow base e size v n xs := by
 obtain ⟨h1, h2⟩ := ho
 refine ⟨h1, ?_⟩
 rcases h2 with h2 | ⟨b, cap, cur, rfl, hb, hh, r⟩
 ·exact .inl h2
 ·refine .inr ⟨b, cap, cur, rfl, hb, h.blk hh ?_ ?_, r⟩
  ·intro e
   exact hg (by rw [← e]; rfl)
  ·rcases hr with hr | hr
   ·simp [Value.ownBlock] at hr
   ·exact hr
def Ev {α : Type} (g : Nat → Option α) (r : α) : Prop := ∃ K, ∀ k, K ≤ k → g k = some r
theorem Ev.of {α : Type} {g : Nat → Option α} {r : α} (hg : ∀ k, LeO (g k) (g (k + 1))) {k : Nat} (h : g k = some r) : Ev g r := ⟨k, fun _ hk => at_rounds hg hk h⟩
theorem Ev.now {α : Type} (r : α) : Ev (fun _ => some r) r := ⟨0, fun _ _ => rfl⟩
theorem Ev.rounds {α : Type} {g : Nat → Option α} {r : α} (h : Ev g r) : ∃ k, g k = some r := by
 obtain ⟨K, h⟩ := h
 exact ⟨K, h K (Nat.le_refl _)⟩
theorem Ev.bind {α β : Type} {g : Nat → Option α} {f : Nat → α → Option β} {a : α} {r : β} (h : Ev g a) (k : Ev (fun n => f n a) r) : Ev (fun n => (g n).bind (f n)) r := by
 obtain ⟨K, h⟩ := h
 obtain ⟨K', k⟩ := k
 refine ⟨max K K', fun n hn => ?_⟩
 have h1 := h n (by omega)
 have h2 := k n (by omega)
 simp only [h1, Option.bind_some]
 exact h2
theorem Ev.step {α : Type} {g f : Nat → Option α} {r : α} (h : ∀ k, g (k + 1) = f k) (k : Ev f r) : Ev g r := by
 obtain ⟨K, k⟩ := k
 refine ⟨K + 1, fun n hn => ?_⟩
 obtain ⟨m, rfl⟩ : ∃ m, n = m + 1 := ⟨n - 1, by omega⟩
 rw [h]
 exact k m (by omega)
theorem Ev.congr {α : Type} {g f : Nat → Option α} {r : α} (h : ∀ k, g k = f k) (k : Ev f r) : Ev g r := by
 obtain ⟨K, k⟩ := k
 exact ⟨K, fun n hn => (h n).trans (k n hn)⟩
section
variable {P : Program} {ops : Array Oper} {o : Oper} {a : Act} {Q : Exit → Act → World → Prop} {K : Act → World → Prop}
theorem zih {w0 W : World} (base : Nat) (hw : Region.wanted o (yielded ops a.tmps) = true) (s x : Operand) (t e : TypeId) (z : Value) (size bytes : Nat)
  (ho : o.op = .call { callee := .builtin .append, args := #[s, x], argTypes := #[t, t] })
  (ht : P.underlying t = some (.slice e)) (hinfo : (P.info? e).map (fun i => (i.zero, i.size, i.bytes)) = some (some z, size, bytes)) (hz : z.cells.size = size) (hs0 : 0 < size) (hb0 : 0 < bytes)
  (v : Value) (n : Nat) (xs ys : List Value) (hs : a.eval s = v) (hx : a.eval x = .slice (some ⟨W.heap.size, 0, none⟩) 1 1) (hys : ys.length = size) (h1 : ∀ u ∈ ys, u.oneCell' = true)
  (HO : W.ownsRow base e size v n xs) (HB : Below base w0 W) (hbase : base ≤ W.heap.size) (hl : (n + 1) * bytes ≤ 140737488355328)
  (h : ∀ v1 w1, w1.ownsRow base e size v1 (n + 1) (xs ++ ys) → Below base w0 w1 → W.grownBy w1 v.ownBlock → (v1.ownBlock = v.ownBlock ∨ ∃ b, v1.ownBlock = some b ∧ W.heap.size ≤ b) → K (a.put o.dst v1) w1) :
  if Region.wanted o (yielded ops a.tmps) = true then Oper.wp P o a (W.alloc (.cells ys.toArray e)) K Q else K (a.put o.dst undef) (W.alloc (.cells ys.toArray e)) := by
 obtain ⟨i0, hi, hzz⟩ := Option.map_eq_some_iff.1 hinfo
 simp only [Prod.mk.injEq] at hzz
 obtain ⟨hz0, hz1, hz2⟩ := hzz
 have hlen : n + 1 ≤ 140737488355328 := Nat.le_trans (Nat.le_mul_of_pos_right _ hb0) hl
 rw [if_pos hw]
 obtain ⟨v1, w1, hr, hown, hg, _, hat⟩ := run_append_own_at (P := P) (W.alloc (.cells ys.toArray e)) base t o.type e i0 z size bytes ht hi hz0 hz1 hz2 hz hs0 v n xs (HO.alloc _) ⟨W.heap.size, 0, none⟩ 1 1 ys (by rw [hys]; simp)
  (by simpa using World.news_of_block (cs := ys.toArray) (t := e) (fr := (0, 0)) (heap_alloc_new W (.cells ys.toArray e))) h1 (by simp only [maxLen]; omega) hl (by simp; omega)
 unfold Oper.wp execOp
 simp only [ho, resolve, invoke, builtin, Sem.run_bind, Sem.run_pure, Result.andThen_ok, List.map_toArray, List.map_cons, List.map_nil, hs, hx, hr]
 refine h v1 w1 hown ((HB.alloc hbase _).grown hg (by simp; omega) (own_base HO)) (World.grownBy.trans (World.grownBy_alloc W _ _) hg) ?_
 rcases hat with hat | hat
 ·exact .inl hat
 ·exact .inr ⟨_, hat, by simp⟩
end
theorem own_weaken {w : World} {base base' : Nat} {e : TypeId} {size n : Nat} {v : Value} {xs : List Value} (h : w.ownsRow base e size v n xs) (hb : base' ≤ base) : w.ownsRow base' e size v n xs := by
 obtain ⟨h1, h2⟩ := h
 refine ⟨h1, ?_⟩
 rcases h2 with h2 | ⟨g, cap, cur, rfl, hg, r⟩
 ·exact .inl h2
 ·exact .inr ⟨g, cap, cur, rfl, Nat.le_trans hb hg, r⟩
section
variable {α : Type} {enc : α → Value} {d : α}
def encs (enc : α → Value) (xs : List α) : List Value := xs.map enc
def rdOf (d : α) (xs : List α) (i : Int) : α := xs.getD i.toNat d
theorem encs_length (xs : List α) : (encs enc xs).length = xs.length := by simp [encs]
theorem encs_get (xs : List α) (j : Nat) (h : j < xs.length) : (encs enc xs)[j]? = some (enc (xs.getD j d)) := by
 simp [encs, List.getElem?_eq_getElem h, List.getD_eq_getElem?_getD]
def zof (enc : α → Value) (d : α) (w : World) (A : Option Addr) (n : Nat) (xs : List α) : Prop :=
 xs.length = n ∧ n ≤ 9223372036854775807 ∧ (0 < n → ∃ ad, A = some ad ∧ ∀ j, j < n → w.cell? (ad.add j) = some (enc (xs.getD j d)))
theorem zof.at_ {w : World} {A : Option Addr} {n : Nat} {xs : List α} (h : zof enc d w A n xs) (i : Int) (h0 : 0 ≤ i) (h1 : i < n) : ∃ ad, A = some ad ∧ w.cell? (ad.add i.toNat) = some (enc (rdOf d xs i)) := by
 obtain ⟨ad, e, hc⟩ := h.2.2 (by omega)
 exact ⟨ad, e, hc _ (by omega)⟩
theorem zof.below {w w1 : World} {A : Option Addr} {n : Nat} {xs : List α} (h : zof enc d w A n xs) (hb : Below w.heap.size w w1) : zof enc d w1 A n xs :=
 ⟨h.1, h.2.1, fun hn => by
  obtain ⟨ad, e, hc⟩ := h.2.2 hn
  exact ⟨ad, e, fun j hj => zif hb (hc j hj)⟩⟩
theorem own_at_of {W : World} {base g n cap : Nat} {e : TypeId} {xs : List α} (h : W.ownsRow base e 1 (.slice (some ⟨g, 0, none⟩) n cap) n (encs enc xs)) (i : Int) (h0 : 0 ≤ i) (h1 : i < n) :
  W.cell? ⟨g, i.toNat, none⟩ = some (enc (rdOf d xs i)) ∧ W.frozen? ⟨g, i.toNat, none⟩ = false := by
 have hl : xs.length = n := by have := h.1; simp [encs] at this; exact this
 constructor
 ·have hc := h.cells (g := g) rfl i.toNat _ (encs_get (d := d) xs i.toNat (by omega))
  rwa [add_plain] at hc
 ·rcases h.2 with ⟨h', _⟩ | ⟨g', cap', cur, h', _, hh, _⟩
  ·cases h'
  ·have : g = g' := by injection h' with h'; injection h' with h'; injection h' with h'
   subst this
   simp [World.frozen?, hh]
theorem own_store_of {W : World} {base g n cap : Nat} {e : TypeId} {xs : List α} (h : W.ownsRow base e 1 (.slice (some ⟨g, 0, none⟩) n cap) n (encs enc xs)) (i : Int) (x : α) :
  (W.setCell ⟨g, i.toNat, none⟩ (enc x)).ownsRow base e 1 (.slice (some ⟨g, 0, none⟩) n cap) n (encs enc (xs.set i.toNat x)) ∧ W.grownBy (W.setCell ⟨g, i.toNat, none⟩ (enc x)) (some g) := by
 have hs := h.stored i.toNat (enc x)
 have he : (encs enc xs).set i.toNat (enc x) = encs enc (xs.set i.toNat x) := by simp [encs, List.map_set]
 rwa [he] at hs
end
section
variable {α : Type} {P : Program} {ops : Array Oper} {rest : List Oper} {o : Oper} {a : Act} {Q : Exit → Act → World → Prop}
end
theorem zgb {w : World} {g : Nat} {o : Obj} (h : w.heap[g]? = some o) (o' : Obj) : (w.alloc o').heap[g]? = some o := (Below.heap_alloc w o' g (zqe h)).trans h
theorem zjd {w : World} {g : Nat} {o : Obj} (h : w.heap[g]? = some o) : w.drew.heap[g]? = some o := h
theorem zw {w : World} {g : Nat} {o : Obj} (h : w.heap[g]? = some o) (n : Nat) : (w.drewN n).heap[g]? = some o := h
theorem zh {w w1 : World} {g : Nat} {o : Obj} (h : w.heap[g]? = some o) (hb : Below w.heap.size w w1) : w1.heap[g]? = some o := (hb.block g (zqe h)).trans h
theorem zvc (w : World) (o : Obj) : (w.alloc o).heap[w.heap.size]? = some o := heap_alloc_new w o
section
variable {P : Program}
theorem zbg {fn : Func} {p u : Tmp} {ty : TypeId} (h : fn.results = #[.cell p ty, .tmp u]) (tmps : Array Value) (w : World) (g : Nat) (t : TypeId) (cs : Array Value) (fr : Nat × Nat) (d : TypeDesc)
    (hp : tmps.getD p undef = .pointer (some ⟨g, 0, none⟩)) (hg : w.heap[g]? = some (.cells cs t fr))
    (hu : P.underlying ty = some d) (hd : (match d with | .struct _ | .array _ _ => true | _ => false) = true) (hi : (P.info? ty).map (·.size) = some cs.size) :
    (results fn tmps).run P w = .ok (.tuple #[.agg cs, tmps.getD u undef]) w := by
  have hp' : tmps[p]?.getD undef = .pointer (some ⟨g, 0, none⟩) := by simpa using hp
  simp [results, h, hp', asAddr, run_loadVar_row w g t ty cs fr d hg hu hd hi]
end
theorem own_le {w : World} {base n m c size : Nat} {e : TypeId} {A : Option Addr} {xs : List Value} (h : w.ownsRow base e size (.slice A m c) n xs) : m ≤ c := by
 rcases h.2 with ⟨he, _⟩ | ⟨g, cap, cur, he, _, _, hnc, _⟩
 ·injection he with _ h2 h3
  omega
 ·injection he with _ h2 h3
  omega
def zrd {α : Type} (R : α → List Value → Prop) (e : TypeId) (size : Nat) (w : World) (base : Nat) (v : Value) (ps : List α) : Prop :=
 ∃ inner, w.ownsRow base e size v ps.length inner ∧ Reps R size ps inner
section
variable {α : Type} {R R' : α → List Value → Prop} {e : TypeId} {size : Nat} {w w1 : World} {base : Nat} {v : Value} {ps : List α}
theorem zrd.none_ (R : α → List Value → Prop) (e : TypeId) (size : Nat) (w : World) (base : Nat) : zrd R e size w base (.slice none 0 0) [] := ⟨[], own_nil _ _ _ _, Reps.none _ _⟩
theorem zrd.imp_ (h : zrd R e size w base v ps) (hR : ∀ p c, R p c → R' p c) : zrd R' e size w base v ps := by
 obtain ⟨inner, ho, hr⟩ := h
 exact ⟨inner, ho, hr.imp_ hR⟩
theorem zrd.below (h : zrd R e size w base v ps) (hb : Below w.heap.size w w1) : zrd R e size w1 base v ps := by
 obtain ⟨inner, ho, hr⟩ := h
 exact ⟨inner, pw_own_below ho hb, hr⟩
theorem zrd.other (h : zrd R e size w base v ps) {row : Option Nat} (hg : w.grownBy w1 row) (hne : v.ownBlock = none ∨ v.ownBlock ≠ row) : zrd R e size w1 base v ps := by
 obtain ⟨inner, ho, hr⟩ := h
 exact ⟨inner, own_other ho hg hne, hr⟩
theorem zrd.reads (h : zrd R e size w base v ps) : ∃ A c, v = .slice A ps.length c ∧ ps.length ≤ c ∧ zef R size w A ps.length ps := by
 obtain ⟨inner, ho, hr⟩ := h
 obtain ⟨A, c, rfl, hrow⟩ := own_reads_row ho hr rfl
 exact ⟨A, c, rfl, own_le ho, hrow⟩
theorem zrd.ne_block (h : zrd R e size w base v ps) {g : Nat} {t : TypeId} {cells : Array Value} (hb : w.heap[g]? = some (.cells cells t (0, 0))) (ht : e ≠ t) : some g ≠ v.ownBlock := by
 obtain ⟨inner, ho, hr⟩ := h
 exact own_ne ho hb ht
theorem zrd.lit (W : World) (base : Nat) {inner : List Value} (hr : Reps R size ps inner) (hb : base ≤ W.heap.size) (hm : ps.length ≤ 9223372036854775807) :
  zrd R e size (W.alloc (.cells inner.toArray e)) base (.slice (some ⟨W.heap.size, 0, none⟩) ps.length ps.length) ps := by
 have h := World.ownsRow_lit (base := base) (e := e) (size := size) W inner.toArray ps.length hb (by simpa [maxLen] using hm) (by simpa using hr.1)
 exact ⟨inner, by simpa using h, hr⟩
end
section
variable {P : Program} {ops : Array Oper} {rest : List Oper} {o : Oper} {a : Act} {Q : Exit → Act → World → Prop} {α : Type} {R : α → List Value → Prop}
end
section
variable {P : Program} {ops : Array Oper} {o : Oper} {a : Act} {Q : Exit → Act → World → Prop} {K : Act → World → Prop} {α : Type} {R : α → List Value → Prop}
end
section
variable {α : Type} {P : Program}
end
section
variable {P : Program} {ops : Array Oper} {rest : List Oper} {o : Oper} {a : Act} {Q : Exit → Act → World → Prop}
end
structure Kd (α : Type) where
 sz : Nat
 E : List Nat
 K : World → α → List Value → Prop
 M : World → Nat → (Nat → Prop) → α → List Value → Prop
 K_len : ∀ {w x cs}, K w x cs → cs.length = sz
 K_one : ∀ {w x cs}, K w x cs → ∀ u ∈ cs, u.oneCell' = true
 K_below : ∀ {w w1 : World} {x cs}, Below w.heap.size w w1 → K w x cs → K w1 x cs
 K_of_M : ∀ {w base ok x cs}, M w base ok x cs → K w x cs
 M_mono : ∀ {w base ok ok' x cs}, (∀ k, ok k → ok' k) → M w base ok x cs → M w base ok' x cs
 M_bound : ∀ {w : World} {base ok x cs}, M w base ok x cs → M w base (fun k => ok k ∧ base ≤ k ∧ k < w.heap.size ∧ ∃ q, q ∈ E ∧ ∃ cells, w.heap[k]? = some (.cells cells q (0, 0))) x cs
 M_move : ∀ {w w1 : World} {base ok x cs}, (∀ k, ok k → w1.heap[k]? = w.heap[k]?) → M w base ok x cs → M w1 base ok x cs
 M_lower : ∀ {w base base' ok x cs}, base' ≤ base → M w base ok x cs → M w base' ok x cs
theorem own_move {w w1 : World} {base : Nat} {e : TypeId} {size n : Nat} {v : Value} {xs : List Value} (h : w.ownsRow base e size v n xs) (hm : ∀ k, v.ownBlock = some k → w1.heap[k]? = w.heap[k]?) : w1.ownsRow base e size v n xs := by
 obtain ⟨h1, h2⟩ := h
 refine ⟨h1, ?_⟩
 rcases h2 with h2 | ⟨g, cap, cur, rfl, hg, hh, r⟩
 ·exact .inl h2
 ·exact .inr ⟨g, cap, cur, rfl, hg, (hm g (by simp [Value.ownBlock])).trans hh, r⟩
theorem zxg {w : World} {base : Nat} {e : TypeId} {size n : Nat} {v : Value} {xs : List Value} (h : w.ownsRow base e size v n xs) (k : Nat) (hk : v.ownBlock = some k) : ∃ cells, w.heap[k]? = some (.cells cells e (0, 0)) := by
 rcases h.2 with ⟨rfl, _⟩ | ⟨g, cap, cur, rfl, hg, hh, r⟩
 ·simp [Value.ownBlock] at hk
 ·have : g = k := by simpa [Value.ownBlock] using hk
  subst this
  exact ⟨cur, hh⟩
namespace Kd
def C {α : Type} (d : Kd α) (w : World) (A : Option Addr) (n : Nat) (xs : List α) : Prop := zef (d.K w) d.sz w A n xs
def R {α : Type} (d : Kd α) (e : Nat) (w : World) (base : Nat) (ok : Nat → Prop) (v : Value) (xs : List α) : Prop :=
 (∀ k, v.ownBlock = some k → ok k) ∧ zrd (d.M w base (fun k => ok k ∧ some k ≠ v.ownBlock)) e d.sz w base v xs
section
variable {α : Type} {d : Kd α} {e : Nat} {w w1 : World} {base : Nat} {ok ok' : Nat → Prop} {v : Value} {xs : List α}
theorem C_below {A : Option Addr} {n : Nat} (h : d.C w A n xs) (hb : Below w.heap.size w w1) : d.C w1 A n xs := zef.imp_ h hb (fun _ _ hp => d.K_below hb hp)
theorem R_nil (d : Kd α) (e : Nat) (w : World) (base : Nat) (ok : Nat → Prop) : d.R e w base ok (.slice none 0 0) [] := ⟨fun k hk => by simp [Value.ownBlock] at hk, zrd.none_ _ _ _ _ _⟩
theorem R_mono (h : d.R e w base ok v xs) (hok : ∀ k, ok k → ok' k) : d.R e w base ok' v xs := ⟨fun k hk => hok k (h.1 k hk), h.2.imp_ (fun _ _ hp => d.M_mono (fun k hk => ⟨hok k hk.1, hk.2⟩) hp)⟩
theorem R_bound (h : d.R e w base ok v xs) : d.R e w base (fun k => ok k ∧ base ≤ k ∧ k < w.heap.size ∧ ∃ q, q ∈ e :: d.E ∧ ∃ cells, w.heap[k]? = some (.cells cells q (0, 0))) v xs := by
 obtain ⟨h0, inner, ho, hr⟩ := h
 refine ⟨fun k hk => ?_, inner, ho, hr.imp_ (fun _ _ hp => d.M_mono (fun k hk => ?_) (d.M_bound hp))⟩
 ·obtain ⟨cells, hc⟩ := zxg ho k hk
  exact ⟨h0 k hk, own_base ho k hk, own_lt ho k hk, e, List.mem_cons_self, cells, hc⟩
 ·obtain ⟨⟨h1, h2⟩, h3, h4, q, hq, hc⟩ := hk
  exact ⟨⟨h1, h3, h4, q, List.mem_cons_of_mem _ hq, hc⟩, h2⟩
theorem R_move (h : d.R e w base ok v xs) (hm : ∀ k, ok k → w1.heap[k]? = w.heap[k]?) : d.R e w1 base ok v xs := by
 obtain ⟨h0, inner, ho, hr⟩ := h
 exact ⟨h0, inner, own_move ho (fun k hk => hm k (h0 k hk)), hr.imp_ (fun _ _ hp => d.M_move (fun k hk => hm k hk.1) hp)⟩
theorem R_lower {base' : Nat} (h : d.R e w base ok v xs) (hb : base' ≤ base) : d.R e w base' ok v xs := by
 obtain ⟨h0, inner, ho, hr⟩ := h
 exact ⟨h0, inner, own_weaken ho hb, hr.imp_ (fun _ _ hp => d.M_lower hb hp)⟩
theorem R_step (h : d.R e w base ok v xs) (hm : ∀ k, ok k → k < w.heap.size → w1.heap[k]? = w.heap[k]?) : d.R e w1 base ok v xs :=
 R_mono (R_move (R_bound h) (fun k hk => hm k hk.1 hk.2.2.1)) (fun _ hk => hk.1)
theorem M_step {x : α} {cs : List Value} (h : d.M w base ok x cs) (hm : ∀ k, ok k → k < w.heap.size → w1.heap[k]? = w.heap[k]?) : d.M w1 base ok x cs :=
 d.M_mono (fun _ hk => hk.1) (d.M_move (fun k hk => hm k hk.1 hk.2.2.1) (d.M_bound h))
theorem R_below (h : d.R e w base ok v xs) (hb : Below w.heap.size w w1) : d.R e w1 base ok v xs := R_step h (fun k _ hk => hb.block k hk)
theorem M_below {x : α} {cs : List Value} (h : d.M w base ok x cs) (hb : Below w.heap.size w w1) : d.M w1 base ok x cs := M_step h (fun k _ hk => hb.block k hk)
theorem R_far (h : d.R e w base ok v xs) {p : Addr} (hok : ∀ k, ok k → k ≠ p.block) (u : Value) : d.R e (w.setCell p u) base ok v xs := R_step h (fun k ho _ => Below.heap_setCell w p u k (hok k ho))
theorem R_types (h : d.R e w base ok v xs) {g t : Nat} {cells : Array Value} (hb : w.heap[g]? = some (.cells cells t (0, 0))) (ht : ∀ q, q ∈ e :: d.E → q ≠ t) : d.R e w base (fun k => ok k ∧ k ≠ g) v xs :=
 R_mono (R_bound h) (fun k hk => ⟨hk.1, by
  obtain ⟨_, _, _, q, hq, cells', hc⟩ := hk
  rintro rfl
  rw [hc] at hb
  injection hb with hb
  injection hb with _ hb
  exact ht q hq hb⟩)
theorem R_reads (h : d.R e w base ok v xs) : ∃ A c, v = .slice A xs.length c ∧ xs.length ≤ c ∧ d.C w A xs.length xs := by
 obtain ⟨A, c, he, hl, hr⟩ := zrd.reads h.2
 exact ⟨A, c, he, hl, hr.imp_ (Below.refl _ _) (fun _ _ hp => d.K_of_M hp)⟩
theorem R_slice (h : d.R e w base ok v xs) : ∃ A c, v = .slice A xs.length c := by
 obtain ⟨A, c, he, _⟩ := R_reads h
 exact ⟨A, c, he⟩
theorem R_own (h : d.R e w base ok v xs) : ∃ inner, w.ownsRow base e d.sz v xs.length inner := by
 obtain ⟨_, inner, ho, _⟩ := h
 exact ⟨inner, ho⟩
theorem R_ne (h : d.R e w base ok v xs) {g t : Nat} {cells : Array Value} (hb : w.heap[g]? = some (.cells cells t (0, 0))) (ht : e ≠ t) : some g ≠ v.ownBlock := zrd.ne_block h.2 hb ht
end
def scalar {α : Type} (enc : α → Value) (h1 : ∀ x, (enc x).oneCell' = true) : Kd α where
 sz := 1
 E := []
 K := fun _ x cs => cs = [enc x]
 M := fun _ _ _ x cs => cs = [enc x]
 K_len := fun h => by rw [h]; rfl
 K_one := fun h u hu => by
  rw [h] at hu
  rw [List.mem_singleton.1 hu]
  exact h1 _
 K_below := fun _ h => h
 K_of_M := fun h => h
 M_mono := fun _ h => h
 M_bound := fun h => h
 M_move := fun _ h => h
 M_lower := fun _ h => h
def int (k : IntKind) : Kd Int := scalar (Value.int k) (fun _ => rfl)
def bool : Kd Bool := scalar Value.bool (fun _ => rfl)
def string : Kd ByteArray := scalar Value.string (fun _ => rfl)
def slice {α : Type} (e : Nat) (d : Kd α) : Kd (List α) where
 sz := 1
 E := e :: d.E
 K := fun w xs cs => ∃ A c, cs = [.slice A xs.length c] ∧ xs.length ≤ c ∧ d.C w A xs.length xs
 M := fun w base ok xs cs => ∃ v, cs = [v] ∧ d.R e w base ok v xs
 K_len := by
  rintro w x cs ⟨A, c, rfl, _⟩
  rfl
 K_one := by
  rintro w x cs ⟨A, c, rfl, _⟩ u hu
  rw [List.mem_singleton.1 hu]
  rfl
 K_below := by
  rintro w w1 x cs hb ⟨A, c, rfl, hl, hr⟩
  exact ⟨A, c, rfl, hl, C_below hr hb⟩
 K_of_M := by
  rintro w base ok x cs ⟨v, rfl, h⟩
  obtain ⟨A, c, rfl, hl, hr⟩ := R_reads h
  exact ⟨A, c, rfl, hl, hr⟩
 M_mono := by
  rintro w base ok ok' x cs hok ⟨v, rfl, h⟩
  exact ⟨v, rfl, R_mono h hok⟩
 M_bound := by
  rintro w base ok x cs ⟨v, rfl, h⟩
  exact ⟨v, rfl, R_bound h⟩
 M_move := by
  rintro w w1 base ok x cs hm ⟨v, rfl, h⟩
  exact ⟨v, rfl, R_move h hm⟩
 M_lower := by
  rintro w base base' ok x cs hb ⟨v, rfl, h⟩
  exact ⟨v, rfl, R_lower h hb⟩
def pair {α β : Type} (a : Kd α) (b : Kd β) : Kd (α × β) where
 sz := a.sz + b.sz
 E := a.E ++ b.E
 K := fun w x cs => ∃ c0 c1, cs = c0 ++ c1 ∧ a.K w x.1 c0 ∧ b.K w x.2 c1
 M := fun w base ok x cs => ∃ c0 c1, cs = c0 ++ c1 ∧ a.M w base ok x.1 c0 ∧ b.M w base ok x.2 c1
 K_len := by
  rintro w x cs ⟨c0, c1, rfl, h0, h1⟩
  rw [List.length_append, a.K_len h0, b.K_len h1]
 K_one := by
  rintro w x cs ⟨c0, c1, rfl, h0, h1⟩ u hu
  rcases List.mem_append.1 hu with hu | hu
  ·exact a.K_one h0 u hu
  ·exact b.K_one h1 u hu
 K_below := by
  rintro w w1 x cs hb ⟨c0, c1, rfl, h0, h1⟩
  exact ⟨c0, c1, rfl, a.K_below hb h0, b.K_below hb h1⟩
 K_of_M := by
  rintro w base ok x cs ⟨c0, c1, rfl, h0, h1⟩
  exact ⟨c0, c1, rfl, a.K_of_M h0, b.K_of_M h1⟩
 M_mono := by
  rintro w base ok ok' x cs hok ⟨c0, c1, rfl, h0, h1⟩
  exact ⟨c0, c1, rfl, a.M_mono hok h0, b.M_mono hok h1⟩
 M_bound := by
  rintro w base ok x cs ⟨c0, c1, rfl, h0, h1⟩
  refine ⟨c0, c1, rfl, a.M_mono ?_ (a.M_bound h0), b.M_mono ?_ (b.M_bound h1)⟩
  ·rintro k ⟨h2, h3, h4, q, hq, hc⟩
   exact ⟨h2, h3, h4, q, List.mem_append_left _ hq, hc⟩
  ·rintro k ⟨h2, h3, h4, q, hq, hc⟩
   exact ⟨h2, h3, h4, q, List.mem_append_right _ hq, hc⟩
 M_move := by
  rintro w w1 base ok x cs hm ⟨c0, c1, rfl, h0, h1⟩
  exact ⟨c0, c1, rfl, a.M_move hm h0, b.M_move hm h1⟩
 M_lower := by
  rintro w base base' ok x cs hb ⟨c0, c1, rfl, h0, h1⟩
  exact ⟨c0, c1, rfl, a.M_lower hb h0, b.M_lower hb h1⟩
def iso {α β : Type} (d : Kd α) (f : β → α) : Kd β where
 sz := d.sz
 E := d.E
 K := fun w x cs => d.K w (f x) cs
 M := fun w base ok x cs => d.M w base ok (f x) cs
 K_len := d.K_len
 K_one := d.K_one
 K_below := d.K_below
 K_of_M := d.K_of_M
 M_mono := d.M_mono
 M_bound := d.M_bound
 M_move := d.M_move
 M_lower := d.M_lower
def bot {α : Type} (sz : Nat) (E : List Nat) : Kd α where
 sz := sz
 E := E
 K := fun _ _ _ => False
 M := fun _ _ _ _ _ => False
 K_len := fun h => h.elim
 K_one := fun h => h.elim
 K_below := fun _ h => h
 K_of_M := fun h => h
 M_mono := fun _ h => h
 M_bound := fun h => h
 M_move := fun _ h => h
 M_lower := fun _ h => h
def upto {α : Type} (F : Kd α → Kd α) (sz : Nat) (E : List Nat) : Nat → Kd α
 | 0 => bot sz E
 | n + 1 => F (upto F sz E n)
theorem R_appended {α : Type} {d : Kd α} {e base : Nat} {ok okp : Nat → Prop} {W w1 : World} {v v1 : Value} {xs : List α} {p : α} {inner cs : List Value} (h0 : ∀ k, v.ownBlock = some k → ok k) (hr : Reps (d.M W base (fun k => ok k ∧ some k ≠ v.ownBlock)) d.sz xs inner) (hp : d.M W base okp p cs) (hokp : ∀ k, okp k → ok k ∧ some k ≠ v.ownBlock) (hfresh : ∀ k, W.heap.size ≤ k → ok k)
  (hown : w1.ownsRow base e d.sz v1 (xs.length + 1) (inner ++ cs)) (hg : W.grownBy w1 v.ownBlock) (hat : v1.ownBlock = v.ownBlock ∨ ∃ b, v1.ownBlock = some b ∧ W.heap.size ≤ b) : d.R e w1 base ok v1 (xs ++ [p]) := by
 have hne : ∀ k, some k ≠ v.ownBlock → k < W.heap.size → some k ≠ v1.ownBlock := by
  intro k hk hlt
  rcases hat with hat | ⟨b, hb, hle⟩
  ·rw [hat]; exact hk
  ·rw [hb]
   intro he
   injection he with he
   omega
 have step : ∀ {q : α} {c : List Value} {o : Nat → Prop}, d.M W base o q c → (∀ k, o k → ok k ∧ some k ≠ v.ownBlock) → d.M w1 base (fun k => ok k ∧ some k ≠ v1.ownBlock) q c := by
  intro q c o hq ho
  have h1 := d.M_move (w1 := w1) (fun k hk => hg.block k hk.2.2.1 (ho k hk.1).2) (d.M_bound hq)
  exact d.M_mono (fun k hk => ⟨(ho k hk.1).1, hne k (ho k hk.1).2 hk.2.2.1⟩) h1
 refine ⟨fun k hk => ?_, inner ++ cs, by rw [List.length_append, List.length_singleton]; exact hown, ?_⟩
 ·rcases hat with hat | ⟨b, hb, hle⟩
  ·exact h0 k (hat ▸ hk)
  ·rw [hb] at hk
   injection hk with hk
   exact hfresh k (by omega)
 ·exact (hr.imp_ (fun _ _ hq => step hq (fun _ hk => hk))).snoc (step hp hokp) (d.K_len (d.K_of_M hp))
section
variable {P : Program} {ops : Array Oper} {rest : List Oper} {o : Oper} {a : Act} {Q : Exit → Act → World → Prop} {α : Type}
theorem R_append (d : Kd α) {w0 W : World} (base : Nat) (hgd : o.guard = none) (s x : Operand) (t e : TypeId) (z : Value) (bytes : Nat)
  (ho : o.op = .call { callee := .builtin .append, args := #[s, x], argTypes := #[t, t] })
  (ht : P.underlying t = some (.slice e)) (hinfo : (P.info? e).map (fun i => (i.zero, i.size, i.bytes)) = some (some z, d.sz, bytes)) (hz : z.cells.size = d.sz) (hs0 : 0 < d.sz) (hb0 : 0 < bytes)
  (v : Value) (xs : List α) (p : α) (cs : List Value) (ok okp : Nat → Prop) (hs : a.eval s = v) (hx : a.eval x = .slice (some ⟨W.heap.size, 0, none⟩) 1 1) (hp : d.M W base okp p cs) (hokp : ∀ k, okp k → ok k ∧ some k ≠ v.ownBlock) (hfresh : ∀ k, W.heap.size ≤ k → ok k)
  (HO : d.R e W base ok v xs) (HB : Below base w0 W) (hbase : base ≤ W.heap.size) (hl : (xs.length + 1) * bytes ≤ 140737488355328)
  (h : ∀ v1 w1, d.R e w1 base ok v1 (xs ++ [p]) → Below base w0 w1 → W.grownBy w1 v.ownBlock → (v1.ownBlock = v.ownBlock ∨ ∃ b, v1.ownBlock = some b ∧ W.heap.size ≤ b) → wpList P ops Q rest (a.put o.dst v1) w1) :
  wpList P ops Q (o :: rest) a (W.alloc (.cells cs.toArray e)) := by
 obtain ⟨h0, inner, hown, hr⟩ := HO
 refine ztg base hgd s x t e z d.sz bytes ho ht hinfo hz hs0 hb0 v xs.length inner cs hs hx (d.K_len (d.K_of_M hp)) (d.K_one (d.K_of_M hp)) hown HB hbase hl ?_
 intro v1 w1 hown1 hb1 hg1 hat1
 exact h v1 w1 (R_appended h0 hr hp hokp hfresh hown1 hg1 hat1) hb1 hg1 hat1
end
section
variable {P : Program} {ops : Array Oper} {o : Oper} {a : Act} {Q : Exit → Act → World → Prop} {Kc : Act → World → Prop} {α : Type}
theorem R_append_step (d : Kd α) {w0 W : World} (base : Nat) (hw : Region.wanted o (yielded ops a.tmps) = true) (s x : Operand) (t e : TypeId) (z : Value) (bytes : Nat)
  (ho : o.op = .call { callee := .builtin .append, args := #[s, x], argTypes := #[t, t] })
  (ht : P.underlying t = some (.slice e)) (hinfo : (P.info? e).map (fun i => (i.zero, i.size, i.bytes)) = some (some z, d.sz, bytes)) (hz : z.cells.size = d.sz) (hs0 : 0 < d.sz) (hb0 : 0 < bytes)
  (v : Value) (xs : List α) (p : α) (cs : List Value) (ok okp : Nat → Prop) (hs : a.eval s = v) (hx : a.eval x = .slice (some ⟨W.heap.size, 0, none⟩) 1 1) (hp : d.M W base okp p cs) (hokp : ∀ k, okp k → ok k ∧ some k ≠ v.ownBlock) (hfresh : ∀ k, W.heap.size ≤ k → ok k)
  (HO : d.R e W base ok v xs) (HB : Below base w0 W) (hbase : base ≤ W.heap.size) (hl : (xs.length + 1) * bytes ≤ 140737488355328)
  (h : ∀ v1 w1, d.R e w1 base ok v1 (xs ++ [p]) → Below base w0 w1 → W.grownBy w1 v.ownBlock → (v1.ownBlock = v.ownBlock ∨ ∃ b, v1.ownBlock = some b ∧ W.heap.size ≤ b) → Kc (a.put o.dst v1) w1) :
  if Region.wanted o (yielded ops a.tmps) = true then Oper.wp P o a (W.alloc (.cells cs.toArray e)) Kc Q else Kc (a.put o.dst undef) (W.alloc (.cells cs.toArray e)) := by
 obtain ⟨h0, inner, hown, hr⟩ := HO
 refine zih base hw s x t e z d.sz bytes ho ht hinfo hz hs0 hb0 v xs.length inner cs hs hx (d.K_len (d.K_of_M hp)) (d.K_one (d.K_of_M hp)) hown HB hbase hl ?_
 intro v1 w1 hown1 hb1 hg1 hat1
 exact h v1 w1 (R_appended h0 hr hp hokp hfresh hown1 hg1 hat1) hb1 hg1 hat1
end
theorem reps_scalar {α : Type} {enc : α → Value} (xs : List α) : Reps (fun (x : α) (cs : List Value) => cs = [enc x]) 1 xs (encs enc xs) := by
 refine ⟨by simp [encs], fun j p hj => ?_⟩
 obtain ⟨hl, hp⟩ := List.getElem?_eq_some_iff.1 hj
 have hl' : j < (encs enc xs).length := by rw [encs_length]; exact hl
 rw [Nat.mul_one, List.drop_eq_getElem_cons hl']
 simp [encs, hp]
theorem R_of_own {α : Type} {enc : α → Value} {h1 : ∀ x, (enc x).oneCell' = true} {e : Nat} {w : World} {base : Nat} {ok : Nat → Prop} {v : Value} {xs : List α} (ho : w.ownsRow base e 1 v xs.length (encs enc xs)) (hok : ∀ k, v.ownBlock = some k → ok k) : (scalar enc h1).R e w base ok v xs := ⟨hok, encs enc xs, ho, reps_scalar xs⟩
theorem own_of_R {α : Type} {enc : α → Value} {h1 : ∀ x, (enc x).oneCell' = true} {e : Nat} {w : World} {base : Nat} {ok : Nat → Prop} {v : Value} {xs : List α} (h : (scalar enc h1).R e w base ok v xs) : w.ownsRow base e 1 v xs.length (encs enc xs) := by
 obtain ⟨_, inner, ho, hr⟩ := h
 have : inner = encs enc xs := by
  apply List.ext_getElem?
  intro j
  rcases Nat.lt_or_ge j xs.length with hj | hj
  ·have h2 := hr.2 j _ (List.getElem?_eq_getElem hj)
   have hl : j < inner.length := by have := hr.1; simp [scalar] at this; omega
   have h3 : (inner.drop (j * 1)).take 1 = [enc xs[j]] := h2
   rw [Nat.mul_one, List.drop_eq_getElem_cons hl] at h3
   have h4 : inner[j] = enc xs[j] := by
    have h5 := congrArg List.head? h3
    rw [List.take_succ_cons] at h5
    exact Option.some.inj h5
   rw [List.getElem?_eq_getElem hl, h4]
   simp [encs, List.getElem?_eq_getElem hj]
  ·have h3 : inner.length = xs.length := by have := hr.1; simp [scalar] at this; omega
   rw [List.getElem?_eq_none (by omega), List.getElem?_eq_none (by rw [encs_length]; omega)]
 rw [← this]
 exact ho
theorem C_of_reads {α : Type} {enc : α → Value} {d : α} {h1 : ∀ x, (enc x).oneCell' = true} {w : World} {A : Option Addr} {n : Nat} {xs : List α} (h : zof enc d w A n xs) : (scalar enc h1).C w A n xs := by
 refine ⟨h.1, h.2.1, fun hn => ?_⟩
 obtain ⟨ad, e, hc⟩ := h.2.2 hn
 refine ⟨ad, e, fun j p hj => ⟨[enc p], rfl, rfl, fun i u hu => ?_⟩⟩
 obtain ⟨hl, hp⟩ := List.getElem?_eq_some_iff.1 hj
 have h2 := hc j (by have := h.1; omega)
 rw [List.getD_eq_getElem?_getD, hj] at h2
 cases i with
 | zero =>
  have : enc p = u := by simpa using hu
  subst this
  simpa [scalar] using h2
 | succ i => simp at hu
theorem reads_of_C {α : Type} {enc : α → Value} {d : α} {h1 : ∀ x, (enc x).oneCell' = true} {w : World} {A : Option Addr} {n : Nat} {xs : List α} (h : (scalar enc h1).C w A n xs) : zof enc d w A n xs := by
 refine ⟨h.1, h.2.1, fun hn => ?_⟩
 obtain ⟨ad, e, hc⟩ := h.2.2 hn
 refine ⟨ad, e, fun j hj => ?_⟩
 have hl : j < xs.length := by have := h.1; omega
 obtain ⟨c, _, hK, hcell⟩ := hc j _ (List.getElem?_eq_getElem hl)
 have hK' : c = [enc xs[j]] := hK
 subst hK'
 have := hcell 0 _ rfl
 simpa [scalar, List.getD_eq_getElem?_getD, List.getElem?_eq_getElem hl] using this
end Kd
namespace Kd
section
variable {α : Type} {F : Kd α → Kd α} {sz : Nat} {E : List Nat} {hs : ∀ n, (upto F sz E n).sz = sz} {hE : ∀ n q, q ∈ (upto F sz E n).E → q ∈ E}
end
end Kd
namespace Kd
theorem R_after {α : Type} {d : Kd α} {e base : Nat} {ok : Nat → Prop} {W w1 : World} {u v v1 : Value} {xs : List α} (h : d.R e W base (fun k => ok k ∧ some k ≠ v.ownBlock) u xs) (hg : W.grownBy w1 v.ownBlock) (hat : v1.ownBlock = v.ownBlock ∨ ∃ b, v1.ownBlock = some b ∧ W.heap.size ≤ b) : d.R e w1 base (fun k => ok k ∧ some k ≠ v1.ownBlock) u xs := by
 refine R_mono (R_move (R_bound h) (fun k hk => hg.block k hk.2.2.1 hk.1.2)) (fun k hk => ⟨hk.1.1, ?_⟩)
 rcases hat with hat | ⟨b, hb, hle⟩
 ·rw [hat]; exact hk.1.2
 ·rw [hb]
  intro he
  injection he with he
  have := hk.2.2.1
  omega
end Kd
namespace Kd
section
variable {α β : Type} {d : Kd α} {d' : Kd β} {e e' : Nat} {w w1 W : World} {base b b' : Nat} {ok ok' okv oku : Nat → Prop} {v u : Value} {xs : List α} {ys : List β}
theorem R_drew (h : d.R e w base ok v xs) : d.R e w.drew base ok v xs := R_below h (below_drew (Below.refl _ _))
theorem R_drewN (h : d.R e w base ok v xs) (m : Nat) : d.R e (w.drewN m) base ok v xs := R_below h (zg (Below.refl _ _) m)
theorem C_nil (d : Kd α) (w : World) : d.C w none ([] : List α).length [] := ⟨rfl, by simp, fun h => absurd h (Nat.lt_irrefl 0)⟩
theorem R_reads' {A : Option Addr} {n c : Nat} (h : d.R e w base ok (.slice A n c) xs) : n = xs.length ∧ n ≤ c ∧ d.C w A xs.length xs := by
 obtain ⟨A', c', he, hl, hr⟩ := R_reads h
 injection he with h1 h2 h3
 subst h1
 exact ⟨h2, by omega, hr⟩
theorem R_lt (h : d.R e w base ok v xs) : ∀ k, v.ownBlock = some k → k < w.heap.size := by
 obtain ⟨inner, ho⟩ := R_own h
 exact own_lt ho
theorem R_base (h : d.R e w base ok v xs) : ∀ k, v.ownBlock = some k → base ≤ k := by
 obtain ⟨inner, ho⟩ := R_own h
 exact own_base ho
theorem R_form (h : d.R e w base ok v xs) (hp : 0 < xs.length) : ∃ g cap, v = .slice (some ⟨g, 0, none⟩) xs.length cap ∧ base ≤ g ∧ g < w.heap.size ∧ ∃ cells, w.heap[g]? = some (.cells cells e (0, 0)) := by
 obtain ⟨inner, ho⟩ := R_own h
 obtain ⟨g, cap, he, hb, hl⟩ := ho.form hp
 obtain ⟨cells, hc⟩ := zxg ho g (by rw [he]; simp [Value.ownBlock])
 exact ⟨g, cap, he, hb, hl, cells, hc⟩
end
section
variable {w W : World} {A : Option Addr} {n : Nat}
theorem at_int {k : IntKind} {xs : List Int} (h : (Kd.int k).C w A n xs) (i : Int) (h0 : 0 ≤ i) (h1 : i < n) : ∃ ad, A = some ad ∧ w.cell? (ad.add i.toNat) = some (.int k (rd xs i)) :=
 zof.at_ (reads_of_C (enc := Value.int k) (d := (0 : Int)) (h1 := fun _ => rfl) h) i h0 h1
theorem at_string {xs : List ByteArray} (h : Kd.string.C w A n xs) (i : Int) (h0 : 0 ≤ i) (h1 : i < n) : ∃ ad, A = some ad ∧ w.cell? (ad.add i.toNat) = some (.string (rdOf ByteArray.empty xs i)) :=
 zof.at_ (reads_of_C (enc := Value.string) (d := ByteArray.empty) (h1 := fun _ => rfl) h) i h0 h1
variable {α : Type} {enc : α → Value} {h1 : ∀ x, (enc x).oneCell' = true} {e base g cap : Nat} {ok : Nat → Prop} {xs : List α}
theorem R_cell (d : α) (h : (scalar enc h1).R e W base ok (.slice (some ⟨g, 0, none⟩) xs.length cap) xs) (i : Int) (h0 : 0 ≤ i) (hi : i < xs.length) : W.cell? ⟨g, i.toNat, none⟩ = some (enc (rdOf d xs i)) ∧ W.frozen? ⟨g, i.toNat, none⟩ = false := own_at_of (own_of_R h) i h0 hi
theorem R_put (h : (scalar enc h1).R e W base ok (.slice (some ⟨g, 0, none⟩) xs.length cap) xs) (i : Int) (x : α) : (scalar enc h1).R e (W.setCell ⟨g, i.toNat, none⟩ (enc x)) base ok (.slice (some ⟨g, 0, none⟩) xs.length cap) (xs.set i.toNat x) ∧ W.grownBy (W.setCell ⟨g, i.toNat, none⟩ (enc x)) (some g) := by
 obtain ⟨ho, hg⟩ := own_store_of (own_of_R h) i x
 exact ⟨R_of_own (by rw [List.length_set]; exact ho) h.1, hg⟩
end
section
variable {P : Program} {ops : Array Oper} {rest : List Oper} {o : Oper} {a : Act} {Q : Exit → Act → World → Prop}
theorem event_run {W w1 : World} {v : Value} (hgd : o.guard = none) (hrun : (execOp a.eval o).run P W = .ok (.value v) w1) (h : wpList P ops Q rest (a.put o.dst v) w1) : wpList P ops Q (o :: rest) a W := by
 refine wpList_plain hgd fun K hK => ?_
 unfold Oper.wp
 rw [hrun]
 exact hK _ _ h
variable {α : Type}
theorem R_lit (d : Kd α) {w0 W : World} (base e : Nat) (hgd : o.guard = none) {N : Tmp} (_hd : o.dst = some N) {xs : List α} {inner : List Value} {ok okp : Nat → Prop}
  (hrun : (execOp a.eval o).run P W = .ok (.value (.slice (some ⟨W.heap.size, 0, none⟩) xs.length xs.length)) (W.alloc (.cells inner.toArray e)))
  (hrep : Reps (d.M W base okp) d.sz xs inner) (hok : ∀ k, okp k → ok k) (hfresh : ok W.heap.size) (HB : Below base w0 W) (hbase : base ≤ W.heap.size) (hm : xs.length ≤ 9223372036854775807)
  (h : ∀ v1 w1, d.R e w1 base ok v1 xs → Below base w0 w1 → W.grownBy w1 none → (∃ b, v1.ownBlock = some b ∧ W.heap.size ≤ b) → wpList P ops Q rest (a.put o.dst v1) w1) : wpList P ops Q (o :: rest) a W := by
 refine event_run hgd hrun (h _ _ ⟨fun k hk => ?_, inner, ?_, ?_⟩ (HB.alloc hbase _) (World.grownBy_alloc W _ none) ⟨W.heap.size, by simp [Value.ownBlock], Nat.le_refl _⟩)
 ·have : W.heap.size = k := by simpa [Value.ownBlock] using hk
  subst this
  exact hfresh
 ·have h2 := World.ownsRow_lit (base := base) (e := e) (size := d.sz) W inner.toArray xs.length hbase (by simpa [maxLen] using hm) (by simpa using hrep.1)
  simpa using h2
 ·refine hrep.imp_ (fun p c hp => d.M_mono (fun k hk => ⟨hok k hk.1, fun he => ?_⟩) (M_below (d.M_bound hp) (zm (Below.refl _ _) _)))
  have h3 : k = W.heap.size := by simpa [Value.ownBlock] using he
  have := hk.2.2.1
  omega
theorem reps_made {α : Type} {R : α → List Value → Prop} {z : Value} {size : Nat} {z0 : α} (hz : z.cells.size = size) (hs : 0 < size) (h0 : R z0 z.cells.toList) (m : Nat) : Reps R size (List.replicate m z0) (madeCells z.cells (m * size)).toList := by
 refine ⟨by simp [size_madeCells], fun j p hj => ?_⟩
 obtain ⟨hjl, hp⟩ := List.getElem?_eq_some_iff.1 hj
 have hjm : j < m := by simpa using hjl
 have hp' : z0 = p := by simpa using hp
 subst hp'
 have hle : j * size + size ≤ m * size := by rw [← Nat.succ_mul]; exact Nat.mul_le_mul_right _ hjm
 have : ((madeCells z.cells (m * size)).toList.drop (j * size)).take size = z.cells.toList := by
  apply List.ext_getElem
  ·simp [size_madeCells, hz]
   omega
  ·intro i h1 h2
   have hi : i < size := by rw [Array.length_toList, hz] at h2; exact h2
   have hmod : (j * size + i) % size = i := by
    rw [Nat.mul_comm, Nat.mul_add_mod]
    exact Nat.mod_eq_of_lt hi
   simp [madeCells, hz, hmod]
   rw [getElem!_pos z.cells i (by omega)]
 rw [this]
 exact h0
theorem R_make (d : Kd α) {w0 W : World} (base e : Nat) (hgd : o.guard = none) {N : Tmp} (hd : o.dst = some N) (t : TypeId) (x y : Operand) (ho : o.op = .makeSlice t x y) (n : Int) (hx : a.eval x = .int .i64 n) (hy : a.eval y = .int .i64 n)
  (ht : P.underlying t = some (.slice e)) (z : Value) (bytes : Nat) (hinfo : (P.info? e).map (fun i => (i.zero, i.size, i.bytes)) = some (some z, d.sz, bytes)) (hz : z.cells.size = d.sz) (hs0 : 0 < d.sz) (hb0 : 0 < bytes)
  (z0 : α) {ok okp : Nat → Prop} (hzero : d.M W base okp z0 z.cells.toList) (hok : ∀ k, okp k → ok k) (hfresh : ok W.heap.size) (h0 : 0 ≤ n) (hl : n.toNat * bytes ≤ 281474976710656) (HB : Below base w0 W) (hbase : base ≤ W.heap.size)
  (h : ∀ v1 w1, d.R e w1 base ok v1 (List.replicate n.toNat z0) → Below base w0 w1 → W.grownBy w1 none → (∃ b, v1.ownBlock = some b ∧ W.heap.size ≤ b) → wpList P ops Q rest (a.put o.dst v1) w1) : wpList P ops Q (o :: rest) a W := by
 obtain ⟨m, rfl⟩ := Int.eq_ofNat_of_zero_le h0
 simp only [Int.toNat_natCast] at hl h
 obtain ⟨i0, hi, hzz⟩ := Option.map_eq_some_iff.1 hinfo
 simp only [Prod.mk.injEq] at hzz
 obtain ⟨hz0, hz1, hz2⟩ := hzz
 have hm : m ≤ 281474976710656 := Nat.le_trans (Nat.le_mul_of_pos_right _ hb0) hl
 have hr := run_make (P := P) W t e i0 z ht hi hz0 .i64 .i64 (m : Int) (m : Int) (by omega) (by omega)
  (by
   have h3 : ((i0.bytes * m : Nat) : Int) ≤ 281474976710656 := by rw [hz2, Nat.mul_comm]; omega
   rwa [Int.natCast_mul] at h3) (by omega)
 simp only [Int.toNat_natCast] at hr
 rw [hz1] at hr
 refine R_lit d base e hgd hd (xs := List.replicate m z0) (inner := (madeCells z.cells (m * d.sz)).toList) (okp := okp) (ok := ok) ?_ (reps_made hz hs0 hzero m) hok hfresh HB hbase (by simp; omega) h
 simp [execOp, ho, hx, hy, hr]
end
end Kd
theorem own_take {w : World} {base n m c size : Nat} {e : TypeId} {A : Option Addr} {xs : List Value} (h : w.ownsRow base e size (.slice A n c) n xs) (hm : m ≤ n) : w.ownsRow base e size (.slice A m c) m (xs.take (m * size)) := by
 obtain ⟨h1, h2⟩ := h
 refine ⟨by rw [List.length_take, h1]; exact Nat.min_eq_left (Nat.mul_le_mul_right _ hm), ?_⟩
 rcases h2 with ⟨he, h0⟩ | ⟨g, cap, cur, he, hb, hh, hnc, hcm, hcs, ht⟩
 ·injection he with ha _ hc
  subst ha; subst hc
  exact .inl ⟨by rw [show m = 0 by omega], by omega⟩
 ·injection he with ha _ hc
  subst ha; subst hc
  refine .inr ⟨g, c, cur, rfl, hb, hh, by omega, hcm, hcs, ?_⟩
  rw [← ht, List.take_take, Nat.min_eq_left (Nat.mul_le_mul_right _ hm)]
section
variable {P : Program}
theorem cut_to (t e : TypeId) (kh : IntKind) {i : TypeInfo} (ht : P.underlying t = some (.slice e)) (hi : P.info? e = some i) (A : Option Addr) (n c : Nat) (j : Int) (h0 : 0 ≤ j) (hm : j ≤ n) (hc : n ≤ c) :
  ∀ W : World, (Instr.slice t (.slice A n c) none (some (.int kh j)) none).run P W = .ok (.slice A j.toNat c) W := by
 intro W
 have hel : P.elem t = e := by simp [Program.elem, ht]
 have hu : P.underlying t = some (.slice (P.elem t)) := by rw [hel]; exact ht
 have ha : (A.map fun x => x.add 0) = A := by cases A <;> simp [Addr.add]
 rw [run_slice_h W t A n c hu kh j h0 (by omega), hel]
 simp [sizeOf, typeInfo, hi, sliced, Result.andThen, ha]
end
def QRow (w : World) (base : Nat) (e : TypeId) (size : Nat) (v : Value) (n : Nat) (xs : List Value) : Prop :=
 xs.length = n * size ∧
 ((n = 0 ∧ ∃ A, v = .slice A 0 0 ∧ ∀ a, A = some a → base ≤ a.block ∧ ∃ cur, w.heap[a.block]? = some (.cells cur e (0, 0))) ∨
  ∃ g off cap cur, v = .slice (some ⟨g, off * size, none⟩) n cap ∧ base ≤ g ∧ w.heap[g]? = some (.cells cur e (0, 0)) ∧ n ≤ cap ∧ off + cap ≤ maxLen ∧ cur.size = (off + cap) * size ∧ (cur.toList.drop (off * size)).take (n * size) = xs)
section
variable {w w1 : World} {base n size : Nat} {e : TypeId} {v : Value} {xs : List Value}
end
section
variable {P : Program}
end
namespace Kd
theorem reps_take {α : Type} {R : α → List Value → Prop} {size m : Nat} {ps : List α} {cs : List Value} (h : Reps R size ps cs) (hm : m ≤ ps.length) : Reps R size (ps.take m) (cs.take (m * size)) := by
 refine ⟨by rw [List.length_take, List.length_take, h.1, Nat.min_eq_left hm, Nat.min_eq_left (Nat.mul_le_mul_right _ hm)], fun j p hj => ?_⟩
 rw [List.getElem?_take] at hj
 split at hj
 ·rename_i hjm
  have := h.2 j p hj
  have hle : j * size + size ≤ m * size := by rw [← Nat.succ_mul]; exact Nat.mul_le_mul_right _ hjm
  rw [List.drop_take, List.take_take, Nat.min_eq_left (by omega)]
  exact this
 ·cases hj
theorem R_take {α : Type} {d : Kd α} {e m n c : Nat} {w : World} {base : Nat} {ok : Nat → Prop} {A : Option Addr} {xs : List α} (h : d.R e w base ok (.slice A n c) xs) (hm : m ≤ xs.length) : d.R e w base ok (.slice A m c) (xs.take m) := by
 obtain ⟨h0, inner, ho, hr⟩ := h
 have hn : n = xs.length := by
  obtain ⟨A', c', he⟩ := own_slice ho
  injection he
 subst hn
 have hb : ∀ x y : Nat, (Value.slice A x c).ownBlock = (Value.slice A y c).ownBlock := by
  intro x y
  cases A <;> rfl
 refine ⟨fun k hk => h0 k (by rw [hb _ m]; exact hk), inner.take (m * d.sz), ?_, ?_⟩
 ·rw [List.length_take, Nat.min_eq_left hm]
  exact own_take ho hm
 ·rw [hb m xs.length]
  exact reps_take hr hm
def Q {α : Type} (d : Kd α) (e : Nat) (w : World) (base : Nat) (ok : Nat → Prop) (v : Value) (xs : List α) : Prop :=
 (∀ k, v.ownBlock = some k → ok k) ∧ ∃ inner, QRow w base e d.sz v xs.length inner ∧ Reps (d.M w base (fun k => ok k ∧ some k ≠ v.ownBlock)) d.sz xs inner
section
variable {α : Type} {d : Kd α} {e : Nat} {w w1 W : World} {base : Nat} {ok ok' : Nat → Prop} {v : Value} {xs : List α}
end
section
variable {P : Program} {ops : Array Oper} {rest : List Oper} {o : Oper} {a : Act} {Q' : Exit → Act → World → Prop} {Kc : Act → World → Prop} {α : Type}
end
end Kd
namespace Kd
section
variable {α : Type} {d : Kd α} {e e' : Nat} {w w1 W : World} {base : Nat} {ok : Nat → Prop} {u v : Value} {xs : List α}
theorem R_typed (h : d.R e w base ok v xs) : ∀ k, v.ownBlock = some k → ∃ cells, w.heap[k]? = some (.cells cells e (0, 0)) := by
 obtain ⟨inner, ho⟩ := R_own h
 exact fun k hk => zxg ho k hk
theorem R_over' (h : d.R e W base ok u xs) (hty : ∀ k, v.ownBlock = some k → ∃ cells, W.heap[k]? = some (.cells cells e' (0, 0))) (ht : ∀ q, q ∈ e :: d.E → q ≠ e') (hg : W.grownBy w1 v.ownBlock) : d.R e w1 base ok u xs := by
 refine R_mono (R_move (R_bound h) (fun k hk => hg.block k hk.2.2.1 (fun he => ?_))) (fun _ hk => hk.1)
 obtain ⟨_, _, _, q, hq, cells, hc⟩ := hk
 obtain ⟨cells', hc'⟩ := hty k he.symm
 rw [hc] at hc'
 injection hc' with hc'
 injection hc' with _ hc'
 exact ht q hq hc'
theorem R_elder' (hu : d.R e W base ok u xs) (hbase : ∀ k, v.ownBlock = some k → W.heap.size ≤ k) (hb : Below W.heap.size W w1) : d.R e w1 base (fun k => ok k ∧ some k ≠ v.ownBlock) u xs :=
 R_mono (R_move (R_bound hu) (fun k hk => hb.block k hk.2.2.1)) (fun k hk => ⟨hk.1, fun he => by have := hbase k he.symm; have := hk.2.2.1; omega⟩)
theorem R_new' (h : d.R e w1 W.heap.size ok v xs) (hlt : ∀ k, u.ownBlock = some k → k < W.heap.size) : d.R e w1 W.heap.size (fun k => ok k ∧ some k ≠ u.ownBlock) v xs :=
 R_mono (R_bound h) (fun k hk => ⟨hk.1, fun he => by have := hlt k he.symm; have := hk.2.1; omega⟩)
theorem fresh' (hlt : ∀ k, u.ownBlock = some k → k < W.heap.size) : ∀ k, W.heap.size ≤ k → some k ≠ u.ownBlock := fun k hk he => by have := hlt k he.symm; omega
end
end Kd
namespace Kd
section
variable {α : Type} {d : Kd α} {e base g n cap : Nat} {ok okp : Nat → Prop} {W : World} {xs : List α}
theorem R_elem (h : d.R e W base ok (.slice (some ⟨g, 0, none⟩) n cap) xs) (z : α) (i : Int) (h0 : 0 ≤ i) (h1 : i < n) :
  ∃ c, c.length = d.sz ∧ d.M W base (fun k => ok k ∧ k ≠ g) (xs.getD i.toNat z) c ∧ (∀ j u, c[j]? = some u → W.cell? ⟨g, i.toNat * d.sz + j, none⟩ = some u) ∧ ∀ j, W.frozen? ⟨g, i.toNat * d.sz + j, none⟩ = false := by
 obtain ⟨hn, hnc, hC⟩ := R_reads' h
 obtain ⟨_, inner, ho, hr⟩ := h
 have hil : i.toNat < xs.length := by omega
 have hseg : i.toNat * d.sz + d.sz ≤ inner.length := by rw [hr.1, ← Nat.succ_mul]; exact Nat.mul_le_mul_right _ hil
 have hM := hr.2 i.toNat _ (List.getElem?_eq_getElem hil)
 refine ⟨(inner.drop (i.toNat * d.sz)).take d.sz, by rw [List.length_take, List.length_drop]; omega, ?_, fun j u hu => ?_, fun j => ?_⟩
 ·rw [List.getD_eq_getElem?_getD, List.getElem?_eq_getElem hil]
  exact d.M_mono (fun k hk => ⟨hk.1, fun he => hk.2 (by rw [he]; simp [Value.ownBlock])⟩) hM
 ·rw [List.getElem?_take] at hu
  split at hu
  ·rw [List.getElem?_drop] at hu
   have := ho.cells (g := g) (by simp [Value.ownBlock]) _ u hu
   rwa [add_plain] at this
  ·cases hu
 ·obtain ⟨cells, hc⟩ := zxg ho g (by simp [Value.ownBlock])
  exact zj hc _
end
end Kd
namespace Kd
section
variable {α : Type} {F : Kd α → Kd α} {sz : Nat} {E : List Nat} {hs : ∀ n, (upto F sz E n).sz = sz} {hE : ∀ n q, q ∈ (upto F sz E n).E → q ∈ E}
end
end Kd
namespace Kd
section
variable {P : Program} {ops : Array Oper} {rest : List Oper} {o : Oper} {a : Act} {Q : Exit → Act → World → Prop} {α : Type}
end
end Kd
namespace Kd
section
variable {P : Program} {ops : Array Oper} {rest : List Oper} {o : Oper} {a : Act} {Q : Exit → Act → World → Prop} {α : Type}
end
end Kd
namespace Kd
section
variable {α : Type} {k : Kd α} {w : World} {A : Option Addr} {xs : List α} {m c : Nat}
end
end Kd
section
variable {P : Program}
end
theorem zdb {w W : World} (h : Below w.heap.size w W) : w.heap.size ≤ W.heap.size := h.size
theorem zeb {w W w2 : World} (h : Below w.heap.size w W) (k : Below W.heap.size W w2) : Below w.heap.size w w2 := zq h h.size k
theorem zqd.nil (W : World) (k : IntKind) : zqd W k none ([] : List Int).length [] := ⟨rfl, by simp, fun h => absurd h (Nat.lt_irrefl 0)⟩
theorem zqd.ofRow {k : IntKind} {w : World} {a : Option Addr} {len cap : Nat} {zs : List Int} (h : (a = none ∧ len = 0 ∧ cap = 0 ∧ zs = []) ∨ ∃ x, a = some x ∧ len ≤ cap ∧ cap ≤ maxLen ∧ zs.length = cap ∧ (∀ i, i < zs.length → w.cell? (x.add i) = some (.int k (zs.getD i 0))) ∧ ∀ n ∈ zs, (Lit.int k n).wf = true) :
  ∃ l : List Int, len = l.length ∧ zqd w k a l.length l ∧ l.length ≤ maxLen ∧ ∀ x ∈ l, (Lit.int k x).wf = true := by
 rcases h with ⟨rfl, rfl, rfl, rfl⟩ | ⟨x, rfl, hl, hm, hz, hc, hw⟩
 ·exact ⟨[], rfl, zqd.nil _ _, Nat.zero_le _, fun x hx => by simp at hx⟩
 ·have e : (zs.take len).length = len := by simp; omega
  have hm' : len ≤ maxLen := Nat.le_trans hl hm
  refine ⟨zs.take len, e.symm, ⟨rfl, by rw [e]; simpa [maxLen] using hm', fun _ => ⟨x, rfl, fun j hj => ?_⟩⟩, by rw [e]; exact hm', fun y hy => hw y (List.mem_of_mem_take hy)⟩
  rw [e] at hj
  rw [hc j (by omega)]
  simp [List.getD, List.getElem?_take, hj]
theorem zbb {w W : World} {g j : Nat} {v : Value} (h : Below w.heap.size w W) (hg : w.heap.size ≤ g) : Below w.heap.size w (W.setCell ⟨g, j, none⟩ v) := h.setCell hg _
theorem zl {w : World} {g : Nat} {t : TypeId} {cs cs' : Array Value} (h : w.heap[g]? = some (.cells cs t (0, 0))) (i : Nat) (u : Value) (e : cs.setIfInBounds i u = cs') : (w.setCell ⟨g, i, none⟩ u).heap[g]? = some (.cells cs' t (0, 0)) := e ▸ blk_set h i u
theorem zqd.ofRowC {k : IntKind} {w : World} {a : Option Addr} {len cap : Nat} {zs : List Int} (h : (a = none ∧ len = 0 ∧ cap = 0 ∧ zs = []) ∨ ∃ x, a = some x ∧ len ≤ cap ∧ cap ≤ maxLen ∧ zs.length = cap ∧ (∀ i, i < zs.length → w.cell? (x.add i) = some (.int k (zs.getD i 0))) ∧ ∀ n ∈ zs, (Lit.int k n).wf = true) :
  ∃ l : List Int, len = l.length ∧ zqd w k a l.length l ∧ l.length ≤ maxLen ∧ (∀ x ∈ l, (Lit.int k x).wf = true) ∧ l.length ≤ cap := by
 have hl : len ≤ cap := by
  rcases h with ⟨_, rfl, rfl, _⟩ | ⟨_, _, h, _⟩
  ·exact Nat.le_refl _
  ·exact h
 obtain ⟨l, e, h1, h2, h3⟩ := zqd.ofRow h
 exact ⟨l, e, h1, h2, h3, e ▸ hl⟩
theorem zu {base : Nat} {w W : World} (h : Below base w W) : Below base w W.drew := h.drew
namespace Kd
section
variable {α β : Type} {d : Kd α} {d' : Kd β} {e e' base base' n : Nat} {ok ok' : Nat → Prop} {w W w1 W1 : World} {v u : Value} {xs : List α} {ys : List β} {A : Option Addr} {c : Nat}
end
section
variable {α : Type} {enc : α → Value} {h1 : ∀ x, (enc x).oneCell' = true} {w W : World} {A : Option Addr} {n g : Nat} {xs : List α}
end
end Kd
namespace Kd
section
variable {α : Type} {d : Kd α} {e base g : Nat} {ok : Nat → Prop} {w w1 : World} {v : Value} {xs : List α} {o : Obj}
end
end Kd
section
variable {P : Program} {ops : Array Oper} {rest : List Oper} {o : Oper} {a : Act} {Q : Exit → Act → World → Prop}
theorem zld {W : World} (hgd : o.guard = none) {N : Tmp} (_hd : o.dst = some N) {cs : Array Value} {t : TypeId}
  (hrun : (execOp a.eval o).run P W = .ok (.value (.pointer (some ⟨W.heap.size, 0, none⟩))) (W.alloc (.cells cs t (0, 0))))
  (h : ∀ g, g = W.heap.size → ∀ w1, w1.heap[g]? = some (.cells cs t (0, 0)) → Below W.heap.size W w1 → wpList P ops Q rest (a.put o.dst (.pointer (some ⟨g, 0, none⟩))) w1) : wpList P ops Q (o :: rest) a W :=
 Kd.event_run hgd hrun (h _ rfl _ (zvc W _) (zm (Below.refl _ _) _))
end
namespace Kd
section
variable {α : Type} {enc : α → Value} {h1 : ∀ x, (enc x).oneCell' = true} {e base g n cap : Nat} {ok : Nat → Prop} {W : World} {xs : List α}
theorem R_celln (d : α) (h : (scalar enc h1).R e W base ok (.slice (some ⟨g, 0, none⟩) n cap) xs) (i : Int) (h0 : 0 ≤ i) (hi : i < n) : W.cell? ⟨g, i.toNat, none⟩ = some (enc (rdOf d xs i)) ∧ W.frozen? ⟨g, i.toNat, none⟩ = false := by
 obtain ⟨rfl, _⟩ := R_reads' h
 exact R_cell d h i h0 hi
end
end Kd
section
variable {P : Program} {ops : Array Oper} {rest : List Oper} {o : Oper} {a : Act} {Q : Exit → Act → World → Prop}
theorem store_event {W w1 : World} (hgd : o.guard = none) {t : TypeId} {p : Tmp} {v : Operand} (_ho : o.op = .store t (.tmp p) v) (hN : o.dst = none)
  (hrun : (execOp a.eval o).run P W = .ok .skip w1) (h : ∀ w', w' = w1 → wpList P ops Q rest a w') : wpList P ops Q (o :: rest) a W := by
 refine wpList_plain hgd fun K hK => ?_
 unfold Oper.wp
 rw [hrun]
 show K (a.put o.dst undef) w1
 rw [hN]
 exact hK _ _ (h _ rfl)
end
namespace Kd
section
variable {α : Type} {enc : α → Value} {h1 : ∀ x, (enc x).oneCell' = true} {e base g n cap : Nat} {ok : Nat → Prop} {W : World} {xs : List α}
theorem R_putg (h : (scalar enc h1).R e W base ok (.slice (some ⟨g, 0, none⟩) n cap) xs) (i : Int) (x : α) : (scalar enc h1).R e (W.setCell ⟨g, i.toNat, none⟩ (enc x)) base ok (.slice (some ⟨g, 0, none⟩) n cap) (xs.set i.toNat x) ∧ W.grownBy (W.setCell ⟨g, i.toNat, none⟩ (enc x)) (some g) := by
 obtain ⟨rfl, _⟩ := R_reads' h
 exact R_put h i x
end
end Kd
section
variable {P : Program} {ops : Array Oper} {rest : List Oper} {o : Oper} {a : Act} {Q : Exit → Act → World → Prop} {W : World}
theorem zxc {N : Tmp} (_hN : o.dst = some N) (h : wpList P ops Q (o :: rest) a W) : wpList P ops Q (o :: rest) a W := h
theorem zfe {t : TypeId} {p : Tmp} {v : Operand} (_ho : o.op = .store t (.tmp p) v) (h : wpList P ops Q (o :: rest) a W) : wpList P ops Q (o :: rest) a W := h
end
section
variable {P : Program} {ops : Array Oper} {o : Oper} {a : Act} {Q : Exit → Act → World → Prop} {Kc : Act → World → Prop}
namespace Kd
variable {α : Type}
end Kd
end
inductive Vals (P : Program) (tmps : Array Value) (w : World) : List ResultVar → List Value → Prop where
  | nil : Vals P tmps w [] []
  | tmp {u : Tmp} {rs : List ResultVar} {vs : List Value} (h : Vals P tmps w rs vs) : Vals P tmps w (.tmp u :: rs) (tmps.getD u undef :: vs)
  | cell {p : Tmp} {ty : TypeId} {rs : List ResultVar} {vs : List Value} (g : Nat) (t : TypeId) (cs : Array Value) (fr : Nat × Nat) (d : TypeDesc)
      (hp : tmps.getD p undef = .pointer (some ⟨g, 0, none⟩)) (hg : w.heap[g]? = some (.cells cs t fr))
      (hu : P.underlying ty = some d) (hd : (match d with | .struct _ | .array _ _ => true | _ => false) = true) (hi : (P.info? ty).map (·.size) = some cs.size)
      (h : Vals P tmps w rs vs) : Vals P tmps w (.cell p ty :: rs) (.agg cs :: vs)
section
variable {P : Program} {tmps : Array Value} {w : World}
theorem vals_run {rs : List ResultVar} {vs : List Value} (hv : Vals P tmps w rs vs) (f : ResultVar → Sem Value) (hf : ∀ u, f (.tmp u) = pure (tmps.getD u undef)) (hc : ∀ a t, f (.cell a t) = (do loadVar t (← asAddr (tmps.getD a undef)))) :
  (rs.mapM f).run P w = .ok vs w := by
 induction hv with
 | nil => simp
 | tmp h ih => simp [List.mapM_cons, hf, ih]
 | cell g t cs fr d hp hg hu hd hi h ih =>
  rw [List.mapM_cons, hc, hp]
  simp [asAddr, run_loadVar_row w g t _ cs fr d hg hu hd hi, ih]
theorem zph {fn : Func} {rs : List ResultVar} {vs : List Value} (h : fn.results = rs.toArray) (hl : vs.length ≠ 1) (hv : Vals P tmps w rs vs) : (results fn tmps).run P w = .ok (.tuple vs.toArray) w := by
 unfold results
 rw [h, List.mapM_toArray]
 simp only [Sem.run_bind, Sem.run_map]
 rw [vals_run hv]
 ·simp [hl]
 ·intro u
  rfl
 ·intro a t
  rfl
end
namespace Kd
section
variable {P : Program} {α : Type}
end
section
variable {P : Program} {ops : Array Oper} {rest : List Oper} {o : Oper} {a : Act} {Q : Exit → Act → World → Prop} {Kc : Act → World → Prop} {α : Type}
end
end Kd
end Go.Proofs.YtlijjnjpomnphaaGreatDoorW.PrintWords
end
section
namespace Go.Proofs.YtlijjnjpomnphaaGreatDoorH
open Go.RowKit YtlijjnjpomnphaaGreatDoorW.PrintWords
theorem zk (l : List UInt8) : (l != []) = !l.isEmpty := by cases l <;> rfl
section
variable {P : Program} {ops : Array Oper} {rest : List Oper} {o : Oper} {a : Act} {K : Act → World → Prop} {Q : Exit → Act → World → Prop}
end
section
variable {P : Program} {ops : Array Oper} {rest : List Oper} {o : Oper} {a : Act} {Q : Exit → Act → World → Prop}
end
def Buf (w : World) (g : Nat) (e : TypeId) (l : List Int) : Prop :=
 ∃ (cs : Array Value) (m : Nat), w.heap[g]? = some (.cells cs e (m, m + 1)) ∧ cs.size = m ∧ l.length ≤ m ∧ ∀ j, j < l.length → cs[j]? = some (.int .u8 (l.getD j 0))
theorem Buf.cell {w : World} {g : Nat} {e : TypeId} {l : List Int} (h : Buf w g e l) (i : Nat) (hi : i < l.length) : w.cell? ⟨g, i, none⟩ = some (.int .u8 (l.getD i 0)) := by
 obtain ⟨cs, m, h1, h2, h3, h4⟩ := h
 simp [World.cell?, h1, h4 i hi]
theorem Buf.reads {w : World} {g : Nat} {e : TypeId} {l : List Int} (h : Buf w g e l) (hl : l.length ≤ 9223372036854775807) : zqd w .u8 (some ⟨g, 0, none⟩) l.length l := by
 refine ⟨rfl, hl, fun _ => ⟨_, rfl, fun j hj => ?_⟩⟩
 rw [add_plain]
 exact h.cell j hj
def zbc.f (a0 a1 : ByteArray) : Option Int := some (Lib.compareBytes a0.data.toList a1.data.toList)
theorem bytealg_CompareString (a b : ByteArray) (w : World) :
  Calls Tryz.prog 149 #[.string a, .string b] w fun e w' => e = .returned (.int .i64 (Lib.compareBytes a.data.toList b.data.toList)) ∧ w' = w := by
 go_enter Tryz.func149, Tryz.ntmps149
 go_wp2
 rw [run_callFunc_extern Tryz.func162 (by kernel_rfl) (by kernel_rfl) (by kernel_rfl) (e := Extern.BytealgCompare.compare) (by kernel_rfl), Lib.run_compareString]
 simp only [Result.andThen]
 rw [Oper.upon_value]
 go_wp2
 go_ret
 exact ⟨rfl, rfl⟩
theorem zbc.calls (a0 a1 : ByteArray) (r : Int) (w : World) (h : zbc.f a0 a1 = some r) :
  Calls Tryz.prog 124 #[.string a0, .string a1] w fun e w' => e = .returned (.int .i64 r) ∧ zo w w' := by
 obtain rfl := Option.some.inj h
 go_enter Tryz.func124, Tryz.ntmps124
 go_wp2_with (go_at_call 149; refine (bytealg_CompareString _ _ _).mono ?_; rintro e w' ⟨rfl, rfl⟩)
 go_ret
 exact ⟨rfl, zo.refl _⟩
end Go.Proofs.YtlijjnjpomnphaaGreatDoorH
end
section
namespace Go.Proofs.YtlijjnjpomnphaaGreatDoorB
open Go.RowKit YtlijjnjpomnphaaGreatDoorW.PrintWords
section
variable {α β : Type} {g f : Nat → Option α} {r : α}
theorem Ev.succ (h : Ev (fun k => g (k + 1)) r) : Ev g r := Ev.step (fun _ => rfl) h
theorem Ev.pos {c : Nat → Prop} [∀ k, Decidable (c k)] (hc : ∀ k, c k) (h : Ev g r) : Ev (fun k => if c k then g k else f k) r := Ev.congr (fun k => if_pos (hc k)) h
theorem Ev.neg {c : Nat → Prop} [∀ k, Decidable (c k)] (hc : ∀ k, ¬ c k) (h : Ev f r) : Ev (fun k => if c k then g k else f k) r := Ev.congr (fun k => if_neg (hc k)) h
theorem Ev.bind0 {a : α} {q : β} {o : Option α} {F : Nat → α → Option β} (h : o = some a) (k : Ev (fun n => F n a) q) : Ev (fun n => o.bind (F n)) q := by
 subst h; exact k
theorem Ev.eq {r' : α} (h : Ev g r) (e : r = r') : Ev g r' := e ▸ h
end
theorem w64 {i : Int} (h0 : -9223372036854775808 ≤ i) (h1 : i ≤ 9223372036854775807) : wrap64 i = i := by unfold wrap64; omega
theorem w32 {i : Int} (h0 : -2147483648 ≤ i) (h1 : i ≤ 2147483647) : wrap32 i = i := by unfold wrap32; omega
theorem zxe (s : ByteArray) : s.size = (bytesOf s).length := (bytesOf_length s).symm
theorem zad (s : ByteArray) (i : Nat) : bt s i = (bytesOf s).getD i 0 := by
 have h := rd_bytesOf s i
 simpa [rd] using h.symm
theorem bt_zero (s : ByteArray) : bt s 0 = (bytesOf s).getD 0 0 := zad s 0
theorem zwb (s t : ByteArray) : bytesOf (s ++ t) = bytesOf s ++ bytesOf t := by
 simp [bytesOf, ByteArray.toList_data_append]
theorem zoc (s : ByteArray) (a b : Nat) : bytesOf (s.extract a b) = ((bytesOf s).drop a).take (b - a) := by
 simp [bytesOf, Lib.extract_data, List.map_drop, List.map_take]
theorem B_drop (s : ByteArray) (a : Nat) : bytesOf (s.extract a s.size) = (bytesOf s).drop a := by
 rw [zoc, zxe, List.take_of_length_le]
 simp
theorem B_take (s : ByteArray) (b : Nat) : bytesOf (s.extract 0 b) = (bytesOf s).take b := by
 rw [zoc]; simp
theorem B_range (s : ByteArray) : ∀ x ∈ bytesOf s, 0 ≤ x ∧ x ≤ 255 := by
 intro x hx
 simp only [bytesOf, List.mem_map] at hx
 obtain ⟨b, _, rfl⟩ := hx
 have := b.toNat_lt
 omega
theorem B_inj {s t : ByteArray} (h : bytesOf s = bytesOf t) : s = t := by
 have h1 : s.data.toList = t.data.toList := by
  have hinj : ∀ (a b : List UInt8), a.map (fun b : UInt8 => (b.toNat : Int)) = b.map (fun b : UInt8 => (b.toNat : Int)) → a = b := by
   intro a
   induction a with
   | nil => intro b hb; cases b with
    | nil => rfl
    | cons => simp at hb
   | cons x a ih =>
    intro b hb
    cases b with
    | nil => simp at hb
    | cons y b =>
     simp only [List.map_cons, List.cons.injEq] at hb
     have : x = y := UInt8.toNat_inj.1 (by omega)
     rw [this, ih b hb.2]
  exact hinj _ _ h
 have h2 : s.data = t.data := Array.toList_inj.1 h1
 cases s; cases t; simp_all
theorem B_toList (s : ByteArray) : s.toList = s.data.toList := ByteArray.toList_eq s
theorem zyd (s t : ByteArray) : s.toList = t.toList ↔ bytesOf s = bytesOf t := by
 rw [B_toList, B_toList]
 constructor
 ·intro h; simp [bytesOf, h]
 ·intro h; rw [B_inj h]
theorem zxd (s : ByteArray) (l : List UInt8) : s.toList = l ↔ bytesOf s = l.map (fun b => (b.toNat : Int)) := by
 have h := zyd s ⟨l.toArray⟩
 have h2 : (⟨l.toArray⟩ : ByteArray).toList = l := by rw [B_toList]
 have h3 : bytesOf (⟨l.toArray⟩ : ByteArray) = l.map (fun b => (b.toNat : Int)) := by simp [bytesOf]
 rw [h2, h3] at h
 exact h
theorem zgc (s : ByteArray) : s.toList = [] ↔ bytesOf s = [] := by
 rw [zxd]; rfl
theorem B_str {l : List Int} (h : ∀ x ∈ l, 0 ≤ x ∧ x ≤ 255) : bytesOf (strOfNums l) = l := by
 have : ∀ (l : List Int), (∀ x ∈ l, 0 ≤ x ∧ x ≤ 255) → (l.map fun n => UInt8.ofNat n.toNat).map (fun b => (b.toNat : Int)) = l := by
  intro l
  induction l with
  | nil => intro _; rfl
  | cons a l ih =>
   intro h
   have ha := h a List.mem_cons_self
   rw [List.map_cons, List.map_cons, ih (fun x hx => h x (List.mem_cons_of_mem _ hx))]
   congr 1
   rw [UInt8.toNat_ofNat_of_lt' (by show a.toNat < 256; omega)]
   omega
 simpa [strOfNums, bytesOf] using this l h
theorem str_B (s : ByteArray) : strOfNums (bytesOf s) = s := B_inj (B_str (B_range s))
theorem B_encode {c : Int} (h0 : 0 ≤ c) (h1 : c < 128) : bytesOf (Utf8.encode c) = [c] := by
 unfold Utf8.encode
 have hv : Utf8.valid c = true := by
  simp [Utf8.valid]; omega
 simp only [hv, if_true]
 rw [if_pos (by omega)]
 simp only [bytesOf]
 have : (UInt8.ofNat c.toNat).toNat = c.toNat := UInt8.toNat_ofNat_of_lt' (by show c.toNat < 256; omega)
 simp [this]
 omega
def lt_ : List Int → List Int → Bool
 | _, [] => false
 | [], _ :: _ => true
 | a :: x, b :: y => decide (a < b) || (decide (a = b) && lt_ x y)
def cmp_ : List Int → List Int → Int
 | [], [] => 0
 | [], _ :: _ => -1
 | _ :: _, [] => 1
 | a :: az, b :: bs => if a < b then -1 else if b < a then 1 else cmp_ az bs
theorem compare_B (s t : ByteArray) : Lib.compareBytes s.data.toList t.data.toList = cmp_ (bytesOf s) (bytesOf t) := by
 simp only [bytesOf]
 generalize s.data.toList = a
 generalize t.data.toList = b
 induction a generalizing b with
 | nil => cases b <;> simp [Lib.compareBytes, cmp_]
 | cons x a ih =>
  cases b with
  | nil => simp [Lib.compareBytes, cmp_]
  | cons y b =>
   simp only [Lib.compareBytes, cmp_, List.map_cons, ih b, UInt8.lt_iff_toNat_lt]
   have : ∀ a b : Nat, (a < b) = ((a : Int) < (b : Int)) := fun a b => by simp
   simp only [this]
theorem cmp_lt (a b : List Int) : cmp_ a b < 0 ↔ lt_ a b = true := by
 induction a generalizing b with
 | nil => cases b <;> simp [cmp_, lt_]
 | cons x a ih =>
  cases b with
  | nil => simp [cmp_, lt_]
  | cons y b =>
   simp only [cmp_, lt_]
   by_cases h : x < y
   ·simp [h]
   ·by_cases h2 : y < x
    ·have : ¬ x = y := by omega
     simp [h, h2, this]
    ·have : x = y := by omega
     subst this
     simp [ih b]
theorem B_empty : bytesOf ByteArray.empty = [] := rfl
theorem rdOf_B (l : List ByteArray) (i : Nat) : bytesOf (rdOf ByteArray.empty l i) = (l.map bytesOf).getD i [] := by
 simp only [rdOf, Int.toNat_natCast, List.getD_eq_getElem?_getD, List.getElem?_map]
 cases l[i]? <;> simp [B_empty]
theorem zlc (l : List Int) (i : Nat) (h : i < l.length) : l.drop i = l.getD i 0 :: l.drop (i + 1) := by
 rw [List.drop_eq_getElem_cons h]
 simp [List.getD_eq_getElem?_getD, h]
theorem drop_get_list (l : List (List Int)) (i : Nat) (h : i < l.length) : l.drop i = l.getD i [] :: l.drop (i + 1) := by
 rw [List.drop_eq_getElem_cons h]
 simp [List.getD_eq_getElem?_getD, h]
def isD (c : Int) : Bool := decide (48 ≤ c ∧ c ≤ 57)
def isL (c : Int) : Bool := decide (97 ≤ c ∧ c ≤ 122)
def low (c : Int) : Int := if 65 ≤ c ∧ c ≤ 90 then c + 32 else c
def run (p : Int → Bool) (l : List Int) : Nat := (l.takeWhile p).length
theorem zgf (p : Int → Bool) : run p [] = 0 := rfl
theorem zed {p : Int → Bool} {c : Int} {l : List Int} (h : p c = true) : run p (c :: l) = run p l + 1 := by simp [run, h]
theorem znc {p : Int → Bool} {c : Int} {l : List Int} (h : p c = false) : run p (c :: l) = 0 := by simp [run, h]
theorem zce (p : Int → Bool) (l : List Int) : run p l ≤ l.length := by
 unfold run
 exact List.IsPrefix.length_le (List.takeWhile_prefix p)
theorem take_run (p : Int → Bool) (l : List Int) : l.take (run p l) = l.takeWhile p := by
 induction l with
 | nil => rfl
 | cons c l ih => cases h : p c <;> simp [run, h] at ih ⊢; exact ih
def glue (a : List Int) : List (List Int) → List (List Int)
 | [] => [a]
 | h :: t => (a ++ h) :: t
def zsb (p : Int → Bool) : List Int → List (List Int)
 | [] => [[]]
 | c :: r => if p c = true then [] :: zsb p r else glue [c] (zsb p r)
theorem glue_glue (a b : List Int) (L : List (List Int)) : glue a (glue b L) = glue (a ++ b) L := by cases L <;> simp [glue]
theorem glue_ne (a : List Int) (L : List (List Int)) : glue a L ≠ [] := by cases L <;> simp [glue]
theorem zzd (p : Int → Bool) (l : List Int) : zsb p l ≠ [] := by
 cases l with
 | nil => simp [zsb]
 | cons c r =>
  simp only [zsb]
  split
  ·simp
  ·exact glue_ne _ _
theorem glue_nil {L : List (List Int)} (h : L ≠ []) : glue [] L = L := by cases L with
 | nil => exact absurd rfl h
 | cons x r => simp [glue]
theorem splitP_run (p : Int → Bool) : ∀ (l : List Int), zsb p l = if run (fun c => !p c) l < l.length then l.take (run (fun c => !p c) l) :: zsb p (l.drop (run (fun c => !p c) l + 1)) else [l] := by
 intro l
 induction l with
 | nil => rfl
 | cons c r ih =>
  simp only [zsb]
  cases h : p c
  ·rw [if_neg (by simp), zed (by simp [h])]
   have hle := zce (fun c => !p c) r
   rw [ih]
   by_cases hlt : run (fun c => !p c) r < r.length
   ·rw [if_pos hlt, if_pos (by simp; omega)]
    simp [glue]
   ·rw [if_neg hlt, if_neg (by simp; omega)]
    rfl
  ·rw [if_pos rfl, znc (by simp [h]), if_pos (by simp)]
   simp
theorem zlf (p : Int → Bool) : ∀ (l : List Int), (zsb p l).length ≤ l.length + 1 := by
 intro l
 induction l with
 | nil => simp [zsb]
 | cons c r ih =>
  simp only [zsb]
  split
  ·simp; omega
  ·have : ∀ (a : List Int) (L : List (List Int)), L ≠ [] → (glue a L).length = L.length := by
    intro a L hL
    cases L with
    | nil => exact absurd rfl hL
    | cons x r => simp [glue]
   rw [this _ _ (zzd p r)]
   simp; omega
end Go.Proofs.YtlijjnjpomnphaaGreatDoorB
end
section
namespace Go.Proofs
open Go.Shelf
def Tryz.lays159_ren : Go.Shelf.Ren := ⟨fun | 159 => 66 | 165 => 96 | 166 => 97 | 167 => 98 | 169 => 99 | 230 => 100 | 204 => 101 | 240 => 128 | 241 => 129 | 197 => 130 | 118 => 131 | 168 => 132 | 270 => 133 | 262 => 134 | 276 => 152 | 277 => 153 | 260 => 154 | 242 => 155 | 313 => 156 | 278 => 165 | 274 => 166 | 275 => 167 | n => n, fun | 9 => 9 | 4 => 4 | 3 => 3 | 5 => 5 | 72 => 137 | 0 => 0 | 76 => 88 | 75 => 74 | 107 => 142 | 70 => 135 | 20 => 20 | 37 => 116 | 127 => 161 | 21 => 21 | 105 => 162 | 164 => 175 | 162 => 181 | 203 => 179 | 119 => 195 | 46 => 131 | 139 => 198 | 138 => 197 | 51 => 199 | 160 => 200 | 208 => 217 | 206 => 215 | 80 => 140 | n => n, fun | 13 => 1 | 3 => 4 | 4 => 5 | n => n⟩
theorem Tryz.lays159 : Go.Proofs.Lays.n159 Tryz.prog Tryz.lays159_ren := {
 mixed := by kernel_rfl
 f118 := Tryz.func131.trans (congrArg some (by kernel_rfl))
 f159 := Tryz.func66.trans (congrArg some (by kernel_rfl))
 f165 := Tryz.func96.trans (congrArg some (by kernel_rfl))
 f166 := Tryz.func97.trans (congrArg some (by kernel_rfl))
 f167 := Tryz.func98.trans (congrArg some (by kernel_rfl))
 f168 := Tryz.func132.trans (congrArg some (by kernel_rfl))
 f169 := Tryz.func99.trans (congrArg some (by kernel_rfl))
 f197 := Tryz.func130.trans (congrArg some (by kernel_rfl))
 f204 := Tryz.func101.trans (congrArg some (by kernel_rfl))
 f230 := Tryz.func100.trans (congrArg some (by kernel_rfl))
 f240 := Tryz.func128.trans (congrArg some (by kernel_rfl))
 f241 := Tryz.func129.trans (congrArg some (by kernel_rfl))
 f242 := Tryz.func155.trans (congrArg some (by kernel_rfl))
 f260 := Tryz.func154.trans (congrArg some (by kernel_rfl))
 f262 := Tryz.func134.trans (congrArg some (by kernel_rfl))
 f270 := Tryz.func133.trans (congrArg some (by kernel_rfl))
 f274 := Tryz.func166.trans (congrArg some (by kernel_rfl))
 f275 := Tryz.func167.trans (congrArg some (by kernel_rfl))
 f276 := Tryz.func152.trans (congrArg some (by kernel_rfl))
 f277 := Tryz.func153.trans (congrArg some (by kernel_rfl))
 f278 := Tryz.func165.trans (congrArg some (by kernel_rfl))
 f313 := Tryz.func156.trans (congrArg some (by kernel_rfl))
 t0 := Tryz.underlying0
 a0 := Tryz.isAgg0
 z0 := Tryz.sizeOf0
 v0 := Tryz.zeroValue0
 t3 := Tryz.underlying3
 a3 := Tryz.isAgg3
 z3 := Tryz.sizeOf3
 v3 := Tryz.zeroValue3
 t4 := Tryz.underlying4
 a4 := Tryz.isAgg4
 z4 := Tryz.sizeOf4
 v4 := Tryz.zeroValue4
 t5 := Tryz.underlying5
 a5 := Tryz.isAgg5
 z5 := Tryz.sizeOf5
 v5 := Tryz.zeroValue5
 t9 := Tryz.underlying9
 a9 := Tryz.isAgg9
 z9 := Tryz.sizeOf9
 v9 := Tryz.zeroValue9
 t20 := Tryz.underlying20
 a20 := Tryz.isAgg20
 z20 := Tryz.sizeOf20
 v20 := Tryz.zeroValue20
 t21 := Tryz.underlying21
 a21 := Tryz.isAgg21
 z21 := Tryz.sizeOf21
 v21 := Tryz.zeroValue21
 t37 := Tryz.underlying116
 a37 := Tryz.isAgg116
 z37 := Tryz.sizeOf116
 v37 := Tryz.zeroValue116
 t46 := Tryz.underlying131
 a46 := Tryz.isAgg131
 z46 := Tryz.sizeOf131
 v46 := Tryz.zeroValue131
 t51 := Tryz.underlying199
 a51 := Tryz.isAgg199
 z51 := Tryz.sizeOf199
 v51 := Tryz.zeroValue199
 t70 := Tryz.underlying135
 a70 := Tryz.isAgg135
 z70 := Tryz.sizeOf135
 v70 := Tryz.zeroValue135
 t72 := Tryz.underlying137
 a72 := Tryz.isAgg137
 z72 := Tryz.sizeOf137
 v72 := Tryz.zeroValue137
 t75 := Tryz.underlying74
 a75 := Tryz.isAgg74
 z75 := Tryz.sizeOf74
 v75 := Tryz.zeroValue74
 t76 := Tryz.underlying88
 a76 := Tryz.isAgg88
 z76 := Tryz.sizeOf88
 v76 := Tryz.zeroValue88
 t105 := Tryz.underlying162
 a105 := Tryz.isAgg162
 z105 := Tryz.sizeOf162
 v105 := Tryz.zeroValue162
 t107 := Tryz.underlying142
 a107 := Tryz.isAgg142
 z107 := Tryz.sizeOf142
 v107 := Tryz.zeroValue142
 t119 := Tryz.underlying195
 a119 := Tryz.isAgg195
 z119 := Tryz.sizeOf195
 t127 := Tryz.underlying161
 a127 := Tryz.isAgg161
 z127 := Tryz.sizeOf161
 v127 := Tryz.zeroValue161
 t138 := Tryz.underlying197
 a138 := Tryz.isAgg197
 z138 := Tryz.sizeOf197
 v138 := Tryz.zeroValue197
 t139 := Tryz.underlying198
 a139 := Tryz.isAgg198
 z139 := Tryz.sizeOf198
 v139 := Tryz.zeroValue198
 t160 := Tryz.underlying200
 a160 := Tryz.isAgg200
 z160 := Tryz.sizeOf200
 v160 := Tryz.zeroValue200
 t162 := Tryz.underlying181
 a162 := Tryz.isAgg181
 z162 := Tryz.sizeOf181
 v162 := Tryz.zeroValue181
 t164 := Tryz.underlying175
 a164 := Tryz.isAgg175
 z164 := Tryz.sizeOf175
 v164 := Tryz.zeroValue175
 t203 := Tryz.underlying179
 a203 := Tryz.isAgg179
 z203 := Tryz.sizeOf179
 v203 := Tryz.zeroValue179
 t206 := Tryz.underlying215
 a206 := Tryz.isAgg215
 z206 := Tryz.sizeOf215
 v206 := Tryz.zeroValue215
 t208 := Tryz.underlying217
 a208 := Tryz.isAgg217
 z208 := Tryz.sizeOf217
 v208 := Tryz.zeroValue217
 g3 := by kernel_rfl
 g4 := by kernel_rfl
 g13 := by kernel_rfl }
theorem Tryz.Builder_Extra_159 : Builder.Extra Tryz.prog Tryz.lays159_ren := {
 sizeBuilder := by kernel_rfl
 liesBuilder := by kernel_rfl
 t5 := Tryz.underlying5
 a5 := Tryz.isAgg5
 z5 := Tryz.sizeOf5
 v5 := Tryz.zeroValue5
 infoByte := by kernel_rfl
 cellsByte := by kernel_rfl
 sizeByte := by kernel_rfl
 neB5 := by decide }
open Go.RowKit in
theorem Tryz.strings_ToLower_ascii (s : ByteArray) (w : World) (hs : s.size ≤ 140737488355328) (hascii : ∀ (j : Nat) (b : UInt8), s.data.toList[j]? = some b → b.toNat < 128) :
 Calls Tryz.prog 66 #[.string s] w fun e w' => e = .returned (.string ⟨(Lib.toLowerA s.data.toList).toArray⟩) ∧ Below w.heap.size w w' := Any.strings_ToLower_ascii Tryz.lays159 Tryz.Builder_Extra_159 s w hs hascii
def Tryz.lays156_ren : Go.Shelf.Ren := ⟨fun | 156 => 158 | 165 => 96 | 166 => 97 | 169 => 99 | 240 => 128 | 241 => 129 | 276 => 152 | 277 => 153 | n => n, fun | 31 => 24 | 9 => 9 | 3 => 3 | 4 => 4 | 0 => 0 | 20 => 20 | 72 => 137 | 76 => 88 | 70 => 135 | 37 => 116 | 75 => 74 | 127 => 161 | 164 => 175 | 5 => 5 | 80 => 140 | n => n, fun | n => n⟩
theorem Tryz.lays156 : Go.Proofs.Lays.n156 Tryz.prog Tryz.lays156_ren := {
 mixed := by kernel_rfl
 f156 := Tryz.func158.trans (congrArg some (by kernel_rfl))
 f165 := Tryz.func96.trans (congrArg some (by kernel_rfl))
 f166 := Tryz.func97.trans (congrArg some (by kernel_rfl))
 f169 := Tryz.func99.trans (congrArg some (by kernel_rfl))
 f240 := Tryz.func128.trans (congrArg some (by kernel_rfl))
 f241 := Tryz.func129.trans (congrArg some (by kernel_rfl))
 f276 := Tryz.func152.trans (congrArg some (by kernel_rfl))
 f277 := Tryz.func153.trans (congrArg some (by kernel_rfl))
 t0 := Tryz.underlying0
 a0 := Tryz.isAgg0
 z0 := Tryz.sizeOf0
 v0 := Tryz.zeroValue0
 t3 := Tryz.underlying3
 a3 := Tryz.isAgg3
 z3 := Tryz.sizeOf3
 v3 := Tryz.zeroValue3
 t4 := Tryz.underlying4
 a4 := Tryz.isAgg4
 z4 := Tryz.sizeOf4
 v4 := Tryz.zeroValue4
 t9 := Tryz.underlying9
 a9 := Tryz.isAgg9
 z9 := Tryz.sizeOf9
 v9 := Tryz.zeroValue9
 t20 := Tryz.underlying20
 a20 := Tryz.isAgg20
 z20 := Tryz.sizeOf20
 v20 := Tryz.zeroValue20
 t31 := Tryz.underlying24
 a31 := Tryz.isAgg24
 z31 := Tryz.sizeOf24
 v31 := Tryz.zeroValue24
 t37 := Tryz.underlying116
 a37 := Tryz.isAgg116
 z37 := Tryz.sizeOf116
 v37 := Tryz.zeroValue116
 t70 := Tryz.underlying135
 a70 := Tryz.isAgg135
 z70 := Tryz.sizeOf135
 v70 := Tryz.zeroValue135
 t72 := Tryz.underlying137
 a72 := Tryz.isAgg137
 z72 := Tryz.sizeOf137
 v72 := Tryz.zeroValue137
 t75 := Tryz.underlying74
 a75 := Tryz.isAgg74
 z75 := Tryz.sizeOf74
 v75 := Tryz.zeroValue74
 t76 := Tryz.underlying88
 a76 := Tryz.isAgg88
 z76 := Tryz.sizeOf88
 v76 := Tryz.zeroValue88
 t127 := Tryz.underlying161
 a127 := Tryz.isAgg161
 z127 := Tryz.sizeOf161
 v127 := Tryz.zeroValue161
 t164 := Tryz.underlying175
 a164 := Tryz.isAgg175
 z164 := Tryz.sizeOf175
 v164 := Tryz.zeroValue175 }
theorem Tryz.Builder_Extra_156 : Builder.Extra Tryz.prog Tryz.lays156_ren := {
 sizeBuilder := by kernel_rfl
 liesBuilder := by kernel_rfl
 t5 := Tryz.underlying5
 a5 := Tryz.isAgg5
 z5 := Tryz.sizeOf5
 v5 := Tryz.zeroValue5
 infoByte := by kernel_rfl
 cellsByte := by kernel_rfl
 sizeByte := by kernel_rfl
 neB5 := by decide }
open Go.RowKit in
theorem Tryz.strings_Join_none (a : Option Addr) (c : Nat) (sep : ByteArray) (w : World) :
 Calls Tryz.prog 158 #[.slice a 0 c, .string sep] w fun e w' => e = .returned (.string ⟨#[]⟩) ∧ w' = w := Any.strings_Join_none Tryz.lays156 Tryz.Builder_Extra_156 a c sep w
open Go.RowKit in
theorem Tryz.strings_Join (bk o c : Nat) (xs : List ByteArray) (sep : ByteArray) (w : World) (hcells : ∀ (j : Nat) x, xs[j]? = some x → w.cell? ⟨bk, o + j, none⟩ = some (.string x)) (hbk : bk < w.heap.size) (hN : xs.length ≤ 140737488355328) (hcap : xs.length ≤ c) (hlen : (Lib.join (xs.map (·.data.toList)) sep.data.toList).length ≤ 140737488355328) :
    Calls Tryz.prog 158 #[.slice (some ⟨bk, o, none⟩) xs.length c, .string sep] w fun e w' => e = .returned (.string ⟨(Lib.join (xs.map (·.data.toList)) sep.data.toList).toArray⟩) ∧ Below w.heap.size w w' := Any.strings_Join Tryz.lays156 Tryz.Builder_Extra_156 bk o c xs sep w hcells hbk hN hcap hlen
end Go.Proofs
namespace Go.Proofs.YtlijjnjpomnphaaGreatDoorH
open Go.RowKit YtlijjnjpomnphaaGreatDoorW.PrintWords YtlijjnjpomnphaaGreatDoorB
def zrb.f (a0 : ByteArray) : Option ByteArray :=
 if a0.size ≤ 140737488355328 ∧ ∀ x ∈ bytesOf a0, x ≤ 127 then some ⟨(Lib.toLowerA a0.data.toList).toArray⟩ else none
theorem zrb.calls (a0 : ByteArray) (r : ByteArray) (w : World) (h : zrb.f a0 = some r) :
  Calls Tryz.prog 66 #[.string a0] w fun e w' => e = .returned (.string r) ∧ Below w.heap.size w w' := by
 unfold zrb.f at h
 by_cases hc : a0.size ≤ 140737488355328 ∧ ∀ x ∈ bytesOf a0, x ≤ 127
 ·rw [if_pos hc] at h
  obtain rfl := Option.some.inj h
  refine Tryz.strings_ToLower_ascii a0 w hc.1 (fun j b hb => ?_)
  have hm : (b.toNat : Int) ∈ bytesOf a0 := List.mem_map.2 ⟨b, List.mem_of_getElem? hb, rfl⟩
  have := hc.2 _ hm
  omega
 ·rw [if_neg hc] at h
  cases h
theorem toLower_B (s : ByteArray) : bytesOf (⟨(Lib.toLowerA s.data.toList).toArray⟩ : ByteArray) = (bytesOf s).map low := by
 simp only [bytesOf, Lib.toLowerA, List.map_map]
 refine List.map_congr_left (fun b _ => ?_)
 simp only [Function.comp, Lib.lowerB, low]
 by_cases h : 65 ≤ b.toNat ∧ b.toNat ≤ 90
 ·have h1 : Lib.isUpperB b = true := by
   unfold Lib.isUpperB
   rw [Bool.and_eq_true, decide_eq_true_iff, decide_eq_true_iff, UInt8.le_iff_toNat_le, UInt8.le_iff_toNat_le]
   exact h
  rw [if_pos h1, if_pos (by omega), UInt8.toNat_add]
  have : (32 : UInt8).toNat = 32 := rfl
  omega
 ·have h1 : ¬ Lib.isUpperB b = true := by
   unfold Lib.isUpperB
   rw [Bool.and_eq_true, decide_eq_true_iff, decide_eq_true_iff, UInt8.le_iff_toNat_le, UInt8.le_iff_toNat_le]
   exact h
  rw [if_neg h1, if_neg (by omega)]
def spec_lower.f (a0 : ByteArray) : Option ByteArray := if a0.size ≤ 140737488355328 then some (strOfNums ((bytesOf a0).map low)) else none
def joinB (l : List ByteArray) : ByteArray := l.foldr (fun a b => a ++ b) ByteArray.empty
theorem join_B (l : List ByteArray) : (⟨(Lib.join (l.map (·.data.toList)) ([] : List UInt8)).toArray⟩ : ByteArray) = joinB l := by
  apply B_inj
  have h : ∀ l : List ByteArray, (Lib.join (l.map (·.data.toList)) ([] : List UInt8)).map (fun b => (b.toNat : Int)) = bytesOf (joinB l) := by
    intro l
    have e : ∀ m : List (List UInt8), Lib.join m [] = m.flatten := by
      intro m
      unfold Lib.join
      induction m with
      | nil => rfl
      | cons x m ih =>
        cases m with
        | nil => simp [List.intercalate]
        | cons y m => rw [List.intercalate_cons_cons, ih]; simp
    rw [e]
    induction l with
    | nil => rfl
    | cons x l ih =>
      rw [List.map_cons, List.flatten_cons, List.map_append, ih]
      show _ = bytesOf (x ++ joinB l)
      rw [zwb]
      rfl
  simpa [bytesOf] using h l
theorem C_spot {w : World} {A : Option Addr} {l : List ByteArray} (h : Kd.C Kd.string w A l.length l) (h0 : 0 < l.length) : ∃ b o, A = some ⟨b, o, none⟩ ∧ b < w.heap.size ∧ ∀ (j : Nat) x, l[j]? = some x → w.cell? ⟨b, o + j, none⟩ = some (.string x) := by
 obtain ⟨ad, e, hc⟩ := h.2.2 h0
 have key : ∀ (j : Nat) x, l[j]? = some x → w.cell? (ad.add j) = some (.string x) := by
  intro j x hx
  obtain ⟨c, _, hM, h3⟩ := hc j x hx
  have e1 : Kd.string.sz = 1 := rfl
  have hM2 : c = [.string x] := hM
  subst hM2
  have h4 := h3 0 _ rfl
  rw [e1, Nat.mul_one, Nat.add_zero] at h4
  exact h4
 obtain ⟨b, o, s⟩ := ad
 have k0 : w.cell? ⟨b, o, s⟩ = some (.string l[0]) := key 0 _ (List.getElem?_eq_getElem h0)
 have hb : ∃ x, w.heap[b]? = some x := by
  cases hx : w.heap[b]? with
  | some x => exact ⟨x, rfl⟩
  | none => unfold World.cell? at k0; simp only [hx] at k0; cases k0
 have hs : s = none := by
  cases s with
  | none => rfl
  | some q =>
   unfold World.cell? at k0
   simp only at k0
   split at k0
   ·simp at k0
   ·cases k0
 subst hs
 refine ⟨b, o, e, ?_, fun j x hx => ?_⟩
 ·obtain ⟨x, hx⟩ := hb
  exact (Array.getElem?_eq_some_iff.1 hx).1
 ·have h5 := key j x hx
  rw [show (⟨b, o, none⟩ : Addr).add j = ⟨b, o + j, none⟩ by unfold Addr.add; split <;> simp_all] at h5
  exact h5
theorem join_ (w : World) (A : Option Addr) (c : Nat) (l : List ByteArray) (hr : Kd.C Kd.string w A l.length l) (hc : l.length ≤ c) (hl : l.length ≤ 140737488355328) (hs : (joinB l).size ≤ 140737488355328) :
    Calls Tryz.prog 158 #[.slice A l.length c, .string ⟨#[]⟩] w fun e w' => e = .returned (.string (joinB l)) ∧ Below w.heap.size w w' := by
  rcases Nat.eq_zero_or_pos l.length with h0 | h0
  · have e := List.length_eq_zero_iff.1 h0
    subst e
    refine (Tryz.strings_Join_none A c ⟨#[]⟩ w).mono ?_
    rintro e w' ⟨rfl, rfl⟩
    exact ⟨rfl, Below.refl _ _⟩
  · obtain ⟨b, o, rfl, hb, hcell⟩ := C_spot hr h0
    have hsz : (Lib.join (l.map (·.data.toList)) ([] : List UInt8)).length = (joinB l).size := by
      have := congrArg ByteArray.size (join_B l)
      rw [← this]
      simp [ByteArray.size]
    refine (Tryz.strings_Join b o c l ⟨#[]⟩ w hcell hb hl hc (by rw [show (⟨#[]⟩ : ByteArray).data.toList = [] from rfl, hsz]; exact hs)).mono ?_
    rintro e w' ⟨rfl, h⟩
    exact ⟨by rw [show (⟨#[]⟩ : ByteArray).data.toList = [] from rfl, join_B], h⟩
end Go.Proofs.YtlijjnjpomnphaaGreatDoorH
end
section
namespace Go.Proofs.YtlijjnjpomnphaaGreatDoorW.PrintLast
section
variable {P : Program} {ops : Array Oper} {Q : Exit → Act → World → Prop} {md : Region.Mode} {S : World → Prop} {ds : List Nat}
def Region.reachB (md : Region.Mode) (ops : Array Oper) (i : Nat) : Nat → Nat → Bool
 | 0, _ => false
 | fuel + 1, d => match ops[d]? with
  | some o => o.after.any fun e => Region.binds md e && (e.on == i || Region.reachB md ops i fuel e.on)
  | none => false
def Region.closedB (md : Region.Mode) (ops : Array Oper) (listed : Array Bool) : Bool :=
 (List.range ops.size).all fun j => !listed.getD j false || match ops[j]? with
  | some o => o.after.all fun e => !Region.binds md e || listed.getD e.on false
  | none => true
def Region.lastB (md : Region.Mode) (ops : Array Oper) (listed : Array Bool) (ds : List Nat) (i : Nat) : Bool :=
 ds.all fun d => listed.getD d true || Region.reachB md ops i ops.size d
def znd (md : Region.Mode) (ops : Array Oper) (listed : Array Bool) : Prop :=
 ∀ j oj, ops[j]? = some oj → listed.getD j false = true → ∀ e ∈ oj.after, Region.binds md e = true → listed.getD e.on false = true
theorem Region.closedB_spec {listed : Array Bool} (h : Region.closedB md ops listed = true) : znd md ops listed := by
 intro j oj hj hl e he hb
 have hlt : j < ops.size := (Array.getElem?_eq_some_iff.1 hj).1
 have h1 := List.all_eq_true.1 h j (List.mem_range.2 hlt)
 simp only [hl, hj, Bool.not_true, Bool.false_or] at h1
 have h2 := Array.all_eq_true_iff_forall_mem.1 h1 e he
 simpa [hb] using h2
theorem znd.set {listed : Array Bool} {i : Nat} (h : znd md ops listed) (hi : i ∈ Region.ready md ops listed) : znd md ops (listed.setIfInBounds i true) := by
 obtain ⟨_, oi, hoi, hall⟩ := mem_ready.1 hi
 intro j oj hj hl e he hb
 by_cases hij : i = j
 ·subst hij
  have : oj = oi := Option.some.inj (hj.symm.trans hoi)
  subst this
  exact getD_set_true (hall e he hb)
 ·rw [getD_set_ne false hij] at hl
  exact getD_set_true (h j oj hj hl e he hb)
theorem Region.reach_listed {listed : Array Bool} {i : Nat} (hc : znd md ops listed) : ∀ (fuel d : Nat), Region.reachB md ops i fuel d = true → listed.getD d false = true → listed.getD i false = true
 | 0, _, h, _ => by simp [Region.reachB] at h
 | fuel + 1, d, h, hl => by
  unfold Region.reachB at h
  cases ho : ops[d]? with
  | none => rw [ho] at h; simp at h
  | some o =>
   rw [ho] at h
   obtain ⟨e, he, h1⟩ := Array.any_eq_true'.1 h
   simp only [Bool.and_eq_true, Bool.or_eq_true, beq_iff_eq] at h1
   have hle := hc d o ho hl e he h1.1
   rcases h1.2 with h2 | h2
   ·rw [← h2]; exact hle
   ·exact Region.reach_listed hc fuel e.on h2 hle
theorem Region.reach_not_ready {listed : Array Bool} {i d fuel : Nat} (hc : znd md ops listed) (hr : Region.reachB md ops i fuel d = true) (hun : listed.getD i true = false) : d ∉ Region.ready md ops listed := by
 intro hd
 obtain ⟨_, o, ho, hall⟩ := mem_ready.1 hd
 have hi : listed.getD i false = true := by
  cases fuel with
  | zero => simp [Region.reachB] at hr
  | succ n =>
   unfold Region.reachB at hr
   rw [ho] at hr
   obtain ⟨e, he, h1⟩ := Array.any_eq_true'.1 hr
   simp only [Bool.and_eq_true, Bool.or_eq_true, beq_iff_eq] at h1
   have hle := hall e he h1.1
   rcases h1.2 with h2 | h2
   ·rw [← h2]; exact hle
   ·exact Region.reach_listed hc n e.on h2 hle
 rcases Nat.lt_or_ge i listed.size with h' | h'
 ·simp [h'] at hun hi
  rw [hun] at hi
  cases hi
 ·simp [Array.getElem?_eq_none h'] at hun
def zqb (P : Program) (md : Region.Mode) (ops : Array Oper) (Q : Exit → Act → World → Prop) (S : World → Prop) (ds : List Nat) : Nat → Array Bool → Act → World → Prop
 | 0, listed, a, w => Region.ready md ops listed = [] ∧ Q .normal a w
 | fuel + 1, listed, a, w =>
  (Region.ready md ops listed = [] → Q .normal a w) ∧
  ∀ i ∈ Region.ready md ops listed, wpOp P ops Q i (fun a' w' => (i ∉ ds → S w → S w') ∧ zqb P md ops Q S ds fuel (listed.setIfInBounds i true) a' w') a w
theorem zbh : ∀ (fuel : Nat) (listed : Array Bool) (a : Act) (w : World), zqb P md ops Q S ds fuel listed a w → wpAny P md ops Q fuel listed a w
 | 0, _, _, _, h => h
 | fuel + 1, _, _, _, h => ⟨h.1, fun i hi => wpOp_mono (fun a' w' h' => zbh fuel _ a' w' h'.2) (h.2 i hi)⟩
theorem wpAnyLast_first {i : Nat} {oi : Oper} {v : Value} (hi : ops[i]? = some oi) (hsel : ∀ (j : Nat) (o : Oper) cs b, ops[j]? = some o → o.op ≠ .select cs b)
  (hQ : ∀ c a w, Q (.panic c) (a.put oi.dst v) w → Q (.panic c) a w) (n : Nat) :
  ∀ (fuel : Nat) (listed : Array Bool) (a : Act) (w : World),
   (∀ j oj, ops[j]? = some oj → j ≠ i → listed.getD j true = false → (∀ e ∈ oj.after, Region.binds md e = true → e.on ≠ i) → oi.apart ops oj = true) →
   znd md ops listed → (∀ d ∈ ds, listed.getD d true = false → Region.reachB md ops i n d = true) →
   i ∈ Region.ready md ops listed → YieldsIf P ops S oi v a → S w →
   zqb P md ops Q S ds fuel (listed.setIfInBounds i true) (a.put oi.dst v) w → zqb P md ops Q S ds (fuel + 1) listed a w := by
 intro fuel
 induction fuel with
 | zero =>
  intro listed a w _ _ _ hr hy hS H
  refine ⟨fun h => (by rw [h] at hr; cases hr), fun j hj => ?_⟩
  by_cases hji : j = i
  ·subst hji; exact hy.wpOp hi hS ⟨fun _ h => h, H⟩
  ·have := ready_mono hj hji
   rw [H.1] at this
   cases this
 | succ fuel ih =>
  intro listed a w hfree hc hd hr hy hS H
  refine ⟨fun h => (by rw [h] at hr; cases hr), fun j hj => ?_⟩
  by_cases hji : j = i
  ·subst hji; exact hy.wpOp hi hS ⟨fun _ h => h, H⟩
  ·have h1 := H.2 j (ready_mono hj hji)
   obtain ⟨hjun, oj, hoj, hall⟩ := mem_ready.1 hj
   have hiun := (mem_ready.1 hr).1
   have hnot : ∀ e ∈ oj.after, Region.binds md e = true → e.on ≠ i := fun e he hb heq => by
    have h1 := hall e he hb
    rw [heq] at h1
    rcases Nat.lt_or_ge i listed.size with h' | h'
    ·simp [h'] at hiun h1; rw [hiun] at h1; cases h1
    ·simp [Array.getElem?_eq_none h'] at h1
   have hjd : j ∉ ds := fun hm => Region.reach_not_ready hc (hd j hm hjun) hiun hj
   have h2 := wpOp_putIf hoj (hfree j oj hoj hji hjun hnot) (fun cs b => hsel i oi cs b hi) (fun cs b => hsel j oj cs b hoj) hQ hy h1
   have hfree' : ∀ k ok, ops[k]? = some ok → k ≠ i → (listed.setIfInBounds j true).getD k true = false →
     (∀ e ∈ ok.after, Region.binds md e = true → e.on ≠ i) → oi.apart ops ok = true := fun k ok hk hki hun hno => by
    refine hfree k ok hk hki ?_ hno
    by_cases hjk : j = k
    ·subst hjk; exact hjun
    ·rw [getD_set_ne true hjk] at hun; exact hun
   have hd' : ∀ d ∈ ds, (listed.setIfInBounds j true).getD d true = false → Region.reachB md ops i n d = true := fun d hm hun => by
    refine hd d hm ?_
    by_cases hjk : j = d
    ·subst hjk; exact hjun
    ·rw [getD_set_ne true hjk] at hun; exact hun
   refine wpOp_mono (fun a' w' h3 => ⟨h3.2.1, ih (listed.setIfInBounds j true) a' w' hfree' (hc.set hj) hd' (ready_mono hr (Ne.symm hji)) h3.1 (h3.2.1 hjd hS) ?_⟩) h2
   rw [Array.setIfInBounds_comm _ _ hji]
   exact h3.2.2
theorem wpAnyLast_any {i : Nat} {oi : Oper} {v : Value} (hi : ops[i]? = some oi) (hsel : ∀ (j : Nat) (o : Oper) cs b, ops[j]? = some o → o.op ≠ .select cs b)
  (hQ : ∀ c a w, Q (.panic c) (a.put oi.dst v) w → Q (.panic c) a w) :
  ∀ (fuel : Nat) (listed : Array Bool) (a : Act) (w : World),
   (∀ j oj, ops[j]? = some oj → j ≠ i → listed.getD j true = false → (∀ e ∈ oj.after, Region.binds md e = true → e.on ≠ i) → oi.apart ops oj = true) →
   i ∈ Region.ready md ops listed → Yields P ops oi v a →
   zqb P md ops Q S ds fuel (listed.setIfInBounds i true) (a.put oi.dst v) w → zqb P md ops Q S ds (fuel + 1) listed a w := by
 intro fuel
 induction fuel with
 | zero =>
  intro listed a w _ hr hy H
  refine ⟨fun h => (by rw [h] at hr; cases hr), fun j hj => ?_⟩
  by_cases hji : j = i
  ·subst hji; exact (hy.yieldsIf (S := fun _ => True)).wpOp hi trivial ⟨fun _ h => h, H⟩
  ·have := ready_mono hj hji
   rw [H.1] at this
   cases this
 | succ fuel ih =>
  intro listed a w hfree hr hy H
  refine ⟨fun h => (by rw [h] at hr; cases hr), fun j hj => ?_⟩
  by_cases hji : j = i
  ·subst hji; exact (hy.yieldsIf (S := fun _ => True)).wpOp hi trivial ⟨fun _ h => h, H⟩
  ·have h1 := H.2 j (ready_mono hj hji)
   obtain ⟨hjun, oj, hoj, hall⟩ := mem_ready.1 hj
   have hiun := (mem_ready.1 hr).1
   have hnot : ∀ e ∈ oj.after, Region.binds md e = true → e.on ≠ i := fun e he hb heq => by
    have h1 := hall e he hb
    rw [heq] at h1
    rcases Nat.lt_or_ge i listed.size with h' | h'
    ·simp [h'] at hiun h1; rw [hiun] at h1; cases h1
    ·simp [Array.getElem?_eq_none h'] at h1
   have h2 := wpOp_put hoj (hfree j oj hoj hji hjun hnot) (fun cs b => hsel i oi cs b hi) (fun cs b => hsel j oj cs b hoj) hQ hy h1
   have hfree' : ∀ k ok, ops[k]? = some ok → k ≠ i → (listed.setIfInBounds j true).getD k true = false →
     (∀ e ∈ ok.after, Region.binds md e = true → e.on ≠ i) → oi.apart ops ok = true := fun k ok hk hki hun hno => by
    refine hfree k ok hk hki ?_ hno
    by_cases hjk : j = k
    ·subst hjk; exact hjun
    ·rw [getD_set_ne true hjk] at hun; exact hun
   refine wpOp_mono (fun a' w' h3 => ⟨h3.2.1, ih (listed.setIfInBounds j true) a' w' hfree' (ready_mono hr (Ne.symm hji)) h3.1 ?_⟩) h2
   rw [Array.setIfInBounds_comm _ _ hji]
   exact h3.2.2
theorem wpAnyLast_take {i : Nat} {oi : Oper} {v : Value} {fuel : Nat} {listed : Array Bool} {a : Act} {w : World} (hi : ops[i]? = some oi)
  (hs : Region.noSelect ops = true) (hf : Region.free md ops listed i = true) (hr : (Region.ready md ops listed).contains i = true)
  (hc : Region.closedB md ops listed = true) (hl : Region.lastB md ops listed ds i = true)
  (hQ : ∀ c a w, Q (.panic c) (a.put oi.dst v) w → Q (.panic c) a w) (hy : YieldsIf P ops S oi v a) (hS : S w)
  (h : zqb P md ops Q S ds fuel (listed.setIfInBounds i true) (a.put oi.dst v) w) : zqb P md ops Q S ds (fuel + 1) listed a w :=
 wpAnyLast_first hi (Region.noSelect_spec hs) hQ ops.size fuel listed a w (Region.free_spec hi hf) (Region.closedB_spec hc)
  (fun d hm hun => by have := List.all_eq_true.1 hl d hm; rw [hun] at this; simpa using this) (by simpa using hr) hy hS h
theorem wpAnyLast_all {rs : List Nat} {fuel : Nat} {listed : Array Bool} {a : Act} {w : World} (hr : Region.ready md ops listed = rs) (hne : rs ≠ [])
  (h : ∀ i ∈ rs, wpOp P ops Q i (fun a' w' => (i ∉ ds → S w → S w') ∧ zqb P md ops Q S ds fuel (listed.setIfInBounds i true) a' w') a w) : zqb P md ops Q S ds (fuel + 1) listed a w :=
 ⟨fun h0 => absurd (hr ▸ h0) hne, hr ▸ h⟩
theorem wpAnyLast_done {listed : Array Bool} {a : Act} {w : World} (hr : Region.ready md ops listed = []) (h : Q .normal a w) :
  ∀ fuel, zqb P md ops Q S ds fuel listed a w
 | 0 => ⟨hr, h⟩
 | _ + 1 => ⟨fun _ => h, by rw [hr]; simp⟩
theorem wp_region_last {id : Nat} {a : Act} {w : World} (hm : P.follows .mixedOrders = true)
  (h : zqb P .any ops Q S ds ops.size (Array.replicate ops.size false) a { w with drawn := w.drawn + 1 }) : (Code.region id ops true).wp P Q a w :=
 wp_region_any hm (zbh _ _ _ _ h)
end
section
variable {P : Program} {ops : Array Oper} {Q : Exit → Act → World → Prop} {md : Region.Mode} {S : World → Prop} {ds : List Nat}
def zdd (P : Program) (md : Region.Mode) (ops : Array Oper) (Q : Exit → Act → World → Prop) (S : World → Prop) (ds : List Nat) (fuel : Nat) (listed : Array Bool) (a : Act) (w : World) (rs : List Nat) : Prop :=
 ∀ i ∈ rs, wpOp P ops Q i (fun a' w' => (i ∉ ds → S w → S w') ∧ zqb P md ops Q S ds fuel (listed.setIfInBounds i true) a' w') a w
theorem zdd.nil {fuel : Nat} {listed : Array Bool} {a : Act} {w : World} : zdd P md ops Q S ds fuel listed a w [] := fun _ h => by cases h
theorem zdd.cons {fuel : Nat} {listed : Array Bool} {a : Act} {w : World} {i : Nat} {o : Oper} {rs : List Nat} (ho : ops[i]? = some o) (hd : i ∉ ds)
  (h : ∀ K' : Act → World → Prop, Shut (∀ a w, S w → (S w → zqb P md ops Q S ds fuel (listed.setIfInBounds i true) a w) → K' a w) → if Region.wanted o (yielded ops a.tmps) = true then Oper.wp P o a w K' Q else K' (a.put o.dst undef) w)
  (hs : zdd P md ops Q S ds fuel listed a w rs) : zdd P md ops Q S ds fuel listed a w (i :: rs) := fun j hj => by
 rcases List.mem_cons.1 hj with rfl | hj
 ·exact wpOp_step ho (fun K' hK => h K' (fun a w hS hW => hK a w ⟨fun _ _ => hS, hW hS⟩))
 ·exact hs j hj
theorem zdd.cons_last {fuel : Nat} {listed : Array Bool} {a : Act} {w : World} {i : Nat} {o : Oper} {rs : List Nat} (ho : ops[i]? = some o) (hd : i ∈ ds)
  (h : ∀ K' : Act → World → Prop, Shut (∀ a w, zqb P md ops Q S ds fuel (listed.setIfInBounds i true) a w → K' a w) → if Region.wanted o (yielded ops a.tmps) = true then Oper.wp P o a w K' Q else K' (a.put o.dst undef) w)
  (hs : zdd P md ops Q S ds fuel listed a w rs) : zdd P md ops Q S ds fuel listed a w (i :: rs) := fun j hj => by
 rcases List.mem_cons.1 hj with rfl | hj
 ·exact wpOp_step ho (fun K' hK => h K' (fun a w hW => hK a w ⟨fun hn => absurd hd hn, hW⟩))
 ·exact hs j hj
theorem ztf {rs : List Nat} {fuel : Nat} {listed : Array Bool} {a : Act} {w : World} (hr : Region.ready md ops listed = rs) (hne : rs ≠ [])
 (h : zdd P md ops Q S ds fuel listed a w rs) : zqb P md ops Q S ds (fuel + 1) listed a w := wpAnyLast_all hr hne h
theorem start_ {id n : Nat} {a : Act} {w : World} (l : Array Bool) (hm : P.follows .mixedOrders = true) (hn : ops.size = n) (hl : Array.replicate n false = l) (hS : S w.drew)
  (h : S w.drew → zqb P .any ops Q S ds n l a w.drew) : (Code.region id ops true).wp P Q a w := by
 subst hn
 subst hl
 exact wp_region_last hm (h hS)
def takeB (md : Region.Mode) (ops : Array Oper) (ds : List Nat) (l l' : Array Bool) (i : Nat) : Bool :=
 Region.noSelect ops && Region.free md ops l i && (Region.ready md ops l).contains i && Region.closedB md ops l && Region.lastB md ops l ds i && (l.setIfInBounds i true == l')
theorem take_ {i : Nat} {N : Option Tmp} {oi : Oper} {v : Value} {fuel : Nat} {l : Array Bool} {a : Act} {w : World} (l' : Array Bool) (hi : ops[i]? = some oi) (hN : oi.dst = N) (hc : takeB md ops ds l l' i = true)
  (hQ : ∀ c a w, Q (.panic c) (a.put oi.dst v) w → Q (.panic c) a w) (hy : YieldsIf P ops S oi v a) (hS : S w) {a' : Act} (ha : a.put N v = a')
  (h : zqb P md ops Q S ds fuel l' a' w) : zqb P md ops Q S ds (fuel + 1) l a w := by
 subst ha
 subst hN
 simp only [takeB, Bool.and_eq_true, beq_iff_eq] at hc
 obtain ⟨⟨⟨⟨⟨h1, h2⟩, h3⟩, h4⟩, h5⟩, h6⟩ := hc
 subst h6
 exact wpAnyLast_take hi h1 h2 h3 h4 h5 hQ hy hS h
def anyB (md : Region.Mode) (ops : Array Oper) (l l' : Array Bool) (i : Nat) : Bool :=
 Region.noSelect ops && Region.free md ops l i && (Region.ready md ops l).contains i && (l.setIfInBounds i true == l')
theorem pure_ {i : Nat} {N : Option Tmp} {oi : Oper} {v : Value} {fuel : Nat} {l : Array Bool} {a : Act} {w : World} (l' : Array Bool) (hi : ops[i]? = some oi) (hN : oi.dst = N) (hc : anyB md ops l l' i = true)
  (hQ : ∀ c a w, Q (.panic c) (a.put oi.dst v) w → Q (.panic c) a w) (hy : Yields P ops oi v a) {a' : Act} (ha : a.put N v = a')
  (h : zqb P md ops Q S ds fuel l' a' w) : zqb P md ops Q S ds (fuel + 1) l a w := by
 subst ha
 subst hN
 simp only [anyB, Bool.and_eq_true, beq_iff_eq] at hc
 obtain ⟨⟨⟨h1, h2⟩, h3⟩, h6⟩ := hc
 subst h6
 exact wpAnyLast_any hi (Region.noSelect_spec h1) hQ fuel l a w (Region.free_spec hi h2) (by simpa using h3) hy h
def readyB (md : Region.Mode) (ops : Array Oper) (l l' : Array Bool) (i : Nat) : Bool := (Region.ready md ops l == [i]) && (l.setIfInBounds i true == l')
theorem one_ {i : Nat} {N : Option Tmp} {oi : Oper} {fuel : Nat} {l : Array Bool} {a : Act} {w : World} (l' : Array Bool) (hi : ops[i]? = some oi) (hN : oi.dst = N) (hc : readyB md ops l l' i = true) (hd : i ∉ ds)
  (h : ∀ K : Act → World → Prop, Shut (∀ a' w', S w' → (S w' → zqb P md ops Q S ds fuel l' a' w') → K a' w') → if Region.wanted oi (yielded ops a.tmps) = true then Oper.wp P oi a w K Q else K (a.put N undef) w) :
  zqb P md ops Q S ds (fuel + 1) l a w := by
 subst hN
 simp only [readyB, Bool.and_eq_true, beq_iff_eq] at hc
 obtain ⟨h1, h2⟩ := hc
 subst h2
 exact ztf h1 (by simp) (zdd.cons hi hd (fun K hK => h K hK) zdd.nil)
theorem last_ {i : Nat} {N : Option Tmp} {oi : Oper} {fuel : Nat} {l : Array Bool} {a : Act} {w : World} (l' : Array Bool) (hi : ops[i]? = some oi) (hN : oi.dst = N) (hc : readyB md ops l l' i = true) (hd : i ∈ ds)
  (h : ∀ K : Act → World → Prop, Shut (∀ a' w', zqb P md ops Q S ds fuel l' a' w' → K a' w') → if Region.wanted oi (yielded ops a.tmps) = true then Oper.wp P oi a w K Q else K (a.put N undef) w) :
  zqb P md ops Q S ds (fuel + 1) l a w := by
 subst hN
 simp only [readyB, Bool.and_eq_true, beq_iff_eq] at hc
 obtain ⟨h1, h2⟩ := hc
 subst h2
 exact ztf h1 (by simp) (zdd.cons_last hi hd (fun K hK => h K hK) zdd.nil)
theorem done_ {l : Array Bool} {a : Act} {w : World} {n : Nat} (hr : (Region.ready md ops l == []) = true) (h : Q .normal a w) : zqb P md ops Q S ds n l a w := wpAnyLast_done (by simpa using hr) h n
theorem norm_ {fuel : Nat} {l : Array Bool} {a a' : Act} {w : World} (ha : a = a') (h : zqb P md ops Q S ds fuel l a' w) : zqb P md ops Q S ds fuel l a w := by
 subst ha
 exact h
theorem call_ {oi : Oper} {N : Option Tmp} {a : Act} {w : World} {K : Act → World → Prop} (f : FuncId) (args : Array Value) (hw : Region.wanted oi (yielded ops a.tmps) = true) (hN : oi.dst = N) (hrun : (execOp a.eval oi).run P w = .ok (.enter f args) w)
  (h : Calls P f args w fun e w' => ∃ v, e = .returned v ∧ K (a.put N v) w') : if Region.wanted oi (yielded ops a.tmps) = true then Oper.wp P oi a w K Q else K (a.put N undef) w := by
 rw [if_pos hw]
 subst hN
 unfold Oper.wp
 rw [hrun, Oper.upon_enter]
 refine h.mono fun e w'' hh => ?_
 obtain ⟨v, rfl, hk⟩ := hh
 exact hk
theorem enters_ {f : FuncId} {fn : Func} (hf : P.funcs[f]? = some fn) (hname : (fn.name == "runtime.NumGoroutine") = false) (hb : fn.body.isSome = true) (args : Array Value) (w : World) : (callFunc f args).run P w = .ok (.enter f args) w := by
 have h1 : fn.name ≠ "runtime.NumGoroutine" := by simpa using hname
 obtain ⟨c, hc⟩ := Option.isSome_iff_exists.1 hb
 simp [callFunc, hf, h1, hc]
theorem goes_ {oi : Oper} {N : Option Tmp} {a : Act} {w : World} {K : Act → World → Prop} {f : FuncId} {fn : Func} {az : Array Operand} {ts : Array TypeId} (hf : P.funcs[f]? = some fn) (hname : (fn.name == "runtime.NumGoroutine") = false) (hb : fn.body.isSome = true) (args : Array Value)
  (hw : Region.wanted oi (yielded ops a.tmps) = true) (hN : oi.dst = N) (hop : oi.op = .call { callee := .value (.func f), args := az, argTypes := ts }) (hargs : az.map a.eval = args)
  (h : Calls P f args w fun e w' => ∃ v, e = .returned v ∧ K (a.put N v) w') : if Region.wanted oi (yielded ops a.tmps) = true then Oper.wp P oi a w K Q else K (a.put N undef) w := by
 refine call_ f args hw hN ?_ h
 have he := enters_ hf hname hb args w
 unfold execOp
 simp [hop, resolve, Deferred.ofValue, invoke, Act.eval, hargs, he]
theorem zxb {rest : List Oper} {oi : Oper} {a : Act} {w : World} (N : Option Tmp) (hd : oi.dst = N) (hg : oi.guard = none) {f : FuncId} {fn : Func} {az : Array Operand} {ts : Array TypeId} (hf : P.funcs[f]? = some fn) (hname : (fn.name == "runtime.NumGoroutine") = false) (hb : fn.body.isSome = true) (args : Array Value)
  (hop : oi.op = .call { callee := .value (.func f), args := az, argTypes := ts }) (hargs : az.map a.eval = args)
  (h : Calls P f args w fun e w' => ∃ v, e = .returned v ∧ wpList P ops Q rest (a.put N v) w') : wpList P ops Q (oi :: rest) a w := by
 refine wpList_plain hg fun K hK => ?_
 have he := enters_ hf hname hb args w
 have hrun : (execOp a.eval oi).run P w = .ok (.enter f args) w := by
  unfold execOp
  simp [hop, resolve, Deferred.ofValue, invoke, Act.eval, hargs, he]
 unfold Oper.wp
 rw [hrun, Oper.upon_enter]
 refine h.mono fun e w'' hh => ?_
 obtain ⟨v, rfl, hk⟩ := hh
 subst hd
 exact hK _ _ hk
theorem value_ {oi : Oper} {N : Option Tmp} {a : Act} {w w1 : World} {v : Value} {K : Act → World → Prop} (hw : Region.wanted oi (yielded ops a.tmps) = true) (hN : oi.dst = N) (hrun : (execOp a.eval oi).run P w = .ok (.value v) w1)
  (h : K (a.put N v) w1) : if Region.wanted oi (yielded ops a.tmps) = true then Oper.wp P oi a w K Q else K (a.put N undef) w := by
 rw [if_pos hw]
 subst hN
 unfold Oper.wp
 rw [hrun]
 exact h
theorem skip_ {oi : Oper} {a : Act} {w w1 : World} {K : Act → World → Prop} (hw : Region.wanted oi (yielded ops a.tmps) = true) (hN : oi.dst = none) (hrun : (execOp a.eval oi).run P w = .ok .skip w1)
  (h : K a w1) : if Region.wanted oi (yielded ops a.tmps) = true then Oper.wp P oi a w K Q else K (a.put none undef) w := by
 rw [if_pos hw]
 unfold Oper.wp
 rw [hrun]
 show K (a.put oi.dst undef) w1
 rw [hN]
 exact h
theorem i64_w (n : Int) : IntKind.i64.wrap n = Go.RowKit.wrap64 n := by unfold Go.RowKit.wrap64; exact IntKind.wrap_i64 n
theorem i32_w (n : Int) : IntKind.i32.wrap n = Go.RowKit.wrap32 n := by unfold Go.RowKit.wrap32; exact IntKind.wrap_i32 n
end
end Go.Proofs.YtlijjnjpomnphaaGreatDoorW.PrintLast
end
section
namespace Go.Proofs.YtlijjnjpomnphaaGreatDoorW.PrintLast
open Go.Proofs.YtlijjnjpomnphaaGreatDoorW.PrintWords (za)
def needsOf (md : Region.Mode) (o : Oper) : List Nat := (o.after.toList.filter (fun e => Region.binds md e)).map (fun e => e.on)
def clashOf (md : Region.Mode) (ops : Array Oper) (i : Nat) (oi : Oper) : List Nat := (List.range ops.size).filter fun j => !(j == i) && match ops[j]? with
 | some oj => !(oj.after.any (fun e => Region.binds md e && e.on == i) || oi.apart ops oj)
 | none => false
def rtab (md : Region.Mode) (ops : Array Oper) : Bool × List (List Nat × List Nat) := (Region.noSelect ops, (List.range ops.size).map fun i => match ops[i]? with
 | some o => (needsOf md o, clashOf md ops i o)
 | none => ([], []))
def zsf (T : List (List Nat × List Nat)) (l : List Bool) (i : Nat) : Bool := !l.getD i true && match T[i]? with
 | some r => r.1.all (fun j => l.getD j false)
 | none => false
def readyT (T : List (List Nat × List Nat)) (l : List Bool) : List Nat := (List.range T.length).filter (zsf T l)
def freeT (T : List (List Nat × List Nat)) (l : List Bool) (i : Nat) : Bool := match T[i]? with
 | some r => r.2.all (fun j => l.getD j true)
 | none => false
def closedT (T : List (List Nat × List Nat)) (l : List Bool) : Bool := (List.range T.length).all fun j => !l.getD j false || match T[j]? with
 | some r => r.1.all (fun k => l.getD k false)
 | none => true
def reachT (T : List (List Nat × List Nat)) (i : Nat) : Nat → Nat → Bool
 | 0, _ => false
 | fuel + 1, d => match T[d]? with
  | some r => r.1.any fun j => j == i || reachT T i fuel j
  | none => false
def lastT (T : List (List Nat × List Nat)) (l : List Bool) (ds : List Nat) (i : Nat) : Bool := ds.all fun d => l.getD d true || reachT T i T.length d
section
variable {md : Region.Mode} {ops : Array Oper} {T : Bool × List (List Nat × List Nat)} {l l' li lj lk : Array Bool} {ds : List Nat} {i j k : Nat}
theorem gd (l : Array Bool) (j : Nat) (b : Bool) : l.getD j b = l.toList.getD j b := by simp [Array.getD_eq_getD_getElem?, List.getD_eq_getElem?_getD]
theorem needs_all (o : Oper) (p : Nat → Bool) : o.after.all (fun e => !Region.binds md e || p e.on) = (needsOf md o).all p := by
 unfold needsOf
 rw [← Array.all_toList]
 induction o.after.toList with
 | nil => rfl
 | cons e r ih =>
  rw [List.all_cons, ih, List.filter_cons]
  cases h : Region.binds md e <;> simp
theorem needs_any (o : Oper) (p : Nat → Bool) : o.after.any (fun e => Region.binds md e && p e.on) = (needsOf md o).any p := by
 unfold needsOf
 rw [← Array.any_toList]
 induction o.after.toList with
 | nil => rfl
 | cons e r ih =>
  rw [List.any_cons, ih, List.filter_cons]
  cases h : Region.binds md e <;> simp
theorem znf : (rtab md ops).2.length = ops.size := by simp [rtab]
theorem zah {o : Oper} (h : ops[i]? = some o) : (rtab md ops).2[i]? = some (needsOf md o, clashOf md ops i o) := by
 have hi := (Array.getElem?_eq_some_iff.1 h).1
 unfold rtab
 rw [List.getElem?_map, List.getElem?_range hi, Option.map_some, h]
theorem zzg (h : ops[i]? = none) : (rtab md ops).2[i]? = none := by
 have hi : ops.size ≤ i := Array.getElem?_eq_none_iff.1 h
 exact List.getElem?_eq_none (by rw [znf]; exact hi)
theorem readyAt_eq : zsf (rtab md ops).2 l.toList i = (!l.getD i true && ((ops[i]?).map (·.after.all fun e => !Region.binds md e || l.getD e.on false)).getD false) := by
  unfold zsf
  rw [gd]
  cases h : ops[i]? with
  | none => rw [zzg h]; rfl
  | some o =>
    rw [zah h]
    simp only [Option.map_some, Option.getD_some]
    rw [← needs_all]
    simp only [gd]
theorem ready_eq : Region.ready md ops l = readyT (rtab md ops).2 l.toList := by
 unfold Region.ready readyT
 rw [znf]
 refine List.filter_congr (fun i _ => ?_)
 rw [readyAt_eq]
theorem free_eq : Region.free md ops l i = freeT (rtab md ops).2 l.toList i := by
 unfold Region.free freeT
 cases h : ops[i]? with
 | none => rw [zzg h]
 | some oi =>
  rw [zah h]
  simp only [clashOf]
  rw [List.all_filter]
  congr 1
  funext j
  rw [gd]
  cases hj : ops[j]? with
  | none => cases (j == i) <;> cases (l.toList.getD j true) <;> simp
  | some oj =>
   cases (j == i) <;> cases (l.toList.getD j true) <;> cases (oj.after.any (fun e => Region.binds md e && e.on == i) || oi.apart ops oj) <;> simp_all
theorem closed_eq : Region.closedB md ops l = closedT (rtab md ops).2 l.toList := by
 unfold Region.closedB closedT
 rw [znf]
 congr 1
 funext j
 rw [gd]
 cases h : ops[j]? with
 | none => rw [zzg h]
 | some o =>
  rw [zah h]
  simp only
  rw [← needs_all]
  simp only [gd]
theorem reach_eq : ∀ (fuel d : Nat), Region.reachB md ops i fuel d = reachT (rtab md ops).2 i fuel d
 | 0, _ => rfl
 | fuel + 1, d => by
  unfold Region.reachB reachT
  cases h : ops[d]? with
  | none => rw [zzg h]
  | some o =>
   rw [zah h]
   simp only
   rw [← needs_any]
   congr 1
   funext e
   rw [reach_eq fuel]
theorem last_eq : Region.lastB md ops l ds i = lastT (rtab md ops).2 l.toList ds i := by
 unfold Region.lastB lastT
 rw [znf]
 congr 1
 funext d
 rw [gd, reach_eq]
theorem readyAt_mem (h : zsf T.2 l.toList i = true) (hT : rtab md ops = T) : (Region.ready md ops l).contains i = true := by
 subst hT
 rw [ready_eq]
 unfold readyT
 rw [List.contains_iff_mem, List.mem_filter, List.mem_range]
 refine ⟨?_, h⟩
 unfold zsf at h
 rw [Bool.and_eq_true] at h
 cases hq : (rtab md ops).2[i]? with
 | none => rw [hq] at h; simp at h
 | some r => exact (List.getElem?_eq_some_iff.1 hq).1
theorem set_of (h : (l.toList.set i true == l'.toList) = true) : (l.setIfInBounds i true == l') = true := by
 rw [beq_iff_eq] at h ⊢
 apply Array.ext'
 rw [Array.toList_setIfInBounds]
 exact h
def anyT (T : Bool × List (List Nat × List Nat)) (l l' : List Bool) (i : Nat) : Bool := T.1 && freeT T.2 l i && zsf T.2 l i && (l.set i true == l')
theorem zhc (hT : rtab md ops = T) (h : anyT T l.toList l'.toList i = true) : anyB md ops l l' i = true := by
 simp only [anyT, Bool.and_eq_true] at h
 obtain ⟨⟨⟨h1, h2⟩, h3⟩, h4⟩ := h
 have h5 := readyAt_mem h3 hT
 have h6 := set_of h4
 subst hT
 simp only [anyB, Bool.and_eq_true]
 exact ⟨⟨⟨h1, by rw [free_eq]; exact h2⟩, h5⟩, h6⟩
def takeT (T : Bool × List (List Nat × List Nat)) (ds : List Nat) (l l' : List Bool) (i : Nat) : Bool := T.1 && freeT T.2 l i && zsf T.2 l i && closedT T.2 l && lastT T.2 l ds i && (l.set i true == l')
theorem take_of (hT : rtab md ops = T) (h : takeT T ds l.toList l'.toList i = true) : takeB md ops ds l l' i = true := by
 simp only [takeT, Bool.and_eq_true] at h
 obtain ⟨⟨⟨⟨⟨h1, h2⟩, h3⟩, h4⟩, h5⟩, h6⟩ := h
 have h7 := readyAt_mem h3 hT
 have h8 := set_of h6
 subst hT
 simp only [takeB, Bool.and_eq_true]
 exact ⟨⟨⟨⟨⟨h1, by rw [free_eq]; exact h2⟩, h7⟩, by rw [closed_eq]; exact h4⟩, by rw [last_eq]; exact h5⟩, h8⟩
theorem zye (hT : rtab md ops = T) (h : (readyT T.2 l.toList == [i] && l.toList.set i true == l'.toList) = true) : readyB md ops l l' i = true := by
 simp only [Bool.and_eq_true] at h
 obtain ⟨h1, h2⟩ := h
 subst hT
 simp only [readyB, Bool.and_eq_true]
 exact ⟨by rw [ready_eq]; exact h1, set_of h2⟩
theorem done_of (hT : rtab md ops = T) (h : (readyT T.2 l.toList == []) = true) : (Region.ready md ops l == []) = true := by
 subst hT
 rw [ready_eq]
 exact h
def upM (B : List Nat) (d : Nat) : List Nat → Nat
 | [] => 0
 | n :: r => (2 ^ n ||| (if n < d then B.getD n 0 else 0)) ||| upM B d r
def waitsOk (T : List (List Nat × List Nat)) (B : List Nat) : Bool := (List.range T.length).all fun d => match T[d]? with
 | some r => (B.getD d 0 ||| upM B d r.1) == upM B d r.1
 | none => false
theorem upM_bit {B : List Nat} {d i : Nat} : ∀ {ns : List Nat}, (upM B d ns).testBit i = true → ∃ n ∈ ns, n = i ∨ (n < d ∧ (B.getD n 0).testBit i = true)
 | [], h => by simp [upM] at h
 | n :: r, h => by
  unfold upM at h
  rw [Nat.testBit_or, Nat.testBit_or, Bool.or_eq_true, Bool.or_eq_true] at h
  rcases h with (h | h) | h
  ·rw [Nat.testBit_two_pow] at h
   exact ⟨n, List.mem_cons_self, .inl (by simpa using h)⟩
  ·by_cases hn : n < d
   ·rw [if_pos hn] at h
    exact ⟨n, List.mem_cons_self, .inr ⟨hn, h⟩⟩
   ·rw [if_neg hn] at h
    simp at h
  ·obtain ⟨m, hm, h2⟩ := upM_bit h
   exact ⟨m, List.mem_cons_of_mem _ hm, h2⟩
theorem reach_bit {T : List (List Nat × List Nat)} {B : List Nat} (hB : waitsOk T B = true) : ∀ (fuel d : Nat), d < fuel → d < T.length → (B.getD d 0).testBit i = true → reachT T i fuel d = true
 | 0, d, h, _, _ => by omega
 | fuel + 1, d, h, hd, hb => by
  have h1 := List.all_eq_true.1 hB d (List.mem_range.2 hd)
  cases hr : T[d]? with
  | none => rw [hr] at h1; simp at h1
  | some r =>
   rw [hr] at h1
   simp only [beq_iff_eq] at h1
   have h2 : (upM B d r.1).testBit i = true := by rw [← h1, Nat.testBit_or, hb, Bool.true_or]
   obtain ⟨n, hn, h3⟩ := upM_bit h2
   unfold reachT
   rw [hr]
   simp only
   rw [List.any_eq_true]
   refine ⟨n, hn, ?_⟩
   rcases h3 with rfl | ⟨h4, h5⟩
   ·simp
   ·rw [reach_bit hB fuel n (by omega) (by omega) h5, Bool.or_true]
def lastW (T : List (List Nat × List Nat)) (B : List Nat) (l : List Bool) (ds : List Nat) (i : Nat) : Bool := ds.all fun d => l.getD d true || (decide (d < T.length) && (B.getD d 0).testBit i)
def takeW (T : Bool × List (List Nat × List Nat)) (B : List Nat) (ds : List Nat) (l l' : List Bool) (i : Nat) : Bool := T.1 && freeT T.2 l i && zsf T.2 l i && closedT T.2 l && lastW T.2 B l ds i && (l.set i true == l')
theorem zpe {B : List Nat} (hT : rtab md ops = T) (hB : waitsOk T.2 B = true) (h : takeW T B ds l.toList l'.toList i = true) : takeB md ops ds l l' i = true := by
 refine take_of hT ?_
 simp only [takeW, takeT, Bool.and_eq_true] at h ⊢
 obtain ⟨⟨⟨⟨⟨h1, h2⟩, h3⟩, h4⟩, h5⟩, h6⟩ := h
 refine ⟨⟨⟨⟨⟨h1, h2⟩, h3⟩, h4⟩, ?_⟩, h6⟩
 unfold lastW at h5
 unfold lastT
 rw [List.all_eq_true] at h5 ⊢
 intro d hd
 have h7 := h5 d hd
 rw [Bool.or_eq_true, Bool.and_eq_true, decide_eq_true_eq] at h7
 rcases h7 with h7 | ⟨h8, h9⟩
 ·rw [h7, Bool.true_or]
 ·rw [reach_bit hB _ d h8 h8 h9, Bool.or_true]
theorem zxf {P : Program} {Q : Exit → Act → World → Prop} {S : World → Prop} {n : Nat} {a : Act} {w : World} {B : List Nat} (hT : rtab md ops = T) (hB : waitsOk T.2 B = true) (h : za (rtab md ops = T) → za (waitsOk T.2 B = true) → zqb P md ops Q S ds n l a w) : zqb P md ops Q S ds n l a w := h ⟨hT⟩ ⟨hB⟩
end
def opsIn : Code → Nat → Option (Array Oper)
 | .region id ops _, k => if id == k then some ops else none
 | .seq a b, k => match opsIn a k with
  | some o => some o
  | none => opsIn b k
 | .cond _ a b, k => match opsIn a k with
  | some o => some o
  | none => opsIn b k
 | .block _ c, k => opsIn c k
 | .loop c, k => opsIn c k
 | .scope c, k => opsIn c k
 | .rangeFunc _ _ a b, k => match opsIn a k with
  | some o => some o
  | none => opsIn b k
 | _, _ => none
def opsOf (f : Func) (k : Nat) : Array Oper := ((f.body.bind fun c => opsIn c k)).getD #[]
end Go.Proofs.YtlijjnjpomnphaaGreatDoorW.PrintLast
end
section
namespace Go.Proofs.YtlijjnjpomnphaaGreatDoorW.PrintWords
open Go.RowKit
namespace Kd
def tag {α : Type} (f : Nat → Nat) (d : Kd α) : Kd (α × Nat) where
 sz := d.sz
 E := d.E
 K := fun w x cs => d.K w x.1 cs
 M := fun w base ok x cs => d.M w base (fun k => ok k ∧ f k = x.2) x.1 cs
 K_len := fun h => d.K_len h
 K_one := fun h => d.K_one h
 K_below := fun hb h => d.K_below hb h
 K_of_M := fun h => d.K_of_M h
 M_mono := fun hok h => d.M_mono (fun k hk => ⟨hok k hk.1, hk.2⟩) h
 M_bound := fun h => d.M_mono (fun _ hk => ⟨⟨hk.1.1, hk.2⟩, hk.1.2⟩) (d.M_bound h)
 M_move := fun hm h => d.M_move (fun k hk => hm k hk.1) h
 M_lower := fun hb h => d.M_lower hb h
def raw (sz : Nat) : Kd (List Value) where
 sz := sz
 E := []
 K := fun _ x cs => cs = x ∧ cs.length = sz ∧ ∀ u ∈ cs, u.oneCell' = true
 M := fun _ _ _ x cs => cs = x ∧ cs.length = sz ∧ ∀ u ∈ cs, u.oneCell' = true
 K_len := fun h => h.2.1
 K_one := fun h => h.2.2
 K_below := fun _ h => h
 K_of_M := fun h => h
 M_mono := fun _ h => h
 M_bound := fun h => h
 M_move := fun _ h => h
 M_lower := fun _ h => h
def S {α : Type} (d : Kd α) (e : Nat) (w : World) (base : Nat) (ok : Nat → Prop) (v : Value) (xs : List α) : Prop := ∃ f, (tag f d).R e w base ok v xs.zipIdx
section
variable {α β : Type} {d : Kd α} {d' : Kd β} {e e' : Nat} {w w1 W : World} {base b : Nat} {ok ok' okv oku : Nat → Prop} {u v : Value} {xs : List α} {ys : List β}
end
section
variable {α β : Type} {d : Kd α} {d' : Kd β} {e e' g : Nat} {w w1 W : World} {base b : Nat} {ok ok' okv oku : Nat → Prop} {u v : Value} {xs : List α} {ys : List β}
end
section
variable {P : Program} {ops : Array Oper} {rest : List Oper} {o : Oper} {a : Act} {Q : Exit → Act → World → Prop} {Kc : Act → World → Prop} {α : Type}
end
section
variable {α β : Type} {d : Kd α} {e e' g n cap : Nat} {w w1 W : World} {base : Nat} {ok ok' oki okp : Nat → Prop} {u v : Value} {xs : List α} {i : Int} {c : List Value}
end
section
variable {P : Program} {ops : Array Oper} {rest : List Oper} {o : Oper} {a : Act} {Q : Exit → Act → World → Prop} {α : Type}
end
end Kd
end Go.Proofs.YtlijjnjpomnphaaGreatDoorW.PrintWords
end
section
namespace Go.Proofs.YtlijjnjpomnphaaGreatDoorW.PrintWords
open Go.RowKit
namespace Kd
structure Heap {α : Type} (d : Kd α) : Prop where
 K : ∀ {w w1 : World} {x : α} {cs : List Value}, (∀ k, k < w.heap.size → w1.heap[k]? = w.heap[k]?) → d.K w x cs → d.K w1 x cs
theorem cell_heap {w w1 : World} (hb : ∀ k, k < w.heap.size → w1.heap[k]? = w.heap[k]?) {a : Addr} {v : Value} (h : w.cell? a = some v) : w1.cell? a = some v := by
 have := hb a.block (World.block_lt_of_cell? w a h)
 simpa [World.cell?, this] using h
theorem Heap.C {α : Type} {d : Kd α} (hd : Heap d) {w w1 : World} {A : Option Addr} {n : Nat} {xs : List α} (hb : ∀ k, k < w.heap.size → w1.heap[k]? = w.heap[k]?) (h : d.C w A n xs) : d.C w1 A n xs :=
 ⟨h.1, h.2.1, fun hn => by
  obtain ⟨ad, e, hc⟩ := h.2.2 hn
  refine ⟨ad, e, fun j p hj => ?_⟩
  obtain ⟨c, hs, hr, hcell⟩ := hc j p hj
  exact ⟨c, hs, hd.K hb hr, fun i u hu => cell_heap hb (hcell i u hu)⟩⟩
section
variable {α : Type} {d : Kd α} {e base g n c : Nat} {ok : Nat → Prop} {w w0 W : World} {A : Option Addr} {xs : List α}
end
end Kd
end Go.Proofs.YtlijjnjpomnphaaGreatDoorW.PrintWords
end
section
namespace Go.Proofs.YtlijjnjpomnphaaGreatDoorW.PrintWords
open Go.RowKit
def Kept (w W : World) (S : Nat → Prop) : Prop := w.heap.size ≤ W.heap.size ∧ ∀ i, i < w.heap.size → ¬ S i → W.heap[i]? = w.heap[i]?
section
variable {w W W2 : World} {S S2 S' : Nat → Prop}
theorem Kept.of_below (h : Below w.heap.size w W) (S : Nat → Prop) : Kept w W S := ⟨h.size, fun i hi _ => h.block i hi⟩
theorem Kept.then_ (h : Kept w W S) (k : Kept W W2 S2) (hs : ∀ k, S2 k → S k ∨ w.heap.size ≤ k) : Kept w W2 S :=
 ⟨Nat.le_trans h.1 k.1, fun i hi hn => (k.2 i (Nat.lt_of_lt_of_le hi h.1) (fun h2 => (hs i h2).elim hn (fun h3 => by omega))).trans (h.2 i hi hn)⟩
theorem Kept.below (h : Kept w W S) (hb : Below W.heap.size W W2) : Kept w W2 S := h.then_ (Kept.of_below hb (fun _ => False)) (fun _ hk => hk.elim)
end
namespace Kd
section
variable {α : Type} {d : Kd α} {e base n c : Nat} {ok oki S S2 : Nat → Prop} {w w0 W W1 W2 : World} {v : Value} {A : Option Addr} {xs : List α} {i : Int} {cs : List Value}
end
end Kd
end Go.Proofs.YtlijjnjpomnphaaGreatDoorW.PrintWords
end
section
namespace Go.Proofs.YtlijjnjpomnphaaGreatDoorW.PrintWords
open Go.RowKit
def Foot (P : World → Prop) (W : World) (ok : Nat → Prop) : Prop := ∀ W' : World, (∀ k, ok k → k < W.heap.size → W'.heap[k]? = W.heap[k]?) → P W'
theorem heap_lt {W W1 : World} {k : Nat} (h : W1.heap[k]? = W.heap[k]?) (hlt : k < W.heap.size) : k < W1.heap.size := by
 rw [Array.getElem?_eq_getElem hlt] at h
 exact (Array.getElem?_eq_some_iff.1 h).1
namespace Foot
variable {P Q : World → Prop} {W W1 : World} {ok ok' : Nat → Prop}
theorem step (h : Foot P W ok) (hm : ∀ k, ok k → k < W.heap.size → W1.heap[k]? = W.heap[k]?) : Foot P W1 ok := fun W' hW => h W' (fun k hk hlt => (hW k hk (heap_lt (hm k hk hlt) hlt)).trans (hm k hk hlt))
end Foot
namespace Kd
def F {α : Type} (d : Kd α) (W : World) (ok : Nat → Prop) (A : Option Addr) (n : Nat) (xs : List α) : Prop := Foot (fun W => d.C W A n xs) W ok
def FK {α : Type} (d : Kd α) (W : World) (ok : Nat → Prop) (x : α) (c : List Value) : Prop := Foot (fun W => d.K W x c) W ok
section
variable {α β : Type} {d : Kd α} {e base n n' cc g N : Nat} {ok ok' okp S : Nat → Prop} {w w0 w1 W W1 : World} {A A' : Option Addr} {u v v1 : Value} {xs : List α} {xs' : List β} {d' : Kd β} {x : α} {c : List Value}
end
end Kd
end Go.Proofs.YtlijjnjpomnphaaGreatDoorW.PrintWords
end
section
namespace Go.Proofs.YtlijjnjpomnphaaGreatDoorW.PrintWords
open Go.RowKit
namespace Kd
section
variable {α : Type} {d : Kd α} {e base n cc g : Nat} {ok ok' okp S : Nat → Prop} {w w1 W W1 : World} {A : Option Addr} {u v v1 : Value} {xs : List α} {x : α} {c : List Value}
def N {α : Type} (d : Kd α) (e : Nat) (w : World) (base : Nat) (ok : Nat → Prop) (v : Value) (xs : List α) : Prop :=
 (∀ k, v.ownBlock = some k → ok k) ∧ ∃ rows : List (List Value), rows.length = xs.length ∧ (raw d.sz).R e w base (fun k => some k = v.ownBlock) v rows ∧ ∀ (j : Nat) (x : α) (c : List Value), xs[j]? = some x → rows[j]? = some c → FK d w (fun k => ok k ∧ some k ≠ v.ownBlock) x c
end
end Kd
end Go.Proofs.YtlijjnjpomnphaaGreatDoorW.PrintWords
end
section
namespace Go.Proofs.YtlijjnjpomnphaaGreatDoorW.PrintWords
theorem Reps.one {α : Type} {R : α → List Value → Prop} {ps : List α} {cs : List Value} {p : α} {v : Value} (hp : R p [v]) (h : Reps R 1 ps cs) : Reps R 1 (p :: ps) (v :: cs) := by
 refine ⟨by simp [h.1], fun j q hq => ?_⟩
 cases j with
 | zero =>
  simp only [List.getElem?_cons_zero, Option.some.injEq] at hq
  subst hq
  simpa using hp
 | succ j =>
  simp only [List.getElem?_cons_succ] at hq
  have h1 := h.2 j q hq
  simpa [Nat.mul_one] using h1
theorem Reps.front {α : Type} {R : α → List Value → Prop} {size : Nat} {ps : List α} {cs c all : List Value} {p : α} (hp : R p c) (hc : c.length = size) (h : Reps R size ps cs) (ha : c ++ cs = all) : Reps R size (p :: ps) all := by
 subst ha
 refine ⟨by rw [List.length_append, hc, h.1, List.length_cons, Nat.succ_mul, Nat.add_comm], fun j q hq => ?_⟩
 cases j with
 | zero =>
  simp only [List.getElem?_cons_zero, Option.some.injEq] at hq
  subst hq
  rw [Nat.zero_mul, List.drop_zero, List.take_append_of_le_length (by omega), List.take_of_length_le (by omega)]
  exact hp
 | succ j =>
  simp only [List.getElem?_cons_succ] at hq
  have h1 := h.2 j q hq
  rw [Nat.succ_mul, List.drop_append, List.drop_of_length_le (by rw [hc]; exact Nat.le_add_left _ _), List.nil_append, hc, Nat.add_sub_cancel]
  exact h1
theorem Reps.c2 {α : Type} {R : α → List Value → Prop} {ps : List α} {cs : List Value} {p : α} {va vb : Value} (hp : R p [va, vb]) (h : Reps R 2 ps cs) : Reps R 2 (p :: ps) (va :: vb :: cs) := Reps.front hp rfl h rfl
theorem Reps.c3 {α : Type} {R : α → List Value → Prop} {ps : List α} {cs : List Value} {p : α} {va vb vc : Value} (hp : R p [va, vb, vc]) (h : Reps R 3 ps cs) : Reps R 3 (p :: ps) (va :: vb :: vc :: cs) := Reps.front hp rfl h rfl
theorem Reps.c4 {α : Type} {R : α → List Value → Prop} {ps : List α} {cs : List Value} {p : α} {va vb vc vd : Value} (hp : R p [va, vb, vc, vd]) (h : Reps R 4 ps cs) : Reps R 4 (p :: ps) (va :: vb :: vc :: vd :: cs) := Reps.front hp rfl h rfl
theorem Reps.c5 {α : Type} {R : α → List Value → Prop} {ps : List α} {cs : List Value} {p : α} {va vb vc vd ve : Value} (hp : R p [va, vb, vc, vd, ve]) (h : Reps R 5 ps cs) : Reps R 5 (p :: ps) (va :: vb :: vc :: vd :: ve :: cs) := Reps.front hp rfl h rfl
theorem Reps.c6 {α : Type} {R : α → List Value → Prop} {ps : List α} {cs : List Value} {p : α} {va vb vc vd ve vf : Value} (hp : R p [va, vb, vc, vd, ve, vf]) (h : Reps R 6 ps cs) : Reps R 6 (p :: ps) (va :: vb :: vc :: vd :: ve :: vf :: cs) := Reps.front hp rfl h rfl
theorem Reps.c7 {α : Type} {R : α → List Value → Prop} {ps : List α} {cs : List Value} {p : α} {va vb vc vd ve vf vg : Value} (hp : R p [va, vb, vc, vd, ve, vf, vg]) (h : Reps R 7 ps cs) : Reps R 7 (p :: ps) (va :: vb :: vc :: vd :: ve :: vf :: vg :: cs) := Reps.front hp rfl h rfl
theorem Reps.c8 {α : Type} {R : α → List Value → Prop} {ps : List α} {cs : List Value} {p : α} {va vb vc vd ve vf vg vh : Value} (hp : R p [va, vb, vc, vd, ve, vf, vg, vh]) (h : Reps R 8 ps cs) : Reps R 8 (p :: ps) (va :: vb :: vc :: vd :: ve :: vf :: vg :: vh :: cs) := Reps.front hp rfl h rfl
theorem Reps.c9 {α : Type} {R : α → List Value → Prop} {ps : List α} {cs : List Value} {p : α} {va vb vc vd ve vf vg vh vi : Value} (hp : R p [va, vb, vc, vd, ve, vf, vg, vh, vi]) (h : Reps R 9 ps cs) : Reps R 9 (p :: ps) (va :: vb :: vc :: vd :: ve :: vf :: vg :: vh :: vi :: cs) := Reps.front hp rfl h rfl
theorem Reps.c10 {α : Type} {R : α → List Value → Prop} {ps : List α} {cs : List Value} {p : α} {va vb vc vd ve vf vg vh vi vj : Value} (hp : R p [va, vb, vc, vd, ve, vf, vg, vh, vi, vj]) (h : Reps R 10 ps cs) : Reps R 10 (p :: ps) (va :: vb :: vc :: vd :: ve :: vf :: vg :: vh :: vi :: vj :: cs) := Reps.front hp rfl h rfl
end Go.Proofs.YtlijjnjpomnphaaGreatDoorW.PrintWords
end
section
namespace Go.Proofs.YtlijjnjpomnphaaGreatDoorW.PrintWords
open Go.RowKit
section
variable {P : Program} {ops : Array Oper} {rest : List Oper} {o : Oper} {a : Act} {Q : Exit → Act → World → Prop} {W : World}
theorem zkc (hw : Region.wanted o (yielded ops a.tmps) = true) (h : wpList P ops Q ({ o with guard := none } :: rest) a W) : wpList P ops Q (o :: rest) a W := by
 have h1 : Region.wanted { o with guard := none } (yielded ops a.tmps) = true := rfl
 unfold wpList at h ⊢
 rw [if_pos h1] at h
 rw [if_pos hw]
 exact h
end
end Go.Proofs.YtlijjnjpomnphaaGreatDoorW.PrintWords
end
section
namespace Go.Proofs.YtlijjnjpomnphaaGreatDoorW.PrintMore
open Go.RowKit YtlijjnjpomnphaaGreatDoorW.PrintWords
namespace Kd
open Go.Proofs.YtlijjnjpomnphaaGreatDoorW.PrintWords.Kd
end Kd
namespace Kd
open Go.Proofs.YtlijjnjpomnphaaGreatDoorW.PrintWords.Kd
section
variable {α : Type} {d : Kd α} {e base g N : Nat} {ok : Nat → Prop} {W w1 : World} {u v : Value} {xs : List α}
end
end Kd
theorem zhd (k k' : IntKind) (x y : Int) : Builtin.max2 (.int k x) (.int k' y) = pure (.int k (if x < y then y else x)) := by simp only [Builtin.max2, gt_iff_lt]
theorem zid (k k' : IntKind) (x y : Int) : Builtin.min2 (.int k x) (.int k' y) = pure (.int k (if y < x then y else x)) := by simp only [Builtin.min2]
theorem zud (ats : Array TypeId) (ty : TypeId) (a b : Value) : Builtin.max_ ats ty #[a, b] = (Builtin.max2 a b >>= fun s => pure s) := by simp only [Builtin.max_, List.foldlM_cons, List.foldlM_nil]
theorem ztd (ats : Array TypeId) (ty : TypeId) (a b : Value) : Builtin.min_ ats ty #[a, b] = (Builtin.min2 a b >>= fun s => pure s) := by simp only [Builtin.min_, List.foldlM_cons, List.foldlM_nil]
theorem ztc (ats : Array TypeId) (ty : TypeId) (a b c : Value) : Builtin.max_ ats ty #[a, b, c] = (Builtin.max2 a b >>= fun s => Builtin.max2 s c >>= fun s => pure s) := by simp only [Builtin.max_, List.foldlM_cons, List.foldlM_nil]
theorem zuc (ats : Array TypeId) (ty : TypeId) (a b c : Value) : Builtin.min_ ats ty #[a, b, c] = (Builtin.min2 a b >>= fun s => Builtin.min2 s c >>= fun s => pure s) := by simp only [Builtin.min_, List.foldlM_cons, List.foldlM_nil]
theorem zgd (ats : Array TypeId) (ty : TypeId) (a b c d : Value) : Builtin.max_ ats ty #[a, b, c, d] = (Builtin.max2 a b >>= fun s => Builtin.max2 s c >>= fun s => Builtin.max2 s d >>= fun s => pure s) := by simp only [Builtin.max_, List.foldlM_cons, List.foldlM_nil]
theorem zkd (ats : Array TypeId) (ty : TypeId) (a b c d : Value) : Builtin.min_ ats ty #[a, b, c, d] = (Builtin.min2 a b >>= fun s => Builtin.min2 s c >>= fun s => Builtin.min2 s d >>= fun s => pure s) := by simp only [Builtin.min_, List.foldlM_cons, List.foldlM_nil]
end Go.Proofs.YtlijjnjpomnphaaGreatDoorW.PrintMore
namespace Go.Proofs.YtlijjnjpomnphaaGreatDoorW.PrintWords
open Go.RowKit
section
variable {P : Program} {ops : Array Oper} {rest : List Oper} {o : Oper} {a : Act} {Q : Exit → Act → World → Prop} {W : World}
theorem zcb {f : FuncId} {az : Array Operand} {ts : Array TypeId} (_ho : o.op = .call { callee := .value (.func f), args := az, argTypes := ts }) (h : wpList P ops Q (o :: rest) a W) : wpList P ops Q (o :: rest) a W := h
theorem zzb {b : Builtin} {xs : Array Operand} {ts : Array TypeId} (_ho : o.op = .call { callee := .builtin b, args := xs, argTypes := ts }) (h : wpList P ops Q (o :: rest) a W) : wpList P ops Q (o :: rest) a W := h
end
def mx (a b : Int) : Int := if a < b then b else a
def mn (a b : Int) : Int := if b < a then b else a
theorem zjc (w : World) (n : Nat) : w.drewN n = w.drewN n := rfl
namespace Kd
section
variable {α : Type} {d : Kd α} {e base : Nat} {ok : Nat → Prop} {W w1 : World} {v : Value} {xs : List α}
end
section
variable {α : Type} {d : Kd α} {e base g n cap : Nat} {ok oki okp : Nat → Prop} {W : World} {xs : List α} {i : Int} {c : List Value}
end
section
variable {α : Type} {d : Kd α} {e base b b' g N : Nat} {ok ok1 : Nat → Prop} {W W2 w1 : World} {u v : Value} {xs ys : List α} {S : Nat → Prop}
end
end Kd
end Go.Proofs.YtlijjnjpomnphaaGreatDoorW.PrintWords
namespace Go.Proofs.YtlijjnjpomnphaaGreatDoorW.PrintWords
open Go.RowKit
namespace Kd
def V {α : Type} (d : Kd α) (_e : Nat) (W : World) (_base : Nat) (ok : Nat → Prop) (v : Value) (xs : List α) : Prop := ∃ A c, v = .slice A xs.length c ∧ xs.length ≤ c ∧ F d W ok A xs.length xs
section
variable {α β : Type} {d : Kd α} {e base base' n m c g N' lo hi : Nat} {ok ok' S : Nat → Prop} {w W w1 : World} {A : Option Addr} {ad : Addr} {u v v1 : Value} {xs : List α}
end
end Kd
end Go.Proofs.YtlijjnjpomnphaaGreatDoorW.PrintWords
end
section
namespace Go.Proofs.YtlijjnjpomnphaaGreatDoor.S
open Go.RowKit YtlijjnjpomnphaaGreatDoorH YtlijjnjpomnphaaGreatDoorW.PrintWords YtlijjnjpomnphaaGreatDoorW.PrintLast YtlijjnjpomnphaaGreatDoorW.PrintMore
attribute [local go_sem] zhd zid zud ztd ztc zuc zgd zkd
def errW : Option Int → Value
 | none => .nilIface
 | some c => .iface 0 (.int .i64 c)
theorem zyg : errW none = .nilIface := rfl
theorem zvg (c : Int) : errW (some c) = .iface 0 (.int .i64 c) := rfl
theorem info9 : (Tryz.prog.info? 9).map (fun i => (i.zero, i.size, i.bytes)) = some (some (.string ⟨#[]⟩), 1, 16) := by kernel_rfl
end Go.Proofs.YtlijjnjpomnphaaGreatDoor.S
end
section
namespace Go.Proofs.YtlijjnjpomnphaaGreatDoor.S
open Go.RowKit YtlijjnjpomnphaaGreatDoorH YtlijjnjpomnphaaGreatDoorW.PrintWords YtlijjnjpomnphaaGreatDoorW.PrintLast YtlijjnjpomnphaaGreatDoorW.PrintMore
attribute [local go_sem] zhd zid zud ztd ztc zuc zgd zkd
def zr.l0 : Nat → ByteArray → Int → Option (Int)
 | 0, _, _ => none
 | k + 1, x0, x1 => if x1 < (x0.size : Int) then (if 0 ≤ x1 then (if (bt x0 x1) = 32 then (zr.l0 k x0 (wrap64 (x1 + 1))) else (if (bt x0 x1) = 9 then (zr.l0 k x0 (wrap64 (x1 + 1))) else (if (bt x0 x1) = 10 then (zr.l0 k x0 (wrap64 (x1 + 1))) else (if (bt x0 x1) = 12 then (zr.l0 k x0 (wrap64 (x1 + 1))) else (if (bt x0 x1) = 13 then (zr.l0 k x0 (wrap64 (x1 + 1))) else (some x1)))))) else (none)) else (some x1)
def zr.f (k : Nat) (a0 : ByteArray) (a1 : Int) : Option (Int) := zr.l0 k a0 a1
theorem zr.calls (k : Nat) (a0 : ByteArray) (a1 : Int) (r : Int) (w : World) (h : zr.f k a0 a1 = some r) :
  Calls Tryz.prog 102 #[.string a0, .int .i64 a1] w fun e w' => e = .returned (.int .i64 r) ∧ zo w w' := by
 have H : (zr.l0 k a0 a1) = some r := h
 clear h
 have H' := za.mk H
 clear H
 go_enter Tryz.func102, Tryz.ntmps102
 go_wp2
 (try simp only [Act.put, List.setIfInBounds_toArray, List.set_cons_zero, List.set_cons_succ])
 go_loopg [1] k (fun kq v1 w' => ∃ (x1_1 : Int), v1 = .int .i64 x1_1 ∧ za (zr.l0 kq a0 x1_1 = some r) ∧ za (kq ≤ k) ∧ zo w w')
 case atStart => exact ⟨(a1), (by rfl), H', ⟨Nat.le_refl _⟩, by repeat (first | exact zo.refl _ | apply zo.step)⟩
 case round =>
  clear H'
  obtain ⟨x1_1, rfl, HA, HK1, ⟨m1, rfl⟩⟩ := hrel
  cases gk with
  | zero => exact absurd HA.out (by simp [zr.l0])
  | succ k1 =>
   have H := HA.out
   clear HA
   simp only [zr.l0] at H
   by_cases c3 : x1_1 < (a0.size : Int)
   ·rw [if_pos c3] at H
    have c3b0 : decide (x1_1 < (a0.size : Int)) = true := decide_eq_true c3
    clear c3
    by_cases c4 : 0 ≤ x1_1
    ·rw [if_pos c4] at H
     have c4b0 : decide (0 ≤ x1_1) = true := decide_eq_true c4
     clear c4
     by_cases c6 : (bt a0 x1_1) = 32
     ·rw [if_pos c6] at H
      have c6b0 : ((bt a0 x1_1) == 32) = true := beq_iff_eq.mpr c6
      have c6b1 : ((bt a0 x1_1) != 32) = false := bne_eq_false_iff_eq.mpr c6
      clear c6
      have H' := za.mk H
      clear H
      have p5 : 0 ≤ (x1_1 : Int) := of_decide_eq_true (by (with_reducible assumption))
      have q5 : x1_1 < (a0.size : Int) := of_decide_eq_true (by (with_reducible assumption))
      have hx5 := bt_at a0 x1_1
      replace p5 := eq_true p5
      replace q5 := eq_true q5
      go_wp2
      go_roundg k1
      case measure => have := HK1.out; omega
      case rel => exact ⟨(wrap64 (x1_1 + 1)), (by rfl), H', ⟨by have := HK1.out; omega⟩, by repeat (first | exact zo.refl _ | apply zo.step)⟩
     ·rw [if_neg c6] at H
      have c6b0 : ((bt a0 x1_1) == 32) = false := beq_eq_false_iff_ne.mpr c6
      have c6b1 : ((bt a0 x1_1) != 32) = true := bne_iff_ne.mpr c6
      by_cases c8 : (bt a0 x1_1) = 9
      ·rw [if_pos c8] at H
       have c8b0 : ((bt a0 x1_1) == 9) = true := beq_iff_eq.mpr c8
       have c8b1 : ((bt a0 x1_1) != 9) = false := bne_eq_false_iff_eq.mpr c8
       clear c8
       have H' := za.mk H
       clear H
       have p5 : 0 ≤ (x1_1 : Int) := of_decide_eq_true (by (with_reducible assumption))
       have q5 : x1_1 < (a0.size : Int) := of_decide_eq_true (by (with_reducible assumption))
       have hx5 := bt_at a0 x1_1
       replace p5 := eq_true p5
       replace q5 := eq_true q5
       have p7 : 0 ≤ (x1_1 : Int) := of_decide_eq_true (by (with_reducible assumption))
       have q7 : x1_1 < (a0.size : Int) := of_decide_eq_true (by (with_reducible assumption))
       have hx7 := bt_at a0 x1_1
       replace p7 := eq_true p7
       replace q7 := eq_true q7
       go_wp2
       go_roundg k1
       case measure => have := HK1.out; omega
       case rel => exact ⟨(wrap64 (x1_1 + 1)), (by rfl), H', ⟨by have := HK1.out; omega⟩, by repeat (first | exact zo.refl _ | apply zo.step)⟩
      ·rw [if_neg c8] at H
       have c8b0 : ((bt a0 x1_1) == 9) = false := beq_eq_false_iff_ne.mpr c8
       have c8b1 : ((bt a0 x1_1) != 9) = true := bne_iff_ne.mpr c8
       by_cases c10 : (bt a0 x1_1) = 10
       ·rw [if_pos c10] at H
        have c10b0 : ((bt a0 x1_1) == 10) = true := beq_iff_eq.mpr c10
        have c10b1 : ((bt a0 x1_1) != 10) = false := bne_eq_false_iff_eq.mpr c10
        clear c10
        have H' := za.mk H
        clear H
        have p5 : 0 ≤ (x1_1 : Int) := of_decide_eq_true (by (with_reducible assumption))
        have q5 : x1_1 < (a0.size : Int) := of_decide_eq_true (by (with_reducible assumption))
        have hx5 := bt_at a0 x1_1
        replace p5 := eq_true p5
        replace q5 := eq_true q5
        have p7 : 0 ≤ (x1_1 : Int) := of_decide_eq_true (by (with_reducible assumption))
        have q7 : x1_1 < (a0.size : Int) := of_decide_eq_true (by (with_reducible assumption))
        have hx7 := bt_at a0 x1_1
        replace p7 := eq_true p7
        replace q7 := eq_true q7
        have p9 : 0 ≤ (x1_1 : Int) := of_decide_eq_true (by (with_reducible assumption))
        have q9 : x1_1 < (a0.size : Int) := of_decide_eq_true (by (with_reducible assumption))
        have hx9 := bt_at a0 x1_1
        replace p9 := eq_true p9
        replace q9 := eq_true q9
        go_wp2
        go_roundg k1
        case measure => have := HK1.out; omega
        case rel => exact ⟨(wrap64 (x1_1 + 1)), (by rfl), H', ⟨by have := HK1.out; omega⟩, by repeat (first | exact zo.refl _ | apply zo.step)⟩
       ·rw [if_neg c10] at H
        have c10b0 : ((bt a0 x1_1) == 10) = false := beq_eq_false_iff_ne.mpr c10
        have c10b1 : ((bt a0 x1_1) != 10) = true := bne_iff_ne.mpr c10
        by_cases c12 : (bt a0 x1_1) = 12
        ·rw [if_pos c12] at H
         have c12b0 : ((bt a0 x1_1) == 12) = true := beq_iff_eq.mpr c12
         have c12b1 : ((bt a0 x1_1) != 12) = false := bne_eq_false_iff_eq.mpr c12
         clear c12
         have H' := za.mk H
         clear H
         have p5 : 0 ≤ (x1_1 : Int) := of_decide_eq_true (by (with_reducible assumption))
         have q5 : x1_1 < (a0.size : Int) := of_decide_eq_true (by (with_reducible assumption))
         have hx5 := bt_at a0 x1_1
         replace p5 := eq_true p5
         replace q5 := eq_true q5
         have p7 : 0 ≤ (x1_1 : Int) := of_decide_eq_true (by (with_reducible assumption))
         have q7 : x1_1 < (a0.size : Int) := of_decide_eq_true (by (with_reducible assumption))
         have hx7 := bt_at a0 x1_1
         replace p7 := eq_true p7
         replace q7 := eq_true q7
         have p9 : 0 ≤ (x1_1 : Int) := of_decide_eq_true (by (with_reducible assumption))
         have q9 : x1_1 < (a0.size : Int) := of_decide_eq_true (by (with_reducible assumption))
         have hx9 := bt_at a0 x1_1
         replace p9 := eq_true p9
         replace q9 := eq_true q9
         have p11 : 0 ≤ (x1_1 : Int) := of_decide_eq_true (by (with_reducible assumption))
         have q11 : x1_1 < (a0.size : Int) := of_decide_eq_true (by (with_reducible assumption))
         have hx11 := bt_at a0 x1_1
         replace p11 := eq_true p11
         replace q11 := eq_true q11
         go_wp2
         go_roundg k1
         case measure => have := HK1.out; omega
         case rel => exact ⟨(wrap64 (x1_1 + 1)), (by rfl), H', ⟨by have := HK1.out; omega⟩, by repeat (first | exact zo.refl _ | apply zo.step)⟩
        ·rw [if_neg c12] at H
         have c12b0 : ((bt a0 x1_1) == 12) = false := beq_eq_false_iff_ne.mpr c12
         have c12b1 : ((bt a0 x1_1) != 12) = true := bne_iff_ne.mpr c12
         by_cases c14 : (bt a0 x1_1) = 13
         ·rw [if_pos c14] at H
          have c14b0 : ((bt a0 x1_1) == 13) = true := beq_iff_eq.mpr c14
          have c14b1 : ((bt a0 x1_1) != 13) = false := bne_eq_false_iff_eq.mpr c14
          clear c14
          have H' := za.mk H
          clear H
          have p5 : 0 ≤ (x1_1 : Int) := of_decide_eq_true (by (with_reducible assumption))
          have q5 : x1_1 < (a0.size : Int) := of_decide_eq_true (by (with_reducible assumption))
          have hx5 := bt_at a0 x1_1
          replace p5 := eq_true p5
          replace q5 := eq_true q5
          have p7 : 0 ≤ (x1_1 : Int) := of_decide_eq_true (by (with_reducible assumption))
          have q7 : x1_1 < (a0.size : Int) := of_decide_eq_true (by (with_reducible assumption))
          have hx7 := bt_at a0 x1_1
          replace p7 := eq_true p7
          replace q7 := eq_true q7
          have p9 : 0 ≤ (x1_1 : Int) := of_decide_eq_true (by (with_reducible assumption))
          have q9 : x1_1 < (a0.size : Int) := of_decide_eq_true (by (with_reducible assumption))
          have hx9 := bt_at a0 x1_1
          replace p9 := eq_true p9
          replace q9 := eq_true q9
          have p11 : 0 ≤ (x1_1 : Int) := of_decide_eq_true (by (with_reducible assumption))
          have q11 : x1_1 < (a0.size : Int) := of_decide_eq_true (by (with_reducible assumption))
          have hx11 := bt_at a0 x1_1
          replace p11 := eq_true p11
          replace q11 := eq_true q11
          have p13 : 0 ≤ (x1_1 : Int) := of_decide_eq_true (by (with_reducible assumption))
          have q13 : x1_1 < (a0.size : Int) := of_decide_eq_true (by (with_reducible assumption))
          have hx13 := bt_at a0 x1_1
          replace p13 := eq_true p13
          replace q13 := eq_true q13
          go_wp2
          go_roundg k1
          case measure => have := HK1.out; omega
          case rel => exact ⟨(wrap64 (x1_1 + 1)), (by rfl), H', ⟨by have := HK1.out; omega⟩, by repeat (first | exact zo.refl _ | apply zo.step)⟩
         ·rw [if_neg c14] at H
          have c14b0 : ((bt a0 x1_1) == 13) = false := beq_eq_false_iff_ne.mpr c14
          have c14b1 : ((bt a0 x1_1) != 13) = true := bne_iff_ne.mpr c14
          obtain rfl := Option.some.inj H
          have p5 : 0 ≤ (x1_1 : Int) := of_decide_eq_true (by (with_reducible assumption))
          have q5 : x1_1 < (a0.size : Int) := of_decide_eq_true (by (with_reducible assumption))
          have hx5 := bt_at a0 x1_1
          replace p5 := eq_true p5
          replace q5 := eq_true q5
          have p7 : 0 ≤ (x1_1 : Int) := of_decide_eq_true (by (with_reducible assumption))
          have q7 : x1_1 < (a0.size : Int) := of_decide_eq_true (by (with_reducible assumption))
          have hx7 := bt_at a0 x1_1
          replace p7 := eq_true p7
          replace q7 := eq_true q7
          have p9 : 0 ≤ (x1_1 : Int) := of_decide_eq_true (by (with_reducible assumption))
          have q9 : x1_1 < (a0.size : Int) := of_decide_eq_true (by (with_reducible assumption))
          have hx9 := bt_at a0 x1_1
          replace p9 := eq_true p9
          replace q9 := eq_true q9
          have p11 : 0 ≤ (x1_1 : Int) := of_decide_eq_true (by (with_reducible assumption))
          have q11 : x1_1 < (a0.size : Int) := of_decide_eq_true (by (with_reducible assumption))
          have hx11 := bt_at a0 x1_1
          replace p11 := eq_true p11
          replace q11 := eq_true q11
          have p13 : 0 ≤ (x1_1 : Int) := of_decide_eq_true (by (with_reducible assumption))
          have q13 : x1_1 < (a0.size : Int) := of_decide_eq_true (by (with_reducible assumption))
          have hx13 := bt_at a0 x1_1
          replace p13 := eq_true p13
          replace q13 := eq_true q13
          go_wp2
          go_ret
          exact ⟨by rfl, by repeat (first | exact zo.refl _ | apply zo.step)⟩
    ·rw [if_neg c4] at H
     exact absurd H (by simp)
   ·rw [if_neg c3] at H
    have c3b0 : decide (x1_1 < (a0.size : Int)) = false := decide_eq_false c3
    clear c3
    obtain rfl := Option.some.inj H
    go_wp2
    go_ret
    exact ⟨by rfl, by repeat (first | exact zo.refl _ | apply zo.step)⟩
def zhb.f (a0 : Int) : Option (Bool) := if a0 ≥ 48 then (some (decide (a0 ≤ 57))) else (some false)
theorem zhb.calls (a0 : Int) (r : Bool) (w : World) (h : zhb.f a0 = some r) :
  Calls Tryz.prog 104 #[.int .u8 a0] w fun e w' => e = .returned (.bool r) ∧ zo w w' := by
 have H : (if a0 ≥ 48 then (some (decide (a0 ≤ 57))) else (some false)) = some r := h
 clear h
 by_cases c2 : a0 ≥ 48
 ·rw [if_pos c2] at H
  have c2b0 : decide (48 ≤ a0) = true := decide_eq_true c2
  clear c2
  obtain rfl := Option.some.inj H
  go_enter Tryz.func104, Tryz.ntmps104
  go_wp2
  go_ret
  exact ⟨by rfl, by repeat (first | exact zo.refl _ | apply zo.step)⟩
 ·rw [if_neg c2] at H
  have c2b0 : decide (48 ≤ a0) = false := decide_eq_false c2
  clear c2
  obtain rfl := Option.some.inj H
  go_enter Tryz.func104, Tryz.ntmps104
  go_wp2
  go_ret
  exact ⟨by rfl, by repeat (first | exact zo.refl _ | apply zo.step)⟩
def zv.l0 : Nat → ByteArray → Int → Option (Int)
 | 0, _, _ => none
 | k + 1, x0, x1 => if x1 < (x0.size : Int) then (if 0 ≤ x1 then ((zhb.f (bt x0 x1)).bind fun t101 => (if t101 = true then (zv.l0 k x0 (wrap64 (x1 + 1))) else (some x1))) else (none)) else (some x1)
def zv.f (k : Nat) (a0 : ByteArray) (a1 : Int) : Option (Int) := zv.l0 k a0 a1
theorem zv.calls (k : Nat) (a0 : ByteArray) (a1 : Int) (r : Int) (w : World) (h : zv.f k a0 a1 = some r) :
  Calls Tryz.prog 103 #[.string a0, .int .i64 a1] w fun e w' => e = .returned (.int .i64 r) ∧ zo w w' := by
 have H : (zv.l0 k a0 a1) = some r := h
 clear h
 have H' := za.mk H
 clear H
 go_enter Tryz.func103, Tryz.ntmps103
 go_wp2
 (try simp only [Act.put, List.setIfInBounds_toArray, List.set_cons_zero, List.set_cons_succ])
 go_loopg [1] k (fun kq v1 w' => ∃ (x1_1 : Int), v1 = .int .i64 x1_1 ∧ za (zv.l0 kq a0 x1_1 = some r) ∧ za (kq ≤ k) ∧ zo w w')
 case atStart => exact ⟨(a1), (by rfl), H', ⟨Nat.le_refl _⟩, by repeat (first | exact zo.refl _ | apply zo.step)⟩
 case round =>
  clear H'
  obtain ⟨x1_1, rfl, HA, HK1, ⟨m1, rfl⟩⟩ := hrel
  cases gk with
  | zero => exact absurd HA.out (by simp [zv.l0])
  | succ k1 =>
   have H := HA.out
   clear HA
   simp only [zv.l0] at H
   by_cases c3 : x1_1 < (a0.size : Int)
   ·rw [if_pos c3] at H
    have c3b0 : decide (x1_1 < (a0.size : Int)) = true := decide_eq_true c3
    clear c3
    by_cases c4 : 0 ≤ x1_1
    ·rw [if_pos c4] at H
     have c4b0 : decide (0 ≤ x1_1) = true := decide_eq_true c4
     clear c4
     replace H := Option.bind_eq_some_iff.mp H
     obtain ⟨t101, A60, H⟩ := H
     replace H : (if t101 = true then (zv.l0 k1 a0 (wrap64 (x1_1 + 1))) else (some x1_1)) = some r := H
     have A6 := za.mk A60
     clear A60
     by_cases c7 : t101 = true
     ·subst c7
      have H1 : (zv.l0 k1 a0 (wrap64 (x1_1 + 1))) = some r := by rw [if_pos rfl] at H; exact H
      clear H
      have H := H1
      clear H1
      have H' := za.mk H
      clear H
      have p5 : 0 ≤ (x1_1 : Int) := of_decide_eq_true (by (with_reducible assumption))
      have q5 : x1_1 < (a0.size : Int) := of_decide_eq_true (by (with_reducible assumption))
      have hx5 := bt_at a0 x1_1
      replace p5 := eq_true p5
      replace q5 := eq_true q5
      go_wp2_with ((go_at_call 104; (with_reducible refine (zhb.calls (bt a0 x1_1) true _ A6.out).mono ?_); rintro e w' ⟨rfl, ⟨nd, rfl⟩⟩))
      go_roundg k1
      case measure => have := HK1.out; omega
      case rel => exact ⟨(wrap64 (x1_1 + 1)), (by rfl), H', ⟨by have := HK1.out; omega⟩, by repeat (first | exact zo.refl _ | apply zo.step)⟩
     ·replace c7 := Bool.eq_false_iff.mpr c7
      subst c7
      have H1 : (some x1_1) = some r := by rw [if_neg (show ¬ (false = true) by decide)] at H; exact H
      clear H
      have H := H1
      clear H1
      obtain rfl := Option.some.inj H
      have p5 : 0 ≤ (x1_1 : Int) := of_decide_eq_true (by (with_reducible assumption))
      have q5 : x1_1 < (a0.size : Int) := of_decide_eq_true (by (with_reducible assumption))
      have hx5 := bt_at a0 x1_1
      replace p5 := eq_true p5
      replace q5 := eq_true q5
      go_wp2_with ((go_at_call 104; (with_reducible refine (zhb.calls (bt a0 x1_1) false _ A6.out).mono ?_); rintro e w' ⟨rfl, ⟨nd, rfl⟩⟩))
      go_ret
      exact ⟨by rfl, by repeat (first | exact zo.refl _ | apply zo.step)⟩
    ·rw [if_neg c4] at H
     exact absurd H (by simp)
   ·rw [if_neg c3] at H
    have c3b0 : decide (x1_1 < (a0.size : Int)) = false := decide_eq_false c3
    clear c3
    obtain rfl := Option.some.inj H
    go_wp2
    go_ret
    exact ⟨by rfl, by repeat (first | exact zo.refl _ | apply zo.step)⟩
def zpb.f (a0 : ByteArray) (a1 : Int) : Option (Int) := if a1 < (a0.size : Int) then (if 0 ≤ a1 then (if (bt a0 a1) = 45 then (some (wrap64 (a1 + 1))) else (if (bt a0 a1) = 95 then (some (wrap64 (a1 + 1))) else (if (bt a0 a1) = 46 then (some (wrap64 (a1 + 1))) else (some a1)))) else (none)) else (some a1)
theorem zpb.calls (a0 : ByteArray) (a1 : Int) (r : Int) (w : World) (h : zpb.f a0 a1 = some r) :
  Calls Tryz.prog 107 #[.string a0, .int .i64 a1] w fun e w' => e = .returned (.int .i64 r) ∧ zo w w' := by
 have H : (if a1 < (a0.size : Int) then (if 0 ≤ a1 then (if (bt a0 a1) = 45 then (some (wrap64 (a1 + 1))) else (if (bt a0 a1) = 95 then (some (wrap64 (a1 + 1))) else (if (bt a0 a1) = 46 then (some (wrap64 (a1 + 1))) else (some a1)))) else (none)) else (some a1)) = some r := h
 clear h
 by_cases c3 : a1 < (a0.size : Int)
 ·rw [if_pos c3] at H
  have c3b0 : decide (a1 < (a0.size : Int)) = true := decide_eq_true c3
  clear c3
  by_cases c4 : 0 ≤ a1
  ·rw [if_pos c4] at H
   have c4b0 : decide (0 ≤ a1) = true := decide_eq_true c4
   clear c4
   by_cases c6 : (bt a0 a1) = 45
   ·rw [if_pos c6] at H
    have c6b0 : ((bt a0 a1) == 45) = true := beq_iff_eq.mpr c6
    have c6b1 : ((bt a0 a1) != 45) = false := bne_eq_false_iff_eq.mpr c6
    clear c6
    obtain rfl := Option.some.inj H
    have p5 : 0 ≤ (a1 : Int) := of_decide_eq_true (by (with_reducible assumption))
    have q5 : a1 < (a0.size : Int) := of_decide_eq_true (by (with_reducible assumption))
    have hx5 := bt_at a0 a1
    replace p5 := eq_true p5
    replace q5 := eq_true q5
    go_enter Tryz.func107, Tryz.ntmps107
    go_wp2
    go_ret
    exact ⟨by rfl, by repeat (first | exact zo.refl _ | apply zo.step)⟩
   ·rw [if_neg c6] at H
    have c6b0 : ((bt a0 a1) == 45) = false := beq_eq_false_iff_ne.mpr c6
    have c6b1 : ((bt a0 a1) != 45) = true := bne_iff_ne.mpr c6
    by_cases c8 : (bt a0 a1) = 95
    ·rw [if_pos c8] at H
     have c8b0 : ((bt a0 a1) == 95) = true := beq_iff_eq.mpr c8
     have c8b1 : ((bt a0 a1) != 95) = false := bne_eq_false_iff_eq.mpr c8
     clear c8
     obtain rfl := Option.some.inj H
     have p5 : 0 ≤ (a1 : Int) := of_decide_eq_true (by (with_reducible assumption))
     have q5 : a1 < (a0.size : Int) := of_decide_eq_true (by (with_reducible assumption))
     have hx5 := bt_at a0 a1
     replace p5 := eq_true p5
     replace q5 := eq_true q5
     have p7 : 0 ≤ (a1 : Int) := of_decide_eq_true (by (with_reducible assumption))
     have q7 : a1 < (a0.size : Int) := of_decide_eq_true (by (with_reducible assumption))
     have hx7 := bt_at a0 a1
     replace p7 := eq_true p7
     replace q7 := eq_true q7
     go_enter Tryz.func107, Tryz.ntmps107
     go_wp2
     go_ret
     exact ⟨by rfl, by repeat (first | exact zo.refl _ | apply zo.step)⟩
    ·rw [if_neg c8] at H
     have c8b0 : ((bt a0 a1) == 95) = false := beq_eq_false_iff_ne.mpr c8
     have c8b1 : ((bt a0 a1) != 95) = true := bne_iff_ne.mpr c8
     by_cases c10 : (bt a0 a1) = 46
     ·rw [if_pos c10] at H
      have c10b0 : ((bt a0 a1) == 46) = true := beq_iff_eq.mpr c10
      have c10b1 : ((bt a0 a1) != 46) = false := bne_eq_false_iff_eq.mpr c10
      clear c10
      obtain rfl := Option.some.inj H
      have p5 : 0 ≤ (a1 : Int) := of_decide_eq_true (by (with_reducible assumption))
      have q5 : a1 < (a0.size : Int) := of_decide_eq_true (by (with_reducible assumption))
      have hx5 := bt_at a0 a1
      replace p5 := eq_true p5
      replace q5 := eq_true q5
      have p7 : 0 ≤ (a1 : Int) := of_decide_eq_true (by (with_reducible assumption))
      have q7 : a1 < (a0.size : Int) := of_decide_eq_true (by (with_reducible assumption))
      have hx7 := bt_at a0 a1
      replace p7 := eq_true p7
      replace q7 := eq_true q7
      have p9 : 0 ≤ (a1 : Int) := of_decide_eq_true (by (with_reducible assumption))
      have q9 : a1 < (a0.size : Int) := of_decide_eq_true (by (with_reducible assumption))
      have hx9 := bt_at a0 a1
      replace p9 := eq_true p9
      replace q9 := eq_true q9
      go_enter Tryz.func107, Tryz.ntmps107
      go_wp2
      go_ret
      exact ⟨by rfl, by repeat (first | exact zo.refl _ | apply zo.step)⟩
     ·rw [if_neg c10] at H
      have c10b0 : ((bt a0 a1) == 46) = false := beq_eq_false_iff_ne.mpr c10
      have c10b1 : ((bt a0 a1) != 46) = true := bne_iff_ne.mpr c10
      obtain rfl := Option.some.inj H
      have p5 : 0 ≤ (a1 : Int) := of_decide_eq_true (by (with_reducible assumption))
      have q5 : a1 < (a0.size : Int) := of_decide_eq_true (by (with_reducible assumption))
      have hx5 := bt_at a0 a1
      replace p5 := eq_true p5
      replace q5 := eq_true q5
      have p7 : 0 ≤ (a1 : Int) := of_decide_eq_true (by (with_reducible assumption))
      have q7 : a1 < (a0.size : Int) := of_decide_eq_true (by (with_reducible assumption))
      have hx7 := bt_at a0 a1
      replace p7 := eq_true p7
      replace q7 := eq_true q7
      have p9 : 0 ≤ (a1 : Int) := of_decide_eq_true (by (with_reducible assumption))
      have q9 : a1 < (a0.size : Int) := of_decide_eq_true (by (with_reducible assumption))
      have hx9 := bt_at a0 a1
      replace p9 := eq_true p9
      replace q9 := eq_true q9
      go_enter Tryz.func107, Tryz.ntmps107
      go_wp2
      go_ret
      exact ⟨by rfl, by repeat (first | exact zo.refl _ | apply zo.step)⟩
  ·rw [if_neg c4] at H
   exact absurd H (by simp)
 ·rw [if_neg c3] at H
  have c3b0 : decide (a1 < (a0.size : Int)) = false := decide_eq_false c3
  clear c3
  obtain rfl := Option.some.inj H
  go_enter Tryz.func107, Tryz.ntmps107
  go_wp2
  go_ret
  exact ⟨by rfl, by repeat (first | exact zo.refl _ | apply zo.step)⟩
def zbd.f (a0 : ByteArray) (a1 : Int) (a2 : ByteArray) : Option (Bool) := if (wrap64 ((a0.size : Int) - a1)) ≥ (a2.size : Int) then (if 0 ≤ a1 then (if a1 ≤ (wrap64 (a1 + (a2.size : Int))) then (if (wrap64 (a1 + (a2.size : Int))) ≤ (a0.size : Int) then (some ((a0.extract (a1 : Int).toNat ((wrap64 (a1 + (a2.size : Int))) : Int).toNat).toList == a2.toList)) else (none)) else (none)) else (none)) else (some false)
theorem zbd.calls (a0 : ByteArray) (a1 : Int) (a2 : ByteArray) (r : Bool) (w : World) (h : zbd.f a0 a1 a2 = some r) :
  Calls Tryz.prog 135 #[.string a0, .int .i64 a1, .string a2] w fun e w' => e = .returned (.bool r) ∧ zo w w' := by
 have H : (if (wrap64 ((a0.size : Int) - a1)) ≥ (a2.size : Int) then (if 0 ≤ a1 then (if a1 ≤ (wrap64 (a1 + (a2.size : Int))) then (if (wrap64 (a1 + (a2.size : Int))) ≤ (a0.size : Int) then (some ((a0.extract (a1 : Int).toNat ((wrap64 (a1 + (a2.size : Int))) : Int).toNat).toList == a2.toList)) else (none)) else (none)) else (none)) else (some false)) = some r := h
 clear h
 by_cases c4 : (wrap64 ((a0.size : Int) - a1)) ≥ (a2.size : Int)
 ·rw [if_pos c4] at H
  have c4b0 : decide ((a2.size : Int) ≤ (wrap64 ((a0.size : Int) - a1))) = true := decide_eq_true c4
  clear c4
  by_cases c5 : 0 ≤ a1
  ·rw [if_pos c5] at H
   have c5b0 := eq_true c5
   have c5b1 : decide (0 ≤ a1) = true := decide_eq_true c5
   clear c5
   by_cases c6 : a1 ≤ (wrap64 (a1 + (a2.size : Int)))
   ·rw [if_pos c6] at H
    have c6b0 := eq_true c6
    have c6b1 : decide (a1 ≤ (wrap64 (a1 + (a2.size : Int)))) = true := decide_eq_true c6
    by_cases c7 : (wrap64 (a1 + (a2.size : Int))) ≤ (a0.size : Int)
    ·rw [if_pos c7] at H
     have c7b0 := eq_true c7
     have c7b1 : decide ((wrap64 (a1 + (a2.size : Int))) ≤ (a0.size : Int)) = true := decide_eq_true c7
     obtain rfl := Option.some.inj H
     go_enter Tryz.func135, Tryz.ntmps135
     go_wp2
     go_ret
     exact ⟨by rfl, by repeat (first | exact zo.refl _ | apply zo.step)⟩
    ·rw [if_neg c7] at H
     exact absurd H (by simp)
   ·rw [if_neg c6] at H
    exact absurd H (by simp)
  ·rw [if_neg c5] at H
   exact absurd H (by simp)
 ·rw [if_neg c4] at H
  have c4b0 : decide ((a2.size : Int) ≤ (wrap64 ((a0.size : Int) - a1))) = false := decide_eq_false c4
  clear c4
  obtain rfl := Option.some.inj H
  go_enter Tryz.func135, Tryz.ntmps135
  go_wp2
  go_ret
  exact ⟨by rfl, by repeat (first | exact zo.refl _ | apply zo.step)⟩
def zp.l0 : Nat → ByteArray → Int → ByteArray → Int → List ByteArray → Int → Int → Option (ByteArray × ByteArray × Int)
 | 0, _, _, _, _, _, _, _ => none
 | k + 1, x0, x1, x6, x9, x15, x16, x17 => if x17 < x16 then (if 0 ≤ x17 then (if x17 < (x15.length : Int) then (if x6.toList = ([] : List UInt8) then ((zbd.f x0 x9 (rdOf ByteArray.empty x15 x17)).bind fun t104 => (if t104 = true then (zp.l0 k x0 x1 (rdOf ByteArray.empty x15 x17) x9 x15 x16 (wrap64 (x17 + 1))) else (zp.l0 k x0 x1 x6 x9 x15 x16 (wrap64 (x17 + 1))))) else (zp.l0 k x0 x1 x6 x9 x15 x16 (wrap64 (x17 + 1)))) else (none)) else (none)) else (if x6.toList = ([] : List UInt8) then (some ((⟨#[]⟩ : ByteArray), (⟨#[]⟩ : ByteArray), x1)) else ((zpb.f x0 (wrap64 (x9 + (x6.size : Int)))).bind fun t105 => ((zv.f k x0 t105).bind fun t106 => (if 0 ≤ t105 then (if t105 ≤ t106 then (if t106 ≤ (x0.size : Int) then (some (x6, x0.extract (t105 : Int).toNat (t106 : Int).toNat, t106)) else (none)) else (none)) else (none)))))
def zp.f (k : Nat) (a0 : ByteArray) (a1 : Int) (l2 : List ByteArray) : Option (ByteArray × ByteArray × Int) := (zpb.f a0 a1).bind fun t102 => (zp.l0 k a0 a1 (⟨#[]⟩ : ByteArray) t102 l2 (l2.length : Int) 0)
theorem zp.calls (k : Nat) (a0 : ByteArray) (a1 : Int) (A2 : Option Addr) (c2 : Nat) (l2 : List ByteArray) (r1 : ByteArray) (r2 : ByteArray) (r3 : Int) (w : World) (hr2 : Kd.C Kd.string w A2 l2.length l2) (hc2 : l2.length ≤ c2) (h : zp.f k a0 a1 l2 = some (r1, r2, r3)) :
  Calls Tryz.prog 105 #[.string a0, .int .i64 a1, .slice A2 l2.length c2] w fun e w' => e = .returned (.tuple #[.string r1, .string r2, .int .i64 r3]) ∧ zo w w' := by
 have HR2 := za.mk hr2
 have HC2 := za.mk hc2
 clear hr2 hc2
 have H : ((zpb.f a0 a1).bind fun t102 => (zp.l0 k a0 a1 (⟨#[]⟩ : ByteArray) t102 l2 (l2.length : Int) 0)) = some (r1, r2, r3) := h
 clear h
 replace H := Option.bind_eq_some_iff.mp H
 obtain ⟨t102, A40, H⟩ := H
 replace H : (zp.l0 k a0 a1 (⟨#[]⟩ : ByteArray) t102 l2 (l2.length : Int) 0) = some (r1, r2, r3) := H
 have A4 := za.mk A40
 clear A40
 have H' := za.mk H
 clear H
 go_enter Tryz.func105, Tryz.ntmps105
 go_wp2_with ((go_at_call 107; (with_reducible refine (zpb.calls a0 a1 t102 _ A4.out).mono ?_); rintro e w' ⟨rfl, ⟨nd, rfl⟩⟩; (try first | exact ⟨rfl, _, World.drewN_drewN _ _ _⟩ | exact ⟨rfl, _, Eq.trans (World.drewN_drewN _ _ _) (congrArg (World.drewN _) (Nat.add_assoc _ _ _))⟩)))
 repeat (go_quiet (fail); try go_wp2_with (fail))
 (try simp only [Act.put, List.setIfInBounds_toArray, List.set_cons_zero, List.set_cons_succ])
 go_loopg [6, 17] k (fun kq v6 v17 w' => ∃ (x6_1 : ByteArray) (x17_1 : Int), v6 = .string x6_1 ∧ v17 = .int .i64 x17_1 ∧ za (zp.l0 kq a0 a1 x6_1 t102 l2 (l2.length : Int) x17_1 = some (r1, r2, r3)) ∧ za (kq ≤ k) ∧ zo w w')
 case atStart => exact ⟨((⟨#[]⟩ : ByteArray)), (0), (by rfl), (by rfl), H', ⟨Nat.le_refl _⟩, by repeat (first | exact zo.refl _ | apply zo.step)⟩
 case round =>
  clear H'
  obtain ⟨x6_1, x17_1, rfl, rfl, HA, HK1, ⟨m1, rfl⟩⟩ := hrel
  cases gk with
  | zero => exact absurd HA.out (by simp [zp.l0])
  | succ k1 =>
   have H := HA.out
   clear HA
   simp only [zp.l0] at H
   by_cases c5 : x17_1 < (l2.length : Int)
   ·rw [if_pos c5] at H
    have c5b0 : decide (x17_1 < (l2.length : Int)) = true := decide_eq_true c5
    clear c5
    by_cases c6 : 0 ≤ x17_1
    ·rw [if_pos c6] at H
     have c6b0 : decide (0 ≤ x17_1) = true := decide_eq_true c6
     clear c6
     by_cases c7 : x17_1 < (l2.length : Int)
     ·rw [if_pos c7] at H
      have c7b0 : decide (x17_1 < (l2.length : Int)) = true := decide_eq_true c7
      clear c7
      by_cases c8 : x6_1.toList = ([] : List UInt8)
      ·rw [if_pos c8] at H
       have c8b0 : (x6_1.toList == ([] : List UInt8)) = true := beq_iff_eq.mpr c8
       have c8b1 : (x6_1.toList != ([] : List UInt8)) = false := bne_eq_false_iff_eq.mpr c8
       try have c8b9 : x6_1.toList.isEmpty = true := by simpa using c8b0
       clear c8
       replace H := Option.bind_eq_some_iff.mp H
       obtain ⟨t104, A90, H⟩ := H
       replace H : (if t104 = true then (zp.l0 k1 a0 a1 (rdOf ByteArray.empty l2 x17_1) t102 l2 (l2.length : Int) (wrap64 (x17_1 + 1))) else (zp.l0 k1 a0 a1 x6_1 t102 l2 (l2.length : Int) (wrap64 (x17_1 + 1)))) = some (r1, r2, r3) := H
       have A9 := za.mk A90
       clear A90
       by_cases c10 : t104 = true
       ·subst c10
        have H1 : (zp.l0 k1 a0 a1 (rdOf ByteArray.empty l2 x17_1) t102 l2 (l2.length : Int) (wrap64 (x17_1 + 1))) = some (r1, r2, r3) := by rw [if_pos rfl] at H; exact H
        clear H
        have H := H1
        clear H1
        have H' := za.mk H
        clear H
        have p103 : 0 ≤ (x17_1 : Int) := of_decide_eq_true (by (with_reducible assumption))
        have q103 : x17_1 < (l2.length : Int) := of_decide_eq_true (by (with_reducible assumption))
        obtain ⟨ad103, e103, hx103_0⟩ := Kd.at_string HR2.out x17_1 p103 q103
        cases e103
        replace p103 := eq_true p103
        replace q103 := eq_true q103
        go_wp2_with ((go_at_call 135; (with_reducible refine (zbd.calls a0 t102 (rdOf ByteArray.empty l2 x17_1) true _ A9.out).mono ?_); rintro e w' ⟨rfl, ⟨nd, rfl⟩⟩; (try first | exact ⟨rfl, _, World.drewN_drewN _ _ _⟩ | exact ⟨rfl, _, Eq.trans (World.drewN_drewN _ _ _) (congrArg (World.drewN _) (Nat.add_assoc _ _ _))⟩)))
        repeat (go_quiet (fail); try go_wp2_with (fail))
        go_roundg k1
        case measure => have := HK1.out; omega
        case rel => exact ⟨(rdOf ByteArray.empty l2 x17_1), (wrap64 (x17_1 + 1)), (by rfl), (by rfl), H', ⟨by have := HK1.out; omega⟩, by repeat (first | exact zo.refl _ | apply zo.step)⟩
       ·replace c10 := Bool.eq_false_iff.mpr c10
        subst c10
        have H1 : (zp.l0 k1 a0 a1 x6_1 t102 l2 (l2.length : Int) (wrap64 (x17_1 + 1))) = some (r1, r2, r3) := by rw [if_neg (show ¬ (false = true) by decide)] at H; exact H
        clear H
        have H := H1
        clear H1
        have H' := za.mk H
        clear H
        have p103 : 0 ≤ (x17_1 : Int) := of_decide_eq_true (by (with_reducible assumption))
        have q103 : x17_1 < (l2.length : Int) := of_decide_eq_true (by (with_reducible assumption))
        obtain ⟨ad103, e103, hx103_0⟩ := Kd.at_string HR2.out x17_1 p103 q103
        cases e103
        replace p103 := eq_true p103
        replace q103 := eq_true q103
        go_wp2_with ((go_at_call 135; (with_reducible refine (zbd.calls a0 t102 (rdOf ByteArray.empty l2 x17_1) false _ A9.out).mono ?_); rintro e w' ⟨rfl, ⟨nd, rfl⟩⟩; (try first | exact ⟨rfl, _, World.drewN_drewN _ _ _⟩ | exact ⟨rfl, _, Eq.trans (World.drewN_drewN _ _ _) (congrArg (World.drewN _) (Nat.add_assoc _ _ _))⟩)))
        repeat (go_quiet (fail); try go_wp2_with (fail))
        go_roundg k1
        case measure => have := HK1.out; omega
        case rel => exact ⟨(x6_1), (wrap64 (x17_1 + 1)), (by rfl), (by rfl), H', ⟨by have := HK1.out; omega⟩, by repeat (first | exact zo.refl _ | apply zo.step)⟩
      ·rw [if_neg c8] at H
       have c8b0 : (x6_1.toList == ([] : List UInt8)) = false := beq_eq_false_iff_ne.mpr c8
       have c8b1 : (x6_1.toList != ([] : List UInt8)) = true := bne_iff_ne.mpr c8
       try have c8b9 : x6_1.toList.isEmpty = false := by simpa using c8b0
       have H' := za.mk H
       clear H
       have p103 : 0 ≤ (x17_1 : Int) := of_decide_eq_true (by (with_reducible assumption))
       have q103 : x17_1 < (l2.length : Int) := of_decide_eq_true (by (with_reducible assumption))
       obtain ⟨ad103, e103, hx103_0⟩ := Kd.at_string HR2.out x17_1 p103 q103
       cases e103
       replace p103 := eq_true p103
       replace q103 := eq_true q103
       go_wp2
       repeat (go_quiet (fail); try go_wp2)
       go_roundg k1
       case measure => have := HK1.out; omega
       case rel => exact ⟨(x6_1), (wrap64 (x17_1 + 1)), (by rfl), (by rfl), H', ⟨by have := HK1.out; omega⟩, by repeat (first | exact zo.refl _ | apply zo.step)⟩
     ·rw [if_neg c7] at H
      exact absurd H (by simp)
    ·rw [if_neg c6] at H
     exact absurd H (by simp)
   ·rw [if_neg c5] at H
    have c5b0 : decide (x17_1 < (l2.length : Int)) = false := decide_eq_false c5
    clear c5
    by_cases c11 : x6_1.toList = ([] : List UInt8)
    ·rw [if_pos c11] at H
     have c11b0 : (x6_1.toList == ([] : List UInt8)) = true := beq_iff_eq.mpr c11
     have c11b1 : (x6_1.toList != ([] : List UInt8)) = false := bne_eq_false_iff_eq.mpr c11
     try have c11b9 : x6_1.toList.isEmpty = true := by simpa using c11b0
     clear c11
     simp only [Option.some.injEq, Prod.mk.injEq] at H
     obtain ⟨rfl, rfl, rfl⟩ := H
     go_wp2
     repeat (go_quiet (fail); try go_wp2)
     go_ret3
     exact ⟨by rfl, by repeat (first | exact zo.refl _ | apply zo.step)⟩
    ·rw [if_neg c11] at H
     have c11b0 : (x6_1.toList == ([] : List UInt8)) = false := beq_eq_false_iff_ne.mpr c11
     have c11b1 : (x6_1.toList != ([] : List UInt8)) = true := bne_iff_ne.mpr c11
     try have c11b9 : x6_1.toList.isEmpty = false := by simpa using c11b0
     replace H := Option.bind_eq_some_iff.mp H
     obtain ⟨t105, A120, H⟩ := H
     replace H : ((zv.f k1 a0 t105).bind fun t106 => (if 0 ≤ t105 then (if t105 ≤ t106 then (if t106 ≤ (a0.size : Int) then (some (x6_1, a0.extract (t105 : Int).toNat (t106 : Int).toNat, t106)) else (none)) else (none)) else (none))) = some (r1, r2, r3) := H
     have A12 := za.mk A120
     clear A120
     replace H := Option.bind_eq_some_iff.mp H
     obtain ⟨t106, A130, H⟩ := H
     replace H : (if 0 ≤ t105 then (if t105 ≤ t106 then (if t106 ≤ (a0.size : Int) then (some (x6_1, a0.extract (t105 : Int).toNat (t106 : Int).toNat, t106)) else (none)) else (none)) else (none)) = some (r1, r2, r3) := H
     have A13 := za.mk A130
     clear A130
     by_cases c14 : 0 ≤ t105
     ·rw [if_pos c14] at H
      have c14b0 := eq_true c14
      have c14b1 : decide (0 ≤ t105) = true := decide_eq_true c14
      clear c14
      by_cases c15 : t105 ≤ t106
      ·rw [if_pos c15] at H
       have c15b0 := eq_true c15
       have c15b1 : decide (t105 ≤ t106) = true := decide_eq_true c15
       clear c15
       by_cases c16 : t106 ≤ (a0.size : Int)
       ·rw [if_pos c16] at H
        have c16b0 := eq_true c16
        have c16b1 : decide (t106 ≤ (a0.size : Int)) = true := decide_eq_true c16
        clear c16
        simp only [Option.some.injEq, Prod.mk.injEq] at H
        obtain ⟨rfl, rfl, rfl⟩ := H
        go_wp2_with (first | (go_at_call 107; (with_reducible refine (zpb.calls a0 (wrap64 (t102 + (x6_1.size : Int))) t105 _ A12.out).mono ?_); rintro e w' ⟨rfl, ⟨nd, rfl⟩⟩; (try first | exact ⟨rfl, _, World.drewN_drewN _ _ _⟩ | exact ⟨rfl, _, Eq.trans (World.drewN_drewN _ _ _) (congrArg (World.drewN _) (Nat.add_assoc _ _ _))⟩)) | (go_at_call 103; (with_reducible refine (zv.calls k1 a0 t105 t106 _ A13.out).mono ?_); rintro e w' ⟨rfl, ⟨nd, rfl⟩⟩; (try first | exact ⟨rfl, _, World.drewN_drewN _ _ _⟩ | exact ⟨rfl, _, Eq.trans (World.drewN_drewN _ _ _) (congrArg (World.drewN _) (Nat.add_assoc _ _ _))⟩)))
        repeat (go_quiet (fail); try go_wp2_with (fail))
        go_ret3
        exact ⟨by rfl, by repeat (first | exact zo.refl _ | apply zo.step)⟩
       ·rw [if_neg c16] at H
        exact absurd H (by simp)
      ·rw [if_neg c15] at H
       exact absurd H (by simp)
     ·rw [if_neg c14] at H
      exact absurd H (by simp)
end Go.Proofs.YtlijjnjpomnphaaGreatDoor.S
end
section
namespace Go.Proofs.YtlijjnjpomnphaaGreatDoor.S
open Go.RowKit YtlijjnjpomnphaaGreatDoorH YtlijjnjpomnphaaGreatDoorW.PrintWords YtlijjnjpomnphaaGreatDoorW.PrintLast YtlijjnjpomnphaaGreatDoorW.PrintMore
attribute [local go_sem] zhd zid zud ztd ztc zuc zgd zkd
def zy.l0 : Nat → ByteArray → Int → Option (Int)
 | 0, _, _ => none
 | k + 1, x0, x1 => if x1 < (x0.size : Int) then (if 0 ≤ x1 then ((zhb.f (bt x0 x1)).bind fun t107 => (if t107 = true then (zy.l0 k x0 (wrap64 (x1 + 1))) else (if (bt x0 x1) ≥ 97 then (if (bt x0 x1) ≤ 122 then (zy.l0 k x0 (wrap64 (x1 + 1))) else (some x1)) else (some x1)))) else (none)) else (some x1)
def zy.f (k : Nat) (a0 : ByteArray) (a1 : Int) : Option (Int) := zy.l0 k a0 a1
theorem zy.calls (k : Nat) (a0 : ByteArray) (a1 : Int) (r : Int) (w : World) (h : zy.f k a0 a1 = some r) :
  Calls Tryz.prog 106 #[.string a0, .int .i64 a1] w fun e w' => e = .returned (.int .i64 r) ∧ zo w w' := by
 have H : (zy.l0 k a0 a1) = some r := h
 clear h
 have H' := za.mk H
 clear H
 go_enter Tryz.func106, Tryz.ntmps106
 go_wp2
 (try simp only [Act.put, List.setIfInBounds_toArray, List.set_cons_zero, List.set_cons_succ])
 go_loopg [1] k (fun kq v1 w' => ∃ (x1_1 : Int), v1 = .int .i64 x1_1 ∧ za (zy.l0 kq a0 x1_1 = some r) ∧ za (kq ≤ k) ∧ zo w w')
 case atStart => exact ⟨(a1), (by first | rfl | (simp; done) | (simp [*]; done) | (simp [zk]; done) | (simp [zk, *]; done)), H', ⟨Nat.le_refl _⟩, by repeat (first | exact zo.refl _ | apply zo.step)⟩
 case round =>
  clear H'
  try clear c1
  try clear p2
  obtain ⟨x1_1, rfl, HA, HK1, ⟨m1, rfl⟩⟩ := hrel
  cases gk with
  | zero => exact absurd HA.out (by simp [zy.l0])
  | succ k1 =>
   have H := HA.out
   clear HA
   simp only [zy.l0] at H
   by_cases c3 : x1_1 < (a0.size : Int)
   ·rw [if_pos c3] at H
    have c3b0 : decide (x1_1 < (a0.size : Int)) = true := decide_eq_true c3
    clear c3
    by_cases c4 : 0 ≤ x1_1
    ·rw [if_pos c4] at H
     have c4b0 : decide (0 ≤ x1_1) = true := decide_eq_true c4
     clear c4
     replace H := Option.bind_eq_some_iff.mp H
     obtain ⟨t107, A60, H⟩ := H
     replace H : (if t107 = true then (zy.l0 k1 a0 (wrap64 (x1_1 + 1))) else (if (bt a0 x1_1) ≥ 97 then (if (bt a0 x1_1) ≤ 122 then (zy.l0 k1 a0 (wrap64 (x1_1 + 1))) else (some x1_1)) else (some x1_1))) = some r := H
     have A6 := za.mk A60
     clear A60
     by_cases c7 : t107 = true
     ·subst c7
      have H1 : (zy.l0 k1 a0 (wrap64 (x1_1 + 1))) = some r := by rw [if_pos rfl] at H; exact H
      clear H
      have H := H1
      clear H1
      have H' := za.mk H
      clear H
      have p5 : 0 ≤ (x1_1 : Int) := of_decide_eq_true (by first | (with_reducible assumption) | assumption)
      have q5 : x1_1 < (a0.size : Int) := of_decide_eq_true (by first | (with_reducible assumption) | assumption)
      have hx5 := bt_at a0 x1_1
      replace p5 := eq_true p5
      replace q5 := eq_true q5
      go_wp2_with (first | (go_at_call 104; (with_reducible refine (zhb.calls (bt a0 x1_1) true _ A6.out).mono ?_); rintro e w' ⟨rfl, ⟨nd, rfl⟩⟩))
      go_roundg k1
      case measure => have := HK1.out; omega
      case rel => exact ⟨(wrap64 (x1_1 + 1)), (by first | rfl | (simp; done) | (simp [*]; done) | (simp [zk]; done) | (simp [zk, *]; done)), H', ⟨by have := HK1.out; omega⟩, by repeat (first | exact zo.refl _ | apply zo.step)⟩
     ·replace c7 := Bool.eq_false_iff.mpr c7
      subst c7
      have H1 : (if (bt a0 x1_1) ≥ 97 then (if (bt a0 x1_1) ≤ 122 then (zy.l0 k1 a0 (wrap64 (x1_1 + 1))) else (some x1_1)) else (some x1_1)) = some r := by rw [if_neg (show ¬ (false = true) by decide)] at H; exact H
      clear H
      have H := H1
      clear H1
      by_cases c9 : (bt a0 x1_1) ≥ 97
      ·rw [if_pos c9] at H
       have c9b0 : decide (97 ≤ (bt a0 x1_1)) = true := decide_eq_true c9
       clear c9
       by_cases c11 : (bt a0 x1_1) ≤ 122
       ·rw [if_pos c11] at H
        have c11b0 : decide ((bt a0 x1_1) ≤ 122) = true := decide_eq_true c11
        clear c11
        have H' := za.mk H
        clear H
        have p5 : 0 ≤ (x1_1 : Int) := of_decide_eq_true (by first | (with_reducible assumption) | assumption)
        have q5 : x1_1 < (a0.size : Int) := of_decide_eq_true (by first | (with_reducible assumption) | assumption)
        have hx5 := bt_at a0 x1_1
        replace p5 := eq_true p5
        replace q5 := eq_true q5
        go_wp2_with (first | (go_at_call 104; (with_reducible refine (zhb.calls (bt a0 x1_1) false _ A6.out).mono ?_); rintro e w' ⟨rfl, ⟨nd, rfl⟩⟩; have p8 : 0 ≤ (x1_1 : Int) := of_decide_eq_true (by first | (with_reducible assumption) | assumption); have q8 : x1_1 < (a0.size : Int) := of_decide_eq_true (by first | (with_reducible assumption) | assumption); have hx8 := bt_at a0 x1_1; replace p8 := eq_true p8; replace q8 := eq_true q8; have p10 : 0 ≤ (x1_1 : Int) := of_decide_eq_true (by first | (with_reducible assumption) | assumption); have q10 : x1_1 < (a0.size : Int) := of_decide_eq_true (by first | (with_reducible assumption) | assumption); have hx10 := bt_at a0 x1_1; replace p10 := eq_true p10; replace q10 := eq_true q10))
        go_roundg k1
        case measure => have := HK1.out; omega
        case rel => exact ⟨(wrap64 (x1_1 + 1)), (by first | rfl | (simp; done) | (simp [*]; done) | (simp [zk]; done) | (simp [zk, *]; done)), H', ⟨by have := HK1.out; omega⟩, by repeat (first | exact zo.refl _ | apply zo.step)⟩
       ·rw [if_neg c11] at H
        have c11b0 : decide ((bt a0 x1_1) ≤ 122) = false := decide_eq_false c11
        clear c11
        obtain rfl := Option.some.inj H
        have p5 : 0 ≤ (x1_1 : Int) := of_decide_eq_true (by first | (with_reducible assumption) | assumption)
        have q5 : x1_1 < (a0.size : Int) := of_decide_eq_true (by first | (with_reducible assumption) | assumption)
        have hx5 := bt_at a0 x1_1
        replace p5 := eq_true p5
        replace q5 := eq_true q5
        go_wp2_with (first | (go_at_call 104; (with_reducible refine (zhb.calls (bt a0 x1_1) false _ A6.out).mono ?_); rintro e w' ⟨rfl, ⟨nd, rfl⟩⟩; have p8 : 0 ≤ (x1_1 : Int) := of_decide_eq_true (by first | (with_reducible assumption) | assumption); have q8 : x1_1 < (a0.size : Int) := of_decide_eq_true (by first | (with_reducible assumption) | assumption); have hx8 := bt_at a0 x1_1; replace p8 := eq_true p8; replace q8 := eq_true q8; have p10 : 0 ≤ (x1_1 : Int) := of_decide_eq_true (by first | (with_reducible assumption) | assumption); have q10 : x1_1 < (a0.size : Int) := of_decide_eq_true (by first | (with_reducible assumption) | assumption); have hx10 := bt_at a0 x1_1; replace p10 := eq_true p10; replace q10 := eq_true q10))
        go_ret
        exact ⟨by first | rfl | (simp; done) | (simp [*]; done) | (simp [zk]; done) | (simp [zk, *]; done), by repeat (first | exact zo.refl _ | apply zo.step)⟩
      ·rw [if_neg c9] at H
       have c9b0 : decide (97 ≤ (bt a0 x1_1)) = false := decide_eq_false c9
       clear c9
       obtain rfl := Option.some.inj H
       have p5 : 0 ≤ (x1_1 : Int) := of_decide_eq_true (by first | (with_reducible assumption) | assumption)
       have q5 : x1_1 < (a0.size : Int) := of_decide_eq_true (by first | (with_reducible assumption) | assumption)
       have hx5 := bt_at a0 x1_1
       replace p5 := eq_true p5
       replace q5 := eq_true q5
       go_wp2_with (first | (go_at_call 104; (with_reducible refine (zhb.calls (bt a0 x1_1) false _ A6.out).mono ?_); rintro e w' ⟨rfl, ⟨nd, rfl⟩⟩; have p8 : 0 ≤ (x1_1 : Int) := of_decide_eq_true (by first | (with_reducible assumption) | assumption); have q8 : x1_1 < (a0.size : Int) := of_decide_eq_true (by first | (with_reducible assumption) | assumption); have hx8 := bt_at a0 x1_1; replace p8 := eq_true p8; replace q8 := eq_true q8))
       go_ret
       exact ⟨by first | rfl | (simp; done) | (simp [*]; done) | (simp [zk]; done) | (simp [zk, *]; done), by repeat (first | exact zo.refl _ | apply zo.step)⟩
    ·rw [if_neg c4] at H
     exact absurd H (by simp)
   ·rw [if_neg c3] at H
    have c3b0 : decide (x1_1 < (a0.size : Int)) = false := decide_eq_false c3
    clear c3
    obtain rfl := Option.some.inj H
    go_wp2
    go_ret
    exact ⟨by first | rfl | (simp; done) | (simp [*]; done) | (simp [zk]; done) | (simp [zk, *]; done), by repeat (first | exact zo.refl _ | apply zo.step)⟩
end Go.Proofs.YtlijjnjpomnphaaGreatDoor.S
end
section
namespace Go.Proofs.YtlijjnjpomnphaaGreatDoorC
open Go.RowKit YtlijjnjpomnphaaGreatDoorW.PrintWords
theorem cl2 {w : World} {g : Nat} {t : TypeId} {a0 a1 : Value} (h : w.heap[g]? = some (.cells #[a0, a1] t (0, 0))) : w.cell? ⟨g, 0, none⟩ = some a0 ∧ w.cell? ⟨g, 1, none⟩ = some a1 ∧ w.frozen? ⟨g, 0, none⟩ = false ∧ w.frozen? ⟨g, 1, none⟩ = false :=
 ⟨(zd h 0).trans rfl, (zd h 1).trans rfl, zj h 0, zj h 1⟩
theorem cl9 {w : World} {g : Nat} {t : TypeId} {a0 a1 a2 a3 a4 a5 a6 a7 a8 : Value} (h : w.heap[g]? = some (.cells #[a0, a1, a2, a3, a4, a5, a6, a7, a8] t (0, 0))) : w.cell? ⟨g, 0, none⟩ = some a0 ∧ w.cell? ⟨g, 1, none⟩ = some a1 ∧ w.cell? ⟨g, 2, none⟩ = some a2 ∧ w.cell? ⟨g, 3, none⟩ = some a3 ∧ w.cell? ⟨g, 4, none⟩ = some a4 ∧ w.cell? ⟨g, 5, none⟩ = some a5 ∧ w.cell? ⟨g, 6, none⟩ = some a6 ∧ w.cell? ⟨g, 7, none⟩ = some a7 ∧ w.cell? ⟨g, 8, none⟩ = some a8 ∧ w.frozen? ⟨g, 0, none⟩ = false ∧ w.frozen? ⟨g, 1, none⟩ = false ∧ w.frozen? ⟨g, 2, none⟩ = false ∧ w.frozen? ⟨g, 3, none⟩ = false ∧ w.frozen? ⟨g, 4, none⟩ = false ∧ w.frozen? ⟨g, 5, none⟩ = false ∧ w.frozen? ⟨g, 6, none⟩ = false ∧ w.frozen? ⟨g, 7, none⟩ = false ∧ w.frozen? ⟨g, 8, none⟩ = false :=
 ⟨(zd h 0).trans rfl, (zd h 1).trans rfl, (zd h 2).trans rfl, (zd h 3).trans rfl, (zd h 4).trans rfl, (zd h 5).trans rfl, (zd h 6).trans rfl, (zd h 7).trans rfl, (zd h 8).trans rfl, zj h 0, zj h 1, zj h 2, zj h 3, zj h 4, zj h 5, zj h 6, zj h 7, zj h 8⟩
theorem cl11 {w : World} {g : Nat} {t : TypeId} {a0 a1 a2 a3 a4 a5 a6 a7 a8 a9 a10 : Value} (h : w.heap[g]? = some (.cells #[a0, a1, a2, a3, a4, a5, a6, a7, a8, a9, a10] t (0, 0))) : w.cell? ⟨g, 0, none⟩ = some a0 ∧ w.cell? ⟨g, 1, none⟩ = some a1 ∧ w.cell? ⟨g, 2, none⟩ = some a2 ∧ w.cell? ⟨g, 3, none⟩ = some a3 ∧ w.cell? ⟨g, 4, none⟩ = some a4 ∧ w.cell? ⟨g, 5, none⟩ = some a5 ∧ w.cell? ⟨g, 6, none⟩ = some a6 ∧ w.cell? ⟨g, 7, none⟩ = some a7 ∧ w.cell? ⟨g, 8, none⟩ = some a8 ∧ w.cell? ⟨g, 9, none⟩ = some a9 ∧ w.cell? ⟨g, 10, none⟩ = some a10 ∧ w.frozen? ⟨g, 0, none⟩ = false ∧ w.frozen? ⟨g, 1, none⟩ = false ∧ w.frozen? ⟨g, 2, none⟩ = false ∧ w.frozen? ⟨g, 3, none⟩ = false ∧ w.frozen? ⟨g, 4, none⟩ = false ∧ w.frozen? ⟨g, 5, none⟩ = false ∧ w.frozen? ⟨g, 6, none⟩ = false ∧ w.frozen? ⟨g, 7, none⟩ = false ∧ w.frozen? ⟨g, 8, none⟩ = false ∧ w.frozen? ⟨g, 9, none⟩ = false ∧ w.frozen? ⟨g, 10, none⟩ = false :=
 ⟨(zd h 0).trans rfl, (zd h 1).trans rfl, (zd h 2).trans rfl, (zd h 3).trans rfl, (zd h 4).trans rfl, (zd h 5).trans rfl, (zd h 6).trans rfl, (zd h 7).trans rfl, (zd h 8).trans rfl, (zd h 9).trans rfl, (zd h 10).trans rfl, zj h 0, zj h 1, zj h 2, zj h 3, zj h 4, zj h 5, zj h 6, zj h 7, zj h 8, zj h 9, zj h 10⟩
theorem farC {α : Type} {d : Kd α} {e : TypeId} {w : World} {base : Nat} {ok : Nat → Prop} {v : Value} {xs : List α} {g i : Nat} {u : Value} (h : d.R e w base (fun k => ok k ∧ k ≠ g) v xs) : d.R e (w.setCell ⟨g, i, none⟩ u) base (fun k => ok k ∧ k ≠ g) v xs :=
 Kd.R_far (p := ⟨g, i, none⟩) h (fun _ hk => hk.2) u
theorem put10 {w : World} {g : Nat} {t : TypeId} {a0 a1 a2 a3 a4 a5 a6 a7 a8 a9 b0 b1 b2 b3 b4 b5 b6 b7 b8 b9 : Value} (h : w.heap[g]? = some (.cells #[a0, a1, a2, a3, a4, a5, a6, a7, a8, a9] t (0, 0))) : ((((((((((w.setCell ⟨g, 0, none⟩ b0).setCell ⟨g, 1, none⟩ b1).setCell ⟨g, 2, none⟩ b2).setCell ⟨g, 3, none⟩ b3).setCell ⟨g, 4, none⟩ b4).setCell ⟨g, 5, none⟩ b5).setCell ⟨g, 6, none⟩ b6).setCell ⟨g, 7, none⟩ b7).setCell ⟨g, 8, none⟩ b8).setCell ⟨g, 9, none⟩ b9).heap[g]? = some (.cells #[b0, b1, b2, b3, b4, b5, b6, b7, b8, b9] t (0, 0)) := by
 replace h := zl (cs' := #[b0, a1, a2, a3, a4, a5, a6, a7, a8, a9]) h 0 b0 rfl
 replace h := zl (cs' := #[b0, b1, a2, a3, a4, a5, a6, a7, a8, a9]) h 1 b1 rfl
 replace h := zl (cs' := #[b0, b1, b2, a3, a4, a5, a6, a7, a8, a9]) h 2 b2 rfl
 replace h := zl (cs' := #[b0, b1, b2, b3, a4, a5, a6, a7, a8, a9]) h 3 b3 rfl
 replace h := zl (cs' := #[b0, b1, b2, b3, b4, a5, a6, a7, a8, a9]) h 4 b4 rfl
 replace h := zl (cs' := #[b0, b1, b2, b3, b4, b5, a6, a7, a8, a9]) h 5 b5 rfl
 replace h := zl (cs' := #[b0, b1, b2, b3, b4, b5, b6, a7, a8, a9]) h 6 b6 rfl
 replace h := zl (cs' := #[b0, b1, b2, b3, b4, b5, b6, b7, a8, a9]) h 7 b7 rfl
 replace h := zl (cs' := #[b0, b1, b2, b3, b4, b5, b6, b7, b8, a9]) h 8 b8 rfl
 replace h := zl (cs' := #[b0, b1, b2, b3, b4, b5, b6, b7, b8, b9]) h 9 b9 rfl
 exact h
theorem put11 {w : World} {g : Nat} {t : TypeId} {a0 a1 a2 a3 a4 a5 a6 a7 a8 a9 a10 b0 b1 b2 b3 b4 b5 b6 b7 b8 b9 b10 : Value} (h : w.heap[g]? = some (.cells #[a0, a1, a2, a3, a4, a5, a6, a7, a8, a9, a10] t (0, 0))) : (((((((((((w.setCell ⟨g, 0, none⟩ b0).setCell ⟨g, 1, none⟩ b1).setCell ⟨g, 2, none⟩ b2).setCell ⟨g, 3, none⟩ b3).setCell ⟨g, 4, none⟩ b4).setCell ⟨g, 5, none⟩ b5).setCell ⟨g, 6, none⟩ b6).setCell ⟨g, 7, none⟩ b7).setCell ⟨g, 8, none⟩ b8).setCell ⟨g, 9, none⟩ b9).setCell ⟨g, 10, none⟩ b10).heap[g]? = some (.cells #[b0, b1, b2, b3, b4, b5, b6, b7, b8, b9, b10] t (0, 0)) := by
 replace h := zl (cs' := #[b0, a1, a2, a3, a4, a5, a6, a7, a8, a9, a10]) h 0 b0 rfl
 replace h := zl (cs' := #[b0, b1, a2, a3, a4, a5, a6, a7, a8, a9, a10]) h 1 b1 rfl
 replace h := zl (cs' := #[b0, b1, b2, a3, a4, a5, a6, a7, a8, a9, a10]) h 2 b2 rfl
 replace h := zl (cs' := #[b0, b1, b2, b3, a4, a5, a6, a7, a8, a9, a10]) h 3 b3 rfl
 replace h := zl (cs' := #[b0, b1, b2, b3, b4, a5, a6, a7, a8, a9, a10]) h 4 b4 rfl
 replace h := zl (cs' := #[b0, b1, b2, b3, b4, b5, a6, a7, a8, a9, a10]) h 5 b5 rfl
 replace h := zl (cs' := #[b0, b1, b2, b3, b4, b5, b6, a7, a8, a9, a10]) h 6 b6 rfl
 replace h := zl (cs' := #[b0, b1, b2, b3, b4, b5, b6, b7, a8, a9, a10]) h 7 b7 rfl
 replace h := zl (cs' := #[b0, b1, b2, b3, b4, b5, b6, b7, b8, a9, a10]) h 8 b8 rfl
 replace h := zl (cs' := #[b0, b1, b2, b3, b4, b5, b6, b7, b8, b9, a10]) h 9 b9 rfl
 replace h := zl (cs' := #[b0, b1, b2, b3, b4, b5, b6, b7, b8, b9, b10]) h 10 b10 rfl
 exact h
theorem farC5 {α : Type} {d : Kd α} {e : TypeId} {w : World} {base : Nat} {ok : Nat → Prop} {v : Value} {xs : List α} {g i0 i1 i2 i3 i4 : Nat} {u0 u1 u2 u3 u4 : Value} (h : d.R e w base (fun k => ok k ∧ k ≠ g) v xs) : d.R e (((((w.setCell ⟨g, i0, none⟩ u0).setCell ⟨g, i1, none⟩ u1).setCell ⟨g, i2, none⟩ u2).setCell ⟨g, i3, none⟩ u3).setCell ⟨g, i4, none⟩ u4) base (fun k => ok k ∧ k ≠ g) v xs :=
 farC (farC (farC (farC (farC h))))
theorem farC12 {α : Type} {d : Kd α} {e : TypeId} {w : World} {base : Nat} {ok : Nat → Prop} {v : Value} {xs : List α} {g i0 i1 i2 i3 i4 i5 i6 i7 i8 i9 i10 i11 : Nat} {u0 u1 u2 u3 u4 u5 u6 u7 u8 u9 u10 u11 : Value} (h : d.R e w base (fun k => ok k ∧ k ≠ g) v xs) : d.R e ((((((((((((w.setCell ⟨g, i0, none⟩ u0).setCell ⟨g, i1, none⟩ u1).setCell ⟨g, i2, none⟩ u2).setCell ⟨g, i3, none⟩ u3).setCell ⟨g, i4, none⟩ u4).setCell ⟨g, i5, none⟩ u5).setCell ⟨g, i6, none⟩ u6).setCell ⟨g, i7, none⟩ u7).setCell ⟨g, i8, none⟩ u8).setCell ⟨g, i9, none⟩ u9).setCell ⟨g, i10, none⟩ u10).setCell ⟨g, i11, none⟩ u11) base (fun k => ok k ∧ k ≠ g) v xs :=
 farC (farC (farC (farC (farC (farC (farC (farC (farC (farC (farC (farC h)))))))))))
end Go.Proofs.YtlijjnjpomnphaaGreatDoorC
end
