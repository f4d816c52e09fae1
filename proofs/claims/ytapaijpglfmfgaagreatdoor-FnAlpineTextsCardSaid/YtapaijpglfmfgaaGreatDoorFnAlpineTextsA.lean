/- Proved here, for the row of the law FnAlpineTexts: contracts of the Go functions that it reaches, each as its theorem 'calls' says, and the words and plain laws that they need (WWords, H, WLast, A1, K1, K2, K3, K4, K5, K6, K7, K8, K9, K10, K11). -/
import Derived.Below
import Derived.Deep.Draws
import Derived.Deep.AppendLies
import Derived.Maps.AppendAt
import Derived.OwnWalk
import Derived.Laws.BytesArg
import Derived.Laws.MakeOwn
import Derived.Laws.OwnMore
import Derived.Deep.OwnRows
import Derived.Tactics
import Derived.Lib.ConvBytes
import Derived.Laws.Slices
import Derived.WalkKit
import Derived.KernelRfl
import Derived.RowKit3
import Derived.Deep.LoopGhost
import Derived.Deep.QuietTactic
import Derived.BigQuiet
import Derived.WideLaws
import Derived.Deep.DeepCutAuto
import Derived.Deep.CutBlock
import Derived.Deep.RegionHeld3
import Derived.Laws.Rows
import Derived.Lib.AppendStr
import Derived.ArgAppend
import Derived.Laws.IdiomCopy
import Derived.RowKit
import Derived.Test.YtapaijpglfmfgaaGreatDoorProg
import Derived.Laws.Runes
import Derived.Lib.Strings
import Derived.Lib.Slices
import Derived.Lib.Walk
import Derived.Lib.Bytealg
import Derived.LoopTactic
import Derived.Outline
import Derived.SliceStrings
import Derived.OrdersHeld
import Derived.Laws.BitsLemmas
import Derived.Laws.Externs
import Derived.Shelf.Bits.Mul64
import Derived.LaidEql
set_option linter.unusedVariables false
set_option linter.unusedSimpArgs false
set_option maxHeartbeats 8000000
set_option maxRecDepth 100000
section
namespace Go.Proofs.YtapaijpglfmfgaaGreatDoorW.PrintWords
open Go.RowKit
structure za (p : Prop) : Prop where mk :: (out : p)
structure zn (w w' : World) : Prop where mk :: (out : ∃ n, w' = w.drewN n)
theorem zn.refl (w : World) : zn w w := ⟨⟨0, rfl⟩⟩
theorem zn.step {w w' : World} (h : zn w w') (n : Nat) : zn w (w'.drewN n) := by
 obtain ⟨m, rfl⟩ := h
 exact ⟨⟨m + n, World.drewN_drewN ..⟩⟩
theorem zn.below {w w' : World} (h : zn w w') : Below w.heap.size w w' := by
 obtain ⟨n, rfl⟩ := h
 induction n with
 | zero => exact Below.refl _ _
 | succ n ih => rw [← World.drew_drewN]; exact ih.drew
def rd (xs : List Int) (i : Int) : Int := xs.getD i.toNat 0
def bt (s : ByteArray) (i : Int) : Int := if h : i.toNat < s.size then ((s[i.toNat]'h).toNat : Int) else 0
theorem bt_at (s : ByteArray) (i : Int) : ∀ h : i.toNat < s.size, ((s[i.toNat]'h).toNat : Int) = bt s i := fun h => by simp [bt, h]
theorem bt_range (s : ByteArray) (i : Int) : 0 ≤ bt s i ∧ bt s i ≤ 255 := by
 unfold bt
 split
 ·rename_i h
  have := (s[i.toNat]'h).toNat_lt
  omega
 ·omega
def nums (k : IntKind) (xs : List Int) : List Value := xs.map fun x => .int k x
theorem zj {w W : World} (h : Below w.heap.size w W) (o : Obj) : Below w.heap.size w (W.alloc o) := h.alloc h.size o
theorem zed {B : Nat} {w W : World} (h : Below B w W) : Below B w W.drew := ⟨h.os, h.tape, h.output, h.size, h.block⟩
theorem zd {B : Nat} {w W : World} (h : Below B w W) (n : Nat) : Below B w (W.drewN n) := ⟨h.os, h.tape, h.output, h.size, h.block⟩
theorem zfb {B : Nat} {w w1 w2 : World} (h : Below B w w1) (hB : B ≤ w1.heap.size) (k : Below w1.heap.size w1 w2) : Below B w w2 :=
 h.trans ⟨k.os, k.tape, k.output, k.size, fun i hi => k.block i (Nat.lt_of_lt_of_le hi hB)⟩
theorem zni {w w1 : World} (h : Below w.heap.size w w1) {a : Addr} {v : Value} (hc : w.cell? a = some v) : w1.cell? a = some v := (h.cell (World.block_lt_of_cell? w a hc)).trans hc
theorem add_plain (g j : Nat) : (⟨g, 0, none⟩ : Addr).add j = ⟨g, j, none⟩ := by unfold Addr.add; split <;> simp_all
def zsh (w : World) (k : IntKind) (A : Option Addr) (n : Nat) (xs : List Int) : Prop :=
 xs.length = n ∧ n ≤ 9223372036854775807 ∧ (0 < n → ∃ ad, A = some ad ∧ ∀ j, j < n → w.cell? (ad.add j) = some (.int k (xs.getD j 0)))
theorem own_nil (W : World) (base : Nat) (e : TypeId) (size : Nat) : W.ownsRow base e size (.slice none 0 0) 0 [] := ⟨by simp, .inl ⟨rfl, rfl⟩⟩
theorem own_base {w : World} {base : Nat} {e : TypeId} {size n : Nat} {v : Value} {xs : List Value} (h : w.ownsRow base e size v n xs) (k : Nat) (hk : v.ownBlock = some k) : base ≤ k := by
 rcases h.2 with ⟨rfl, _⟩ | ⟨g, cap, cur, rfl, hb, _⟩
 ·simp [Value.ownBlock] at hk
 ·have : g = k := by simpa [Value.ownBlock] using hk
  omega
theorem own_lt {w : World} {base : Nat} {e : TypeId} {size n : Nat} {v : Value} {xs : List Value} (h : w.ownsRow base e size v n xs) (k : Nat) (hk : v.ownBlock = some k) : k < w.heap.size := by
 rcases h.2 with ⟨rfl, _⟩ | ⟨g, cap, cur, rfl, hb, hh, _⟩
 ·simp [Value.ownBlock] at hk
 ·have : g = k := by simpa [Value.ownBlock] using hk
  subst this
  exact (Array.getElem?_eq_some_iff.1 hh).1
theorem own_other {w w1 : World} {base : Nat} {e : TypeId} {size n : Nat} {v : Value} {xs : List Value} (h : w.ownsRow base e size v n xs) {row : Option Nat} (hg : w.grownBy w1 row) (hne : v.ownBlock = none ∨ v.ownBlock ≠ row) : w1.ownsRow base e size v n xs := h.kept hg hne
theorem own_string {P : Program} {w : World} {base n : Nat} {e' src dst e : TypeId} {v : Value} {xs : List Int} (hs : P.underlying src = some (.slice e)) (he : P.underlying e = some (.int .u8)) (hd : P.underlying dst = some .string)
  (h : w.ownsRow base e' 1 v n (nums .u8 xs)) : (convert src dst v).run P w = .ok (.string (strOfNums xs)) w := by
 have hl : xs.length = n := by have := h.1; simp [nums] at this; exact this
 rcases h.2 with ⟨rfl, rfl⟩ | ⟨g, cap, cur, rfl, _⟩
 ·obtain rfl : xs = [] := List.eq_nil_of_length_eq_zero hl
  exact run_convert_bytes_nil w src e hs he 0 0 dst hd
 ·refine run_convert_bytes_arg w src e hs he g 0 n cap xs hl (fun i hi => ?_) dst hd
  have hc := h.cells (g := g) rfl i (.int .u8 (xs.getD i 0)) (by simp [nums, List.getElem?_eq_getElem (show i < xs.length by omega), List.getD_eq_getElem?_getD])
  have ha : (⟨g, 0, none⟩ : Addr).add i = ⟨g, 0 + i, none⟩ := by unfold Addr.add; split <;> simp_all
  rwa [ha] at hc
section
variable {P : Program} {ops : Array Oper} {rest : List Oper} {o : Oper} {a : Act} {Q : Exit → Act → World → Prop}
end
section
variable {P : Program}
end
section
variable {P : Program} {ops : Array Oper} {rest : List Oper} {o : Oper} {a : Act} {Q : Exit → Act → World → Prop}
end
def bytesOf (s : ByteArray) : List Int := s.data.toList.map fun b => (b.toNat : Int)
theorem zsg (s : ByteArray) : s.data.toList.length = s.size := by rw [Array.length_toList]; rfl
theorem bytesOf_length (s : ByteArray) : (bytesOf s).length = s.size := by rw [bytesOf, List.length_map, zsg]
theorem rd_bytesOf (s : ByteArray) (i : Int) : rd (bytesOf s) i = bt s i := by
 unfold rd bt bytesOf
 split
 ·rename_i h
  have h' : i.toNat < s.data.toList.length := by rw [zsg]; exact h
  simp [List.getD_eq_getElem?_getD, List.getElem?_eq_getElem h']
  rfl
 ·rename_i h
  have h' : s.data.toList.length ≤ i.toNat := by rw [zsg]; omega
  simp [List.getD_eq_getElem?_getD, List.getElem?_eq_none h']
theorem print_bytes {P : Program} (src dst e : TypeId) {u : TypeDesc} (hs : P.underlying src = some u) (hd : P.underlying dst = some (.slice e)) (he : P.underlying e = some (.int .u8)) (s : ByteArray) (W : World) :
 (convert src dst (.string s)).run P W = .ok (.slice (some ⟨W.heap.size, 0, none⟩) s.size (grownCap W s.size 0 e)) (Lib.bytesWorld W e s) := Lib.run_convert_string_bytes W src dst e s hs hd he
theorem bytes_reads (W : World) (e : TypeId) (s : ByteArray) (hs : s.size ≤ 9223372036854775807) : zsh (Lib.bytesWorld W e s) .u8 (some ⟨W.heap.size, 0, none⟩) s.size (bytesOf s) := by
 refine ⟨bytesOf_length s, hs, fun _ => ⟨_, rfl, fun j hj => ?_⟩⟩
 rw [add_plain, Lib.bytesWorld_cell W e s j hj]
 have h' : j < s.data.toList.length := by rw [zsg]; exact hj
 simp [bytesOf, List.getD_eq_getElem?_getD, List.getElem?_eq_getElem h']
theorem zei {B : Nat} {w W : World} (h : Below B w W) (hB : B ≤ W.heap.size) (e : TypeId) (s : ByteArray) : Below B w (Lib.bytesWorld W e s) :=
 h.trans ⟨rfl, rfl, rfl, by rw [Lib.bytesWorld_size]; omega, fun i hi => Lib.bytesWorld_at_old W e s i (by omega)⟩
def LeO {α : Type} (a b : Option α) : Prop := ∀ r, a = some r → b = some r
theorem LeO.refl {α : Type} (a : Option α) : LeO a a := fun _ h => h
theorem LeO.none {α : Type} (b : Option α) : LeO Option.none b := fun _ h => by cases h
theorem LeO.trans {α : Type} {a b c : Option α} (h : LeO a b) (k : LeO b c) : LeO a c := fun r hr => k r (h r hr)
theorem LeO.bind {α β : Type} {a a' : Option α} {f f' : α → Option β} (h : LeO a a') (k : ∀ x, LeO (f x) (f' x)) : LeO (a.bind f) (a'.bind f') := by
 intro r hr
 obtain ⟨x, hx, hf⟩ := Option.bind_eq_some_iff.1 hr
 exact Option.bind_eq_some_iff.2 ⟨x, h x hx, k x r hf⟩
theorem LeO.map {α β : Type} {a a' : Option α} (f : α → β) (h : LeO a a') : LeO (a.map f) (a'.map f) := by
 intro r hr
 obtain ⟨x, hx, hf⟩ := Option.map_eq_some_iff.1 hr
 exact Option.map_eq_some_iff.2 ⟨x, h x hx, hf⟩
theorem more_rounds {α : Type} {g : Nat → Option α} (h : ∀ k, LeO (g k) (g (k + 1))) (k : Nat) : ∀ j, LeO (g k) (g (k + j))
 | 0 => LeO.refl _
 | j + 1 => (more_rounds h k j).trans (h (k + j))
theorem at_rounds {α : Type} {g : Nat → Option α} (h : ∀ k, LeO (g k) (g (k + 1))) {k k' : Nat} (hk : k ≤ k') {r : α} (hr : g k = some r) : g k' = some r := by
 have := more_rounds h k (k' - k) r hr
 rwa [Nat.add_sub_cancel' hk] at this
def Reps {α : Type} (R : α → List Value → Prop) (size : Nat) (ps : List α) (cs : List Value) : Prop :=
 cs.length = ps.length * size ∧ ∀ j p, ps[j]? = some p → R p ((cs.drop (j * size)).take size)
theorem Reps.none {α : Type} (R : α → List Value → Prop) (size : Nat) : Reps R size [] [] := ⟨by simp, fun j p h => by simp at h⟩
theorem Reps.snoc {α : Type} {R : α → List Value → Prop} {size : Nat} {ps : List α} {cs c : List Value} {p : α} (h : Reps R size ps cs) (hp : R p c) (hc : c.length = size) : Reps R size (ps ++ [p]) (cs ++ c) := by
 refine ⟨by rw [List.length_append, h.1, hc, List.length_append, List.length_singleton, Nat.add_mul, Nat.one_mul], fun j q hq => ?_⟩
 rcases Nat.lt_or_ge j ps.length with hj | hj
 ·rw [List.getElem?_append_left hj] at hq
  have h1 : j * size + size ≤ cs.length := by rw [h.1, ← Nat.succ_mul]; exact Nat.mul_le_mul_right _ hj
  have h2 := h.2 j q hq
  rw [List.drop_append_of_le_length (by omega), List.take_append_of_le_length (by rw [List.length_drop]; omega)]
  exact h2
 ·have hj' : j = ps.length := by
   have := (List.getElem?_eq_some_iff.1 hq).1
   rw [List.length_append, List.length_singleton] at this
   omega
  subst hj'
  have hq' : p = q := by simpa using hq
  subst hq'
  rw [← h.1, List.drop_left, ← hc, List.take_length]
  exact hp
theorem Reps.imp_ {α : Type} {R R' : α → List Value → Prop} {size : Nat} {ps : List α} {cs : List Value} (h : Reps R size ps cs) (hR : ∀ p c, R p c → R' p c) : Reps R' size ps cs := ⟨h.1, fun j p hj => hR _ _ (h.2 j p hj)⟩
def zpf {α : Type} (R : α → List Value → Prop) (size : Nat) (w : World) (A : Option Addr) (n : Nat) (ps : List α) : Prop :=
 ps.length = n ∧ n ≤ 9223372036854775807 ∧ (0 < n → ∃ ad, A = some ad ∧ ∀ j p, ps[j]? = some p → ∃ c, c.length = size ∧ R p c ∧ ∀ i u, c[i]? = some u → w.cell? (ad.add (j * size + i)) = some u)
theorem zpf.get_ {α : Type} {R : α → List Value → Prop} {size : Nat} {w : World} {A : Option Addr} {n : Nat} {ps : List α} (h : zpf R size w A n ps) (d : α) (i : Int) (h0 : 0 ≤ i) (h1 : i < n) :
  ∃ ad c, A = some ad ∧ c.length = size ∧ R (ps.getD i.toNat d) c ∧ ∀ j u, c[j]? = some u → w.cell? (ad.add (i.toNat * size + j)) = some u := by
 obtain ⟨ad, e, hc⟩ := h.2.2 (by omega)
 have hl : i.toNat < ps.length := by have := h.1; omega
 obtain ⟨c, hs, hr, hcell⟩ := hc i.toNat _ (List.getElem?_eq_getElem hl)
 refine ⟨ad, c, e, hs, ?_, hcell⟩
 rw [List.getD_eq_getElem?_getD, List.getElem?_eq_getElem hl]
 exact hr
theorem zpf.imp_ {α : Type} {R R' : α → List Value → Prop} {size : Nat} {w w1 : World} {A : Option Addr} {n : Nat} {ps : List α} (h : zpf R size w A n ps) (hb : Below w.heap.size w w1) (hR : ∀ p c, R p c → R' p c) : zpf R' size w1 A n ps :=
 ⟨h.1, h.2.1, fun hn => by
  obtain ⟨ad, e, hc⟩ := h.2.2 hn
  refine ⟨ad, e, fun j p hj => ?_⟩
  obtain ⟨c, hs, hr, hcell⟩ := hc j p hj
  exact ⟨c, hs, hR _ _ hr, fun i u hu => zni hb (hcell i u hu)⟩⟩
theorem own_reads_row {α : Type} {R : α → List Value → Prop} {w : World} {base n size : Nat} {e : TypeId} {v : Value} {ps : List α} {cs : List Value} (h : w.ownsRow base e size v n cs) (hR : Reps R size ps cs) (hn : ps.length = n) :
  ∃ A c, v = .slice A n c ∧ zpf R size w A n ps := by
 rcases Nat.eq_zero_or_pos n with h0 | h0
 ·rcases h.2 with ⟨rfl, rfl⟩ | ⟨g, cap, cur, rfl, _⟩
  ·exact ⟨none, 0, rfl, hn, by omega, fun hp => absurd hp (by omega)⟩
  ·exact ⟨_, cap, rfl, hn, by omega, fun hp => absurd hp (by omega)⟩
 ·obtain ⟨g, cap, rfl, _, _⟩ := h.form h0
  have hm : n ≤ 9223372036854775807 := by
   rcases h.2 with ⟨_, h1⟩ | ⟨g', cap', cur, he, _, _, h1, h2, _⟩
   ·omega
   ·simp only [maxLen] at h2
    omega
  refine ⟨_, cap, rfl, hn, hm, fun _ => ⟨_, rfl, fun j p hj => ⟨(cs.drop (j * size)).take size, ?_, hR.2 j p hj, fun i u hu => ?_⟩⟩⟩
  ·have hjl := (List.getElem?_eq_some_iff.1 hj).1
   have h1 : j * size + size ≤ cs.length := by rw [hR.1, ← Nat.succ_mul]; exact Nat.mul_le_mul_right _ hjl
   rw [List.length_take, List.length_drop]
   omega
  ·refine h.cells (g := g) rfl _ u ?_
   rw [List.getElem?_take] at hu
   split at hu
   ·rw [List.getElem?_drop] at hu
    exact hu
   ·cases hu
theorem zue (ad : Addr) (m j : Nat) (hj : 0 < j) : ad.add (m + j) = ⟨(ad.add m).block, (ad.add m).off + j, none⟩ := by
 unfold Addr.add
 by_cases hm : m = 0
 ·subst hm
  simp [Nat.ne_of_gt hj]
 ·simp [hm, Nat.add_assoc]
section
variable {P : Program} {ops : Array Oper} {rest : List Oper} {o : Oper} {a : Act} {Q : Exit → Act → World → Prop}
theorem zpi {w0 W : World} (base : Nat) (hgd : o.guard = none) (s x : Operand) (t e : TypeId) (z : Value) (size bytes : Nat)
  (ho : o.op = .call { callee := .builtin .append, args := #[s, x], argTypes := #[t, t] })
  (ht : P.underlying t = some (.slice e)) (hinfo : (P.info? e).map (fun i => (i.zero, i.size, i.bytes)) = some (some z, size, bytes)) (hz : z.cells.size = size) (hs0 : 0 < size) (hb0 : 0 < bytes)
  (v : Value) (n : Nat) (xs ys : List Value) (hs : a.eval s = v) (hx : a.eval x = .slice (some ⟨W.heap.size, 0, none⟩) 1 1) (hys : ys.length = size) (h1 : ∀ u ∈ ys, u.oneCell' = true)
  (HO : W.ownsRow base e size v n xs) (HB : Below base w0 W) (hbase : base ≤ W.heap.size) (hl : (n + 1) * bytes ≤ 140737488355328)
  (h : ∀ v1 w1, w1.ownsRow base e size v1 (n + 1) (xs ++ ys) → Below base w0 w1 → W.grownBy w1 v.ownBlock → (v1.ownBlock = v.ownBlock ∨ ∃ b, v1.ownBlock = some b ∧ W.heap.size ≤ b) → wpList P ops Q rest (a.put o.dst v1) w1) :
  wpList P ops Q (o :: rest) a (W.alloc (.cells ys.toArray e)) := by
 obtain ⟨i0, hi, hzz⟩ := Option.map_eq_some_iff.1 hinfo
 simp only [Prod.mk.injEq] at hzz
 obtain ⟨hz0, hz1, hz2⟩ := hzz
 have hlen : n + 1 ≤ 140737488355328 := Nat.le_trans (Nat.le_mul_of_pos_right _ hb0) hl
 refine wpList_append_own_at (W.alloc (.cells ys.toArray e)) hgd s x t ho base e i0 z size bytes ht hi hz0 hz1 hz2 hz hs0 v n xs hs (HO.alloc _) ⟨W.heap.size, 0, none⟩ 1 1 ys hx (by rw [hys]; simp)
  (by simpa using World.news_of_block (cs := ys.toArray) (t := e) (fr := (0, 0)) (heap_alloc_new W (.cells ys.toArray e))) h1 (by simp only [maxLen]; omega) hl (by simp; omega) ?_
 intro v1 w1 hown hg _ hat
 refine h v1 w1 hown ((HB.alloc hbase _).grown hg (by simp; omega) (own_base HO)) (World.grownBy.trans (World.grownBy_alloc W _ _) hg) ?_
 rcases hat with hat | hat
 ·exact .inl hat
 ·exact .inr ⟨_, hat, by simp⟩
end
theorem own_ne {w : World} {base : Nat} {e t : TypeId} {size n g : Nat} {v : Value} {xs : List Value} {cs : Array Value} (h : w.ownsRow base e size v n xs) (hg : w.heap[g]? = some (.cells cs t (0, 0))) (hne : e ≠ t) : some g ≠ v.ownBlock := by
 rcases h.2 with ⟨rfl, _⟩ | ⟨g', cap, cur, rfl, _, hh, _⟩
 ·simp [Value.ownBlock]
 ·intro he
  have : g = g' := by simpa [Value.ownBlock] using he
  subst this
  rw [hg] at hh
  injection hh with hh
  injection hh with _ ht
  exact hne ht.symm
theorem blk_set {w : World} {g : Nat} {t : TypeId} {cs : Array Value} (h : w.heap[g]? = some (.cells cs t (0, 0))) (i : Nat) (u : Value) : (w.setCell ⟨g, i, none⟩ u).heap[g]? = some (.cells (cs.setIfInBounds i u) t (0, 0)) := by
 simp [World.setCell, Array.getElem?_modify, h]
theorem zwb {w : World} {g : Nat} {t : TypeId} {cs : Array Value} (h : w.heap[g]? = some (.cells cs t (0, 0))) {p : Addr} (hp : g ≠ p.block) (u : Value) : (w.setCell p u).heap[g]? = some (.cells cs t (0, 0)) := (Below.heap_setCell w p u g hp).trans h
theorem zyb {w : World} {g : Nat} {o : Obj} (h : w.heap[g]? = some o) : g < w.heap.size := (Array.getElem?_eq_some_iff.1 h).1
theorem zb {w : World} {g : Nat} {t : TypeId} {cs : Array Value} (h : w.heap[g]? = some (.cells cs t (0, 0))) (i : Nat) : w.cell? ⟨g, i, none⟩ = cs[i]? := cell_of_row w g i cs t (0, 0) h
theorem zz {w : World} {g : Nat} {t : TypeId} {cs : Array Value} (h : w.heap[g]? = some (.cells cs t (0, 0))) (i : Nat) : w.frozen? ⟨g, i, none⟩ = false := by simp [World.frozen?, h]
theorem zpe {w w1 : World} {g : Nat} {o : Obj} {row : Option Nat} (h : w.heap[g]? = some o) (hg : w.grownBy w1 row) (hne : some g ≠ row) : w1.heap[g]? = some o := (hg.block g (zyb h) hne).trans h
def zph (w w' : World) (g : Nat) (row : Option Nat) : Prop := w.heap.size ≤ w'.heap.size ∧ ∀ i, i < w.heap.size → i ≠ g → some i ≠ row → w'.heap[i]? = w.heap[i]?
theorem zph.trans {w w1 w2 : World} {g : Nat} {row row1 : Option Nat} (h : zph w w1 g row) (k : zph w1 w2 g row1) (hr : row1 = row ∨ ∃ b, row1 = some b ∧ w.heap.size ≤ b) : zph w w2 g row :=
 ⟨Nat.le_trans h.1 k.1, fun i hi hg hn => by
  refine (k.2 i (Nat.lt_of_lt_of_le hi h.1) hg ?_).trans (h.2 i hi hg hn)
  rcases hr with rfl | ⟨b, rfl, hb⟩
  ·exact hn
  ·intro e
   injection e with e
   omega⟩
theorem zph.blk {w w1 : World} {g g' : Nat} {row : Option Nat} {o : Obj} (h : zph w w1 g row) (hb : w.heap[g']? = some o) (hg : g' ≠ g) (hr : some g' ≠ row) : w1.heap[g']? = some o := (h.2 g' (zyb hb) hg hr).trans hb
theorem zph.own {w w1 : World} {g : Nat} {row : Option Nat} {base : Nat} {e : TypeId} {size n : Nat} {v : Value} {xs : List Value} (h : zph w w1 g row) (ho : w.ownsRow base e size v n xs) (hg : v.ownBlock ≠ some g) (hr : v.ownBlock = none ∨ v.ownBlock ≠ row) : w1.ownsRow base e size v n xs := by
 obtain ⟨h1, h2⟩ := ho
 refine ⟨h1, ?_⟩
 rcases h2 with h2 | ⟨b, cap, cur, rfl, hb, hh, r⟩
 ·exact .inl h2
 ·refine .inr ⟨b, cap, cur, rfl, hb, h.blk hh ?_ ?_, r⟩
  ·intro e
   exact hg (by rw [← e]; rfl)
  ·rcases hr with hr | hr
   ·simp [Value.ownBlock] at hr
   ·exact hr
def Ev {α : Type} (g : Nat → Option α) (r : α) : Prop := ∃ K, ∀ k, K ≤ k → g k = some r
theorem Ev.of {α : Type} {g : Nat → Option α} {r : α} (hg : ∀ k, LeO (g k) (g (k + 1))) {k : Nat} (h : g k = some r) : Ev g r := ⟨k, fun _ hk => at_rounds hg hk h⟩
theorem Ev.now {α : Type} (r : α) : Ev (fun _ => some r) r := ⟨0, fun _ _ => rfl⟩
theorem Ev.rounds {α : Type} {g : Nat → Option α} {r : α} (h : Ev g r) : ∃ k, g k = some r := by
 obtain ⟨K, h⟩ := h
 exact ⟨K, h K (Nat.le_refl _)⟩
theorem Ev.bind {α β : Type} {g : Nat → Option α} {f : Nat → α → Option β} {a : α} {r : β} (h : Ev g a) (k : Ev (fun n => f n a) r) : Ev (fun n => (g n).bind (f n)) r := by
 obtain ⟨K, h⟩ := h
 obtain ⟨K', k⟩ := k
 refine ⟨max K K', fun n hn => ?_⟩
 have h1 := h n (by omega)
 have h2 := k n (by omega)
 simp only [h1, Option.bind_some]
 exact h2
theorem Ev.step {α : Type} {g f : Nat → Option α} {r : α} (h : ∀ k, g (k + 1) = f k) (k : Ev f r) : Ev g r := by
 obtain ⟨K, k⟩ := k
 refine ⟨K + 1, fun n hn => ?_⟩
 obtain ⟨m, rfl⟩ : ∃ m, n = m + 1 := ⟨n - 1, by omega⟩
 rw [h]
 exact k m (by omega)
theorem Ev.congr {α : Type} {g f : Nat → Option α} {r : α} (h : ∀ k, g k = f k) (k : Ev f r) : Ev g r := by
 obtain ⟨K, k⟩ := k
 exact ⟨K, fun n hn => (h n).trans (k n hn)⟩
section
variable {P : Program} {ops : Array Oper} {o : Oper} {a : Act} {Q : Exit → Act → World → Prop} {K : Act → World → Prop}
theorem zzi {w0 W : World} (base : Nat) (hw : Region.wanted o (yielded ops a.tmps) = true) (s x : Operand) (t e : TypeId) (z : Value) (size bytes : Nat)
  (ho : o.op = .call { callee := .builtin .append, args := #[s, x], argTypes := #[t, t] })
  (ht : P.underlying t = some (.slice e)) (hinfo : (P.info? e).map (fun i => (i.zero, i.size, i.bytes)) = some (some z, size, bytes)) (hz : z.cells.size = size) (hs0 : 0 < size) (hb0 : 0 < bytes)
  (v : Value) (n : Nat) (xs ys : List Value) (hs : a.eval s = v) (hx : a.eval x = .slice (some ⟨W.heap.size, 0, none⟩) 1 1) (hys : ys.length = size) (h1 : ∀ u ∈ ys, u.oneCell' = true)
  (HO : W.ownsRow base e size v n xs) (HB : Below base w0 W) (hbase : base ≤ W.heap.size) (hl : (n + 1) * bytes ≤ 140737488355328)
  (h : ∀ v1 w1, w1.ownsRow base e size v1 (n + 1) (xs ++ ys) → Below base w0 w1 → W.grownBy w1 v.ownBlock → (v1.ownBlock = v.ownBlock ∨ ∃ b, v1.ownBlock = some b ∧ W.heap.size ≤ b) → K (a.put o.dst v1) w1) :
  if Region.wanted o (yielded ops a.tmps) = true then Oper.wp P o a (W.alloc (.cells ys.toArray e)) K Q else K (a.put o.dst undef) (W.alloc (.cells ys.toArray e)) := by
 obtain ⟨i0, hi, hzz⟩ := Option.map_eq_some_iff.1 hinfo
 simp only [Prod.mk.injEq] at hzz
 obtain ⟨hz0, hz1, hz2⟩ := hzz
 have hlen : n + 1 ≤ 140737488355328 := Nat.le_trans (Nat.le_mul_of_pos_right _ hb0) hl
 rw [if_pos hw]
 obtain ⟨v1, w1, hr, hown, hg, _, hat⟩ := run_append_own_at (P := P) (W.alloc (.cells ys.toArray e)) base t o.type e i0 z size bytes ht hi hz0 hz1 hz2 hz hs0 v n xs (HO.alloc _) ⟨W.heap.size, 0, none⟩ 1 1 ys (by rw [hys]; simp)
  (by simpa using World.news_of_block (cs := ys.toArray) (t := e) (fr := (0, 0)) (heap_alloc_new W (.cells ys.toArray e))) h1 (by simp only [maxLen]; omega) hl (by simp; omega)
 unfold Oper.wp execOp
 simp only [ho, resolve, invoke, builtin, Sem.run_bind, Sem.run_pure, Result.andThen_ok, List.map_toArray, List.map_cons, List.map_nil, hs, hx, hr]
 refine h v1 w1 hown ((HB.alloc hbase _).grown hg (by simp; omega) (own_base HO)) (World.grownBy.trans (World.grownBy_alloc W _ _) hg) ?_
 rcases hat with hat | hat
 ·exact .inl hat
 ·exact .inr ⟨_, hat, by simp⟩
end
theorem own_weaken {w : World} {base base' : Nat} {e : TypeId} {size n : Nat} {v : Value} {xs : List Value} (h : w.ownsRow base e size v n xs) (hb : base' ≤ base) : w.ownsRow base' e size v n xs := by
 obtain ⟨h1, h2⟩ := h
 refine ⟨h1, ?_⟩
 rcases h2 with h2 | ⟨g, cap, cur, rfl, hg, r⟩
 ·exact .inl h2
 ·exact .inr ⟨g, cap, cur, rfl, Nat.le_trans hb hg, r⟩
section
variable {α : Type} {enc : α → Value} {d : α}
def encs (enc : α → Value) (xs : List α) : List Value := xs.map enc
def rdOf (d : α) (xs : List α) (i : Int) : α := xs.getD i.toNat d
theorem encs_length (xs : List α) : (encs enc xs).length = xs.length := by simp [encs]
theorem encs_get (xs : List α) (j : Nat) (h : j < xs.length) : (encs enc xs)[j]? = some (enc (xs.getD j d)) := by
 simp [encs, List.getElem?_eq_getElem h, List.getD_eq_getElem?_getD]
def zvd (enc : α → Value) (d : α) (w : World) (A : Option Addr) (n : Nat) (xs : List α) : Prop :=
 xs.length = n ∧ n ≤ 9223372036854775807 ∧ (0 < n → ∃ ad, A = some ad ∧ ∀ j, j < n → w.cell? (ad.add j) = some (enc (xs.getD j d)))
theorem zvd.at_ {w : World} {A : Option Addr} {n : Nat} {xs : List α} (h : zvd enc d w A n xs) (i : Int) (h0 : 0 ≤ i) (h1 : i < n) : ∃ ad, A = some ad ∧ w.cell? (ad.add i.toNat) = some (enc (rdOf d xs i)) := by
 obtain ⟨ad, e, hc⟩ := h.2.2 (by omega)
 exact ⟨ad, e, hc _ (by omega)⟩
theorem zvd.below {w w1 : World} {A : Option Addr} {n : Nat} {xs : List α} (h : zvd enc d w A n xs) (hb : Below w.heap.size w w1) : zvd enc d w1 A n xs :=
 ⟨h.1, h.2.1, fun hn => by
  obtain ⟨ad, e, hc⟩ := h.2.2 hn
  exact ⟨ad, e, fun j hj => zni hb (hc j hj)⟩⟩
theorem zvd.take_ {w : World} {A : Option Addr} {n : Nat} {xs : List α} (h : zvd enc d w A n xs) (i : Nat) (hi : i ≤ n) : zvd enc d w A i (xs.take i) := by
 refine ⟨by rw [List.length_take, h.1]; omega, by have := h.2.1; omega, fun hp => ?_⟩
 obtain ⟨ad, e, hc⟩ := h.2.2 (by omega)
 refine ⟨ad, e, fun j hj => ?_⟩
 rw [hc j (by omega)]
 simp [List.getD_eq_getElem?_getD, hj]
theorem zvd.drop_ {w : World} {A : Option Addr} {n c : Nat} {xs : List α} (h : zvd enc d w A n xs) (i : Nat) (hi : i ≤ n) (hc : n ≤ c) : zvd enc d w (if c = i then A else A.map (·.add i)) (n - i) (xs.drop i) := by
  refine ⟨by rw [List.length_drop, h.1], by have := h.2.1; omega, fun hp => ?_⟩
  obtain ⟨ad, rfl, hcell⟩ := h.2.2 (by omega)
  rw [if_neg (by omega)]
  refine ⟨ad.add i, rfl, fun j hj => ?_⟩
  have ha : (ad.add i).add j = ad.add (i + j) := by
    unfold Addr.add
    by_cases h1 : i = 0 <;> by_cases h2 : j = 0 <;> simp [h1, h2, Nat.add_assoc]
  rw [ha, hcell (i + j) (by omega)]
  simp [List.getD_eq_getElem?_getD, List.getElem?_drop]
theorem print_cut_of {P : Program} (enc : α → Value) (d : α) (t e : TypeId) (kl : IntKind) {i : TypeInfo} (ht : P.underlying t = some (.slice e)) (hi : P.info? e = some i) (hsz : i.size = 1) (A : Option Addr) (n c m : Nat) (hm : m ≤ n) :
    ∃ A' : Option Addr, (∀ W : World, (Instr.slice t (.slice A n c) (some (.int kl (m : Int))) none none).run P W = .ok (.slice A' (n - m) (c - m)) W) ∧
      ∀ (w : World) (xs : List α), n ≤ c → zvd enc d w A n xs → zvd enc d w A' (n - m) (xs.drop m) := by
  refine ⟨if c = m then A else A.map (·.add m), fun W => ?_, fun w xs hc h => h.drop_ m hm hc⟩
  have hel : P.elem t = e := by simp [Program.elem, ht]
  have hu : P.underlying t = some (.slice (P.elem t)) := by rw [hel]; exact ht
  rw [run_slice_l W t A n c hu kl (m : Int) (Int.natCast_nonneg _) (by omega), hel]
  simp [sizeOf, typeInfo, hi, hsz, sliced, Result.andThen]
theorem own_at_of {W : World} {base g n cap : Nat} {e : TypeId} {xs : List α} (h : W.ownsRow base e 1 (.slice (some ⟨g, 0, none⟩) n cap) n (encs enc xs)) (i : Int) (h0 : 0 ≤ i) (h1 : i < n) :
  W.cell? ⟨g, i.toNat, none⟩ = some (enc (rdOf d xs i)) ∧ W.frozen? ⟨g, i.toNat, none⟩ = false := by
 have hl : xs.length = n := by have := h.1; simp [encs] at this; exact this
 constructor
 ·have hc := h.cells (g := g) rfl i.toNat _ (encs_get (d := d) xs i.toNat (by omega))
  rwa [add_plain] at hc
 ·rcases h.2 with ⟨h', _⟩ | ⟨g', cap', cur, h', _, hh, _⟩
  ·cases h'
  ·have : g = g' := by injection h' with h'; injection h' with h'; injection h' with h'
   subst this
   simp [World.frozen?, hh]
theorem own_store_of {W : World} {base g n cap : Nat} {e : TypeId} {xs : List α} (h : W.ownsRow base e 1 (.slice (some ⟨g, 0, none⟩) n cap) n (encs enc xs)) (i : Int) (x : α) :
  (W.setCell ⟨g, i.toNat, none⟩ (enc x)).ownsRow base e 1 (.slice (some ⟨g, 0, none⟩) n cap) n (encs enc (xs.set i.toNat x)) ∧ W.grownBy (W.setCell ⟨g, i.toNat, none⟩ (enc x)) (some g) := by
 have hs := h.stored i.toNat (enc x)
 have he : (encs enc xs).set i.toNat (enc x) = encs enc (xs.set i.toNat x) := by simp [encs, List.map_set]
 rwa [he] at hs
end
section
variable {α : Type} {P : Program} {ops : Array Oper} {rest : List Oper} {o : Oper} {a : Act} {Q : Exit → Act → World → Prop}
end
theorem zvb {w : World} {g : Nat} {o : Obj} (h : w.heap[g]? = some o) (o' : Obj) : (w.alloc o').heap[g]? = some o := (Below.heap_alloc w o' g (zyb h)).trans h
theorem zub {w : World} {g : Nat} {o : Obj} (h : w.heap[g]? = some o) : w.drew.heap[g]? = some o := h
theorem zid {w : World} {g : Nat} {o : Obj} (h : w.heap[g]? = some o) (n : Nat) : (w.drewN n).heap[g]? = some o := h
theorem zc {w w1 : World} {g : Nat} {o : Obj} (h : w.heap[g]? = some o) (hb : Below w.heap.size w w1) : w1.heap[g]? = some o := (hb.block g (zyb h)).trans h
theorem zvc (w : World) (o : Obj) : (w.alloc o).heap[w.heap.size]? = some o := heap_alloc_new w o
section
variable {P : Program}
theorem zfj {fn : Func} {p u : Tmp} {ty : TypeId} (h : fn.results = #[.cell p ty, .tmp u]) (tmps : Array Value) (w : World) (g : Nat) (t : TypeId) (cs : Array Value) (fr : Nat × Nat) (d : TypeDesc)
    (hp : tmps.getD p undef = .pointer (some ⟨g, 0, none⟩)) (hg : w.heap[g]? = some (.cells cs t fr))
    (hu : P.underlying ty = some d) (hd : (match d with | .struct _ | .array _ _ => true | _ => false) = true) (hi : (P.info? ty).map (·.size) = some cs.size) :
    (results fn tmps).run P w = .ok (.tuple #[.agg cs, tmps.getD u undef]) w := by
  have hp' : tmps[p]?.getD undef = .pointer (some ⟨g, 0, none⟩) := by simpa using hp
  simp [results, h, hp', asAddr, run_loadVar_row w g t ty cs fr d hg hu hd hi]
end
theorem own_le {w : World} {base n m c size : Nat} {e : TypeId} {A : Option Addr} {xs : List Value} (h : w.ownsRow base e size (.slice A m c) n xs) : m ≤ c := by
 rcases h.2 with ⟨he, _⟩ | ⟨g, cap, cur, he, _, _, hnc, _⟩
 ·injection he with _ h2 h3
  omega
 ·injection he with _ h2 h3
  omega
def zgf {α : Type} (R : α → List Value → Prop) (e : TypeId) (size : Nat) (w : World) (base : Nat) (v : Value) (ps : List α) : Prop :=
 ∃ inner, w.ownsRow base e size v ps.length inner ∧ Reps R size ps inner
section
variable {α : Type} {R R' : α → List Value → Prop} {e : TypeId} {size : Nat} {w w1 : World} {base : Nat} {v : Value} {ps : List α}
theorem zgf.none_ (R : α → List Value → Prop) (e : TypeId) (size : Nat) (w : World) (base : Nat) : zgf R e size w base (.slice none 0 0) [] := ⟨[], own_nil _ _ _ _, Reps.none _ _⟩
theorem zgf.imp_ (h : zgf R e size w base v ps) (hR : ∀ p c, R p c → R' p c) : zgf R' e size w base v ps := by
 obtain ⟨inner, ho, hr⟩ := h
 exact ⟨inner, ho, hr.imp_ hR⟩
theorem zgf.other (h : zgf R e size w base v ps) {row : Option Nat} (hg : w.grownBy w1 row) (hne : v.ownBlock = none ∨ v.ownBlock ≠ row) : zgf R e size w1 base v ps := by
 obtain ⟨inner, ho, hr⟩ := h
 exact ⟨inner, own_other ho hg hne, hr⟩
theorem zgf.reads (h : zgf R e size w base v ps) : ∃ A c, v = .slice A ps.length c ∧ ps.length ≤ c ∧ zpf R size w A ps.length ps := by
 obtain ⟨inner, ho, hr⟩ := h
 obtain ⟨A, c, rfl, hrow⟩ := own_reads_row ho hr rfl
 exact ⟨A, c, rfl, own_le ho, hrow⟩
theorem zgf.ne_block (h : zgf R e size w base v ps) {g : Nat} {t : TypeId} {cells : Array Value} (hb : w.heap[g]? = some (.cells cells t (0, 0))) (ht : e ≠ t) : some g ≠ v.ownBlock := by
 obtain ⟨inner, ho, hr⟩ := h
 exact own_ne ho hb ht
theorem zgf.lit (W : World) (base : Nat) {inner : List Value} (hr : Reps R size ps inner) (hb : base ≤ W.heap.size) (hm : ps.length ≤ 9223372036854775807) :
  zgf R e size (W.alloc (.cells inner.toArray e)) base (.slice (some ⟨W.heap.size, 0, none⟩) ps.length ps.length) ps := by
 have h := World.ownsRow_lit (base := base) (e := e) (size := size) W inner.toArray ps.length hb (by simpa [maxLen] using hm) (by simpa using hr.1)
 exact ⟨inner, by simpa using h, hr⟩
end
section
variable {P : Program} {ops : Array Oper} {rest : List Oper} {o : Oper} {a : Act} {Q : Exit → Act → World → Prop} {α : Type} {R : α → List Value → Prop}
end
section
variable {P : Program} {ops : Array Oper} {o : Oper} {a : Act} {Q : Exit → Act → World → Prop} {K : Act → World → Prop} {α : Type} {R : α → List Value → Prop}
end
section
variable {α : Type} {P : Program}
theorem print_drop_of (enc : α → Value) (d : α) (t e : TypeId) (kl : IntKind) {i : TypeInfo} (ht : P.underlying t = some (.slice e)) (hi : P.info? e = some i) (hsz : i.size = 1) (A : Option Addr) (c : Nat) (xs : List α) (j : Int) (h0 : 0 ≤ j) (hm : j ≤ xs.length) (hc : xs.length ≤ c) :
  ∃ A' : Option Addr, (∀ W : World, (Instr.slice t (.slice A xs.length c) (some (.int kl j)) none none).run P W = .ok (.slice A' (xs.drop j.toNat).length (c - j.toNat)) W) ∧
   (∀ w : World, zvd enc d w A xs.length xs → zvd enc d w A' (xs.drop j.toNat).length (xs.drop j.toNat)) ∧ (xs.drop j.toNat).length ≤ c - j.toNat := by
 obtain ⟨m, rfl⟩ := Int.eq_ofNat_of_zero_le h0
 simp only [Int.toNat_natCast]
 have hmn : m ≤ xs.length := by omega
 obtain ⟨A', h1, h2⟩ := print_cut_of (P := P) enc d t e kl ht hi hsz A xs.length c m hmn
 have hl : (xs.drop m).length = xs.length - m := List.length_drop
 exact ⟨A', fun W => by rw [hl]; exact h1 W, fun w h => by rw [hl]; exact h2 w xs hc h, by rw [hl]; omega⟩
theorem print_mid_of (enc : α → Value) (d : α) (t e : TypeId) (kl kh : IntKind) {i : TypeInfo} (ht : P.underlying t = some (.slice e)) (hi : P.info? e = some i) (hsz : i.size = 1) (A : Option Addr) (c : Nat) (xs : List α) (a b : Int) (h0 : 0 ≤ a) (h1 : a ≤ b) (hm : b ≤ xs.length) (hc : xs.length ≤ c) :
    ∃ A' : Option Addr, (∀ W : World, (Instr.slice t (.slice A xs.length c) (some (.int kl a)) (some (.int kh b)) none).run P W = .ok (.slice A' ((xs.take b.toNat).drop a.toNat).length (c - a.toNat)) W) ∧
      (∀ w : World, zvd enc d w A xs.length xs → zvd enc d w A' ((xs.take b.toNat).drop a.toNat).length ((xs.take b.toNat).drop a.toNat)) ∧ ((xs.take b.toNat).drop a.toNat).length ≤ c - a.toNat := by
  have hlt : (xs.take b.toNat).length = b.toNat := by rw [List.length_take]; omega
  have hl : ((xs.take b.toNat).drop a.toNat).length = b.toNat - a.toNat := by rw [List.length_drop, hlt]
  refine ⟨if c = a.toNat then A else A.map (·.add a.toNat), fun W => ?_, fun w h => ?_, by rw [hl]; omega⟩
  · have hel : P.elem t = e := by simp [Program.elem, ht]
    have hu : P.underlying t = some (.slice (P.elem t)) := by rw [hel]; exact ht
    rw [run_slice_lh W t A xs.length c hu kl kh a b h0 h1 (by omega), hel, hl]
    simp [sizeOf, typeInfo, hi, hsz, sliced, Result.andThen]
  · have h2 := (h.take_ b.toNat (by omega)).drop_ (c := c) a.toNat (by omega) (by omega)
    rw [hl]
    exact h2
theorem print_mid_int {k : IntKind} (t e : TypeId) {i : TypeInfo} (ht : P.underlying t = some (.slice e)) (hi : P.info? e = some i) (hsz : i.size = 1) (A : Option Addr) (c : Nat) (xs : List Int) (a b : Int) (h0 : 0 ≤ a) (h1 : a ≤ b) (hm : b ≤ xs.length) (hc : xs.length ≤ c) :
 ∃ A' : Option Addr, (∀ W : World, (Instr.slice t (.slice A xs.length c) (some (.int .i64 a)) (some (.int .i64 b)) none).run P W = .ok (.slice A' ((xs.take b.toNat).drop a.toNat).length (c - a.toNat)) W) ∧
  (∀ w : World, zsh w k A xs.length xs → zsh w k A' ((xs.take b.toNat).drop a.toNat).length ((xs.take b.toNat).drop a.toNat)) ∧ ((xs.take b.toNat).drop a.toNat).length ≤ c - a.toNat := print_mid_of (Value.int k) 0 t e .i64 .i64 ht hi hsz A c xs a b h0 h1 hm hc
end
section
variable {P : Program} {ops : Array Oper} {rest : List Oper} {o : Oper} {a : Act} {Q : Exit → Act → World → Prop}
end
structure Kd (α : Type) where
 sz : Nat
 E : List Nat
 K : World → α → List Value → Prop
 M : World → Nat → (Nat → Prop) → α → List Value → Prop
 K_len : ∀ {w x cs}, K w x cs → cs.length = sz
 K_one : ∀ {w x cs}, K w x cs → ∀ u ∈ cs, u.oneCell' = true
 K_below : ∀ {w w1 : World} {x cs}, Below w.heap.size w w1 → K w x cs → K w1 x cs
 K_of_M : ∀ {w base ok x cs}, M w base ok x cs → K w x cs
 M_mono : ∀ {w base ok ok' x cs}, (∀ k, ok k → ok' k) → M w base ok x cs → M w base ok' x cs
 M_bound : ∀ {w : World} {base ok x cs}, M w base ok x cs → M w base (fun k => ok k ∧ base ≤ k ∧ k < w.heap.size ∧ ∃ q, q ∈ E ∧ ∃ cells, w.heap[k]? = some (.cells cells q (0, 0))) x cs
 M_move : ∀ {w w1 : World} {base ok x cs}, (∀ k, ok k → w1.heap[k]? = w.heap[k]?) → M w base ok x cs → M w1 base ok x cs
 M_lower : ∀ {w base base' ok x cs}, base' ≤ base → M w base ok x cs → M w base' ok x cs
theorem own_move {w w1 : World} {base : Nat} {e : TypeId} {size n : Nat} {v : Value} {xs : List Value} (h : w.ownsRow base e size v n xs) (hm : ∀ k, v.ownBlock = some k → w1.heap[k]? = w.heap[k]?) : w1.ownsRow base e size v n xs := by
 obtain ⟨h1, h2⟩ := h
 refine ⟨h1, ?_⟩
 rcases h2 with h2 | ⟨g, cap, cur, rfl, hg, hh, r⟩
 ·exact .inl h2
 ·exact .inr ⟨g, cap, cur, rfl, hg, (hm g (by simp [Value.ownBlock])).trans hh, r⟩
theorem zvi {w : World} {base : Nat} {e : TypeId} {size n : Nat} {v : Value} {xs : List Value} (h : w.ownsRow base e size v n xs) (k : Nat) (hk : v.ownBlock = some k) : ∃ cells, w.heap[k]? = some (.cells cells e (0, 0)) := by
 rcases h.2 with ⟨rfl, _⟩ | ⟨g, cap, cur, rfl, hg, hh, r⟩
 ·simp [Value.ownBlock] at hk
 ·have : g = k := by simpa [Value.ownBlock] using hk
  subst this
  exact ⟨cur, hh⟩
namespace Kd
def C {α : Type} (d : Kd α) (w : World) (A : Option Addr) (n : Nat) (xs : List α) : Prop := zpf (d.K w) d.sz w A n xs
def R {α : Type} (d : Kd α) (e : Nat) (w : World) (base : Nat) (ok : Nat → Prop) (v : Value) (xs : List α) : Prop :=
 (∀ k, v.ownBlock = some k → ok k) ∧ zgf (d.M w base (fun k => ok k ∧ some k ≠ v.ownBlock)) e d.sz w base v xs
section
variable {α : Type} {d : Kd α} {e : Nat} {w w1 : World} {base : Nat} {ok ok' : Nat → Prop} {v : Value} {xs : List α}
theorem C_below {A : Option Addr} {n : Nat} (h : d.C w A n xs) (hb : Below w.heap.size w w1) : d.C w1 A n xs := zpf.imp_ h hb (fun _ _ hp => d.K_below hb hp)
theorem R_nil (d : Kd α) (e : Nat) (w : World) (base : Nat) (ok : Nat → Prop) : d.R e w base ok (.slice none 0 0) [] := ⟨fun k hk => by simp [Value.ownBlock] at hk, zgf.none_ _ _ _ _ _⟩
theorem R_mono (h : d.R e w base ok v xs) (hok : ∀ k, ok k → ok' k) : d.R e w base ok' v xs := ⟨fun k hk => hok k (h.1 k hk), h.2.imp_ (fun _ _ hp => d.M_mono (fun k hk => ⟨hok k hk.1, hk.2⟩) hp)⟩
theorem R_bound (h : d.R e w base ok v xs) : d.R e w base (fun k => ok k ∧ base ≤ k ∧ k < w.heap.size ∧ ∃ q, q ∈ e :: d.E ∧ ∃ cells, w.heap[k]? = some (.cells cells q (0, 0))) v xs := by
 obtain ⟨h0, inner, ho, hr⟩ := h
 refine ⟨fun k hk => ?_, inner, ho, hr.imp_ (fun _ _ hp => d.M_mono (fun k hk => ?_) (d.M_bound hp))⟩
 ·obtain ⟨cells, hc⟩ := zvi ho k hk
  exact ⟨h0 k hk, own_base ho k hk, own_lt ho k hk, e, List.mem_cons_self, cells, hc⟩
 ·obtain ⟨⟨h1, h2⟩, h3, h4, q, hq, hc⟩ := hk
  exact ⟨⟨h1, h3, h4, q, List.mem_cons_of_mem _ hq, hc⟩, h2⟩
theorem R_move (h : d.R e w base ok v xs) (hm : ∀ k, ok k → w1.heap[k]? = w.heap[k]?) : d.R e w1 base ok v xs := by
 obtain ⟨h0, inner, ho, hr⟩ := h
 exact ⟨h0, inner, own_move ho (fun k hk => hm k (h0 k hk)), hr.imp_ (fun _ _ hp => d.M_move (fun k hk => hm k hk.1) hp)⟩
theorem R_lower {base' : Nat} (h : d.R e w base ok v xs) (hb : base' ≤ base) : d.R e w base' ok v xs := by
 obtain ⟨h0, inner, ho, hr⟩ := h
 exact ⟨h0, inner, own_weaken ho hb, hr.imp_ (fun _ _ hp => d.M_lower hb hp)⟩
theorem R_step (h : d.R e w base ok v xs) (hm : ∀ k, ok k → k < w.heap.size → w1.heap[k]? = w.heap[k]?) : d.R e w1 base ok v xs :=
 R_mono (R_move (R_bound h) (fun k hk => hm k hk.1 hk.2.2.1)) (fun _ hk => hk.1)
theorem M_step {x : α} {cs : List Value} (h : d.M w base ok x cs) (hm : ∀ k, ok k → k < w.heap.size → w1.heap[k]? = w.heap[k]?) : d.M w1 base ok x cs :=
 d.M_mono (fun _ hk => hk.1) (d.M_move (fun k hk => hm k hk.1 hk.2.2.1) (d.M_bound h))
theorem R_below (h : d.R e w base ok v xs) (hb : Below w.heap.size w w1) : d.R e w1 base ok v xs := R_step h (fun k _ hk => hb.block k hk)
theorem M_below {x : α} {cs : List Value} (h : d.M w base ok x cs) (hb : Below w.heap.size w w1) : d.M w1 base ok x cs := M_step h (fun k _ hk => hb.block k hk)
theorem R_far (h : d.R e w base ok v xs) {p : Addr} (hok : ∀ k, ok k → k ≠ p.block) (u : Value) : d.R e (w.setCell p u) base ok v xs := R_step h (fun k ho _ => Below.heap_setCell w p u k (hok k ho))
theorem R_types (h : d.R e w base ok v xs) {g t : Nat} {cells : Array Value} (hb : w.heap[g]? = some (.cells cells t (0, 0))) (ht : ∀ q, q ∈ e :: d.E → q ≠ t) : d.R e w base (fun k => ok k ∧ k ≠ g) v xs :=
 R_mono (R_bound h) (fun k hk => ⟨hk.1, by
  obtain ⟨_, _, _, q, hq, cells', hc⟩ := hk
  rintro rfl
  rw [hc] at hb
  injection hb with hb
  injection hb with _ hb
  exact ht q hq hb⟩)
theorem R_set (h : d.R e w base ok v xs) {g t : Nat} {cells : Array Value} (hb : w.heap[g]? = some (.cells cells t (0, 0))) (ht : ∀ q, q ∈ e :: d.E → q ≠ t) (j : Nat) (u : Value) : d.R e (w.setCell ⟨g, j, none⟩ u) base ok v xs :=
 R_mono (R_far (p := ⟨g, j, none⟩) (R_types h hb ht) (fun _ hk => hk.2) u) (fun _ hk => hk.1)
theorem R_reads (h : d.R e w base ok v xs) : ∃ A c, v = .slice A xs.length c ∧ xs.length ≤ c ∧ d.C w A xs.length xs := by
 obtain ⟨A, c, he, hl, hr⟩ := zgf.reads h.2
 exact ⟨A, c, he, hl, hr.imp_ (Below.refl _ _) (fun _ _ hp => d.K_of_M hp)⟩
theorem R_slice (h : d.R e w base ok v xs) : ∃ A c, v = .slice A xs.length c := by
 obtain ⟨A, c, he, _⟩ := R_reads h
 exact ⟨A, c, he⟩
theorem R_own (h : d.R e w base ok v xs) : ∃ inner, w.ownsRow base e d.sz v xs.length inner := by
 obtain ⟨_, inner, ho, _⟩ := h
 exact ⟨inner, ho⟩
theorem R_ne (h : d.R e w base ok v xs) {g t : Nat} {cells : Array Value} (hb : w.heap[g]? = some (.cells cells t (0, 0))) (ht : e ≠ t) : some g ≠ v.ownBlock := zgf.ne_block h.2 hb ht
end
def scalar {α : Type} (enc : α → Value) (h1 : ∀ x, (enc x).oneCell' = true) : Kd α where
 sz := 1
 E := []
 K := fun _ x cs => cs = [enc x]
 M := fun _ _ _ x cs => cs = [enc x]
 K_len := fun h => by rw [h]; rfl
 K_one := fun h u hu => by
  rw [h] at hu
  rw [List.mem_singleton.1 hu]
  exact h1 _
 K_below := fun _ h => h
 K_of_M := fun h => h
 M_mono := fun _ h => h
 M_bound := fun h => h
 M_move := fun _ h => h
 M_lower := fun _ h => h
def int (k : IntKind) : Kd Int := scalar (Value.int k) (fun _ => rfl)
def bool : Kd Bool := scalar Value.bool (fun _ => rfl)
def string : Kd ByteArray := scalar Value.string (fun _ => rfl)
def slice {α : Type} (e : Nat) (d : Kd α) : Kd (List α) where
 sz := 1
 E := e :: d.E
 K := fun w xs cs => ∃ A c, cs = [.slice A xs.length c] ∧ xs.length ≤ c ∧ d.C w A xs.length xs
 M := fun w base ok xs cs => ∃ v, cs = [v] ∧ d.R e w base ok v xs
 K_len := by
  rintro w x cs ⟨A, c, rfl, _⟩
  rfl
 K_one := by
  rintro w x cs ⟨A, c, rfl, _⟩ u hu
  rw [List.mem_singleton.1 hu]
  rfl
 K_below := by
  rintro w w1 x cs hb ⟨A, c, rfl, hl, hr⟩
  exact ⟨A, c, rfl, hl, C_below hr hb⟩
 K_of_M := by
  rintro w base ok x cs ⟨v, rfl, h⟩
  obtain ⟨A, c, rfl, hl, hr⟩ := R_reads h
  exact ⟨A, c, rfl, hl, hr⟩
 M_mono := by
  rintro w base ok ok' x cs hok ⟨v, rfl, h⟩
  exact ⟨v, rfl, R_mono h hok⟩
 M_bound := by
  rintro w base ok x cs ⟨v, rfl, h⟩
  exact ⟨v, rfl, R_bound h⟩
 M_move := by
  rintro w w1 base ok x cs hm ⟨v, rfl, h⟩
  exact ⟨v, rfl, R_move h hm⟩
 M_lower := by
  rintro w base base' ok x cs hb ⟨v, rfl, h⟩
  exact ⟨v, rfl, R_lower h hb⟩
def pair {α β : Type} (a : Kd α) (b : Kd β) : Kd (α × β) where
 sz := a.sz + b.sz
 E := a.E ++ b.E
 K := fun w x cs => ∃ c0 c1, cs = c0 ++ c1 ∧ a.K w x.1 c0 ∧ b.K w x.2 c1
 M := fun w base ok x cs => ∃ c0 c1, cs = c0 ++ c1 ∧ a.M w base ok x.1 c0 ∧ b.M w base ok x.2 c1
 K_len := by
  rintro w x cs ⟨c0, c1, rfl, h0, h1⟩
  rw [List.length_append, a.K_len h0, b.K_len h1]
 K_one := by
  rintro w x cs ⟨c0, c1, rfl, h0, h1⟩ u hu
  rcases List.mem_append.1 hu with hu | hu
  ·exact a.K_one h0 u hu
  ·exact b.K_one h1 u hu
 K_below := by
  rintro w w1 x cs hb ⟨c0, c1, rfl, h0, h1⟩
  exact ⟨c0, c1, rfl, a.K_below hb h0, b.K_below hb h1⟩
 K_of_M := by
  rintro w base ok x cs ⟨c0, c1, rfl, h0, h1⟩
  exact ⟨c0, c1, rfl, a.K_of_M h0, b.K_of_M h1⟩
 M_mono := by
  rintro w base ok ok' x cs hok ⟨c0, c1, rfl, h0, h1⟩
  exact ⟨c0, c1, rfl, a.M_mono hok h0, b.M_mono hok h1⟩
 M_bound := by
  rintro w base ok x cs ⟨c0, c1, rfl, h0, h1⟩
  refine ⟨c0, c1, rfl, a.M_mono ?_ (a.M_bound h0), b.M_mono ?_ (b.M_bound h1)⟩
  ·rintro k ⟨h2, h3, h4, q, hq, hc⟩
   exact ⟨h2, h3, h4, q, List.mem_append_left _ hq, hc⟩
  ·rintro k ⟨h2, h3, h4, q, hq, hc⟩
   exact ⟨h2, h3, h4, q, List.mem_append_right _ hq, hc⟩
 M_move := by
  rintro w w1 base ok x cs hm ⟨c0, c1, rfl, h0, h1⟩
  exact ⟨c0, c1, rfl, a.M_move hm h0, b.M_move hm h1⟩
 M_lower := by
  rintro w base base' ok x cs hb ⟨c0, c1, rfl, h0, h1⟩
  exact ⟨c0, c1, rfl, a.M_lower hb h0, b.M_lower hb h1⟩
def iso {α β : Type} (d : Kd α) (f : β → α) : Kd β where
 sz := d.sz
 E := d.E
 K := fun w x cs => d.K w (f x) cs
 M := fun w base ok x cs => d.M w base ok (f x) cs
 K_len := d.K_len
 K_one := d.K_one
 K_below := d.K_below
 K_of_M := d.K_of_M
 M_mono := d.M_mono
 M_bound := d.M_bound
 M_move := d.M_move
 M_lower := d.M_lower
def bot {α : Type} (sz : Nat) (E : List Nat) : Kd α where
 sz := sz
 E := E
 K := fun _ _ _ => False
 M := fun _ _ _ _ _ => False
 K_len := fun h => h.elim
 K_one := fun h => h.elim
 K_below := fun _ h => h
 K_of_M := fun h => h
 M_mono := fun _ h => h
 M_bound := fun h => h
 M_move := fun _ h => h
 M_lower := fun _ h => h
def upto {α : Type} (F : Kd α → Kd α) (sz : Nat) (E : List Nat) : Nat → Kd α
 | 0 => bot sz E
 | n + 1 => F (upto F sz E n)
theorem C_get {α : Type} {d : Kd α} {w : World} {A : Option Addr} {n : Nat} {xs : List α} (h : d.C w A n xs) (z : α) (i : Int) (h0 : 0 ≤ i) (h1 : i < n) :
 ∃ ad c, A = some ad ∧ c.length = d.sz ∧ d.K w (xs.getD i.toNat z) c ∧ ∀ j u, c[j]? = some u → w.cell? (ad.add (i.toNat * d.sz + j)) = some u := zpf.get_ h z i h0 h1
theorem R_appended {α : Type} {d : Kd α} {e base : Nat} {ok okp : Nat → Prop} {W w1 : World} {v v1 : Value} {xs : List α} {p : α} {inner cs : List Value} (h0 : ∀ k, v.ownBlock = some k → ok k) (hr : Reps (d.M W base (fun k => ok k ∧ some k ≠ v.ownBlock)) d.sz xs inner) (hp : d.M W base okp p cs) (hokp : ∀ k, okp k → ok k ∧ some k ≠ v.ownBlock) (hfresh : ∀ k, W.heap.size ≤ k → ok k)
  (hown : w1.ownsRow base e d.sz v1 (xs.length + 1) (inner ++ cs)) (hg : W.grownBy w1 v.ownBlock) (hat : v1.ownBlock = v.ownBlock ∨ ∃ b, v1.ownBlock = some b ∧ W.heap.size ≤ b) : d.R e w1 base ok v1 (xs ++ [p]) := by
 have hne : ∀ k, some k ≠ v.ownBlock → k < W.heap.size → some k ≠ v1.ownBlock := by
  intro k hk hlt
  rcases hat with hat | ⟨b, hb, hle⟩
  ·rw [hat]; exact hk
  ·rw [hb]
   intro he
   injection he with he
   omega
 have step : ∀ {q : α} {c : List Value} {o : Nat → Prop}, d.M W base o q c → (∀ k, o k → ok k ∧ some k ≠ v.ownBlock) → d.M w1 base (fun k => ok k ∧ some k ≠ v1.ownBlock) q c := by
  intro q c o hq ho
  have h1 := d.M_move (w1 := w1) (fun k hk => hg.block k hk.2.2.1 (ho k hk.1).2) (d.M_bound hq)
  exact d.M_mono (fun k hk => ⟨(ho k hk.1).1, hne k (ho k hk.1).2 hk.2.2.1⟩) h1
 refine ⟨fun k hk => ?_, inner ++ cs, by rw [List.length_append, List.length_singleton]; exact hown, ?_⟩
 ·rcases hat with hat | ⟨b, hb, hle⟩
  ·exact h0 k (hat ▸ hk)
  ·rw [hb] at hk
   injection hk with hk
   exact hfresh k (by omega)
 ·exact (hr.imp_ (fun _ _ hq => step hq (fun _ hk => hk))).snoc (step hp hokp) (d.K_len (d.K_of_M hp))
section
variable {P : Program} {ops : Array Oper} {rest : List Oper} {o : Oper} {a : Act} {Q : Exit → Act → World → Prop} {α : Type}
theorem R_append (d : Kd α) {w0 W : World} (base : Nat) (hgd : o.guard = none) (s x : Operand) (t e : TypeId) (z : Value) (bytes : Nat)
  (ho : o.op = .call { callee := .builtin .append, args := #[s, x], argTypes := #[t, t] })
  (ht : P.underlying t = some (.slice e)) (hinfo : (P.info? e).map (fun i => (i.zero, i.size, i.bytes)) = some (some z, d.sz, bytes)) (hz : z.cells.size = d.sz) (hs0 : 0 < d.sz) (hb0 : 0 < bytes)
  (v : Value) (xs : List α) (p : α) (cs : List Value) (ok okp : Nat → Prop) (hs : a.eval s = v) (hx : a.eval x = .slice (some ⟨W.heap.size, 0, none⟩) 1 1) (hp : d.M W base okp p cs) (hokp : ∀ k, okp k → ok k ∧ some k ≠ v.ownBlock) (hfresh : ∀ k, W.heap.size ≤ k → ok k)
  (HO : d.R e W base ok v xs) (HB : Below base w0 W) (hbase : base ≤ W.heap.size) (hl : (xs.length + 1) * bytes ≤ 140737488355328)
  (h : ∀ v1 w1, d.R e w1 base ok v1 (xs ++ [p]) → Below base w0 w1 → W.grownBy w1 v.ownBlock → (v1.ownBlock = v.ownBlock ∨ ∃ b, v1.ownBlock = some b ∧ W.heap.size ≤ b) → wpList P ops Q rest (a.put o.dst v1) w1) :
  wpList P ops Q (o :: rest) a (W.alloc (.cells cs.toArray e)) := by
 obtain ⟨h0, inner, hown, hr⟩ := HO
 refine zpi base hgd s x t e z d.sz bytes ho ht hinfo hz hs0 hb0 v xs.length inner cs hs hx (d.K_len (d.K_of_M hp)) (d.K_one (d.K_of_M hp)) hown HB hbase hl ?_
 intro v1 w1 hown1 hb1 hg1 hat1
 exact h v1 w1 (R_appended h0 hr hp hokp hfresh hown1 hg1 hat1) hb1 hg1 hat1
end
section
variable {P : Program} {ops : Array Oper} {o : Oper} {a : Act} {Q : Exit → Act → World → Prop} {Kc : Act → World → Prop} {α : Type}
theorem R_append_step (d : Kd α) {w0 W : World} (base : Nat) (hw : Region.wanted o (yielded ops a.tmps) = true) (s x : Operand) (t e : TypeId) (z : Value) (bytes : Nat)
  (ho : o.op = .call { callee := .builtin .append, args := #[s, x], argTypes := #[t, t] })
  (ht : P.underlying t = some (.slice e)) (hinfo : (P.info? e).map (fun i => (i.zero, i.size, i.bytes)) = some (some z, d.sz, bytes)) (hz : z.cells.size = d.sz) (hs0 : 0 < d.sz) (hb0 : 0 < bytes)
  (v : Value) (xs : List α) (p : α) (cs : List Value) (ok okp : Nat → Prop) (hs : a.eval s = v) (hx : a.eval x = .slice (some ⟨W.heap.size, 0, none⟩) 1 1) (hp : d.M W base okp p cs) (hokp : ∀ k, okp k → ok k ∧ some k ≠ v.ownBlock) (hfresh : ∀ k, W.heap.size ≤ k → ok k)
  (HO : d.R e W base ok v xs) (HB : Below base w0 W) (hbase : base ≤ W.heap.size) (hl : (xs.length + 1) * bytes ≤ 140737488355328)
  (h : ∀ v1 w1, d.R e w1 base ok v1 (xs ++ [p]) → Below base w0 w1 → W.grownBy w1 v.ownBlock → (v1.ownBlock = v.ownBlock ∨ ∃ b, v1.ownBlock = some b ∧ W.heap.size ≤ b) → Kc (a.put o.dst v1) w1) :
  if Region.wanted o (yielded ops a.tmps) = true then Oper.wp P o a (W.alloc (.cells cs.toArray e)) Kc Q else Kc (a.put o.dst undef) (W.alloc (.cells cs.toArray e)) := by
 obtain ⟨h0, inner, hown, hr⟩ := HO
 refine zzi base hw s x t e z d.sz bytes ho ht hinfo hz hs0 hb0 v xs.length inner cs hs hx (d.K_len (d.K_of_M hp)) (d.K_one (d.K_of_M hp)) hown HB hbase hl ?_
 intro v1 w1 hown1 hb1 hg1 hat1
 exact h v1 w1 (R_appended h0 hr hp hokp hfresh hown1 hg1 hat1) hb1 hg1 hat1
end
theorem reps_scalar {α : Type} {enc : α → Value} (xs : List α) : Reps (fun (x : α) (cs : List Value) => cs = [enc x]) 1 xs (encs enc xs) := by
 refine ⟨by simp [encs], fun j p hj => ?_⟩
 obtain ⟨hl, hp⟩ := List.getElem?_eq_some_iff.1 hj
 have hl' : j < (encs enc xs).length := by rw [encs_length]; exact hl
 rw [Nat.mul_one, List.drop_eq_getElem_cons hl']
 simp [encs, hp]
theorem R_of_own {α : Type} {enc : α → Value} {h1 : ∀ x, (enc x).oneCell' = true} {e : Nat} {w : World} {base : Nat} {ok : Nat → Prop} {v : Value} {xs : List α} (ho : w.ownsRow base e 1 v xs.length (encs enc xs)) (hok : ∀ k, v.ownBlock = some k → ok k) : (scalar enc h1).R e w base ok v xs := ⟨hok, encs enc xs, ho, reps_scalar xs⟩
theorem own_of_R {α : Type} {enc : α → Value} {h1 : ∀ x, (enc x).oneCell' = true} {e : Nat} {w : World} {base : Nat} {ok : Nat → Prop} {v : Value} {xs : List α} (h : (scalar enc h1).R e w base ok v xs) : w.ownsRow base e 1 v xs.length (encs enc xs) := by
 obtain ⟨_, inner, ho, hr⟩ := h
 have : inner = encs enc xs := by
  apply List.ext_getElem?
  intro j
  rcases Nat.lt_or_ge j xs.length with hj | hj
  ·have h2 := hr.2 j _ (List.getElem?_eq_getElem hj)
   have hl : j < inner.length := by have := hr.1; simp [scalar] at this; omega
   have h3 : (inner.drop (j * 1)).take 1 = [enc xs[j]] := h2
   rw [Nat.mul_one, List.drop_eq_getElem_cons hl] at h3
   have h4 : inner[j] = enc xs[j] := by
    have h5 := congrArg List.head? h3
    rw [List.take_succ_cons] at h5
    exact Option.some.inj h5
   rw [List.getElem?_eq_getElem hl, h4]
   simp [encs, List.getElem?_eq_getElem hj]
  ·have h3 : inner.length = xs.length := by have := hr.1; simp [scalar] at this; omega
   rw [List.getElem?_eq_none (by omega), List.getElem?_eq_none (by rw [encs_length]; omega)]
 rw [← this]
 exact ho
theorem C_of_reads {α : Type} {enc : α → Value} {d : α} {h1 : ∀ x, (enc x).oneCell' = true} {w : World} {A : Option Addr} {n : Nat} {xs : List α} (h : zvd enc d w A n xs) : (scalar enc h1).C w A n xs := by
 refine ⟨h.1, h.2.1, fun hn => ?_⟩
 obtain ⟨ad, e, hc⟩ := h.2.2 hn
 refine ⟨ad, e, fun j p hj => ⟨[enc p], rfl, rfl, fun i u hu => ?_⟩⟩
 obtain ⟨hl, hp⟩ := List.getElem?_eq_some_iff.1 hj
 have h2 := hc j (by have := h.1; omega)
 rw [List.getD_eq_getElem?_getD, hj] at h2
 cases i with
 | zero =>
  have : enc p = u := by simpa using hu
  subst this
  simpa [scalar] using h2
 | succ i => simp at hu
theorem reads_of_C {α : Type} {enc : α → Value} {d : α} {h1 : ∀ x, (enc x).oneCell' = true} {w : World} {A : Option Addr} {n : Nat} {xs : List α} (h : (scalar enc h1).C w A n xs) : zvd enc d w A n xs := by
 refine ⟨h.1, h.2.1, fun hn => ?_⟩
 obtain ⟨ad, e, hc⟩ := h.2.2 hn
 refine ⟨ad, e, fun j hj => ?_⟩
 have hl : j < xs.length := by have := h.1; omega
 obtain ⟨c, _, hK, hcell⟩ := hc j _ (List.getElem?_eq_getElem hl)
 have hK' : c = [enc xs[j]] := hK
 subst hK'
 have := hcell 0 _ rfl
 simpa [scalar, List.getD_eq_getElem?_getD, List.getElem?_eq_getElem hl] using this
end Kd
namespace Kd
section
variable {α : Type} {F : Kd α → Kd α} {sz : Nat} {E : List Nat} {hs : ∀ n, (upto F sz E n).sz = sz} {hE : ∀ n q, q ∈ (upto F sz E n).E → q ∈ E}
end
end Kd
namespace Kd
theorem R_after {α : Type} {d : Kd α} {e base : Nat} {ok : Nat → Prop} {W w1 : World} {u v v1 : Value} {xs : List α} (h : d.R e W base (fun k => ok k ∧ some k ≠ v.ownBlock) u xs) (hg : W.grownBy w1 v.ownBlock) (hat : v1.ownBlock = v.ownBlock ∨ ∃ b, v1.ownBlock = some b ∧ W.heap.size ≤ b) : d.R e w1 base (fun k => ok k ∧ some k ≠ v1.ownBlock) u xs := by
 refine R_mono (R_move (R_bound h) (fun k hk => hg.block k hk.2.2.1 hk.1.2)) (fun k hk => ⟨hk.1.1, ?_⟩)
 rcases hat with hat | ⟨b, hb, hle⟩
 ·rw [hat]; exact hk.1.2
 ·rw [hb]
  intro he
  injection he with he
  have := hk.2.2.1
  omega
theorem M_row {α : Type} {d : Kd α} {e base : Nat} {ok : Nat → Prop} {w : World} {v : Value} {xs : List α} (h : d.R e w base ok v xs) : (slice e d).M w base ok xs [v] := ⟨v, rfl, h⟩
end Kd
namespace Kd
section
variable {α β : Type} {d : Kd α} {d' : Kd β} {e e' : Nat} {w w1 W : World} {base b b' : Nat} {ok ok' okv oku : Nat → Prop} {v u : Value} {xs : List α} {ys : List β}
theorem R_drew (h : d.R e w base ok v xs) : d.R e w.drew base ok v xs := R_below h (zed (Below.refl _ _))
theorem R_drewN (h : d.R e w base ok v xs) (m : Nat) : d.R e (w.drewN m) base ok v xs := R_below h (zd (Below.refl _ _) m)
theorem R_reads' {A : Option Addr} {n c : Nat} (h : d.R e w base ok (.slice A n c) xs) : n = xs.length ∧ n ≤ c ∧ d.C w A xs.length xs := by
 obtain ⟨A', c', he, hl, hr⟩ := R_reads h
 injection he with h1 h2 h3
 subst h1
 exact ⟨h2, by omega, hr⟩
theorem R_lt (h : d.R e w base ok v xs) : ∀ k, v.ownBlock = some k → k < w.heap.size := by
 obtain ⟨inner, ho⟩ := R_own h
 exact own_lt ho
theorem R_base (h : d.R e w base ok v xs) : ∀ k, v.ownBlock = some k → base ≤ k := by
 obtain ⟨inner, ho⟩ := R_own h
 exact own_base ho
theorem R_form (h : d.R e w base ok v xs) (hp : 0 < xs.length) : ∃ g cap, v = .slice (some ⟨g, 0, none⟩) xs.length cap ∧ base ≤ g ∧ g < w.heap.size ∧ ∃ cells, w.heap[g]? = some (.cells cells e (0, 0)) := by
 obtain ⟨inner, ho⟩ := R_own h
 obtain ⟨g, cap, he, hb, hl⟩ := ho.form hp
 obtain ⟨cells, hc⟩ := zvi ho g (by rw [he]; simp [Value.ownBlock])
 exact ⟨g, cap, he, hb, hl, cells, hc⟩
end
section
variable {w W : World} {A : Option Addr} {n : Nat}
theorem at_int {k : IntKind} {xs : List Int} (h : (Kd.int k).C w A n xs) (i : Int) (h0 : 0 ≤ i) (h1 : i < n) : ∃ ad, A = some ad ∧ w.cell? (ad.add i.toNat) = some (.int k (rd xs i)) :=
 zvd.at_ (reads_of_C (enc := Value.int k) (d := (0 : Int)) (h1 := fun _ => rfl) h) i h0 h1
theorem at_string {xs : List ByteArray} (h : Kd.string.C w A n xs) (i : Int) (h0 : 0 ≤ i) (h1 : i < n) : ∃ ad, A = some ad ∧ w.cell? (ad.add i.toNat) = some (.string (rdOf ByteArray.empty xs i)) :=
 zvd.at_ (reads_of_C (enc := Value.string) (d := ByteArray.empty) (h1 := fun _ => rfl) h) i h0 h1
variable {α : Type} {enc : α → Value} {h1 : ∀ x, (enc x).oneCell' = true} {e base g cap : Nat} {ok : Nat → Prop} {xs : List α}
theorem R_cell (d : α) (h : (scalar enc h1).R e W base ok (.slice (some ⟨g, 0, none⟩) xs.length cap) xs) (i : Int) (h0 : 0 ≤ i) (hi : i < xs.length) : W.cell? ⟨g, i.toNat, none⟩ = some (enc (rdOf d xs i)) ∧ W.frozen? ⟨g, i.toNat, none⟩ = false := own_at_of (own_of_R h) i h0 hi
theorem R_put (h : (scalar enc h1).R e W base ok (.slice (some ⟨g, 0, none⟩) xs.length cap) xs) (i : Int) (x : α) : (scalar enc h1).R e (W.setCell ⟨g, i.toNat, none⟩ (enc x)) base ok (.slice (some ⟨g, 0, none⟩) xs.length cap) (xs.set i.toNat x) ∧ W.grownBy (W.setCell ⟨g, i.toNat, none⟩ (enc x)) (some g) := by
 obtain ⟨ho, hg⟩ := own_store_of (own_of_R h) i x
 exact ⟨R_of_own (by rw [List.length_set]; exact ho) h.1, hg⟩
end
section
variable {P : Program} {ops : Array Oper} {rest : List Oper} {o : Oper} {a : Act} {Q : Exit → Act → World → Prop}
theorem event_run {W w1 : World} {v : Value} (hgd : o.guard = none) (hrun : (execOp a.eval o).run P W = .ok (.value v) w1) (h : wpList P ops Q rest (a.put o.dst v) w1) : wpList P ops Q (o :: rest) a W := by
 refine wpList_plain hgd fun K hK => ?_
 unfold Oper.wp
 rw [hrun]
 exact hK _ _ h
variable {α : Type}
theorem R_lit (d : Kd α) {w0 W : World} (base e : Nat) (hgd : o.guard = none) {N : Tmp} (_hd : o.dst = some N) {xs : List α} {inner : List Value} {ok okp : Nat → Prop}
  (hrun : (execOp a.eval o).run P W = .ok (.value (.slice (some ⟨W.heap.size, 0, none⟩) xs.length xs.length)) (W.alloc (.cells inner.toArray e)))
  (hrep : Reps (d.M W base okp) d.sz xs inner) (hok : ∀ k, okp k → ok k) (hfresh : ok W.heap.size) (HB : Below base w0 W) (hbase : base ≤ W.heap.size) (hm : xs.length ≤ 9223372036854775807)
  (h : ∀ v1 w1, d.R e w1 base ok v1 xs → Below base w0 w1 → W.grownBy w1 none → (∃ b, v1.ownBlock = some b ∧ W.heap.size ≤ b) → wpList P ops Q rest (a.put o.dst v1) w1) : wpList P ops Q (o :: rest) a W := by
 refine event_run hgd hrun (h _ _ ⟨fun k hk => ?_, inner, ?_, ?_⟩ (HB.alloc hbase _) (World.grownBy_alloc W _ none) ⟨W.heap.size, by simp [Value.ownBlock], Nat.le_refl _⟩)
 ·have : W.heap.size = k := by simpa [Value.ownBlock] using hk
  subst this
  exact hfresh
 ·have h2 := World.ownsRow_lit (base := base) (e := e) (size := d.sz) W inner.toArray xs.length hbase (by simpa [maxLen] using hm) (by simpa using hrep.1)
  simpa using h2
 ·refine hrep.imp_ (fun p c hp => d.M_mono (fun k hk => ⟨hok k hk.1, fun he => ?_⟩) (M_below (d.M_bound hp) (zj (Below.refl _ _) _)))
  have h3 : k = W.heap.size := by simpa [Value.ownBlock] using he
  have := hk.2.2.1
  omega
theorem reps_made {α : Type} {R : α → List Value → Prop} {z : Value} {size : Nat} {z0 : α} (hz : z.cells.size = size) (hs : 0 < size) (h0 : R z0 z.cells.toList) (m : Nat) : Reps R size (List.replicate m z0) (madeCells z.cells (m * size)).toList := by
 refine ⟨by simp [size_madeCells], fun j p hj => ?_⟩
 obtain ⟨hjl, hp⟩ := List.getElem?_eq_some_iff.1 hj
 have hjm : j < m := by simpa using hjl
 have hp' : z0 = p := by simpa using hp
 subst hp'
 have hle : j * size + size ≤ m * size := by rw [← Nat.succ_mul]; exact Nat.mul_le_mul_right _ hjm
 have : ((madeCells z.cells (m * size)).toList.drop (j * size)).take size = z.cells.toList := by
  apply List.ext_getElem
  ·simp [size_madeCells, hz]
   omega
  ·intro i h1 h2
   have hi : i < size := by rw [Array.length_toList, hz] at h2; exact h2
   have hmod : (j * size + i) % size = i := by
    rw [Nat.mul_comm, Nat.mul_add_mod]
    exact Nat.mod_eq_of_lt hi
   simp [madeCells, hz, hmod]
   rw [getElem!_pos z.cells i (by omega)]
 rw [this]
 exact h0
theorem R_make (d : Kd α) {w0 W : World} (base e : Nat) (hgd : o.guard = none) {N : Tmp} (hd : o.dst = some N) (t : TypeId) (x y : Operand) (ho : o.op = .makeSlice t x y) (n : Int) (hx : a.eval x = .int .i64 n) (hy : a.eval y = .int .i64 n)
  (ht : P.underlying t = some (.slice e)) (z : Value) (bytes : Nat) (hinfo : (P.info? e).map (fun i => (i.zero, i.size, i.bytes)) = some (some z, d.sz, bytes)) (hz : z.cells.size = d.sz) (hs0 : 0 < d.sz) (hb0 : 0 < bytes)
  (z0 : α) {ok okp : Nat → Prop} (hzero : d.M W base okp z0 z.cells.toList) (hok : ∀ k, okp k → ok k) (hfresh : ok W.heap.size) (h0 : 0 ≤ n) (hl : n.toNat * bytes ≤ 281474976710656) (HB : Below base w0 W) (hbase : base ≤ W.heap.size)
  (h : ∀ v1 w1, d.R e w1 base ok v1 (List.replicate n.toNat z0) → Below base w0 w1 → W.grownBy w1 none → (∃ b, v1.ownBlock = some b ∧ W.heap.size ≤ b) → wpList P ops Q rest (a.put o.dst v1) w1) : wpList P ops Q (o :: rest) a W := by
 obtain ⟨m, rfl⟩ := Int.eq_ofNat_of_zero_le h0
 simp only [Int.toNat_natCast] at hl h
 obtain ⟨i0, hi, hzz⟩ := Option.map_eq_some_iff.1 hinfo
 simp only [Prod.mk.injEq] at hzz
 obtain ⟨hz0, hz1, hz2⟩ := hzz
 have hm : m ≤ 281474976710656 := Nat.le_trans (Nat.le_mul_of_pos_right _ hb0) hl
 have hr := run_make (P := P) W t e i0 z ht hi hz0 .i64 .i64 (m : Int) (m : Int) (by omega) (by omega)
  (by
   have h3 : ((i0.bytes * m : Nat) : Int) ≤ 281474976710656 := by rw [hz2, Nat.mul_comm]; omega
   rwa [Int.natCast_mul] at h3) (by omega)
 simp only [Int.toNat_natCast] at hr
 rw [hz1] at hr
 refine R_lit d base e hgd hd (xs := List.replicate m z0) (inner := (madeCells z.cells (m * d.sz)).toList) (okp := okp) (ok := ok) ?_ (reps_made hz hs0 hzero m) hok hfresh HB hbase (by simp; omega) h
 simp [execOp, ho, hx, hy, hr]
end
end Kd
section
variable {P : Program}
end
def QRow (w : World) (base : Nat) (e : TypeId) (size : Nat) (v : Value) (n : Nat) (xs : List Value) : Prop :=
 xs.length = n * size ∧
 ((n = 0 ∧ ∃ A, v = .slice A 0 0 ∧ ∀ a, A = some a → base ≤ a.block ∧ ∃ cur, w.heap[a.block]? = some (.cells cur e (0, 0))) ∨
  ∃ g off cap cur, v = .slice (some ⟨g, off * size, none⟩) n cap ∧ base ≤ g ∧ w.heap[g]? = some (.cells cur e (0, 0)) ∧ n ≤ cap ∧ off + cap ≤ maxLen ∧ cur.size = (off + cap) * size ∧ (cur.toList.drop (off * size)).take (n * size) = xs)
section
variable {w w1 : World} {base n size : Nat} {e : TypeId} {v : Value} {xs : List Value}
end
section
variable {P : Program}
end
namespace Kd
def Q {α : Type} (d : Kd α) (e : Nat) (w : World) (base : Nat) (ok : Nat → Prop) (v : Value) (xs : List α) : Prop :=
 (∀ k, v.ownBlock = some k → ok k) ∧ ∃ inner, QRow w base e d.sz v xs.length inner ∧ Reps (d.M w base (fun k => ok k ∧ some k ≠ v.ownBlock)) d.sz xs inner
section
variable {α : Type} {d : Kd α} {e : Nat} {w w1 W : World} {base : Nat} {ok ok' : Nat → Prop} {v : Value} {xs : List α}
end
section
variable {P : Program} {ops : Array Oper} {rest : List Oper} {o : Oper} {a : Act} {Q' : Exit → Act → World → Prop} {Kc : Act → World → Prop} {α : Type}
end
end Kd
namespace Kd
section
variable {α : Type} {d : Kd α} {e e' : Nat} {w w1 W : World} {base : Nat} {ok : Nat → Prop} {u v : Value} {xs : List α}
theorem R_typed (h : d.R e w base ok v xs) : ∀ k, v.ownBlock = some k → ∃ cells, w.heap[k]? = some (.cells cells e (0, 0)) := by
 obtain ⟨inner, ho⟩ := R_own h
 exact fun k hk => zvi ho k hk
theorem R_over' (h : d.R e W base ok u xs) (hty : ∀ k, v.ownBlock = some k → ∃ cells, W.heap[k]? = some (.cells cells e' (0, 0))) (ht : ∀ q, q ∈ e :: d.E → q ≠ e') (hg : W.grownBy w1 v.ownBlock) : d.R e w1 base ok u xs := by
 refine R_mono (R_move (R_bound h) (fun k hk => hg.block k hk.2.2.1 (fun he => ?_))) (fun _ hk => hk.1)
 obtain ⟨_, _, _, q, hq, cells, hc⟩ := hk
 obtain ⟨cells', hc'⟩ := hty k he.symm
 rw [hc] at hc'
 injection hc' with hc'
 injection hc' with _ hc'
 exact ht q hq hc'
theorem R_apart' (h : d.R e W base ok u xs) (hty : ∀ k, v.ownBlock = some k → ∃ cells, W.heap[k]? = some (.cells cells e' (0, 0))) (ht : ∀ q, q ∈ e :: d.E → q ≠ e') : d.R e W base (fun k => ok k ∧ some k ≠ v.ownBlock) u xs := by
 refine R_mono (R_bound h) (fun k hk => ⟨hk.1, fun he => ?_⟩)
 obtain ⟨_, _, _, q, hq, cells, hc⟩ := hk
 obtain ⟨cells', hc'⟩ := hty k he.symm
 rw [hc] at hc'
 injection hc' with hc'
 injection hc' with _ hc'
 exact ht q hq hc'
theorem R_elder' (hu : d.R e W base ok u xs) (hbase : ∀ k, v.ownBlock = some k → W.heap.size ≤ k) (hb : Below W.heap.size W w1) : d.R e w1 base (fun k => ok k ∧ some k ≠ v.ownBlock) u xs :=
 R_mono (R_move (R_bound hu) (fun k hk => hb.block k hk.2.2.1)) (fun k hk => ⟨hk.1, fun he => by have := hbase k he.symm; have := hk.2.2.1; omega⟩)
theorem R_new' (h : d.R e w1 W.heap.size ok v xs) (hlt : ∀ k, u.ownBlock = some k → k < W.heap.size) : d.R e w1 W.heap.size (fun k => ok k ∧ some k ≠ u.ownBlock) v xs :=
 R_mono (R_bound h) (fun k hk => ⟨hk.1, fun he => by have := hlt k he.symm; have := hk.2.1; omega⟩)
theorem fresh' (hlt : ∀ k, u.ownBlock = some k → k < W.heap.size) : ∀ k, W.heap.size ≤ k → some k ≠ u.ownBlock := fun k hk he => by have := hlt k he.symm; omega
end
end Kd
namespace Kd
section
variable {α : Type} {d : Kd α} {e base g n cap : Nat} {ok okp : Nat → Prop} {W : World} {xs : List α}
theorem R_elem (h : d.R e W base ok (.slice (some ⟨g, 0, none⟩) n cap) xs) (z : α) (i : Int) (h0 : 0 ≤ i) (h1 : i < n) :
  ∃ c, c.length = d.sz ∧ d.M W base (fun k => ok k ∧ k ≠ g) (xs.getD i.toNat z) c ∧ (∀ j u, c[j]? = some u → W.cell? ⟨g, i.toNat * d.sz + j, none⟩ = some u) ∧ ∀ j, W.frozen? ⟨g, i.toNat * d.sz + j, none⟩ = false := by
 obtain ⟨hn, hnc, hC⟩ := R_reads' h
 obtain ⟨_, inner, ho, hr⟩ := h
 have hil : i.toNat < xs.length := by omega
 have hseg : i.toNat * d.sz + d.sz ≤ inner.length := by rw [hr.1, ← Nat.succ_mul]; exact Nat.mul_le_mul_right _ hil
 have hM := hr.2 i.toNat _ (List.getElem?_eq_getElem hil)
 refine ⟨(inner.drop (i.toNat * d.sz)).take d.sz, by rw [List.length_take, List.length_drop]; omega, ?_, fun j u hu => ?_, fun j => ?_⟩
 ·rw [List.getD_eq_getElem?_getD, List.getElem?_eq_getElem hil]
  exact d.M_mono (fun k hk => ⟨hk.1, fun he => hk.2 (by rw [he]; simp [Value.ownBlock])⟩) hM
 ·rw [List.getElem?_take] at hu
  split at hu
  ·rw [List.getElem?_drop] at hu
   have := ho.cells (g := g) (by simp [Value.ownBlock]) _ u hu
   rwa [add_plain] at this
  ·cases hu
 ·obtain ⟨cells, hc⟩ := zvi ho g (by simp [Value.ownBlock])
  exact zz hc _
end
end Kd
namespace Kd
section
variable {α : Type} {F : Kd α → Kd α} {sz : Nat} {E : List Nat} {hs : ∀ n, (upto F sz E n).sz = sz} {hE : ∀ n q, q ∈ (upto F sz E n).E → q ∈ E}
end
end Kd
namespace Kd
section
variable {P : Program} {ops : Array Oper} {rest : List Oper} {o : Oper} {a : Act} {Q : Exit → Act → World → Prop} {α : Type}
end
end Kd
namespace Kd
section
variable {P : Program} {ops : Array Oper} {rest : List Oper} {o : Oper} {a : Act} {Q : Exit → Act → World → Prop} {α : Type}
end
end Kd
namespace Kd
section
variable {α : Type} {k : Kd α} {w : World} {A : Option Addr} {xs : List α} {m c : Nat}
end
end Kd
section
variable {P : Program}
end
theorem string_of_reads {P : Program} {w : World} {src dst e : TypeId} {A : Option Addr} {n c : Nat} {xs : List Int} (hs : P.underlying src = some (.slice e)) (he : P.underlying e = some (.int .u8)) (hd : P.underlying dst = some .string)
  (h : zsh w .u8 A n xs) : (convert src dst (.slice A n c)).run P w = .ok (.string (strOfNums xs)) w := by
 have hn : xs.length = n := h.1
 rcases A with _ | ad
 ·have h0 : n = 0 := by
   rcases Nat.eq_zero_or_pos n with h0 | h0
   ·exact h0
   ·obtain ⟨ad, h', _⟩ := h.2.2 h0
    cases h'
  subst h0
  obtain rfl : xs = [] := List.eq_nil_of_length_eq_zero hn
  exact run_convert_bytes_nil w src e hs he 0 c dst hd
 ·have hl : (loadCells ad n).run P w = .ok (xs.map (Value.int .u8)).toArray w := by
   have := run_loadCells_list (P := P) w ad (xs.map (Value.int .u8)) (fun j v hj => by
    have hjl : j < xs.length := by
     rcases Nat.lt_or_ge j xs.length with h' | h'
     ·exact h'
     ·rw [List.getElem?_eq_none (by rw [List.length_map]; exact h')] at hj
      cases hj
    obtain ⟨ad', he', hc⟩ := h.2.2 (by omega)
    injection he' with he'
    subst he'
    rw [hc j (by omega)]
    rw [List.getElem?_map, List.getElem?_eq_getElem hjl] at hj
    simp at hj
    subst hj
    simp [List.getD_eq_getElem?_getD, List.getElem?_eq_getElem hjl])
   simpa [hn] using this
  rw [run_convert_bytes_string w src dst e _ n c hs he hd, run_bytesToString w ad n c xs hl, foldl_push_bytes]
  simp [strOfNums, ByteArray.empty, ByteArray.emptyWithCapacity]
  rfl
theorem zm {w W : World} (h : Below w.heap.size w W) : w.heap.size ≤ W.heap.size := h.size
theorem zib {w W w2 : World} (h : Below w.heap.size w W) (k : Below W.heap.size W w2) : Below w.heap.size w w2 := zfb h h.size k
theorem zl {w W : World} {g j : Nat} {v : Value} (h : Below w.heap.size w W) (hg : w.heap.size ≤ g) : Below w.heap.size w (W.setCell ⟨g, j, none⟩ v) := h.setCell hg _
theorem add_block (a : Addr) (i : Nat) : (a.add i).block = a.block := by unfold Addr.add; split <;> rfl
theorem cell_far {W : World} {p a : Addr} (h : a.block ≠ p.block) (u : Value) : (W.setCell p u).cell? a = W.cell? a := by
 have := Below.heap_setCell W p u a.block h
 simp [World.cell?, this]
theorem zq {w : World} {g : Nat} {t : TypeId} {cs cs' : Array Value} (h : w.heap[g]? = some (.cells cs t (0, 0))) (i : Nat) (u : Value) (e : cs.setIfInBounds i u = cs') : (w.setCell ⟨g, i, none⟩ u).heap[g]? = some (.cells cs' t (0, 0)) := e ▸ blk_set h i u
theorem zab {base : Nat} {w W : World} (h : Below base w W) : Below base w W.drew := h.drew
namespace Kd
section
variable {α β : Type} {d : Kd α} {d' : Kd β} {e e' base base' n : Nat} {ok ok' : Nat → Prop} {w W w1 W1 : World} {v u : Value} {xs : List α} {ys : List β} {A : Option Addr} {c : Nat}
end
section
variable {α : Type} {enc : α → Value} {h1 : ∀ x, (enc x).oneCell' = true} {w W : World} {A : Option Addr} {n g : Nat} {xs : List α}
end
end Kd
namespace Kd
section
variable {α : Type} {d : Kd α} {e base g : Nat} {ok : Nat → Prop} {w w1 : World} {v : Value} {xs : List α} {o : Obj}
end
end Kd
section
variable {P : Program} {ops : Array Oper} {rest : List Oper} {o : Oper} {a : Act} {Q : Exit → Act → World → Prop}
theorem zzb {W : World} (hgd : o.guard = none) {N : Tmp} (_hd : o.dst = some N) {cs : Array Value} {t : TypeId}
  (hrun : (execOp a.eval o).run P W = .ok (.value (.pointer (some ⟨W.heap.size, 0, none⟩))) (W.alloc (.cells cs t (0, 0))))
  (h : ∀ g, g = W.heap.size → ∀ w1, w1.heap[g]? = some (.cells cs t (0, 0)) → Below W.heap.size W w1 → wpList P ops Q rest (a.put o.dst (.pointer (some ⟨g, 0, none⟩))) w1) : wpList P ops Q (o :: rest) a W :=
 Kd.event_run hgd hrun (h _ rfl _ (zvc W _) (zj (Below.refl _ _) _))
end
namespace Kd
section
variable {α : Type} {enc : α → Value} {h1 : ∀ x, (enc x).oneCell' = true} {e base g n cap : Nat} {ok : Nat → Prop} {W : World} {xs : List α}
theorem R_celln (d : α) (h : (scalar enc h1).R e W base ok (.slice (some ⟨g, 0, none⟩) n cap) xs) (i : Int) (h0 : 0 ≤ i) (hi : i < n) : W.cell? ⟨g, i.toNat, none⟩ = some (enc (rdOf d xs i)) ∧ W.frozen? ⟨g, i.toNat, none⟩ = false := by
 obtain ⟨rfl, _⟩ := R_reads' h
 exact R_cell d h i h0 hi
end
end Kd
section
variable {P : Program} {ops : Array Oper} {rest : List Oper} {o : Oper} {a : Act} {Q : Exit → Act → World → Prop}
theorem store_event {W w1 : World} (hgd : o.guard = none) {t : TypeId} {p : Tmp} {v : Operand} (_ho : o.op = .store t (.tmp p) v) (hN : o.dst = none)
  (hrun : (execOp a.eval o).run P W = .ok .skip w1) (h : ∀ w', w' = w1 → wpList P ops Q rest a w') : wpList P ops Q (o :: rest) a W := by
 refine wpList_plain hgd fun K hK => ?_
 unfold Oper.wp
 rw [hrun]
 show K (a.put o.dst undef) w1
 rw [hN]
 exact hK _ _ (h _ rfl)
end
namespace Kd
section
variable {α : Type} {enc : α → Value} {h1 : ∀ x, (enc x).oneCell' = true} {e base g n cap : Nat} {ok : Nat → Prop} {W : World} {xs : List α}
theorem R_putg (h : (scalar enc h1).R e W base ok (.slice (some ⟨g, 0, none⟩) n cap) xs) (i : Int) (x : α) : (scalar enc h1).R e (W.setCell ⟨g, i.toNat, none⟩ (enc x)) base ok (.slice (some ⟨g, 0, none⟩) n cap) (xs.set i.toNat x) ∧ W.grownBy (W.setCell ⟨g, i.toNat, none⟩ (enc x)) (some g) := by
 obtain ⟨rfl, _⟩ := R_reads' h
 exact R_put h i x
end
end Kd
section
variable {P : Program} {ops : Array Oper} {rest : List Oper} {o : Oper} {a : Act} {Q : Exit → Act → World → Prop} {W : World}
theorem znb {N : Tmp} (_hN : o.dst = some N) (h : wpList P ops Q (o :: rest) a W) : wpList P ops Q (o :: rest) a W := h
theorem gate_store {t : TypeId} {p : Tmp} {v : Operand} (_ho : o.op = .store t (.tmp p) v) (h : wpList P ops Q (o :: rest) a W) : wpList P ops Q (o :: rest) a W := h
end
section
variable {P : Program} {ops : Array Oper} {o : Oper} {a : Act} {Q : Exit → Act → World → Prop} {Kc : Act → World → Prop}
theorem event_step {W w1 : World} {v : Value} (hw : Region.wanted o (yielded ops a.tmps) = true) (hrun : (execOp a.eval o).run P W = .ok (.value v) w1) (h : Kc (a.put o.dst v) w1) : if Region.wanted o (yielded ops a.tmps) = true then Oper.wp P o a W Kc Q else Kc (a.put o.dst undef) W := by
 rw [if_pos hw]
 unfold Oper.wp
 rw [hrun]
 exact h
namespace Kd
variable {α : Type}
theorem R_lit_step (d : Kd α) {w0 W : World} (base e : Nat) (hw : Region.wanted o (yielded ops a.tmps) = true) {N : Tmp} (_hd : o.dst = some N) {xs : List α} {inner : List Value} {ok okp : Nat → Prop}
  (hrun : (execOp a.eval o).run P W = .ok (.value (.slice (some ⟨W.heap.size, 0, none⟩) xs.length xs.length)) (W.alloc (.cells inner.toArray e)))
  (hrep : Reps (d.M W base okp) d.sz xs inner) (hok : ∀ k, okp k → ok k) (hfresh : ok W.heap.size) (HB : Below base w0 W) (hbase : base ≤ W.heap.size) (hm : xs.length ≤ 9223372036854775807)
  (h : ∀ v1 w1, d.R e w1 base ok v1 xs → Below base w0 w1 → W.grownBy w1 none → (∃ b, v1.ownBlock = some b ∧ W.heap.size ≤ b) → Kc (a.put o.dst v1) w1) : if Region.wanted o (yielded ops a.tmps) = true then Oper.wp P o a W Kc Q else Kc (a.put o.dst undef) W := by
 refine event_step hw hrun (h _ _ ⟨fun k hk => ?_, inner, ?_, ?_⟩ (HB.alloc hbase _) (World.grownBy_alloc W _ none) ⟨W.heap.size, by simp [Value.ownBlock], Nat.le_refl _⟩)
 ·have : W.heap.size = k := by simpa [Value.ownBlock] using hk
  subst this
  exact hfresh
 ·have h2 := World.ownsRow_lit (base := base) (e := e) (size := d.sz) W inner.toArray xs.length hbase (by simpa [maxLen] using hm) (by simpa using hrep.1)
  simpa using h2
 ·refine hrep.imp_ (fun p c hp => d.M_mono (fun k hk => ⟨hok k hk.1, fun he => ?_⟩) (M_below (d.M_bound hp) (zj (Below.refl _ _) _)))
  have h3 : k = W.heap.size := by simpa [Value.ownBlock] using he
  have := hk.2.2.1
  omega
end Kd
end
section
variable {P : Program} {tmps : Array Value} {w : World}
end
namespace Kd
section
variable {P : Program} {α : Type}
end
section
variable {P : Program} {ops : Array Oper} {rest : List Oper} {o : Oper} {a : Act} {Q : Exit → Act → World → Prop} {Kc : Act → World → Prop} {α : Type}
end
end Kd
end Go.Proofs.YtapaijpglfmfgaaGreatDoorW.PrintWords
end
section
namespace Go.Proofs.YtapaijpglfmfgaaGreatDoorH
open Go.RowKit YtapaijpglfmfgaaGreatDoorW.PrintWords
theorem zxg (l : List UInt8) : (l != []) = !l.isEmpty := by cases l <;> rfl
theorem zti : ∀ a b : List UInt8, (!(Op.bytesLess a b || a == b)) = Op.bytesLess b a
 | [], [] => by simp [Op.bytesLess]
 | [], y :: b => by simp [Op.bytesLess]
 | x :: a, [] => by simp [Op.bytesLess]
 | x :: a, y :: b => by
  have ih := zti a b
  simp only [Op.bytesLess]
  by_cases h1 : x < y
  ·have h2 : ¬ y < x := fun h => by rw [UInt8.lt_iff_toNat_lt] at h1 h; omega
   have h3 : (y == x) = false := by rw [beq_eq_false_iff_ne]; intro e; rw [e, UInt8.lt_iff_toNat_lt] at h1; omega
   simp [h1, h2, h3]
  ·by_cases h2 : y < x
   ·have h3 : (x == y) = false := by rw [beq_eq_false_iff_ne]; intro e; rw [e, UInt8.lt_iff_toNat_lt] at h2; omega
    have h4 : ((x :: a) == (y :: b)) = false := by rw [beq_eq_false_iff_ne]; intro e; injection e with e _; rw [e] at h3; simp at h3
    simp [h1, h2, h3, h4]
   ·have e : x = y := by rw [← UInt8.toNat_inj]; rw [UInt8.lt_iff_toNat_lt] at h1 h2; omega
    subst e
    have h5 : ((x :: a) == (x :: b)) = (a == b) := by simp
    rw [h5]
    simp [h1]
    simpa using ih
theorem zki {P : Program} (W : World) (t : TypeId) (a b : ByteArray) : (binOp .gtr t (.string a) (.string b)).run P W = .ok (.bool (Op.bytesLess b.toList a.toList)) W := by
 have h : binOp .gtr t (.string a) (.string b) = pure (.bool !(Op.bytesLess a.toList b.toList || a.toList == b.toList)) := by simp [binOp, Op.stringOp]
 rw [h, zti]
 rfl
section
variable {P : Program} {ops : Array Oper} {rest : List Oper} {o : Oper} {a : Act} {K : Act → World → Prop} {Q : Exit → Act → World → Prop}
end
section
variable {P : Program} {ops : Array Oper} {rest : List Oper} {o : Oper} {a : Act} {Q : Exit → Act → World → Prop}
theorem zce {W : World} (hgd : o.guard = none) {N : Tmp} (_hd : o.dst = some N) {v v' : Value} (hrun : (execOp a.eval o).run P W = .ok (.value v) W) (e : v = v')
  (h : wpList P ops Q rest (a.put o.dst v') W) : wpList P ops Q (o :: rest) a W := by
 subst e
 exact Kd.event_run hgd hrun h
end
def Buf (w : World) (g : Nat) (e : TypeId) (l : List Int) : Prop :=
 ∃ (cs : Array Value) (m : Nat), w.heap[g]? = some (.cells cs e (m, m + 1)) ∧ cs.size = m ∧ l.length ≤ m ∧ ∀ j, j < l.length → cs[j]? = some (.int .u8 (l.getD j 0))
theorem Buf.cell {w : World} {g : Nat} {e : TypeId} {l : List Int} (h : Buf w g e l) (i : Nat) (hi : i < l.length) : w.cell? ⟨g, i, none⟩ = some (.int .u8 (l.getD i 0)) := by
 obtain ⟨cs, m, h1, h2, h3, h4⟩ := h
 simp [World.cell?, h1, h4 i hi]
theorem Buf.reads {w : World} {g : Nat} {e : TypeId} {l : List Int} (h : Buf w g e l) (hl : l.length ≤ 9223372036854775807) : zsh w .u8 (some ⟨g, 0, none⟩) l.length l := by
 refine ⟨rfl, hl, fun _ => ⟨_, rfl, fun j hj => ?_⟩⟩
 rw [add_plain]
 exact h.cell j hj
def zke.f (a0 a1 : ByteArray) : Option Int := some (Lib.compareBytes a0.data.toList a1.data.toList)
theorem bytealg_CompareString (a b : ByteArray) (w : World) :
  Calls Tryz.prog 85 #[.string a, .string b] w fun e w' => e = .returned (.int .i64 (Lib.compareBytes a.data.toList b.data.toList)) ∧ w' = w := by
 go_enter Tryz.func85, Tryz.ntmps85
 go_wp2
 rw [run_callFunc_extern Tryz.func97 (by kernel_rfl) (by kernel_rfl) (by kernel_rfl) (e := Extern.BytealgCompare.compare) (by kernel_rfl), Lib.run_compareString]
 simp only [Result.andThen]
 rw [Oper.upon_value]
 go_wp2
 go_ret
 exact ⟨rfl, rfl⟩
theorem zke.calls (a0 a1 : ByteArray) (r : Int) (w : World) (h : zke.f a0 a1 = some r) :
  Calls Tryz.prog 69 #[.string a0, .string a1] w fun e w' => e = .returned (.int .i64 r) ∧ zn w w' := by
 obtain rfl := Option.some.inj h
 go_enter Tryz.func69, Tryz.ntmps69
 go_wp2_with (go_at_call 85; refine (bytealg_CompareString _ _ _).mono ?_; rintro e w' ⟨rfl, rfl⟩)
 go_ret
 exact ⟨rfl, zn.refl _⟩
end Go.Proofs.YtapaijpglfmfgaaGreatDoorH
end
section
namespace Go.Proofs.YtapaijpglfmfgaaGreatDoorW.PrintLast
section
variable {P : Program} {ops : Array Oper} {Q : Exit → Act → World → Prop} {md : Region.Mode} {S : World → Prop} {ds : List Nat}
def Region.reachB (md : Region.Mode) (ops : Array Oper) (i : Nat) : Nat → Nat → Bool
 | 0, _ => false
 | fuel + 1, d => match ops[d]? with
  | some o => o.after.any fun e => Region.binds md e && (e.on == i || Region.reachB md ops i fuel e.on)
  | none => false
def Region.closedB (md : Region.Mode) (ops : Array Oper) (listed : Array Bool) : Bool :=
 (List.range ops.size).all fun j => !listed.getD j false || match ops[j]? with
  | some o => o.after.all fun e => !Region.binds md e || listed.getD e.on false
  | none => true
def Region.lastB (md : Region.Mode) (ops : Array Oper) (listed : Array Bool) (ds : List Nat) (i : Nat) : Bool :=
 ds.all fun d => listed.getD d true || Region.reachB md ops i ops.size d
def zle (md : Region.Mode) (ops : Array Oper) (listed : Array Bool) : Prop :=
 ∀ j oj, ops[j]? = some oj → listed.getD j false = true → ∀ e ∈ oj.after, Region.binds md e = true → listed.getD e.on false = true
theorem Region.closedB_spec {listed : Array Bool} (h : Region.closedB md ops listed = true) : zle md ops listed := by
 intro j oj hj hl e he hb
 have hlt : j < ops.size := (Array.getElem?_eq_some_iff.1 hj).1
 have h1 := List.all_eq_true.1 h j (List.mem_range.2 hlt)
 simp only [hl, hj, Bool.not_true, Bool.false_or] at h1
 have h2 := Array.all_eq_true_iff_forall_mem.1 h1 e he
 simpa [hb] using h2
theorem zle.set {listed : Array Bool} {i : Nat} (h : zle md ops listed) (hi : i ∈ Region.ready md ops listed) : zle md ops (listed.setIfInBounds i true) := by
 obtain ⟨_, oi, hoi, hall⟩ := mem_ready.1 hi
 intro j oj hj hl e he hb
 by_cases hij : i = j
 ·subst hij
  have : oj = oi := Option.some.inj (hj.symm.trans hoi)
  subst this
  exact getD_set_true (hall e he hb)
 ·rw [getD_set_ne false hij] at hl
  exact getD_set_true (h j oj hj hl e he hb)
theorem Region.reach_listed {listed : Array Bool} {i : Nat} (hc : zle md ops listed) : ∀ (fuel d : Nat), Region.reachB md ops i fuel d = true → listed.getD d false = true → listed.getD i false = true
 | 0, _, h, _ => by simp [Region.reachB] at h
 | fuel + 1, d, h, hl => by
  unfold Region.reachB at h
  cases ho : ops[d]? with
  | none => rw [ho] at h; simp at h
  | some o =>
   rw [ho] at h
   obtain ⟨e, he, h1⟩ := Array.any_eq_true'.1 h
   simp only [Bool.and_eq_true, Bool.or_eq_true, beq_iff_eq] at h1
   have hle := hc d o ho hl e he h1.1
   rcases h1.2 with h2 | h2
   ·rw [← h2]; exact hle
   ·exact Region.reach_listed hc fuel e.on h2 hle
theorem Region.reach_not_ready {listed : Array Bool} {i d fuel : Nat} (hc : zle md ops listed) (hr : Region.reachB md ops i fuel d = true) (hun : listed.getD i true = false) : d ∉ Region.ready md ops listed := by
 intro hd
 obtain ⟨_, o, ho, hall⟩ := mem_ready.1 hd
 have hi : listed.getD i false = true := by
  cases fuel with
  | zero => simp [Region.reachB] at hr
  | succ n =>
   unfold Region.reachB at hr
   rw [ho] at hr
   obtain ⟨e, he, h1⟩ := Array.any_eq_true'.1 hr
   simp only [Bool.and_eq_true, Bool.or_eq_true, beq_iff_eq] at h1
   have hle := hall e he h1.1
   rcases h1.2 with h2 | h2
   ·rw [← h2]; exact hle
   ·exact Region.reach_listed hc n e.on h2 hle
 rcases Nat.lt_or_ge i listed.size with h' | h'
 ·simp [h'] at hun hi
  rw [hun] at hi
  cases hi
 ·simp [Array.getElem?_eq_none h'] at hun
def zhc (P : Program) (md : Region.Mode) (ops : Array Oper) (Q : Exit → Act → World → Prop) (S : World → Prop) (ds : List Nat) : Nat → Array Bool → Act → World → Prop
 | 0, listed, a, w => Region.ready md ops listed = [] ∧ Q .normal a w
 | fuel + 1, listed, a, w =>
  (Region.ready md ops listed = [] → Q .normal a w) ∧
  ∀ i ∈ Region.ready md ops listed, wpOp P ops Q i (fun a' w' => (i ∉ ds → S w → S w') ∧ zhc P md ops Q S ds fuel (listed.setIfInBounds i true) a' w') a w
theorem zqi : ∀ (fuel : Nat) (listed : Array Bool) (a : Act) (w : World), zhc P md ops Q S ds fuel listed a w → wpAny P md ops Q fuel listed a w
 | 0, _, _, _, h => h
 | fuel + 1, _, _, _, h => ⟨h.1, fun i hi => wpOp_mono (fun a' w' h' => zqi fuel _ a' w' h'.2) (h.2 i hi)⟩
theorem wpAnyLast_first {i : Nat} {oi : Oper} {v : Value} (hi : ops[i]? = some oi) (hsel : ∀ (j : Nat) (o : Oper) cs b, ops[j]? = some o → o.op ≠ .select cs b)
  (hQ : ∀ c a w, Q (.panic c) (a.put oi.dst v) w → Q (.panic c) a w) (n : Nat) :
  ∀ (fuel : Nat) (listed : Array Bool) (a : Act) (w : World),
   (∀ j oj, ops[j]? = some oj → j ≠ i → listed.getD j true = false → (∀ e ∈ oj.after, Region.binds md e = true → e.on ≠ i) → oi.apart ops oj = true) →
   zle md ops listed → (∀ d ∈ ds, listed.getD d true = false → Region.reachB md ops i n d = true) →
   i ∈ Region.ready md ops listed → YieldsIf P ops S oi v a → S w →
   zhc P md ops Q S ds fuel (listed.setIfInBounds i true) (a.put oi.dst v) w → zhc P md ops Q S ds (fuel + 1) listed a w := by
 intro fuel
 induction fuel with
 | zero =>
  intro listed a w _ _ _ hr hy hS H
  refine ⟨fun h => (by rw [h] at hr; cases hr), fun j hj => ?_⟩
  by_cases hji : j = i
  ·subst hji; exact hy.wpOp hi hS ⟨fun _ h => h, H⟩
  ·have := ready_mono hj hji
   rw [H.1] at this
   cases this
 | succ fuel ih =>
  intro listed a w hfree hc hd hr hy hS H
  refine ⟨fun h => (by rw [h] at hr; cases hr), fun j hj => ?_⟩
  by_cases hji : j = i
  ·subst hji; exact hy.wpOp hi hS ⟨fun _ h => h, H⟩
  ·have h1 := H.2 j (ready_mono hj hji)
   obtain ⟨hjun, oj, hoj, hall⟩ := mem_ready.1 hj
   have hiun := (mem_ready.1 hr).1
   have hnot : ∀ e ∈ oj.after, Region.binds md e = true → e.on ≠ i := fun e he hb heq => by
    have h1 := hall e he hb
    rw [heq] at h1
    rcases Nat.lt_or_ge i listed.size with h' | h'
    ·simp [h'] at hiun h1; rw [hiun] at h1; cases h1
    ·simp [Array.getElem?_eq_none h'] at h1
   have hjd : j ∉ ds := fun hm => Region.reach_not_ready hc (hd j hm hjun) hiun hj
   have h2 := wpOp_putIf hoj (hfree j oj hoj hji hjun hnot) (fun cs b => hsel i oi cs b hi) (fun cs b => hsel j oj cs b hoj) hQ hy h1
   have hfree' : ∀ k ok, ops[k]? = some ok → k ≠ i → (listed.setIfInBounds j true).getD k true = false →
     (∀ e ∈ ok.after, Region.binds md e = true → e.on ≠ i) → oi.apart ops ok = true := fun k ok hk hki hun hno => by
    refine hfree k ok hk hki ?_ hno
    by_cases hjk : j = k
    ·subst hjk; exact hjun
    ·rw [getD_set_ne true hjk] at hun; exact hun
   have hd' : ∀ d ∈ ds, (listed.setIfInBounds j true).getD d true = false → Region.reachB md ops i n d = true := fun d hm hun => by
    refine hd d hm ?_
    by_cases hjk : j = d
    ·subst hjk; exact hjun
    ·rw [getD_set_ne true hjk] at hun; exact hun
   refine wpOp_mono (fun a' w' h3 => ⟨h3.2.1, ih (listed.setIfInBounds j true) a' w' hfree' (hc.set hj) hd' (ready_mono hr (Ne.symm hji)) h3.1 (h3.2.1 hjd hS) ?_⟩) h2
   rw [Array.setIfInBounds_comm _ _ hji]
   exact h3.2.2
theorem wpAnyLast_any {i : Nat} {oi : Oper} {v : Value} (hi : ops[i]? = some oi) (hsel : ∀ (j : Nat) (o : Oper) cs b, ops[j]? = some o → o.op ≠ .select cs b)
  (hQ : ∀ c a w, Q (.panic c) (a.put oi.dst v) w → Q (.panic c) a w) :
  ∀ (fuel : Nat) (listed : Array Bool) (a : Act) (w : World),
   (∀ j oj, ops[j]? = some oj → j ≠ i → listed.getD j true = false → (∀ e ∈ oj.after, Region.binds md e = true → e.on ≠ i) → oi.apart ops oj = true) →
   i ∈ Region.ready md ops listed → Yields P ops oi v a →
   zhc P md ops Q S ds fuel (listed.setIfInBounds i true) (a.put oi.dst v) w → zhc P md ops Q S ds (fuel + 1) listed a w := by
 intro fuel
 induction fuel with
 | zero =>
  intro listed a w _ hr hy H
  refine ⟨fun h => (by rw [h] at hr; cases hr), fun j hj => ?_⟩
  by_cases hji : j = i
  ·subst hji; exact (hy.yieldsIf (S := fun _ => True)).wpOp hi trivial ⟨fun _ h => h, H⟩
  ·have := ready_mono hj hji
   rw [H.1] at this
   cases this
 | succ fuel ih =>
  intro listed a w hfree hr hy H
  refine ⟨fun h => (by rw [h] at hr; cases hr), fun j hj => ?_⟩
  by_cases hji : j = i
  ·subst hji; exact (hy.yieldsIf (S := fun _ => True)).wpOp hi trivial ⟨fun _ h => h, H⟩
  ·have h1 := H.2 j (ready_mono hj hji)
   obtain ⟨hjun, oj, hoj, hall⟩ := mem_ready.1 hj
   have hiun := (mem_ready.1 hr).1
   have hnot : ∀ e ∈ oj.after, Region.binds md e = true → e.on ≠ i := fun e he hb heq => by
    have h1 := hall e he hb
    rw [heq] at h1
    rcases Nat.lt_or_ge i listed.size with h' | h'
    ·simp [h'] at hiun h1; rw [hiun] at h1; cases h1
    ·simp [Array.getElem?_eq_none h'] at h1
   have h2 := wpOp_put hoj (hfree j oj hoj hji hjun hnot) (fun cs b => hsel i oi cs b hi) (fun cs b => hsel j oj cs b hoj) hQ hy h1
   have hfree' : ∀ k ok, ops[k]? = some ok → k ≠ i → (listed.setIfInBounds j true).getD k true = false →
     (∀ e ∈ ok.after, Region.binds md e = true → e.on ≠ i) → oi.apart ops ok = true := fun k ok hk hki hun hno => by
    refine hfree k ok hk hki ?_ hno
    by_cases hjk : j = k
    ·subst hjk; exact hjun
    ·rw [getD_set_ne true hjk] at hun; exact hun
   refine wpOp_mono (fun a' w' h3 => ⟨h3.2.1, ih (listed.setIfInBounds j true) a' w' hfree' (ready_mono hr (Ne.symm hji)) h3.1 ?_⟩) h2
   rw [Array.setIfInBounds_comm _ _ hji]
   exact h3.2.2
theorem wpAnyLast_take {i : Nat} {oi : Oper} {v : Value} {fuel : Nat} {listed : Array Bool} {a : Act} {w : World} (hi : ops[i]? = some oi)
  (hs : Region.noSelect ops = true) (hf : Region.free md ops listed i = true) (hr : (Region.ready md ops listed).contains i = true)
  (hc : Region.closedB md ops listed = true) (hl : Region.lastB md ops listed ds i = true)
  (hQ : ∀ c a w, Q (.panic c) (a.put oi.dst v) w → Q (.panic c) a w) (hy : YieldsIf P ops S oi v a) (hS : S w)
  (h : zhc P md ops Q S ds fuel (listed.setIfInBounds i true) (a.put oi.dst v) w) : zhc P md ops Q S ds (fuel + 1) listed a w :=
 wpAnyLast_first hi (Region.noSelect_spec hs) hQ ops.size fuel listed a w (Region.free_spec hi hf) (Region.closedB_spec hc)
  (fun d hm hun => by have := List.all_eq_true.1 hl d hm; rw [hun] at this; simpa using this) (by simpa using hr) hy hS h
theorem wpAnyLast_all {rs : List Nat} {fuel : Nat} {listed : Array Bool} {a : Act} {w : World} (hr : Region.ready md ops listed = rs) (hne : rs ≠ [])
  (h : ∀ i ∈ rs, wpOp P ops Q i (fun a' w' => (i ∉ ds → S w → S w') ∧ zhc P md ops Q S ds fuel (listed.setIfInBounds i true) a' w') a w) : zhc P md ops Q S ds (fuel + 1) listed a w :=
 ⟨fun h0 => absurd (hr ▸ h0) hne, hr ▸ h⟩
theorem wpAnyLast_done {listed : Array Bool} {a : Act} {w : World} (hr : Region.ready md ops listed = []) (h : Q .normal a w) :
  ∀ fuel, zhc P md ops Q S ds fuel listed a w
 | 0 => ⟨hr, h⟩
 | _ + 1 => ⟨fun _ => h, by rw [hr]; simp⟩
theorem wp_region_last {id : Nat} {a : Act} {w : World} (hm : P.follows .mixedOrders = true)
  (h : zhc P .any ops Q S ds ops.size (Array.replicate ops.size false) a { w with drawn := w.drawn + 1 }) : (Code.region id ops true).wp P Q a w :=
 wp_region_any hm (zqi _ _ _ _ h)
end
section
variable {P : Program} {ops : Array Oper} {Q : Exit → Act → World → Prop} {md : Region.Mode} {S : World → Prop} {ds : List Nat}
def zxd (P : Program) (md : Region.Mode) (ops : Array Oper) (Q : Exit → Act → World → Prop) (S : World → Prop) (ds : List Nat) (fuel : Nat) (listed : Array Bool) (a : Act) (w : World) (rs : List Nat) : Prop :=
 ∀ i ∈ rs, wpOp P ops Q i (fun a' w' => (i ∉ ds → S w → S w') ∧ zhc P md ops Q S ds fuel (listed.setIfInBounds i true) a' w') a w
theorem zxd.nil {fuel : Nat} {listed : Array Bool} {a : Act} {w : World} : zxd P md ops Q S ds fuel listed a w [] := fun _ h => by cases h
theorem zxd.cons {fuel : Nat} {listed : Array Bool} {a : Act} {w : World} {i : Nat} {o : Oper} {rs : List Nat} (ho : ops[i]? = some o) (hd : i ∉ ds)
  (h : ∀ K' : Act → World → Prop, Shut (∀ a w, S w → (S w → zhc P md ops Q S ds fuel (listed.setIfInBounds i true) a w) → K' a w) → if Region.wanted o (yielded ops a.tmps) = true then Oper.wp P o a w K' Q else K' (a.put o.dst undef) w)
  (hs : zxd P md ops Q S ds fuel listed a w rs) : zxd P md ops Q S ds fuel listed a w (i :: rs) := fun j hj => by
 rcases List.mem_cons.1 hj with rfl | hj
 ·exact wpOp_step ho (fun K' hK => h K' (fun a w hS hW => hK a w ⟨fun _ _ => hS, hW hS⟩))
 ·exact hs j hj
theorem zxd.cons_last {fuel : Nat} {listed : Array Bool} {a : Act} {w : World} {i : Nat} {o : Oper} {rs : List Nat} (ho : ops[i]? = some o) (hd : i ∈ ds)
  (h : ∀ K' : Act → World → Prop, Shut (∀ a w, zhc P md ops Q S ds fuel (listed.setIfInBounds i true) a w → K' a w) → if Region.wanted o (yielded ops a.tmps) = true then Oper.wp P o a w K' Q else K' (a.put o.dst undef) w)
  (hs : zxd P md ops Q S ds fuel listed a w rs) : zxd P md ops Q S ds fuel listed a w (i :: rs) := fun j hj => by
 rcases List.mem_cons.1 hj with rfl | hj
 ·exact wpOp_step ho (fun K' hK => h K' (fun a w hW => hK a w ⟨fun hn => absurd hd hn, hW⟩))
 ·exact hs j hj
theorem zhh {rs : List Nat} {fuel : Nat} {listed : Array Bool} {a : Act} {w : World} (hr : Region.ready md ops listed = rs) (hne : rs ≠ [])
 (h : zxd P md ops Q S ds fuel listed a w rs) : zhc P md ops Q S ds (fuel + 1) listed a w := wpAnyLast_all hr hne h
theorem zuf {id n : Nat} {a : Act} {w : World} (l : Array Bool) (hm : P.follows .mixedOrders = true) (hn : ops.size = n) (hl : Array.replicate n false = l) (hS : S w.drew)
  (h : S w.drew → zhc P .any ops Q S ds n l a w.drew) : (Code.region id ops true).wp P Q a w := by
 subst hn
 subst hl
 exact wp_region_last hm (h hS)
def takeB (md : Region.Mode) (ops : Array Oper) (ds : List Nat) (l l' : Array Bool) (i : Nat) : Bool :=
 Region.noSelect ops && Region.free md ops l i && (Region.ready md ops l).contains i && Region.closedB md ops l && Region.lastB md ops l ds i && (l.setIfInBounds i true == l')
theorem take_ {i : Nat} {N : Option Tmp} {oi : Oper} {v : Value} {fuel : Nat} {l : Array Bool} {a : Act} {w : World} (l' : Array Bool) (hi : ops[i]? = some oi) (hN : oi.dst = N) (hc : takeB md ops ds l l' i = true)
  (hQ : ∀ c a w, Q (.panic c) (a.put oi.dst v) w → Q (.panic c) a w) (hy : YieldsIf P ops S oi v a) (hS : S w) {a' : Act} (ha : a.put N v = a')
  (h : zhc P md ops Q S ds fuel l' a' w) : zhc P md ops Q S ds (fuel + 1) l a w := by
 subst ha
 subst hN
 simp only [takeB, Bool.and_eq_true, beq_iff_eq] at hc
 obtain ⟨⟨⟨⟨⟨h1, h2⟩, h3⟩, h4⟩, h5⟩, h6⟩ := hc
 subst h6
 exact wpAnyLast_take hi h1 h2 h3 h4 h5 hQ hy hS h
def anyB (md : Region.Mode) (ops : Array Oper) (l l' : Array Bool) (i : Nat) : Bool :=
 Region.noSelect ops && Region.free md ops l i && (Region.ready md ops l).contains i && (l.setIfInBounds i true == l')
theorem pure_ {i : Nat} {N : Option Tmp} {oi : Oper} {v : Value} {fuel : Nat} {l : Array Bool} {a : Act} {w : World} (l' : Array Bool) (hi : ops[i]? = some oi) (hN : oi.dst = N) (hc : anyB md ops l l' i = true)
  (hQ : ∀ c a w, Q (.panic c) (a.put oi.dst v) w → Q (.panic c) a w) (hy : Yields P ops oi v a) {a' : Act} (ha : a.put N v = a')
  (h : zhc P md ops Q S ds fuel l' a' w) : zhc P md ops Q S ds (fuel + 1) l a w := by
 subst ha
 subst hN
 simp only [anyB, Bool.and_eq_true, beq_iff_eq] at hc
 obtain ⟨⟨⟨h1, h2⟩, h3⟩, h6⟩ := hc
 subst h6
 exact wpAnyLast_any hi (Region.noSelect_spec h1) hQ fuel l a w (Region.free_spec hi h2) (by simpa using h3) hy h
def readyB (md : Region.Mode) (ops : Array Oper) (l l' : Array Bool) (i : Nat) : Bool := (Region.ready md ops l == [i]) && (l.setIfInBounds i true == l')
theorem one_ {i : Nat} {N : Option Tmp} {oi : Oper} {fuel : Nat} {l : Array Bool} {a : Act} {w : World} (l' : Array Bool) (hi : ops[i]? = some oi) (hN : oi.dst = N) (hc : readyB md ops l l' i = true) (hd : i ∉ ds)
  (h : ∀ K : Act → World → Prop, Shut (∀ a' w', S w' → (S w' → zhc P md ops Q S ds fuel l' a' w') → K a' w') → if Region.wanted oi (yielded ops a.tmps) = true then Oper.wp P oi a w K Q else K (a.put N undef) w) :
  zhc P md ops Q S ds (fuel + 1) l a w := by
 subst hN
 simp only [readyB, Bool.and_eq_true, beq_iff_eq] at hc
 obtain ⟨h1, h2⟩ := hc
 subst h2
 exact zhh h1 (by simp) (zxd.cons hi hd (fun K hK => h K hK) zxd.nil)
theorem last_ {i : Nat} {N : Option Tmp} {oi : Oper} {fuel : Nat} {l : Array Bool} {a : Act} {w : World} (l' : Array Bool) (hi : ops[i]? = some oi) (hN : oi.dst = N) (hc : readyB md ops l l' i = true) (hd : i ∈ ds)
  (h : ∀ K : Act → World → Prop, Shut (∀ a' w', zhc P md ops Q S ds fuel l' a' w' → K a' w') → if Region.wanted oi (yielded ops a.tmps) = true then Oper.wp P oi a w K Q else K (a.put N undef) w) :
  zhc P md ops Q S ds (fuel + 1) l a w := by
 subst hN
 simp only [readyB, Bool.and_eq_true, beq_iff_eq] at hc
 obtain ⟨h1, h2⟩ := hc
 subst h2
 exact zhh h1 (by simp) (zxd.cons_last hi hd (fun K hK => h K hK) zxd.nil)
theorem done_ {l : Array Bool} {a : Act} {w : World} {n : Nat} (hr : (Region.ready md ops l == []) = true) (h : Q .normal a w) : zhc P md ops Q S ds n l a w := wpAnyLast_done (by simpa using hr) h n
theorem norm_ {fuel : Nat} {l : Array Bool} {a a' : Act} {w : World} (ha : a = a') (h : zhc P md ops Q S ds fuel l a' w) : zhc P md ops Q S ds fuel l a w := by
 subst ha
 exact h
theorem call_ {oi : Oper} {N : Option Tmp} {a : Act} {w : World} {K : Act → World → Prop} (f : FuncId) (args : Array Value) (hw : Region.wanted oi (yielded ops a.tmps) = true) (hN : oi.dst = N) (hrun : (execOp a.eval oi).run P w = .ok (.enter f args) w)
  (h : Calls P f args w fun e w' => ∃ v, e = .returned v ∧ K (a.put N v) w') : if Region.wanted oi (yielded ops a.tmps) = true then Oper.wp P oi a w K Q else K (a.put N undef) w := by
 rw [if_pos hw]
 subst hN
 unfold Oper.wp
 rw [hrun, Oper.upon_enter]
 refine h.mono fun e w'' hh => ?_
 obtain ⟨v, rfl, hk⟩ := hh
 exact hk
theorem enters_ {f : FuncId} {fn : Func} (hf : P.funcs[f]? = some fn) (hname : (fn.name == "runtime.NumGoroutine") = false) (hb : fn.body.isSome = true) (args : Array Value) (w : World) : (callFunc f args).run P w = .ok (.enter f args) w := by
 have h1 : fn.name ≠ "runtime.NumGoroutine" := by simpa using hname
 obtain ⟨c, hc⟩ := Option.isSome_iff_exists.1 hb
 simp [callFunc, hf, h1, hc]
theorem goes_ {oi : Oper} {N : Option Tmp} {a : Act} {w : World} {K : Act → World → Prop} {f : FuncId} {fn : Func} {az : Array Operand} {ts : Array TypeId} (hf : P.funcs[f]? = some fn) (hname : (fn.name == "runtime.NumGoroutine") = false) (hb : fn.body.isSome = true) (args : Array Value)
  (hw : Region.wanted oi (yielded ops a.tmps) = true) (hN : oi.dst = N) (hop : oi.op = .call { callee := .value (.func f), args := az, argTypes := ts }) (hargs : az.map a.eval = args)
  (h : Calls P f args w fun e w' => ∃ v, e = .returned v ∧ K (a.put N v) w') : if Region.wanted oi (yielded ops a.tmps) = true then Oper.wp P oi a w K Q else K (a.put N undef) w := by
 refine call_ f args hw hN ?_ h
 have he := enters_ hf hname hb args w
 unfold execOp
 simp [hop, resolve, Deferred.ofValue, invoke, Act.eval, hargs, he]
theorem goesL_ {rest : List Oper} {oi : Oper} {a : Act} {w : World} (N : Option Tmp) (hd : oi.dst = N) (hg : oi.guard = none) {f : FuncId} {fn : Func} {az : Array Operand} {ts : Array TypeId} (hf : P.funcs[f]? = some fn) (hname : (fn.name == "runtime.NumGoroutine") = false) (hb : fn.body.isSome = true) (args : Array Value)
  (hop : oi.op = .call { callee := .value (.func f), args := az, argTypes := ts }) (hargs : az.map a.eval = args)
  (h : Calls P f args w fun e w' => ∃ v, e = .returned v ∧ wpList P ops Q rest (a.put N v) w') : wpList P ops Q (oi :: rest) a w := by
 refine wpList_plain hg fun K hK => ?_
 have he := enters_ hf hname hb args w
 have hrun : (execOp a.eval oi).run P w = .ok (.enter f args) w := by
  unfold execOp
  simp [hop, resolve, Deferred.ofValue, invoke, Act.eval, hargs, he]
 unfold Oper.wp
 rw [hrun, Oper.upon_enter]
 refine h.mono fun e w'' hh => ?_
 obtain ⟨v, rfl, hk⟩ := hh
 subst hd
 exact hK _ _ hk
theorem zoh {oi : Oper} {N : Option Tmp} {a : Act} {w w1 : World} {v : Value} {K : Act → World → Prop} (hw : Region.wanted oi (yielded ops a.tmps) = true) (hN : oi.dst = N) (hrun : (execOp a.eval oi).run P w = .ok (.value v) w1)
  (h : K (a.put N v) w1) : if Region.wanted oi (yielded ops a.tmps) = true then Oper.wp P oi a w K Q else K (a.put N undef) w := by
 rw [if_pos hw]
 subst hN
 unfold Oper.wp
 rw [hrun]
 exact h
theorem skip_ {oi : Oper} {a : Act} {w w1 : World} {K : Act → World → Prop} (hw : Region.wanted oi (yielded ops a.tmps) = true) (hN : oi.dst = none) (hrun : (execOp a.eval oi).run P w = .ok .skip w1)
  (h : K a w1) : if Region.wanted oi (yielded ops a.tmps) = true then Oper.wp P oi a w K Q else K (a.put none undef) w := by
 rw [if_pos hw]
 unfold Oper.wp
 rw [hrun]
 show K (a.put oi.dst undef) w1
 rw [hN]
 exact h
theorem i64_w (n : Int) : IntKind.i64.wrap n = Go.RowKit.wrap64 n := by unfold Go.RowKit.wrap64; exact IntKind.wrap_i64 n
theorem i32_w (n : Int) : IntKind.i32.wrap n = Go.RowKit.wrap32 n := by unfold Go.RowKit.wrap32; exact IntKind.wrap_i32 n
end
end Go.Proofs.YtapaijpglfmfgaaGreatDoorW.PrintLast
end
section
namespace Go.Proofs.YtapaijpglfmfgaaGreatDoorG
open Go.RowKit YtapaijpglfmfgaaGreatDoorH YtapaijpglfmfgaaGreatDoorW.PrintWords YtapaijpglfmfgaaGreatDoorW.PrintLast
def AVv (orig : ByteArray) (inv : Bool) (rem : ByteArray) (cv : Value) (letter : ByteArray) (sv : Value) (hash : ByteArray) (bv : Value) : Value :=
 .agg #[.string orig, .bool inv, .string rem, cv, .string letter, sv, .string hash, bv]
def ztf (a b : ByteArray) : Int := Lib.compareBytes a.data.toList b.data.toList
def zpc (a b : ByteArray) : Int := if a.toList = [] ∧ b.toList ≠ [] then -1 else if a.toList ≠ [] ∧ b.toList = [] then 1 else ztf a b
def zod (a b : ByteArray) : Int := if a.toList = [] ∧ b.toList ≠ [] then 1 else if a.toList ≠ [] ∧ b.toList = [] then -1 else 0
theorem zdh (w : World) (o1 o2 r1 r2 l1 l2 h1 h2 : ByteArray) (i1 i2 : Bool) (c1 c2 s1 s2 b1 b2 : Value) :
  Calls Tryz.prog 71 #[AVv o1 i1 r1 c1 l1 s1 h1 b1, AVv o2 i2 r2 c2 l2 s2 h2 b2] w fun e w' => e = .returned (.int .i64 (zpc l1 l2)) ∧ Below w.heap.size w w' := by
 unfold AVv
 have HC := za.mk (fun W : World => zke.calls l1 l2 _ W rfl)
 have HB := za.mk (Below.refl w.heap.size w)
 obtain ⟨r, hr⟩ : ∃ r, r = zpc l1 l2 := ⟨_, rfl⟩
 rw [← hr]
 by_cases e1 : l1.toList = []
 ·by_cases e2 : l2.toList = []
  ·have e1a : (l1.toList == []) = true := (by simpa using e1); have e1b : (l1.toList != []) = false := (by simpa using e1); have e1c : l1.toList.isEmpty = true := by simpa using e1
   have e2a : (l2.toList == []) = true := (by simpa using e2); have e2b : (l2.toList != []) = false := (by simpa using e2); have e2c : l2.toList.isEmpty = true := by simpa using e2
   have HR : za (r = ztf l1 l2) := ⟨by rw [hr]; unfold zpc; rw [if_neg (fun h => h.2 e2), if_neg (fun h => h.1 e1)]⟩
   clear hr
   go_enter Tryz.func71, Tryz.ntmps71
   go_wp2_with (first | (go_at_call 69; (with_reducible refine (HC.out _).mono ?_); rintro e w' ⟨rfl, ⟨nd, rfl⟩⟩))
   go_ret
   exact ⟨by rw [HR.out]; rfl, by repeat (first | exact HB.out | apply zj | apply zd)⟩
  ·have e1a : (l1.toList == []) = true := (by simpa using e1); have e1b : (l1.toList != []) = false := (by simpa using e1); have e1c : l1.toList.isEmpty = true := by simpa using e1
   have e2a : (l2.toList == []) = false := (by simpa using e2); have e2b : (l2.toList != []) = true := (by simpa using e2); have e2c : l2.toList.isEmpty = false := by simpa using e2
   have HR : za (r = -1) := ⟨by rw [hr]; unfold zpc; rw [if_pos ⟨e1, e2⟩]⟩
   clear hr
   go_enter Tryz.func71, Tryz.ntmps71
   go_wp2
   go_ret
   exact ⟨by rw [HR.out]; rfl, by repeat (first | exact HB.out | apply zj | apply zd)⟩
 ·by_cases e2 : l2.toList = []
  ·have e1a : (l1.toList == []) = false := (by simpa using e1); have e1b : (l1.toList != []) = true := (by simpa using e1); have e1c : l1.toList.isEmpty = false := by simpa using e1
   have e2a : (l2.toList == []) = true := (by simpa using e2); have e2b : (l2.toList != []) = false := (by simpa using e2); have e2c : l2.toList.isEmpty = true := by simpa using e2
   have HR : za (r = 1) := ⟨by rw [hr]; unfold zpc; rw [if_neg (fun h => e1 h.1), if_pos ⟨e1, e2⟩]⟩
   clear hr
   go_enter Tryz.func71, Tryz.ntmps71
   go_wp2
   go_ret
   exact ⟨by rw [HR.out]; rfl, by repeat (first | exact HB.out | apply zj | apply zd)⟩
  ·have e1a : (l1.toList == []) = false := (by simpa using e1); have e1b : (l1.toList != []) = true := (by simpa using e1); have e1c : l1.toList.isEmpty = false := by simpa using e1
   have e2a : (l2.toList == []) = false := (by simpa using e2); have e2b : (l2.toList != []) = true := (by simpa using e2); have e2c : l2.toList.isEmpty = false := by simpa using e2
   have HR : za (r = ztf l1 l2) := ⟨by rw [hr]; unfold zpc; rw [if_neg (fun h => e1 h.1), if_neg (fun h => e2 h.2)]⟩
   clear hr
   go_enter Tryz.func71, Tryz.ntmps71
   go_wp2_with (first | (go_at_call 69; (with_reducible refine (HC.out _).mono ?_); rintro e w' ⟨rfl, ⟨nd, rfl⟩⟩))
   go_ret
   exact ⟨by rw [HR.out]; rfl, by repeat (first | exact HB.out | apply zj | apply zd)⟩
theorem zog (w : World) (o1 o2 r1 r2 l1 l2 h1 h2 : ByteArray) (i1 i2 : Bool) (c1 c2 s1 s2 b1 b2 : Value) :
  Calls Tryz.prog 74 #[AVv o1 i1 r1 c1 l1 s1 h1 b1, AVv o2 i2 r2 c2 l2 s2 h2 b2] w fun e w' => e = .returned (.int .i64 (zod r1 r2)) ∧ Below w.heap.size w w' := by
 unfold AVv
 have HB := za.mk (Below.refl w.heap.size w)
 obtain ⟨r, hr⟩ : ∃ r, r = zod r1 r2 := ⟨_, rfl⟩
 rw [← hr]
 have close : ∀ q : Int, zod r1 r2 = q → za (r = q) := fun q hq => ⟨by rw [hr, hq]⟩
 by_cases e1 : r1.toList = []
 ·by_cases e2 : r2.toList = []
  ·have e1a : (r1.toList == []) = true := (by simpa using e1); have e1b : (r1.toList != []) = false := (by simpa using e1); have e1c : r1.toList.isEmpty = true := by simpa using e1
   have e2a : (r2.toList == []) = true := (by simpa using e2); have e2b : (r2.toList != []) = false := (by simpa using e2); have e2c : r2.toList.isEmpty = true := by simpa using e2
   have HR := close 0 (by unfold zod; rw [if_neg (fun h => h.2 e2), if_neg (fun h => h.1 e1)])
   clear hr close
   go_enter Tryz.func74, Tryz.ntmps74
   go_wp2
   go_ret
   exact ⟨by rw [HR.out]; rfl, by repeat (first | exact HB.out | apply zj | apply zd)⟩
  ·have e1a : (r1.toList == []) = true := (by simpa using e1); have e1b : (r1.toList != []) = false := (by simpa using e1); have e1c : r1.toList.isEmpty = true := by simpa using e1
   have e2a : (r2.toList == []) = false := (by simpa using e2); have e2b : (r2.toList != []) = true := (by simpa using e2); have e2c : r2.toList.isEmpty = false := by simpa using e2
   have HR := close 1 (by unfold zod; rw [if_pos ⟨e1, e2⟩])
   clear hr close
   go_enter Tryz.func74, Tryz.ntmps74
   go_wp2
   go_ret
   exact ⟨by rw [HR.out]; rfl, by repeat (first | exact HB.out | apply zj | apply zd)⟩
 ·by_cases e2 : r2.toList = []
  ·have e1a : (r1.toList == []) = false := (by simpa using e1); have e1b : (r1.toList != []) = true := (by simpa using e1); have e1c : r1.toList.isEmpty = false := by simpa using e1
   have e2a : (r2.toList == []) = true := (by simpa using e2); have e2b : (r2.toList != []) = false := (by simpa using e2); have e2c : r2.toList.isEmpty = true := by simpa using e2
   have HR := close (-1) (by unfold zod; rw [if_neg (fun h => e1 h.1), if_pos ⟨e1, e2⟩])
   clear hr close
   go_enter Tryz.func74, Tryz.ntmps74
   go_wp2
   go_ret
   exact ⟨by rw [HR.out]; rfl, by repeat (first | exact HB.out | apply zj | apply zd)⟩
  ·have e1a : (r1.toList == []) = false := (by simpa using e1); have e1b : (r1.toList != []) = true := (by simpa using e1); have e1c : r1.toList.isEmpty = false := by simpa using e1
   have e2a : (r2.toList == []) = false := (by simpa using e2); have e2b : (r2.toList != []) = true := (by simpa using e2); have e2c : r2.toList.isEmpty = false := by simpa using e2
   have HR := close 0 (by unfold zod; rw [if_neg (fun h => e1 h.1), if_neg (fun h => e2 h.2)])
   clear hr close
   go_enter Tryz.func74, Tryz.ntmps74
   go_wp2
   go_ret
   exact ⟨by rw [HR.out]; rfl, by repeat (first | exact HB.out | apply zj | apply zd)⟩
end Go.Proofs.YtapaijpglfmfgaaGreatDoorG
end
section
namespace Go.Proofs
open Go.Shelf
def Tryz.lays212_ren : Go.Shelf.Ren := ⟨fun | 212 => 124 | 263 => 126 | 264 => 127 | n => n, fun | 46 => 119 | 51 => 168 | 146 => 187 | 53 => 118 | 148 => 189 | n => n, fun | n => n⟩
theorem Tryz.lays212 : Go.Proofs.Lays.n212 Tryz.prog Tryz.lays212_ren := {
 mixed := by kernel_rfl
 f212 := Tryz.func124.trans (congrArg some (by kernel_rfl))
 f263 := Tryz.func126.trans (congrArg some (by kernel_rfl))
 f264 := Tryz.func127.trans (congrArg some (by kernel_rfl))
 t46 := Tryz.underlying119
 a46 := Tryz.isAgg119
 z46 := Tryz.sizeOf119
 v46 := Tryz.zeroValue119
 t51 := Tryz.underlying168
 a51 := Tryz.isAgg168
 z51 := Tryz.sizeOf168
 v51 := Tryz.zeroValue168
 t53 := Tryz.underlying118
 a53 := Tryz.isAgg118
 z53 := Tryz.sizeOf118
 v53 := Tryz.zeroValue118
 t146 := Tryz.underlying187
 a146 := Tryz.isAgg187
 z146 := Tryz.sizeOf187
 v146 := Tryz.zeroValue187
 t148 := Tryz.underlying189
 a148 := Tryz.isAgg189
 z148 := Tryz.sizeOf189
 v148 := Tryz.zeroValue189 }
open Go.RowKit Go.Lib in
theorem Tryz.bits_Mul (x y : Nat) (hx : x < 18446744073709551616) (hy : y < 18446744073709551616) (w : World) :
 Calls Tryz.prog 124 #[.int .u64 x, .int .u64 y] w fun e w' => e = .returned (.tuple #[.int .u64 ((x * y / 18446744073709551616 : Nat) : Int), .int .u64 ((x * y % 18446744073709551616 : Nat) : Int)]) ∧ w' = w := Any.bits_Mul Tryz.lays212 x y hx hy w
end Go.Proofs
namespace Go.Proofs.YtapaijpglfmfgaaGreatDoorG
open Go.RowKit YtapaijpglfmfgaaGreatDoorW.PrintWords YtapaijpglfmfgaaGreatDoorW.PrintLast
def W64 : Nat := 18446744073709551616
def loW (n : Nat) : Nat := n % W64
def hiW (n : Nat) : Nat := n / W64
def IsW (n : Nat) : Prop := n < W64
theorem hiW_loW (n : Nat) : hiW n * W64 + loW n = n := by unfold hiW loW W64; omega
theorem loW_lt (n : Nat) : loW n < W64 := by unfold loW W64; omega
theorem wrap_W {n : Nat} (h : n < W64) : IntKind.u64.wrap (n : Int) = n := by
 unfold W64 at h
 simp [IntKind.wrap, IntKind.signed, IntKind.bits]
 omega
theorem bits_Mul_ (x y : Nat) (hx : IsW x) (hy : IsW y) (w : World) :
 Calls Tryz.prog 124 #[.int .u64 x, .int .u64 y] w fun e w' => e = .returned (.tuple #[.int .u64 (hiW (x * y) : Nat), .int .u64 (loW (x * y) : Nat)]) ∧ w' = w := Tryz.bits_Mul x y hx hy w
theorem add64_call (x y : Nat) (w : World) :
  (callFunc 129 #[.int .u64 x, .int .u64 y, .int .u64 0]).run Tryz.prog w = .ok (.value (.tuple #[.int .u64 (loW (x + y) : Nat), .int .u64 (hiW (x + y) : Nat)])) w := by
 rw [run_callFunc_extern Tryz.func129 (by kernel_rfl) (by kernel_rfl) (by kernel_rfl) (e := add64Entry) (by kernel_rfl)]
 have h := run_add64 (P := Tryz.prog) x y 0 (by omega) (by omega) (by omega) (by omega) w
 rw [h]
 simp only [Result.andThen, loW, hiW, W64]
 congr 5 <;> omega
theorem bits_Add_ (x y : Nat) (w : World) :
  Calls Tryz.prog 125 #[.int .u64 x, .int .u64 y, .int .u64 0] w fun e w' => e = .returned (.tuple #[.int .u64 (loW (x + y) : Nat), .int .u64 (hiW (x + y) : Nat)]) ∧ w' = w := by
 have h := fun W => add64_call x y W
 go_enter Tryz.func125, Tryz.ntmps125
 go_wp2
 go_ret2
 exact ⟨rfl, rfl⟩
theorem mulAddWWW_ (x y c : Nat) (hx : IsW x) (hy : IsW y) (hc : IsW c) (w : World) :
  Calls Tryz.prog 123 #[.int .u64 x, .int .u64 y, .int .u64 c] w fun e w' => e = .returned (.tuple #[.int .u64 (hiW (x * y + c) : Nat), .int .u64 (loW (x * y + c) : Nat)]) ∧ w' = w := by
 have HX := za.mk hx
 have HY := za.mk hy
 have key : IntKind.u64.wrap ((hiW (x * y) : Int) + (hiW (loW (x * y) + c) : Int)) = (hiW (x * y + c) : Int) ∧ loW (loW (x * y) + c) = loW (x * y + c) := by
  have h1 : x * y ≤ (W64 - 1) * (W64 - 1) := Nat.mul_le_mul (by unfold IsW at hx; omega) (by unfold IsW at hy; omega)
  unfold IsW at hc
  have e : hiW (x * y) + hiW (loW (x * y) + c) = hiW (x * y + c) ∧ hiW (x * y + c) < W64 := by
   simp only [hiW, loW, W64] at *
   generalize x * y = p at *
   omega
  refine ⟨?_, by simp only [loW, W64]; omega⟩
  have e2 : (hiW (x * y) : Int) + (hiW (loW (x * y) + c) : Int) = (hiW (x * y + c) : Int) := by omega
  rw [e2]
  exact wrap_W e.2
 clear hx hy hc
 obtain ⟨k1, k2⟩ := key
 have K1 := za.mk k1
 have K2 := za.mk k2
 clear k1 k2
 go_enter Tryz.func123, Tryz.ntmps123
 go_wp2_with (first
  | (go_at_call 124; refine (bits_Mul_ x y HX.out HY.out _).mono ?_; rintro e w' ⟨rfl, rfl⟩)
  | (go_at_call 125; refine (bits_Add_ (loW (x * y)) c _).mono ?_; rintro e w' ⟨rfl, rfl⟩))
 go_ret2
 refine ⟨?_, rfl⟩
 simp only [K1.out, K2.out]
 rfl
def NumC (n : Nat) : Value := .int .u64 (n : Int)
def Ws (w : World) (g : Nat) (e : TypeId) (l : List Nat) : Prop := w.heap[g]? = some (.cells (l.map NumC).toArray e (0, 0))
theorem Ws.cell {w : World} {g : Nat} {e : TypeId} {l : List Nat} (h : Ws w g e l) (i : Nat) (hi : i < l.length) : w.cell? ⟨g, i, none⟩ = some (.int .u64 (l.getD i 0 : Nat)) := by
 unfold Ws at h
 simp [World.cell?, h, hi, NumC, List.getD_eq_getElem?_getD]
theorem Ws.free {w : World} {g : Nat} {e : TypeId} {l : List Nat} (h : Ws w g e l) (i : Nat) : w.frozen? ⟨g, i, none⟩ = false := by
 unfold Ws at h
 simp [World.frozen?, h]
theorem Ws.set {w : World} {g : Nat} {e : TypeId} {l : List Nat} (h : Ws w g e l) (i v : Nat) : Ws (w.setCell ⟨g, i, none⟩ (.int .u64 (v : Int))) g e (l.set i v) := by
 unfold Ws at h ⊢
 have e1 : (w.setCell ⟨g, i, none⟩ (.int .u64 (v : Int))).heap[g]? = some (.cells ((l.map NumC).toArray.setIfInBounds i (NumC v)) e (0, 0)) := by
  simp [World.setCell, Array.getElem?_modify, h, NumC]
 rw [e1]
 congr 2
 apply Array.toList_inj.1
 simp [List.map_set]
theorem Ws.same {w w' : World} {g : Nat} {e : TypeId} {l : List Nat} (h : Ws w g e l) (hb : w'.heap[g]? = w.heap[g]?) : Ws w' g e l := by unfold Ws at h ⊢; rw [hb]; exact h
theorem Ws.lt {w : World} {g : Nat} {e : TypeId} {l : List Nat} (h : Ws w g e l) : g < w.heap.size := (Array.getElem?_eq_some_iff.1 h).1
theorem zzf (w wr : World) (g i : Nat) (v : Value) (h : w.grownBy wr (some g)) : w.grownBy (wr.setCell ⟨g, i, none⟩ v) (some g) := by
 refine h.trans ?_
 refine ⟨rfl, rfl, rfl, by simp, fun k hk hne => ?_⟩
 have : g ≠ k := fun e => hne (by rw [e])
 simp [World.setCell, Array.getElem?_modify, this]
def mva : List Nat → Nat → Nat → List Nat × Nat
 | [], _, c => ([], c)
 | x :: l, y, c => (loW (x * y + c) :: (mva l y (hiW (x * y + c))).1, (mva l y (hiW (x * y + c))).2)
theorem zvh : ∀ (l : List Nat) (y c : Nat), (mva l y c).1.length = l.length := by
 intro l
 induction l with
 | nil => intro y c; rfl
 | cons x l ih => intro y c; simp [mva, ih]
theorem mva_snoc : ∀ (l : List Nat) (x y c : Nat), mva (l ++ [x]) y c = ((mva l y c).1 ++ [loW (x * y + (mva l y c).2)], hiW (x * y + (mva l y c).2)) := by
 intro l
 induction l with
 | nil => intro x y c; rfl
 | cons z l ih => intro x y c; simp [mva, ih]
theorem hiW_lt {x y c : Nat} (hx : IsW x) (hy : IsW y) (hc : IsW c) : IsW (hiW (x * y + c)) := by
 have h1 : x * y ≤ (W64 - 1) * (W64 - 1) := Nat.mul_le_mul (by unfold IsW at hx; omega) (by unfold IsW at hy; omega)
 unfold IsW at *
 simp only [hiW, W64] at *
 generalize x * y = p at *
 omega
theorem mva_words : ∀ (l : List Nat) (y c : Nat), (∀ x ∈ l, IsW x) → IsW y → IsW c → (∀ x ∈ (mva l y c).1, IsW x) ∧ IsW (mva l y c).2 := by
 intro l
 induction l with
 | nil => intro y c _ _ hc; exact ⟨(by intro x hx; cases hx), hc⟩
 | cons z l ih =>
  intro y c hl hy hc
  have hz := hl z List.mem_cons_self
  have h := ih y (hiW (z * y + c)) (fun x hx => hl x (List.mem_cons_of_mem _ hx)) hy (hiW_lt hz hy hc)
  refine ⟨fun x hx => ?_, h.2⟩
  rcases List.mem_cons.1 hx with rfl | hx
  ·exact loW_lt _
  ·exact h.1 x hx
def num : List Nat → Nat
 | [] => 0
 | x :: l => x + W64 * num l
theorem mva_num : ∀ (l : List Nat) (y c : Nat), num ((mva l y c).1 ++ [(mva l y c).2]) = num l * y + c := by
 intro l
 induction l with
 | nil => intro y c; simp [mva, num]
 | cons z l ih =>
  intro y c
  have h := ih y (hiW (z * y + c))
  have h2 := hiW_loW (z * y + c)
  simp only [mva, num, List.cons_append]
  rw [h, Nat.mul_add, Nat.add_mul]
  have e : W64 * num l * y = W64 * (num l * y) := Nat.mul_assoc _ _ _
  rw [e]
  have e2 : W64 * hiW (z * y + c) = hiW (z * y + c) * W64 := Nat.mul_comm _ _
  omega
theorem set_at (a b : List Nat) (k v : Nat) (ha : a.length = k) (hb : k < (a ++ b).length) : (a ++ b).set k v = a ++ [v] ++ b.drop 1 := by
 subst ha
 rw [List.set_append_right _ _ (Nat.le_refl _), Nat.sub_self]
 cases b with
 | nil => simp at hb
 | cons x b => simp
theorem mulAddVWW_g_ (w : World) (g gx n cz cx y r : Nat) (e : TypeId) (full xs : List Nat) (hz : Ws w g e full) (hx : Ws w gx e xs) (hn : n ≤ full.length) (hxn : n ≤ xs.length) (hsame : gx = g → xs = full) (hxs : ∀ x ∈ xs, IsW x) (hy : IsW y) (hr : IsW r) (hbig : n ≤ 4611686018427387904) :
  Calls Tryz.prog 121 #[.slice (some ⟨g, 0, none⟩) n cz, .slice (some ⟨gx, 0, none⟩) n cx, .int .u64 y, .int .u64 r] w fun e' w' =>
   e' = .returned (.int .u64 ((mva (xs.take n) y r).2 : Nat)) ∧ Ws w' g e ((mva (xs.take n) y r).1 ++ full.drop n) ∧ w.grownBy w' (some g) := by
 have HZ := za.mk hz
 have HX := za.mk hx
 have HXS := za.mk hxs
 have HY := za.mk hy
 have HR := za.mk hr
 have HS := za.mk hsame
 have HN := za.mk hn
 have HXN := za.mk hxn
 clear hz hx hxs hy hr hsame hn hxn
 go_enter Tryz.func121, Tryz.ntmps121
 go_wp2
 go_loopw [8, 19] (fun c i wr => ∃ k : Nat, k ≤ n ∧ i = .int .i64 k ∧ c = .int .u64 ((mva (xs.take k) y r).2 : Nat) ∧ za (Ws wr g e ((mva (xs.take k) y r).1 ++ full.drop k)) ∧ za (w.grownBy wr (some g))) (fun _ i _ => n - (intOf i).toNat)
 case atStart => exact ⟨0, Nat.zero_le _, rfl, rfl, ⟨by simpa [mva] using HZ.out⟩, ⟨World.grownBy.refl w _⟩⟩
 case round =>
  obtain ⟨k, hk, rfl, rfl, hw, hg⟩ := hrel
  by_cases hlt : k < n
  ·have hml : (mva (xs.take k) y r).1.length = k := by rw [zvh, List.length_take]; have := HXN.out; omega
   have hc : wr.cell? ⟨gx, k, none⟩ = some (.int .u64 (xs.getD k 0 : Nat)) := by
    by_cases hgg : gx = g
    ·have h1 := hw.out.cell k (by rw [List.length_append, hml, List.length_drop]; have := HN.out; omega)
     rw [hgg, HS.out hgg]
     rw [h1]
     congr 3
     rw [List.getD_eq_getElem?_getD, List.getElem?_append_right (by omega), hml, Nat.sub_self, List.getD_eq_getElem?_getD]
     simp
    ·have h1 := HX.out.cell k (by have := HXN.out; omega)
     rw [← h1]
     exact World.cell?_of_block (hg.out.block gx HX.out.lt (fun e => hgg (Option.some.inj e)))
   obtain ⟨xk, hxk⟩ : ∃ xk, xk = xs.getD k 0 := ⟨_, rfl⟩
   rw [← hxk] at hc
   have hW : IsW xk := by
    rw [hxk, List.getD_eq_getElem?_getD, List.getElem?_eq_getElem (by have := HXN.out; omega)]
    exact HXS.out _ (List.getElem_mem _)
   have hf := hw.out.free k
   have hd := hw.out.cell k (by rw [List.length_append, hml, List.length_drop]; have := HN.out; omega)
   obtain ⟨dk, hdk⟩ : ∃ dk, dk = ((mva (xs.take k) y r).1 ++ full.drop k).getD k 0 := ⟨_, rfl⟩
   rw [← hdk] at hd
   obtain ⟨c, hcc⟩ : ∃ c, c = (mva (xs.take k) y r).2 := ⟨_, rfl⟩
   rw [← hcc]
   have hCW : IsW c := by
    rw [hcc]
    exact (mva_words _ _ _ (fun x hx => HXS.out x (List.mem_of_mem_take hx)) HY.out HR.out).2
   have hset := hw.out.set k (loW (xk * y + c))
   have hst : ((mva (xs.take k) y r).1 ++ full.drop k).set k (loW (xk * y + c)) = (mva (xs.take (k + 1)) y r).1 ++ full.drop (k + 1) ∧ hiW (xk * y + c) = (mva (xs.take (k + 1)) y r).2 := by
    have e1 : xs.take (k + 1) = xs.take k ++ [xk] := by
     rw [List.take_succ_eq_append_getElem (by have := HXN.out; omega), hxk]
     simp [List.getD_eq_getElem?_getD, show k < xs.length by have := HXN.out; omega]
    rw [e1, mva_snoc, ← hcc]
    refine ⟨?_, rfl⟩
    rw [set_at _ _ _ _ hml (by rw [List.length_append, hml, List.length_drop]; have := HN.out; omega), List.drop_drop]
   rw [hst.1] at hset
   have HSET := za.mk hset
   have HST := za.mk hst.2
   have HG2 := za.mk (zzf w wr g k (.int .u64 (loW (xk * y + c) : Nat)) hg.out)
   have HW1 := za.mk hW
   have HW2 := za.mk hCW
   clear hset hst hW hCW hw hg hml hxk hdk hcc
   go_wp2_with (first | (go_at_call 123; refine (mulAddWWW_ xk y c HW1.out HY.out HW2.out _).mono ?_; rintro e' w' ⟨rfl, rfl⟩))
   go_roundw
   case rel => exact ⟨k + 1, by omega, by go_num, by rw [HST.out], HSET, HG2⟩
   case measure => simp [intOf]; omega
  ·obtain rfl : k = n := by omega
   go_wp2
   go_ret
   exact ⟨rfl, hw.out, hg.out⟩
end Go.Proofs.YtapaijpglfmfgaaGreatDoorG
end
section
namespace Go.Proofs.YtapaijpglfmfgaaGreatDoorG
open Go.RowKit YtapaijpglfmfgaaGreatDoorW.PrintWords YtapaijpglfmfgaaGreatDoorW.PrintLast
theorem infoWord : (Tryz.prog.info? 149).map (fun i => (i.zero, i.size, i.bytes)) = some (some (.int .u64 0), 1, 8) := by kernel_rfl
theorem make_run (n c : Nat) (hnc : n ≤ c) (hc : c ≤ 1099511627776) : ∀ W : World, (Instr.makeSlice 98 (.int .i64 (n : Int)) (.int .i64 (c : Int))).run Tryz.prog W = .ok (.slice (some ⟨W.heap.size, 0, none⟩) n c) (W.alloc (.cells (List.replicate c (NumC 0)).toArray 149)) := by
 intro W
 obtain ⟨i, hi, hzz⟩ := Option.map_eq_some_iff.1 infoWord
 simp only [Prod.mk.injEq] at hzz
 obtain ⟨hz0, hz1, hz2⟩ := hzz
 have h := run_make (P := Tryz.prog) W 98 149 i _ Tryz.underlying98 hi hz0 .i64 .i64 (n : Int) (c : Int) (by omega) (by omega) (by rw [hz2]; omega) (by omega)
 rw [h]
 simp only [Int.toNat_natCast, hz1, Nat.mul_one]
 congr 3
 apply Array.toList_inj.1
 apply List.ext_getElem
 ·simp [madeCells]
 ·intro i h1 h2
  simp [madeCells, Nat.mod_one, Value.cells, NumC]
theorem make_reuse (w : World) (g len cap n : Nat) (hn : n ≤ cap) :
  Calls Tryz.prog 103 #[.slice (some ⟨g, 0, none⟩) len cap, .int .i64 (n : Int)] w fun e w' => e = .returned (.slice (some ⟨g, 0, none⟩) n cap) ∧ w' = w := by
 have b1 : decide ((n : Int) ≤ (cap : Int)) = true := decide_eq_true (by omega)
 go_enter Tryz.func103, Tryz.ntmps103
 go_wp2
 go_ret
 exact ⟨rfl, rfl⟩
theorem make_fresh (w : World) (p : Option Addr) (len cap n : Nat) (hn : cap < n) (hb : n ≤ 1000000000) :
  Calls Tryz.prog 103 #[.slice p len cap, .int .i64 (n : Int)] w fun e w' => ∃ c, n ≤ c ∧ c ≤ n + 4 ∧ e = .returned (.slice (some ⟨w.heap.size, 0, none⟩) n c) ∧ w' = w.alloc (.cells (List.replicate c (NumC 0)).toArray 149) := by
 have b1 : decide ((n : Int) ≤ (cap : Int)) = false := decide_eq_false (by omega)
 by_cases h1 : n = 1
 ·subst h1
  have hm := make_run 1 1 (by omega) (by omega)
  have e1 : ((1 : Nat) : Int) = 1 := rfl
  rw [e1] at hm b1 ⊢
  go_enter Tryz.func103, Tryz.ntmps103
  go_wp2
  go_ret
  exact ⟨1, by omega, by omega, rfl, rfl⟩
 ·have hm := make_run n (n + 4) (by omega) (by omega)
  have e1 : ((n + 4 : Nat) : Int) = (n : Int) + 4 := by omega
  rw [e1] at hm
  have b2 : ((n : Int) == 1) = false := by rw [beq_eq_false_iff_ne]; omega
  have b3 : ¬ ((n : Int) = 1) := by omega
  go_enter Tryz.func103, Tryz.ntmps103
  go_wp2
  go_ret
  exact ⟨n + 4, by omega, by omega, rfl, rfl⟩
def NatS (w : World) (B : Nat) (v : Value) (l : List Nat) : Prop :=
 (v = .slice none 0 0 ∧ l = []) ∨
 ∃ g full, v = .slice (some ⟨g, 0, none⟩) l.length full.length ∧ B ≤ g ∧ Ws w g 149 full ∧ full.take l.length = l ∧ l.length ≤ full.length ∧ full.length ≤ 1000000000 ∧ ∀ x ∈ full, IsW x
def trimW (l : List Nat) : List Nat := (l.reverse.dropWhile (fun x => decide (x = 0))).reverse
theorem zcf (l : List Nat) : trimW (l ++ [0]) = trimW l := by simp [trimW]
theorem zng (l : List Nat) (x : Nat) (h : x ≠ 0) : trimW (l ++ [x]) = l ++ [x] := by simp [trimW, h]
theorem num_snoc_zero (l : List Nat) : num (l ++ [0]) = num l := by
 induction l with
 | nil => simp [num]
 | cons x l ih => simp [num, ih]
theorem num_trimW (l : List Nat) : num (trimW l) = num l := by
 have : ∀ (n : Nat) (l : List Nat), l.length = n → num (trimW l) = num l := by
  intro n
  induction n with
  | zero => intro l h; rw [List.length_eq_zero_iff.1 h]; rfl
  | succ n ih =>
   intro l h
   have hne : l ≠ [] := by intro e; subst e; simp at h
   obtain ⟨m, x, rfl⟩ : ∃ m x, l = m ++ [x] := ⟨l.dropLast, l.getLast hne, (List.dropLast_concat_getLast hne).symm⟩
   by_cases hx : x = 0
   ·subst hx
    rw [zcf, num_snoc_zero]
    exact ih m (by simpa using h)
   ·rw [zng _ _ hx]
 exact this _ l rfl
theorem trimW_at (l : List Nat) (k : Nat) (hk : k ≤ l.length) (hz : ∀ j, k ≤ j → j < l.length → l.getD j 0 = 0) (hl : k = 0 ∨ l.getD (k - 1) 0 ≠ 0) : trimW l = l.take k := by
 have : ∀ (n : Nat) (l : List Nat), l.length - k = n → k ≤ l.length → (∀ j, k ≤ j → j < l.length → l.getD j 0 = 0) → (k = 0 ∨ l.getD (k - 1) 0 ≠ 0) → trimW l = l.take k := by
  intro n
  induction n with
  | zero =>
   intro l hn hk hz hl
   have e : k = l.length := by omega
   rw [List.take_of_length_le (by omega)]
   by_cases h0 : l = []
   ·subst h0; rfl
   ·obtain ⟨m, x, rfl⟩ : ∃ m x, l = m ++ [x] := ⟨l.dropLast, l.getLast h0, (List.dropLast_concat_getLast h0).symm⟩
    refine zng _ _ ?_
    rcases hl with hl | hl
    ·rw [hl] at e; simp at e
    ·rw [e] at hl
     simpa [List.getD_eq_getElem?_getD] using hl
  | succ n ih =>
   intro l hn hk hz hl
   have h0 : l ≠ [] := by intro e; subst e; simp at hn
   obtain ⟨m, x, rfl⟩ : ∃ m x, l = m ++ [x] := ⟨l.dropLast, l.getLast h0, (List.dropLast_concat_getLast h0).symm⟩
   have hlen : (m ++ [x]).length = m.length + 1 := by simp
   have hx : x = 0 := by
    have := hz m.length (by omega) (by omega)
    simpa [List.getD_eq_getElem?_getD] using this
   subst hx
   rw [zcf, List.take_append_of_le_length (by omega)]
   refine ih m (by omega) (by omega) (fun j h1 h2 => ?_) ?_
   ·have := hz j h1 (by omega)
    rw [List.getD_eq_getElem?_getD, List.getElem?_append_left h2, ← List.getD_eq_getElem?_getD] at this
    exact this
   ·rcases hl with hl | hl
    ·exact .inl hl
    ·by_cases hk0 : k = 0
     ·exact .inl hk0
     ·right
      rw [List.getD_eq_getElem?_getD, List.getElem?_append_left (by omega), ← List.getD_eq_getElem?_getD] at hl
      exact hl
 exact this _ l rfl hk hz hl
theorem norm_ (w : World) (g n cap : Nat) (full : List Nat) (hw : Ws w g 149 full) (hn : n ≤ full.length) (hcap : n ≤ cap) (hbig : n ≤ 1000000000) :
  Calls Tryz.prog 105 #[.slice (some ⟨g, 0, none⟩) n cap] w fun e w' => ∃ k, k ≤ n ∧ trimW (full.take n) = full.take k ∧ e = .returned (.slice (some ⟨g, 0, none⟩) k cap) ∧ w' = w := by
 have HW := za.mk hw
 have HN := za.mk hn
 clear hw hn
 go_enter Tryz.func105, Tryz.ntmps105
 go_wp2
 go_loopw [3] (fun i wr => ∃ k : Nat, k ≤ n ∧ i = .int .i64 k ∧ za (∀ j, k ≤ j → j < n → full.getD j 0 = 0) ∧ wr = w) (fun i _ => (intOf i).toNat)
 case atStart => exact ⟨n, Nat.le_refl _, rfl, ⟨fun j h1 h2 => by omega⟩, rfl⟩
 case round =>
  obtain ⟨k, hk, rfl, hz, rfl⟩ := hrel
  by_cases hk0 : k = 0
  ·subst hk0
   go_wp2
   go_ret
   refine ⟨0, Nat.zero_le _, ?_, rfl, rfl⟩
   refine (trimW_at _ 0 (Nat.zero_le _) (fun j h1 h2 => ?_) (.inl rfl)).trans (by simp)
   rw [List.length_take] at h2
   have := hz.out j h1 (by omega)
   rw [List.getD_eq_getElem?_getD] at this ⊢
   rwa [List.getElem?_take_of_lt (by omega)]
  ·obtain ⟨m, rfl⟩ : ∃ m, k = m + 1 := ⟨k - 1, by omega⟩
   have hm : m < full.length := by have := HN.out; omega
   have hc := HW.out.cell m hm
   obtain ⟨x, hx⟩ : ∃ x, x = full.getD m 0 := ⟨_, rfl⟩
   rw [← hx] at hc
   have HX := za.mk hx
   clear hx
   have e0 : ((m + 1 : Nat) : Int) - 1 = (m : Int) := by omega
   have e1 : wrap64 (((m + 1 : Nat) : Int) - 1) = (m : Int) := by unfold wrap64; omega
   have b0 : decide (0 < ((m + 1 : Nat) : Int)) = true := decide_eq_true (by omega)
   by_cases hx0 : x = 0
   ·subst hx0
    go_wp2
    go_roundw
    case rel =>
     refine ⟨m, by omega, by first | rfl | go_num | (congr 1; omega), ⟨fun j h1 h2 => ?_⟩, by first | rfl | trivial⟩
     by_cases hj : j = m
     ·rw [hj]; exact HX.out.symm
     ·exact hz.out j (by omega) h2
    case measure => first | (simp [intOf]; done) | (simp [intOf]; omega)
   ·have b2 : ((x : Int) == 0) = false := by rw [beq_eq_false_iff_ne]; omega
    have b3 : ¬ ((x : Int) = 0) := by omega
    have HX0 := za.mk hx0
    clear hx0
    go_wp2
    go_ret
    refine ⟨m + 1, hk, ?_, by first | rfl | (congr 2), rfl⟩
    have HNo := HN.out
    refine (trimW_at _ (m + 1) (by rw [List.length_take]; omega) (fun j h1 h2 => ?_) (.inr ?_)).trans (by rw [List.take_take]; congr 1; omega)
    ·rw [List.length_take] at h2
     have := hz.out j h1 (by omega)
     rw [List.getD_eq_getElem?_getD] at this ⊢
     rwa [List.getElem?_take_of_lt (by omega)]
    ·rw [Nat.add_sub_cancel, List.getD_eq_getElem?_getD, List.getElem?_take_of_lt (by omega), ← List.getD_eq_getElem?_getD, ← HX.out]
     exact HX0.out
end Go.Proofs.YtapaijpglfmfgaaGreatDoorG
end
section
namespace Go.Proofs.YtapaijpglfmfgaaGreatDoorG
open Go.RowKit YtapaijpglfmfgaaGreatDoorW.PrintWords YtapaijpglfmfgaaGreatDoorW.PrintLast
theorem maxPow_ (w : World) : Calls Tryz.prog 111 #[.int .u64 10] w fun e w' => e = .returned (.tuple #[.int .u64 10000000000000000000, .int .i64 19]) ∧ w' = w := by
 go_enter Tryz.func111, Tryz.ntmps111
 go_wp2
 go_loopw [2, 3] (fun p n wr => wr = w ∧ ((p = .int .u64 10 ∧ n = .int .i64 1) ∨ (p = .int .u64 100 ∧ n = .int .i64 2) ∨ (p = .int .u64 1000 ∧ n = .int .i64 3) ∨ (p = .int .u64 10000 ∧ n = .int .i64 4) ∨ (p = .int .u64 100000 ∧ n = .int .i64 5) ∨ (p = .int .u64 1000000 ∧ n = .int .i64 6) ∨ (p = .int .u64 10000000 ∧ n = .int .i64 7) ∨ (p = .int .u64 100000000 ∧ n = .int .i64 8) ∨ (p = .int .u64 1000000000 ∧ n = .int .i64 9) ∨ (p = .int .u64 10000000000 ∧ n = .int .i64 10) ∨ (p = .int .u64 100000000000 ∧ n = .int .i64 11) ∨ (p = .int .u64 1000000000000 ∧ n = .int .i64 12) ∨ (p = .int .u64 10000000000000 ∧ n = .int .i64 13) ∨ (p = .int .u64 100000000000000 ∧ n = .int .i64 14) ∨ (p = .int .u64 1000000000000000 ∧ n = .int .i64 15) ∨ (p = .int .u64 10000000000000000 ∧ n = .int .i64 16) ∨ (p = .int .u64 100000000000000000 ∧ n = .int .i64 17) ∨ (p = .int .u64 1000000000000000000 ∧ n = .int .i64 18) ∨ (p = .int .u64 10000000000000000000 ∧ n = .int .i64 19))) (fun _ n _ => 19 - (intOf n).toNat)
 case atStart => exact ⟨rfl, .inl ⟨rfl, rfl⟩⟩
 case round =>
  obtain ⟨rfl, hrel⟩ := hrel
  rcases hrel with ⟨rfl, rfl⟩ | ⟨rfl, rfl⟩ | ⟨rfl, rfl⟩ | ⟨rfl, rfl⟩ | ⟨rfl, rfl⟩ | ⟨rfl, rfl⟩ | ⟨rfl, rfl⟩ | ⟨rfl, rfl⟩ | ⟨rfl, rfl⟩ | ⟨rfl, rfl⟩ | ⟨rfl, rfl⟩ | ⟨rfl, rfl⟩ | ⟨rfl, rfl⟩ | ⟨rfl, rfl⟩ | ⟨rfl, rfl⟩ | ⟨rfl, rfl⟩ | ⟨rfl, rfl⟩ | ⟨rfl, rfl⟩ | ⟨rfl, rfl⟩
  ·go_wp2
   go_roundw
   case rel => first | exact ⟨rfl, .inr (.inl ⟨rfl, rfl⟩)⟩ | exact ⟨trivial, .inr (.inl ⟨rfl, rfl⟩)⟩ | (simp; done)
   case measure => simp [intOf]
  ·go_wp2
   go_roundw
   case rel => first | exact ⟨rfl, .inr (.inr (.inl ⟨rfl, rfl⟩))⟩ | exact ⟨trivial, .inr (.inr (.inl ⟨rfl, rfl⟩))⟩ | (simp; done)
   case measure => simp [intOf]
  ·go_wp2
   go_roundw
   case rel => first | exact ⟨rfl, .inr (.inr (.inr (.inl ⟨rfl, rfl⟩)))⟩ | exact ⟨trivial, .inr (.inr (.inr (.inl ⟨rfl, rfl⟩)))⟩ | (simp; done)
   case measure => simp [intOf]
  ·go_wp2
   go_roundw
   case rel => first | exact ⟨rfl, .inr (.inr (.inr (.inr (.inl ⟨rfl, rfl⟩))))⟩ | exact ⟨trivial, .inr (.inr (.inr (.inr (.inl ⟨rfl, rfl⟩))))⟩ | (simp; done)
   case measure => simp [intOf]
  ·go_wp2
   go_roundw
   case rel => first | exact ⟨rfl, .inr (.inr (.inr (.inr (.inr (.inl ⟨rfl, rfl⟩)))))⟩ | exact ⟨trivial, .inr (.inr (.inr (.inr (.inr (.inl ⟨rfl, rfl⟩)))))⟩ | (simp; done)
   case measure => simp [intOf]
  ·go_wp2
   go_roundw
   case rel => first | exact ⟨rfl, .inr (.inr (.inr (.inr (.inr (.inr (.inl ⟨rfl, rfl⟩))))))⟩ | exact ⟨trivial, .inr (.inr (.inr (.inr (.inr (.inr (.inl ⟨rfl, rfl⟩))))))⟩ | (simp; done)
   case measure => simp [intOf]
  ·go_wp2
   go_roundw
   case rel => first | exact ⟨rfl, .inr (.inr (.inr (.inr (.inr (.inr (.inr (.inl ⟨rfl, rfl⟩)))))))⟩ | exact ⟨trivial, .inr (.inr (.inr (.inr (.inr (.inr (.inr (.inl ⟨rfl, rfl⟩)))))))⟩ | (simp; done)
   case measure => simp [intOf]
  ·go_wp2
   go_roundw
   case rel => first | exact ⟨rfl, .inr (.inr (.inr (.inr (.inr (.inr (.inr (.inr (.inl ⟨rfl, rfl⟩))))))))⟩ | exact ⟨trivial, .inr (.inr (.inr (.inr (.inr (.inr (.inr (.inr (.inl ⟨rfl, rfl⟩))))))))⟩ | (simp; done)
   case measure => simp [intOf]
  ·go_wp2
   go_roundw
   case rel => first | exact ⟨rfl, .inr (.inr (.inr (.inr (.inr (.inr (.inr (.inr (.inr (.inl ⟨rfl, rfl⟩)))))))))⟩ | exact ⟨trivial, .inr (.inr (.inr (.inr (.inr (.inr (.inr (.inr (.inr (.inl ⟨rfl, rfl⟩)))))))))⟩ | (simp; done)
   case measure => simp [intOf]
  ·go_wp2
   go_roundw
   case rel => first | exact ⟨rfl, .inr (.inr (.inr (.inr (.inr (.inr (.inr (.inr (.inr (.inr (.inl ⟨rfl, rfl⟩))))))))))⟩ | exact ⟨trivial, .inr (.inr (.inr (.inr (.inr (.inr (.inr (.inr (.inr (.inr (.inl ⟨rfl, rfl⟩))))))))))⟩ | (simp; done)
   case measure => simp [intOf]
  ·go_wp2
   go_roundw
   case rel => first | exact ⟨rfl, .inr (.inr (.inr (.inr (.inr (.inr (.inr (.inr (.inr (.inr (.inr (.inl ⟨rfl, rfl⟩)))))))))))⟩ | exact ⟨trivial, .inr (.inr (.inr (.inr (.inr (.inr (.inr (.inr (.inr (.inr (.inr (.inl ⟨rfl, rfl⟩)))))))))))⟩ | (simp; done)
   case measure => simp [intOf]
  ·go_wp2
   go_roundw
   case rel => first | exact ⟨rfl, .inr (.inr (.inr (.inr (.inr (.inr (.inr (.inr (.inr (.inr (.inr (.inr (.inl ⟨rfl, rfl⟩))))))))))))⟩ | exact ⟨trivial, .inr (.inr (.inr (.inr (.inr (.inr (.inr (.inr (.inr (.inr (.inr (.inr (.inl ⟨rfl, rfl⟩))))))))))))⟩ | (simp; done)
   case measure => simp [intOf]
  ·go_wp2
   go_roundw
   case rel => first | exact ⟨rfl, .inr (.inr (.inr (.inr (.inr (.inr (.inr (.inr (.inr (.inr (.inr (.inr (.inr (.inl ⟨rfl, rfl⟩)))))))))))))⟩ | exact ⟨trivial, .inr (.inr (.inr (.inr (.inr (.inr (.inr (.inr (.inr (.inr (.inr (.inr (.inr (.inl ⟨rfl, rfl⟩)))))))))))))⟩ | (simp; done)
   case measure => simp [intOf]
  ·go_wp2
   go_roundw
   case rel => first | exact ⟨rfl, .inr (.inr (.inr (.inr (.inr (.inr (.inr (.inr (.inr (.inr (.inr (.inr (.inr (.inr (.inl ⟨rfl, rfl⟩))))))))))))))⟩ | exact ⟨trivial, .inr (.inr (.inr (.inr (.inr (.inr (.inr (.inr (.inr (.inr (.inr (.inr (.inr (.inr (.inl ⟨rfl, rfl⟩))))))))))))))⟩ | (simp; done)
   case measure => simp [intOf]
  ·go_wp2
   go_roundw
   case rel => first | exact ⟨rfl, .inr (.inr (.inr (.inr (.inr (.inr (.inr (.inr (.inr (.inr (.inr (.inr (.inr (.inr (.inr (.inl ⟨rfl, rfl⟩)))))))))))))))⟩ | exact ⟨trivial, .inr (.inr (.inr (.inr (.inr (.inr (.inr (.inr (.inr (.inr (.inr (.inr (.inr (.inr (.inr (.inl ⟨rfl, rfl⟩)))))))))))))))⟩ | (simp; done)
   case measure => simp [intOf]
  ·go_wp2
   go_roundw
   case rel => first | exact ⟨rfl, .inr (.inr (.inr (.inr (.inr (.inr (.inr (.inr (.inr (.inr (.inr (.inr (.inr (.inr (.inr (.inr (.inl ⟨rfl, rfl⟩))))))))))))))))⟩ | exact ⟨trivial, .inr (.inr (.inr (.inr (.inr (.inr (.inr (.inr (.inr (.inr (.inr (.inr (.inr (.inr (.inr (.inr (.inl ⟨rfl, rfl⟩))))))))))))))))⟩ | (simp; done)
   case measure => simp [intOf]
  ·go_wp2
   go_roundw
   case rel => first | exact ⟨rfl, .inr (.inr (.inr (.inr (.inr (.inr (.inr (.inr (.inr (.inr (.inr (.inr (.inr (.inr (.inr (.inr (.inr (.inl ⟨rfl, rfl⟩)))))))))))))))))⟩ | exact ⟨trivial, .inr (.inr (.inr (.inr (.inr (.inr (.inr (.inr (.inr (.inr (.inr (.inr (.inr (.inr (.inr (.inr (.inr (.inl ⟨rfl, rfl⟩)))))))))))))))))⟩ | (simp; done)
   case measure => simp [intOf]
  ·go_wp2
   go_roundw
   case rel => first | exact ⟨rfl, .inr (.inr (.inr (.inr (.inr (.inr (.inr (.inr (.inr (.inr (.inr (.inr (.inr (.inr (.inr (.inr (.inr (.inr (⟨rfl, rfl⟩))))))))))))))))))⟩ | exact ⟨trivial, .inr (.inr (.inr (.inr (.inr (.inr (.inr (.inr (.inr (.inr (.inr (.inr (.inr (.inr (.inr (.inr (.inr (.inr (⟨rfl, rfl⟩))))))))))))))))))⟩ | (simp; done)
   case measure => simp [intOf]
  ·go_wp2
   go_ret2
   exact ⟨rfl, rfl⟩
theorem pow_1 (w : World) : Calls Tryz.prog 113 #[.int .u64 10, .int .i64 1] w fun e w' => e = .returned (.int .u64 10) ∧ w' = w := by
 go_enter Tryz.func113, Tryz.ntmps113
 go_wp2
 go_loopw [0, 1, 4] (fun x n p wr => wr = w ∧ ((x = .int .u64 10 ∧ n = .int .i64 1 ∧ p = .int .u64 1) ∨ (x = .int .u64 100 ∧ n = .int .i64 0 ∧ p = .int .u64 10))) (fun _ n _ _ => (intOf n).toNat)
 case atStart => exact ⟨rfl, .inl ⟨rfl, rfl, rfl⟩⟩
 case round =>
  obtain ⟨rfl, hrel⟩ := hrel
  rcases hrel with ⟨rfl, rfl, rfl⟩ | ⟨rfl, rfl, rfl⟩
  ·go_wp2
   go_roundw
   case rel => first | exact ⟨rfl, .inr (⟨rfl, rfl, rfl⟩)⟩ | exact ⟨trivial, .inr (⟨rfl, rfl, rfl⟩)⟩ | (simp; done)
   case measure => simp [intOf]
  ·go_wp2
   go_ret
   exact ⟨rfl, rfl⟩
theorem pow_2 (w : World) : Calls Tryz.prog 113 #[.int .u64 10, .int .i64 2] w fun e w' => e = .returned (.int .u64 100) ∧ w' = w := by
 go_enter Tryz.func113, Tryz.ntmps113
 go_wp2
 go_loopw [0, 1, 4] (fun x n p wr => wr = w ∧ ((x = .int .u64 10 ∧ n = .int .i64 2 ∧ p = .int .u64 1) ∨ (x = .int .u64 100 ∧ n = .int .i64 1 ∧ p = .int .u64 1) ∨ (x = .int .u64 10000 ∧ n = .int .i64 0 ∧ p = .int .u64 100))) (fun _ n _ _ => (intOf n).toNat)
 case atStart => exact ⟨rfl, .inl ⟨rfl, rfl, rfl⟩⟩
 case round =>
  obtain ⟨rfl, hrel⟩ := hrel
  rcases hrel with ⟨rfl, rfl, rfl⟩ | ⟨rfl, rfl, rfl⟩ | ⟨rfl, rfl, rfl⟩
  ·go_wp2
   go_roundw
   case rel => first | exact ⟨rfl, .inr (.inl ⟨rfl, rfl, rfl⟩)⟩ | exact ⟨trivial, .inr (.inl ⟨rfl, rfl, rfl⟩)⟩ | (simp; done)
   case measure => simp [intOf]
  ·go_wp2
   go_roundw
   case rel => first | exact ⟨rfl, .inr (.inr (⟨rfl, rfl, rfl⟩))⟩ | exact ⟨trivial, .inr (.inr (⟨rfl, rfl, rfl⟩))⟩ | (simp; done)
   case measure => simp [intOf]
  ·go_wp2
   go_ret
   exact ⟨rfl, rfl⟩
theorem pow_3 (w : World) : Calls Tryz.prog 113 #[.int .u64 10, .int .i64 3] w fun e w' => e = .returned (.int .u64 1000) ∧ w' = w := by
 go_enter Tryz.func113, Tryz.ntmps113
 go_wp2
 go_loopw [0, 1, 4] (fun x n p wr => wr = w ∧ ((x = .int .u64 10 ∧ n = .int .i64 3 ∧ p = .int .u64 1) ∨ (x = .int .u64 100 ∧ n = .int .i64 1 ∧ p = .int .u64 10) ∨ (x = .int .u64 10000 ∧ n = .int .i64 0 ∧ p = .int .u64 1000))) (fun _ n _ _ => (intOf n).toNat)
 case atStart => exact ⟨rfl, .inl ⟨rfl, rfl, rfl⟩⟩
 case round =>
  obtain ⟨rfl, hrel⟩ := hrel
  rcases hrel with ⟨rfl, rfl, rfl⟩ | ⟨rfl, rfl, rfl⟩ | ⟨rfl, rfl, rfl⟩
  ·go_wp2
   go_roundw
   case rel => first | exact ⟨rfl, .inr (.inl ⟨rfl, rfl, rfl⟩)⟩ | exact ⟨trivial, .inr (.inl ⟨rfl, rfl, rfl⟩)⟩ | (simp; done)
   case measure => simp [intOf]
  ·go_wp2
   go_roundw
   case rel => first | exact ⟨rfl, .inr (.inr (⟨rfl, rfl, rfl⟩))⟩ | exact ⟨trivial, .inr (.inr (⟨rfl, rfl, rfl⟩))⟩ | (simp; done)
   case measure => simp [intOf]
  ·go_wp2
   go_ret
   exact ⟨rfl, rfl⟩
theorem pow_4 (w : World) : Calls Tryz.prog 113 #[.int .u64 10, .int .i64 4] w fun e w' => e = .returned (.int .u64 10000) ∧ w' = w := by
 go_enter Tryz.func113, Tryz.ntmps113
 go_wp2
 go_loopw [0, 1, 4] (fun x n p wr => wr = w ∧ ((x = .int .u64 10 ∧ n = .int .i64 4 ∧ p = .int .u64 1) ∨ (x = .int .u64 100 ∧ n = .int .i64 2 ∧ p = .int .u64 1) ∨ (x = .int .u64 10000 ∧ n = .int .i64 1 ∧ p = .int .u64 1) ∨ (x = .int .u64 100000000 ∧ n = .int .i64 0 ∧ p = .int .u64 10000))) (fun _ n _ _ => (intOf n).toNat)
 case atStart => exact ⟨rfl, .inl ⟨rfl, rfl, rfl⟩⟩
 case round =>
  obtain ⟨rfl, hrel⟩ := hrel
  rcases hrel with ⟨rfl, rfl, rfl⟩ | ⟨rfl, rfl, rfl⟩ | ⟨rfl, rfl, rfl⟩ | ⟨rfl, rfl, rfl⟩
  ·go_wp2
   go_roundw
   case rel => first | exact ⟨rfl, .inr (.inl ⟨rfl, rfl, rfl⟩)⟩ | exact ⟨trivial, .inr (.inl ⟨rfl, rfl, rfl⟩)⟩ | (simp; done)
   case measure => simp [intOf]
  ·go_wp2
   go_roundw
   case rel => first | exact ⟨rfl, .inr (.inr (.inl ⟨rfl, rfl, rfl⟩))⟩ | exact ⟨trivial, .inr (.inr (.inl ⟨rfl, rfl, rfl⟩))⟩ | (simp; done)
   case measure => simp [intOf]
  ·go_wp2
   go_roundw
   case rel => first | exact ⟨rfl, .inr (.inr (.inr (⟨rfl, rfl, rfl⟩)))⟩ | exact ⟨trivial, .inr (.inr (.inr (⟨rfl, rfl, rfl⟩)))⟩ | (simp; done)
   case measure => simp [intOf]
  ·go_wp2
   go_ret
   exact ⟨rfl, rfl⟩
theorem pow_5 (w : World) : Calls Tryz.prog 113 #[.int .u64 10, .int .i64 5] w fun e w' => e = .returned (.int .u64 100000) ∧ w' = w := by
 go_enter Tryz.func113, Tryz.ntmps113
 go_wp2
 go_loopw [0, 1, 4] (fun x n p wr => wr = w ∧ ((x = .int .u64 10 ∧ n = .int .i64 5 ∧ p = .int .u64 1) ∨ (x = .int .u64 100 ∧ n = .int .i64 2 ∧ p = .int .u64 10) ∨ (x = .int .u64 10000 ∧ n = .int .i64 1 ∧ p = .int .u64 10) ∨ (x = .int .u64 100000000 ∧ n = .int .i64 0 ∧ p = .int .u64 100000))) (fun _ n _ _ => (intOf n).toNat)
 case atStart => exact ⟨rfl, .inl ⟨rfl, rfl, rfl⟩⟩
 case round =>
  obtain ⟨rfl, hrel⟩ := hrel
  rcases hrel with ⟨rfl, rfl, rfl⟩ | ⟨rfl, rfl, rfl⟩ | ⟨rfl, rfl, rfl⟩ | ⟨rfl, rfl, rfl⟩
  ·go_wp2
   go_roundw
   case rel => first | exact ⟨rfl, .inr (.inl ⟨rfl, rfl, rfl⟩)⟩ | exact ⟨trivial, .inr (.inl ⟨rfl, rfl, rfl⟩)⟩ | (simp; done)
   case measure => simp [intOf]
  ·go_wp2
   go_roundw
   case rel => first | exact ⟨rfl, .inr (.inr (.inl ⟨rfl, rfl, rfl⟩))⟩ | exact ⟨trivial, .inr (.inr (.inl ⟨rfl, rfl, rfl⟩))⟩ | (simp; done)
   case measure => simp [intOf]
  ·go_wp2
   go_roundw
   case rel => first | exact ⟨rfl, .inr (.inr (.inr (⟨rfl, rfl, rfl⟩)))⟩ | exact ⟨trivial, .inr (.inr (.inr (⟨rfl, rfl, rfl⟩)))⟩ | (simp; done)
   case measure => simp [intOf]
  ·go_wp2
   go_ret
   exact ⟨rfl, rfl⟩
theorem pow_6 (w : World) : Calls Tryz.prog 113 #[.int .u64 10, .int .i64 6] w fun e w' => e = .returned (.int .u64 1000000) ∧ w' = w := by
 go_enter Tryz.func113, Tryz.ntmps113
 go_wp2
 go_loopw [0, 1, 4] (fun x n p wr => wr = w ∧ ((x = .int .u64 10 ∧ n = .int .i64 6 ∧ p = .int .u64 1) ∨ (x = .int .u64 100 ∧ n = .int .i64 3 ∧ p = .int .u64 1) ∨ (x = .int .u64 10000 ∧ n = .int .i64 1 ∧ p = .int .u64 100) ∨ (x = .int .u64 100000000 ∧ n = .int .i64 0 ∧ p = .int .u64 1000000))) (fun _ n _ _ => (intOf n).toNat)
 case atStart => exact ⟨rfl, .inl ⟨rfl, rfl, rfl⟩⟩
 case round =>
  obtain ⟨rfl, hrel⟩ := hrel
  rcases hrel with ⟨rfl, rfl, rfl⟩ | ⟨rfl, rfl, rfl⟩ | ⟨rfl, rfl, rfl⟩ | ⟨rfl, rfl, rfl⟩
  ·go_wp2
   go_roundw
   case rel => first | exact ⟨rfl, .inr (.inl ⟨rfl, rfl, rfl⟩)⟩ | exact ⟨trivial, .inr (.inl ⟨rfl, rfl, rfl⟩)⟩ | (simp; done)
   case measure => simp [intOf]
  ·go_wp2
   go_roundw
   case rel => first | exact ⟨rfl, .inr (.inr (.inl ⟨rfl, rfl, rfl⟩))⟩ | exact ⟨trivial, .inr (.inr (.inl ⟨rfl, rfl, rfl⟩))⟩ | (simp; done)
   case measure => simp [intOf]
  ·go_wp2
   go_roundw
   case rel => first | exact ⟨rfl, .inr (.inr (.inr (⟨rfl, rfl, rfl⟩)))⟩ | exact ⟨trivial, .inr (.inr (.inr (⟨rfl, rfl, rfl⟩)))⟩ | (simp; done)
   case measure => simp [intOf]
  ·go_wp2
   go_ret
   exact ⟨rfl, rfl⟩
theorem pow_7 (w : World) : Calls Tryz.prog 113 #[.int .u64 10, .int .i64 7] w fun e w' => e = .returned (.int .u64 10000000) ∧ w' = w := by
 go_enter Tryz.func113, Tryz.ntmps113
 go_wp2
 go_loopw [0, 1, 4] (fun x n p wr => wr = w ∧ ((x = .int .u64 10 ∧ n = .int .i64 7 ∧ p = .int .u64 1) ∨ (x = .int .u64 100 ∧ n = .int .i64 3 ∧ p = .int .u64 10) ∨ (x = .int .u64 10000 ∧ n = .int .i64 1 ∧ p = .int .u64 1000) ∨ (x = .int .u64 100000000 ∧ n = .int .i64 0 ∧ p = .int .u64 10000000))) (fun _ n _ _ => (intOf n).toNat)
 case atStart => exact ⟨rfl, .inl ⟨rfl, rfl, rfl⟩⟩
 case round =>
  obtain ⟨rfl, hrel⟩ := hrel
  rcases hrel with ⟨rfl, rfl, rfl⟩ | ⟨rfl, rfl, rfl⟩ | ⟨rfl, rfl, rfl⟩ | ⟨rfl, rfl, rfl⟩
  ·go_wp2
   go_roundw
   case rel => first | exact ⟨rfl, .inr (.inl ⟨rfl, rfl, rfl⟩)⟩ | exact ⟨trivial, .inr (.inl ⟨rfl, rfl, rfl⟩)⟩ | (simp; done)
   case measure => simp [intOf]
  ·go_wp2
   go_roundw
   case rel => first | exact ⟨rfl, .inr (.inr (.inl ⟨rfl, rfl, rfl⟩))⟩ | exact ⟨trivial, .inr (.inr (.inl ⟨rfl, rfl, rfl⟩))⟩ | (simp; done)
   case measure => simp [intOf]
  ·go_wp2
   go_roundw
   case rel => first | exact ⟨rfl, .inr (.inr (.inr (⟨rfl, rfl, rfl⟩)))⟩ | exact ⟨trivial, .inr (.inr (.inr (⟨rfl, rfl, rfl⟩)))⟩ | (simp; done)
   case measure => simp [intOf]
  ·go_wp2
   go_ret
   exact ⟨rfl, rfl⟩
theorem pow_8 (w : World) : Calls Tryz.prog 113 #[.int .u64 10, .int .i64 8] w fun e w' => e = .returned (.int .u64 100000000) ∧ w' = w := by
 go_enter Tryz.func113, Tryz.ntmps113
 go_wp2
 go_loopw [0, 1, 4] (fun x n p wr => wr = w ∧ ((x = .int .u64 10 ∧ n = .int .i64 8 ∧ p = .int .u64 1) ∨ (x = .int .u64 100 ∧ n = .int .i64 4 ∧ p = .int .u64 1) ∨ (x = .int .u64 10000 ∧ n = .int .i64 2 ∧ p = .int .u64 1) ∨ (x = .int .u64 100000000 ∧ n = .int .i64 1 ∧ p = .int .u64 1) ∨ (x = .int .u64 10000000000000000 ∧ n = .int .i64 0 ∧ p = .int .u64 100000000))) (fun _ n _ _ => (intOf n).toNat)
 case atStart => exact ⟨rfl, .inl ⟨rfl, rfl, rfl⟩⟩
 case round =>
  obtain ⟨rfl, hrel⟩ := hrel
  rcases hrel with ⟨rfl, rfl, rfl⟩ | ⟨rfl, rfl, rfl⟩ | ⟨rfl, rfl, rfl⟩ | ⟨rfl, rfl, rfl⟩ | ⟨rfl, rfl, rfl⟩
  ·go_wp2
   go_roundw
   case rel => first | exact ⟨rfl, .inr (.inl ⟨rfl, rfl, rfl⟩)⟩ | exact ⟨trivial, .inr (.inl ⟨rfl, rfl, rfl⟩)⟩ | (simp; done)
   case measure => simp [intOf]
  ·go_wp2
   go_roundw
   case rel => first | exact ⟨rfl, .inr (.inr (.inl ⟨rfl, rfl, rfl⟩))⟩ | exact ⟨trivial, .inr (.inr (.inl ⟨rfl, rfl, rfl⟩))⟩ | (simp; done)
   case measure => simp [intOf]
  ·go_wp2
   go_roundw
   case rel => first | exact ⟨rfl, .inr (.inr (.inr (.inl ⟨rfl, rfl, rfl⟩)))⟩ | exact ⟨trivial, .inr (.inr (.inr (.inl ⟨rfl, rfl, rfl⟩)))⟩ | (simp; done)
   case measure => simp [intOf]
  ·go_wp2
   go_roundw
   case rel => first | exact ⟨rfl, .inr (.inr (.inr (.inr (⟨rfl, rfl, rfl⟩))))⟩ | exact ⟨trivial, .inr (.inr (.inr (.inr (⟨rfl, rfl, rfl⟩))))⟩ | (simp; done)
   case measure => simp [intOf]
  ·go_wp2
   go_ret
   exact ⟨rfl, rfl⟩
theorem pow_9 (w : World) : Calls Tryz.prog 113 #[.int .u64 10, .int .i64 9] w fun e w' => e = .returned (.int .u64 1000000000) ∧ w' = w := by
 go_enter Tryz.func113, Tryz.ntmps113
 go_wp2
 go_loopw [0, 1, 4] (fun x n p wr => wr = w ∧ ((x = .int .u64 10 ∧ n = .int .i64 9 ∧ p = .int .u64 1) ∨ (x = .int .u64 100 ∧ n = .int .i64 4 ∧ p = .int .u64 10) ∨ (x = .int .u64 10000 ∧ n = .int .i64 2 ∧ p = .int .u64 10) ∨ (x = .int .u64 100000000 ∧ n = .int .i64 1 ∧ p = .int .u64 10) ∨ (x = .int .u64 10000000000000000 ∧ n = .int .i64 0 ∧ p = .int .u64 1000000000))) (fun _ n _ _ => (intOf n).toNat)
 case atStart => exact ⟨rfl, .inl ⟨rfl, rfl, rfl⟩⟩
 case round =>
  obtain ⟨rfl, hrel⟩ := hrel
  rcases hrel with ⟨rfl, rfl, rfl⟩ | ⟨rfl, rfl, rfl⟩ | ⟨rfl, rfl, rfl⟩ | ⟨rfl, rfl, rfl⟩ | ⟨rfl, rfl, rfl⟩
  ·go_wp2
   go_roundw
   case rel => first | exact ⟨rfl, .inr (.inl ⟨rfl, rfl, rfl⟩)⟩ | exact ⟨trivial, .inr (.inl ⟨rfl, rfl, rfl⟩)⟩ | (simp; done)
   case measure => simp [intOf]
  ·go_wp2
   go_roundw
   case rel => first | exact ⟨rfl, .inr (.inr (.inl ⟨rfl, rfl, rfl⟩))⟩ | exact ⟨trivial, .inr (.inr (.inl ⟨rfl, rfl, rfl⟩))⟩ | (simp; done)
   case measure => simp [intOf]
  ·go_wp2
   go_roundw
   case rel => first | exact ⟨rfl, .inr (.inr (.inr (.inl ⟨rfl, rfl, rfl⟩)))⟩ | exact ⟨trivial, .inr (.inr (.inr (.inl ⟨rfl, rfl, rfl⟩)))⟩ | (simp; done)
   case measure => simp [intOf]
  ·go_wp2
   go_roundw
   case rel => first | exact ⟨rfl, .inr (.inr (.inr (.inr (⟨rfl, rfl, rfl⟩))))⟩ | exact ⟨trivial, .inr (.inr (.inr (.inr (⟨rfl, rfl, rfl⟩))))⟩ | (simp; done)
   case measure => simp [intOf]
  ·go_wp2
   go_ret
   exact ⟨rfl, rfl⟩
theorem pow_10 (w : World) : Calls Tryz.prog 113 #[.int .u64 10, .int .i64 10] w fun e w' => e = .returned (.int .u64 10000000000) ∧ w' = w := by
 go_enter Tryz.func113, Tryz.ntmps113
 go_wp2
 go_loopw [0, 1, 4] (fun x n p wr => wr = w ∧ ((x = .int .u64 10 ∧ n = .int .i64 10 ∧ p = .int .u64 1) ∨ (x = .int .u64 100 ∧ n = .int .i64 5 ∧ p = .int .u64 1) ∨ (x = .int .u64 10000 ∧ n = .int .i64 2 ∧ p = .int .u64 100) ∨ (x = .int .u64 100000000 ∧ n = .int .i64 1 ∧ p = .int .u64 100) ∨ (x = .int .u64 10000000000000000 ∧ n = .int .i64 0 ∧ p = .int .u64 10000000000))) (fun _ n _ _ => (intOf n).toNat)
 case atStart => exact ⟨rfl, .inl ⟨rfl, rfl, rfl⟩⟩
 case round =>
  obtain ⟨rfl, hrel⟩ := hrel
  rcases hrel with ⟨rfl, rfl, rfl⟩ | ⟨rfl, rfl, rfl⟩ | ⟨rfl, rfl, rfl⟩ | ⟨rfl, rfl, rfl⟩ | ⟨rfl, rfl, rfl⟩
  ·go_wp2
   go_roundw
   case rel => first | exact ⟨rfl, .inr (.inl ⟨rfl, rfl, rfl⟩)⟩ | exact ⟨trivial, .inr (.inl ⟨rfl, rfl, rfl⟩)⟩ | (simp; done)
   case measure => simp [intOf]
  ·go_wp2
   go_roundw
   case rel => first | exact ⟨rfl, .inr (.inr (.inl ⟨rfl, rfl, rfl⟩))⟩ | exact ⟨trivial, .inr (.inr (.inl ⟨rfl, rfl, rfl⟩))⟩ | (simp; done)
   case measure => simp [intOf]
  ·go_wp2
   go_roundw
   case rel => first | exact ⟨rfl, .inr (.inr (.inr (.inl ⟨rfl, rfl, rfl⟩)))⟩ | exact ⟨trivial, .inr (.inr (.inr (.inl ⟨rfl, rfl, rfl⟩)))⟩ | (simp; done)
   case measure => simp [intOf]
  ·go_wp2
   go_roundw
   case rel => first | exact ⟨rfl, .inr (.inr (.inr (.inr (⟨rfl, rfl, rfl⟩))))⟩ | exact ⟨trivial, .inr (.inr (.inr (.inr (⟨rfl, rfl, rfl⟩))))⟩ | (simp; done)
   case measure => simp [intOf]
  ·go_wp2
   go_ret
   exact ⟨rfl, rfl⟩
theorem pow_11 (w : World) : Calls Tryz.prog 113 #[.int .u64 10, .int .i64 11] w fun e w' => e = .returned (.int .u64 100000000000) ∧ w' = w := by
 go_enter Tryz.func113, Tryz.ntmps113
 go_wp2
 go_loopw [0, 1, 4] (fun x n p wr => wr = w ∧ ((x = .int .u64 10 ∧ n = .int .i64 11 ∧ p = .int .u64 1) ∨ (x = .int .u64 100 ∧ n = .int .i64 5 ∧ p = .int .u64 10) ∨ (x = .int .u64 10000 ∧ n = .int .i64 2 ∧ p = .int .u64 1000) ∨ (x = .int .u64 100000000 ∧ n = .int .i64 1 ∧ p = .int .u64 1000) ∨ (x = .int .u64 10000000000000000 ∧ n = .int .i64 0 ∧ p = .int .u64 100000000000))) (fun _ n _ _ => (intOf n).toNat)
 case atStart => exact ⟨rfl, .inl ⟨rfl, rfl, rfl⟩⟩
 case round =>
  obtain ⟨rfl, hrel⟩ := hrel
  rcases hrel with ⟨rfl, rfl, rfl⟩ | ⟨rfl, rfl, rfl⟩ | ⟨rfl, rfl, rfl⟩ | ⟨rfl, rfl, rfl⟩ | ⟨rfl, rfl, rfl⟩
  ·go_wp2
   go_roundw
   case rel => first | exact ⟨rfl, .inr (.inl ⟨rfl, rfl, rfl⟩)⟩ | exact ⟨trivial, .inr (.inl ⟨rfl, rfl, rfl⟩)⟩ | (simp; done)
   case measure => simp [intOf]
  ·go_wp2
   go_roundw
   case rel => first | exact ⟨rfl, .inr (.inr (.inl ⟨rfl, rfl, rfl⟩))⟩ | exact ⟨trivial, .inr (.inr (.inl ⟨rfl, rfl, rfl⟩))⟩ | (simp; done)
   case measure => simp [intOf]
  ·go_wp2
   go_roundw
   case rel => first | exact ⟨rfl, .inr (.inr (.inr (.inl ⟨rfl, rfl, rfl⟩)))⟩ | exact ⟨trivial, .inr (.inr (.inr (.inl ⟨rfl, rfl, rfl⟩)))⟩ | (simp; done)
   case measure => simp [intOf]
  ·go_wp2
   go_roundw
   case rel => first | exact ⟨rfl, .inr (.inr (.inr (.inr (⟨rfl, rfl, rfl⟩))))⟩ | exact ⟨trivial, .inr (.inr (.inr (.inr (⟨rfl, rfl, rfl⟩))))⟩ | (simp; done)
   case measure => simp [intOf]
  ·go_wp2
   go_ret
   exact ⟨rfl, rfl⟩
theorem pow_12 (w : World) : Calls Tryz.prog 113 #[.int .u64 10, .int .i64 12] w fun e w' => e = .returned (.int .u64 1000000000000) ∧ w' = w := by
 go_enter Tryz.func113, Tryz.ntmps113
 go_wp2
 go_loopw [0, 1, 4] (fun x n p wr => wr = w ∧ ((x = .int .u64 10 ∧ n = .int .i64 12 ∧ p = .int .u64 1) ∨ (x = .int .u64 100 ∧ n = .int .i64 6 ∧ p = .int .u64 1) ∨ (x = .int .u64 10000 ∧ n = .int .i64 3 ∧ p = .int .u64 1) ∨ (x = .int .u64 100000000 ∧ n = .int .i64 1 ∧ p = .int .u64 10000) ∨ (x = .int .u64 10000000000000000 ∧ n = .int .i64 0 ∧ p = .int .u64 1000000000000))) (fun _ n _ _ => (intOf n).toNat)
 case atStart => exact ⟨rfl, .inl ⟨rfl, rfl, rfl⟩⟩
 case round =>
  obtain ⟨rfl, hrel⟩ := hrel
  rcases hrel with ⟨rfl, rfl, rfl⟩ | ⟨rfl, rfl, rfl⟩ | ⟨rfl, rfl, rfl⟩ | ⟨rfl, rfl, rfl⟩ | ⟨rfl, rfl, rfl⟩
  ·go_wp2
   go_roundw
   case rel => first | exact ⟨rfl, .inr (.inl ⟨rfl, rfl, rfl⟩)⟩ | exact ⟨trivial, .inr (.inl ⟨rfl, rfl, rfl⟩)⟩ | (simp; done)
   case measure => simp [intOf]
  ·go_wp2
   go_roundw
   case rel => first | exact ⟨rfl, .inr (.inr (.inl ⟨rfl, rfl, rfl⟩))⟩ | exact ⟨trivial, .inr (.inr (.inl ⟨rfl, rfl, rfl⟩))⟩ | (simp; done)
   case measure => simp [intOf]
  ·go_wp2
   go_roundw
   case rel => first | exact ⟨rfl, .inr (.inr (.inr (.inl ⟨rfl, rfl, rfl⟩)))⟩ | exact ⟨trivial, .inr (.inr (.inr (.inl ⟨rfl, rfl, rfl⟩)))⟩ | (simp; done)
   case measure => simp [intOf]
  ·go_wp2
   go_roundw
   case rel => first | exact ⟨rfl, .inr (.inr (.inr (.inr (⟨rfl, rfl, rfl⟩))))⟩ | exact ⟨trivial, .inr (.inr (.inr (.inr (⟨rfl, rfl, rfl⟩))))⟩ | (simp; done)
   case measure => simp [intOf]
  ·go_wp2
   go_ret
   exact ⟨rfl, rfl⟩
theorem pow_13 (w : World) : Calls Tryz.prog 113 #[.int .u64 10, .int .i64 13] w fun e w' => e = .returned (.int .u64 10000000000000) ∧ w' = w := by
 go_enter Tryz.func113, Tryz.ntmps113
 go_wp2
 go_loopw [0, 1, 4] (fun x n p wr => wr = w ∧ ((x = .int .u64 10 ∧ n = .int .i64 13 ∧ p = .int .u64 1) ∨ (x = .int .u64 100 ∧ n = .int .i64 6 ∧ p = .int .u64 10) ∨ (x = .int .u64 10000 ∧ n = .int .i64 3 ∧ p = .int .u64 10) ∨ (x = .int .u64 100000000 ∧ n = .int .i64 1 ∧ p = .int .u64 100000) ∨ (x = .int .u64 10000000000000000 ∧ n = .int .i64 0 ∧ p = .int .u64 10000000000000))) (fun _ n _ _ => (intOf n).toNat)
 case atStart => exact ⟨rfl, .inl ⟨rfl, rfl, rfl⟩⟩
 case round =>
  obtain ⟨rfl, hrel⟩ := hrel
  rcases hrel with ⟨rfl, rfl, rfl⟩ | ⟨rfl, rfl, rfl⟩ | ⟨rfl, rfl, rfl⟩ | ⟨rfl, rfl, rfl⟩ | ⟨rfl, rfl, rfl⟩
  ·go_wp2
   go_roundw
   case rel => first | exact ⟨rfl, .inr (.inl ⟨rfl, rfl, rfl⟩)⟩ | exact ⟨trivial, .inr (.inl ⟨rfl, rfl, rfl⟩)⟩ | (simp; done)
   case measure => simp [intOf]
  ·go_wp2
   go_roundw
   case rel => first | exact ⟨rfl, .inr (.inr (.inl ⟨rfl, rfl, rfl⟩))⟩ | exact ⟨trivial, .inr (.inr (.inl ⟨rfl, rfl, rfl⟩))⟩ | (simp; done)
   case measure => simp [intOf]
  ·go_wp2
   go_roundw
   case rel => first | exact ⟨rfl, .inr (.inr (.inr (.inl ⟨rfl, rfl, rfl⟩)))⟩ | exact ⟨trivial, .inr (.inr (.inr (.inl ⟨rfl, rfl, rfl⟩)))⟩ | (simp; done)
   case measure => simp [intOf]
  ·go_wp2
   go_roundw
   case rel => first | exact ⟨rfl, .inr (.inr (.inr (.inr (⟨rfl, rfl, rfl⟩))))⟩ | exact ⟨trivial, .inr (.inr (.inr (.inr (⟨rfl, rfl, rfl⟩))))⟩ | (simp; done)
   case measure => simp [intOf]
  ·go_wp2
   go_ret
   exact ⟨rfl, rfl⟩
theorem pow_14 (w : World) : Calls Tryz.prog 113 #[.int .u64 10, .int .i64 14] w fun e w' => e = .returned (.int .u64 100000000000000) ∧ w' = w := by
 go_enter Tryz.func113, Tryz.ntmps113
 go_wp2
 go_loopw [0, 1, 4] (fun x n p wr => wr = w ∧ ((x = .int .u64 10 ∧ n = .int .i64 14 ∧ p = .int .u64 1) ∨ (x = .int .u64 100 ∧ n = .int .i64 7 ∧ p = .int .u64 1) ∨ (x = .int .u64 10000 ∧ n = .int .i64 3 ∧ p = .int .u64 100) ∨ (x = .int .u64 100000000 ∧ n = .int .i64 1 ∧ p = .int .u64 1000000) ∨ (x = .int .u64 10000000000000000 ∧ n = .int .i64 0 ∧ p = .int .u64 100000000000000))) (fun _ n _ _ => (intOf n).toNat)
 case atStart => exact ⟨rfl, .inl ⟨rfl, rfl, rfl⟩⟩
 case round =>
  obtain ⟨rfl, hrel⟩ := hrel
  rcases hrel with ⟨rfl, rfl, rfl⟩ | ⟨rfl, rfl, rfl⟩ | ⟨rfl, rfl, rfl⟩ | ⟨rfl, rfl, rfl⟩ | ⟨rfl, rfl, rfl⟩
  ·go_wp2
   go_roundw
   case rel => first | exact ⟨rfl, .inr (.inl ⟨rfl, rfl, rfl⟩)⟩ | exact ⟨trivial, .inr (.inl ⟨rfl, rfl, rfl⟩)⟩ | (simp; done)
   case measure => simp [intOf]
  ·go_wp2
   go_roundw
   case rel => first | exact ⟨rfl, .inr (.inr (.inl ⟨rfl, rfl, rfl⟩))⟩ | exact ⟨trivial, .inr (.inr (.inl ⟨rfl, rfl, rfl⟩))⟩ | (simp; done)
   case measure => simp [intOf]
  ·go_wp2
   go_roundw
   case rel => first | exact ⟨rfl, .inr (.inr (.inr (.inl ⟨rfl, rfl, rfl⟩)))⟩ | exact ⟨trivial, .inr (.inr (.inr (.inl ⟨rfl, rfl, rfl⟩)))⟩ | (simp; done)
   case measure => simp [intOf]
  ·go_wp2
   go_roundw
   case rel => first | exact ⟨rfl, .inr (.inr (.inr (.inr (⟨rfl, rfl, rfl⟩))))⟩ | exact ⟨trivial, .inr (.inr (.inr (.inr (⟨rfl, rfl, rfl⟩))))⟩ | (simp; done)
   case measure => simp [intOf]
  ·go_wp2
   go_ret
   exact ⟨rfl, rfl⟩
theorem pow_15 (w : World) : Calls Tryz.prog 113 #[.int .u64 10, .int .i64 15] w fun e w' => e = .returned (.int .u64 1000000000000000) ∧ w' = w := by
 go_enter Tryz.func113, Tryz.ntmps113
 go_wp2
 go_loopw [0, 1, 4] (fun x n p wr => wr = w ∧ ((x = .int .u64 10 ∧ n = .int .i64 15 ∧ p = .int .u64 1) ∨ (x = .int .u64 100 ∧ n = .int .i64 7 ∧ p = .int .u64 10) ∨ (x = .int .u64 10000 ∧ n = .int .i64 3 ∧ p = .int .u64 1000) ∨ (x = .int .u64 100000000 ∧ n = .int .i64 1 ∧ p = .int .u64 10000000) ∨ (x = .int .u64 10000000000000000 ∧ n = .int .i64 0 ∧ p = .int .u64 1000000000000000))) (fun _ n _ _ => (intOf n).toNat)
 case atStart => exact ⟨rfl, .inl ⟨rfl, rfl, rfl⟩⟩
 case round =>
  obtain ⟨rfl, hrel⟩ := hrel
  rcases hrel with ⟨rfl, rfl, rfl⟩ | ⟨rfl, rfl, rfl⟩ | ⟨rfl, rfl, rfl⟩ | ⟨rfl, rfl, rfl⟩ | ⟨rfl, rfl, rfl⟩
  ·go_wp2
   go_roundw
   case rel => first | exact ⟨rfl, .inr (.inl ⟨rfl, rfl, rfl⟩)⟩ | exact ⟨trivial, .inr (.inl ⟨rfl, rfl, rfl⟩)⟩ | (simp; done)
   case measure => simp [intOf]
  ·go_wp2
   go_roundw
   case rel => first | exact ⟨rfl, .inr (.inr (.inl ⟨rfl, rfl, rfl⟩))⟩ | exact ⟨trivial, .inr (.inr (.inl ⟨rfl, rfl, rfl⟩))⟩ | (simp; done)
   case measure => simp [intOf]
  ·go_wp2
   go_roundw
   case rel => first | exact ⟨rfl, .inr (.inr (.inr (.inl ⟨rfl, rfl, rfl⟩)))⟩ | exact ⟨trivial, .inr (.inr (.inr (.inl ⟨rfl, rfl, rfl⟩)))⟩ | (simp; done)
   case measure => simp [intOf]
  ·go_wp2
   go_roundw
   case rel => first | exact ⟨rfl, .inr (.inr (.inr (.inr (⟨rfl, rfl, rfl⟩))))⟩ | exact ⟨trivial, .inr (.inr (.inr (.inr (⟨rfl, rfl, rfl⟩))))⟩ | (simp; done)
   case measure => simp [intOf]
  ·go_wp2
   go_ret
   exact ⟨rfl, rfl⟩
theorem pow_16 (w : World) : Calls Tryz.prog 113 #[.int .u64 10, .int .i64 16] w fun e w' => e = .returned (.int .u64 10000000000000000) ∧ w' = w := by
 go_enter Tryz.func113, Tryz.ntmps113
 go_wp2
 go_loopw [0, 1, 4] (fun x n p wr => wr = w ∧ ((x = .int .u64 10 ∧ n = .int .i64 16 ∧ p = .int .u64 1) ∨ (x = .int .u64 100 ∧ n = .int .i64 8 ∧ p = .int .u64 1) ∨ (x = .int .u64 10000 ∧ n = .int .i64 4 ∧ p = .int .u64 1) ∨ (x = .int .u64 100000000 ∧ n = .int .i64 2 ∧ p = .int .u64 1) ∨ (x = .int .u64 10000000000000000 ∧ n = .int .i64 1 ∧ p = .int .u64 1) ∨ (x = .int .u64 9632337040368467968 ∧ n = .int .i64 0 ∧ p = .int .u64 10000000000000000))) (fun _ n _ _ => (intOf n).toNat)
 case atStart => exact ⟨rfl, .inl ⟨rfl, rfl, rfl⟩⟩
 case round =>
  obtain ⟨rfl, hrel⟩ := hrel
  rcases hrel with ⟨rfl, rfl, rfl⟩ | ⟨rfl, rfl, rfl⟩ | ⟨rfl, rfl, rfl⟩ | ⟨rfl, rfl, rfl⟩ | ⟨rfl, rfl, rfl⟩ | ⟨rfl, rfl, rfl⟩
  ·go_wp2
   go_roundw
   case rel => first | exact ⟨rfl, .inr (.inl ⟨rfl, rfl, rfl⟩)⟩ | exact ⟨trivial, .inr (.inl ⟨rfl, rfl, rfl⟩)⟩ | (simp; done)
   case measure => simp [intOf]
  ·go_wp2
   go_roundw
   case rel => first | exact ⟨rfl, .inr (.inr (.inl ⟨rfl, rfl, rfl⟩))⟩ | exact ⟨trivial, .inr (.inr (.inl ⟨rfl, rfl, rfl⟩))⟩ | (simp; done)
   case measure => simp [intOf]
  ·go_wp2
   go_roundw
   case rel => first | exact ⟨rfl, .inr (.inr (.inr (.inl ⟨rfl, rfl, rfl⟩)))⟩ | exact ⟨trivial, .inr (.inr (.inr (.inl ⟨rfl, rfl, rfl⟩)))⟩ | (simp; done)
   case measure => simp [intOf]
  ·go_wp2
   go_roundw
   case rel => first | exact ⟨rfl, .inr (.inr (.inr (.inr (.inl ⟨rfl, rfl, rfl⟩))))⟩ | exact ⟨trivial, .inr (.inr (.inr (.inr (.inl ⟨rfl, rfl, rfl⟩))))⟩ | (simp; done)
   case measure => simp [intOf]
  ·go_wp2
   go_roundw
   case rel => first | exact ⟨rfl, .inr (.inr (.inr (.inr (.inr (⟨rfl, rfl, rfl⟩)))))⟩ | exact ⟨trivial, .inr (.inr (.inr (.inr (.inr (⟨rfl, rfl, rfl⟩)))))⟩ | (simp; done)
   case measure => simp [intOf]
  ·go_wp2
   go_ret
   exact ⟨rfl, rfl⟩
theorem pow_17 (w : World) : Calls Tryz.prog 113 #[.int .u64 10, .int .i64 17] w fun e w' => e = .returned (.int .u64 100000000000000000) ∧ w' = w := by
 go_enter Tryz.func113, Tryz.ntmps113
 go_wp2
 go_loopw [0, 1, 4] (fun x n p wr => wr = w ∧ ((x = .int .u64 10 ∧ n = .int .i64 17 ∧ p = .int .u64 1) ∨ (x = .int .u64 100 ∧ n = .int .i64 8 ∧ p = .int .u64 10) ∨ (x = .int .u64 10000 ∧ n = .int .i64 4 ∧ p = .int .u64 10) ∨ (x = .int .u64 100000000 ∧ n = .int .i64 2 ∧ p = .int .u64 10) ∨ (x = .int .u64 10000000000000000 ∧ n = .int .i64 1 ∧ p = .int .u64 10) ∨ (x = .int .u64 9632337040368467968 ∧ n = .int .i64 0 ∧ p = .int .u64 100000000000000000))) (fun _ n _ _ => (intOf n).toNat)
 case atStart => exact ⟨rfl, .inl ⟨rfl, rfl, rfl⟩⟩
 case round =>
  obtain ⟨rfl, hrel⟩ := hrel
  rcases hrel with ⟨rfl, rfl, rfl⟩ | ⟨rfl, rfl, rfl⟩ | ⟨rfl, rfl, rfl⟩ | ⟨rfl, rfl, rfl⟩ | ⟨rfl, rfl, rfl⟩ | ⟨rfl, rfl, rfl⟩
  ·go_wp2
   go_roundw
   case rel => first | exact ⟨rfl, .inr (.inl ⟨rfl, rfl, rfl⟩)⟩ | exact ⟨trivial, .inr (.inl ⟨rfl, rfl, rfl⟩)⟩ | (simp; done)
   case measure => simp [intOf]
  ·go_wp2
   go_roundw
   case rel => first | exact ⟨rfl, .inr (.inr (.inl ⟨rfl, rfl, rfl⟩))⟩ | exact ⟨trivial, .inr (.inr (.inl ⟨rfl, rfl, rfl⟩))⟩ | (simp; done)
   case measure => simp [intOf]
  ·go_wp2
   go_roundw
   case rel => first | exact ⟨rfl, .inr (.inr (.inr (.inl ⟨rfl, rfl, rfl⟩)))⟩ | exact ⟨trivial, .inr (.inr (.inr (.inl ⟨rfl, rfl, rfl⟩)))⟩ | (simp; done)
   case measure => simp [intOf]
  ·go_wp2
   go_roundw
   case rel => first | exact ⟨rfl, .inr (.inr (.inr (.inr (.inl ⟨rfl, rfl, rfl⟩))))⟩ | exact ⟨trivial, .inr (.inr (.inr (.inr (.inl ⟨rfl, rfl, rfl⟩))))⟩ | (simp; done)
   case measure => simp [intOf]
  ·go_wp2
   go_roundw
   case rel => first | exact ⟨rfl, .inr (.inr (.inr (.inr (.inr (⟨rfl, rfl, rfl⟩)))))⟩ | exact ⟨trivial, .inr (.inr (.inr (.inr (.inr (⟨rfl, rfl, rfl⟩)))))⟩ | (simp; done)
   case measure => simp [intOf]
  ·go_wp2
   go_ret
   exact ⟨rfl, rfl⟩
theorem pow_18 (w : World) : Calls Tryz.prog 113 #[.int .u64 10, .int .i64 18] w fun e w' => e = .returned (.int .u64 1000000000000000000) ∧ w' = w := by
 go_enter Tryz.func113, Tryz.ntmps113
 go_wp2
 go_loopw [0, 1, 4] (fun x n p wr => wr = w ∧ ((x = .int .u64 10 ∧ n = .int .i64 18 ∧ p = .int .u64 1) ∨ (x = .int .u64 100 ∧ n = .int .i64 9 ∧ p = .int .u64 1) ∨ (x = .int .u64 10000 ∧ n = .int .i64 4 ∧ p = .int .u64 100) ∨ (x = .int .u64 100000000 ∧ n = .int .i64 2 ∧ p = .int .u64 100) ∨ (x = .int .u64 10000000000000000 ∧ n = .int .i64 1 ∧ p = .int .u64 100) ∨ (x = .int .u64 9632337040368467968 ∧ n = .int .i64 0 ∧ p = .int .u64 1000000000000000000))) (fun _ n _ _ => (intOf n).toNat)
 case atStart => exact ⟨rfl, .inl ⟨rfl, rfl, rfl⟩⟩
 case round =>
  obtain ⟨rfl, hrel⟩ := hrel
  rcases hrel with ⟨rfl, rfl, rfl⟩ | ⟨rfl, rfl, rfl⟩ | ⟨rfl, rfl, rfl⟩ | ⟨rfl, rfl, rfl⟩ | ⟨rfl, rfl, rfl⟩ | ⟨rfl, rfl, rfl⟩
  ·go_wp2
   go_roundw
   case rel => first | exact ⟨rfl, .inr (.inl ⟨rfl, rfl, rfl⟩)⟩ | exact ⟨trivial, .inr (.inl ⟨rfl, rfl, rfl⟩)⟩ | (simp; done)
   case measure => simp [intOf]
  ·go_wp2
   go_roundw
   case rel => first | exact ⟨rfl, .inr (.inr (.inl ⟨rfl, rfl, rfl⟩))⟩ | exact ⟨trivial, .inr (.inr (.inl ⟨rfl, rfl, rfl⟩))⟩ | (simp; done)
   case measure => simp [intOf]
  ·go_wp2
   go_roundw
   case rel => first | exact ⟨rfl, .inr (.inr (.inr (.inl ⟨rfl, rfl, rfl⟩)))⟩ | exact ⟨trivial, .inr (.inr (.inr (.inl ⟨rfl, rfl, rfl⟩)))⟩ | (simp; done)
   case measure => simp [intOf]
  ·go_wp2
   go_roundw
   case rel => first | exact ⟨rfl, .inr (.inr (.inr (.inr (.inl ⟨rfl, rfl, rfl⟩))))⟩ | exact ⟨trivial, .inr (.inr (.inr (.inr (.inl ⟨rfl, rfl, rfl⟩))))⟩ | (simp; done)
   case measure => simp [intOf]
  ·go_wp2
   go_roundw
   case rel => first | exact ⟨rfl, .inr (.inr (.inr (.inr (.inr (⟨rfl, rfl, rfl⟩)))))⟩ | exact ⟨trivial, .inr (.inr (.inr (.inr (.inr (⟨rfl, rfl, rfl⟩)))))⟩ | (simp; done)
   case measure => simp [intOf]
  ·go_wp2
   go_ret
   exact ⟨rfl, rfl⟩
theorem pow_ (n : Nat) (h1 : 1 ≤ n) (h2 : n ≤ 18) (w : World) : Calls Tryz.prog 113 #[.int .u64 10, .int .i64 n] w fun e w' => e = .returned (.int .u64 (10 ^ n : Nat)) ∧ w' = w := by
 have h : n = 1 ∨ n = 2 ∨ n = 3 ∨ n = 4 ∨ n = 5 ∨ n = 6 ∨ n = 7 ∨ n = 8 ∨ n = 9 ∨ n = 10 ∨ n = 11 ∨ n = 12 ∨ n = 13 ∨ n = 14 ∨ n = 15 ∨ n = 16 ∨ n = 17 ∨ n = 18 := by omega
 rcases h with rfl | rfl | rfl | rfl | rfl | rfl | rfl | rfl | rfl | rfl | rfl | rfl | rfl | rfl | rfl | rfl | rfl | rfl
 ·exact pow_1 w
 ·exact pow_2 w
 ·exact pow_3 w
 ·exact pow_4 w
 ·exact pow_5 w
 ·exact pow_6 w
 ·exact pow_7 w
 ·exact pow_8 w
 ·exact pow_9 w
 ·exact pow_10 w
 ·exact pow_11 w
 ·exact pow_12 w
 ·exact pow_13 w
 ·exact pow_14 w
 ·exact pow_15 w
 ·exact pow_16 w
 ·exact pow_17 w
 ·exact pow_18 w
end Go.Proofs.YtapaijpglfmfgaaGreatDoorG
end
section
namespace Go.Proofs.YtapaijpglfmfgaaGreatDoorG
open Go.RowKit YtapaijpglfmfgaaGreatDoorW.PrintWords YtapaijpglfmfgaaGreatDoorW.PrintLast
theorem mulAddVWW_ (w : World) (g gx n cz cx y r : Nat) (e : TypeId) (full xs : List Nat) (hz : Ws w g e full) (hx : Ws w gx e xs) (hn : n ≤ full.length) (hxn : n ≤ xs.length) (hsame : gx = g → xs = full) (hxs : ∀ x ∈ xs, IsW x) (hy : IsW y) (hr : IsW r) (hbig : n ≤ 4611686018427387904) :
  Calls Tryz.prog 117 #[.slice (some ⟨g, 0, none⟩) n cz, .slice (some ⟨gx, 0, none⟩) n cx, .int .u64 y, .int .u64 r] w fun e' w' =>
   e' = .returned (.int .u64 ((mva (xs.take n) y r).2 : Nat)) ∧ Ws w' g e ((mva (xs.take n) y r).1 ++ full.drop n) ∧ w.grownBy w' (some g) := by
 have H := za.mk (mulAddVWW_g_ w g gx n cz cx y r e full xs hz hx hn hxn hsame hxs hy hr hbig)
 clear hz hx hn hxn hsame hxs hy hr hbig
 go_enter Tryz.func117, Tryz.ntmps117
 go_wp2_with (first | (go_at_call 121; refine H.out.mono ?_; rintro e' w' ⟨rfl, h1, h2⟩))
 go_ret
 exact ⟨rfl, h1, h2⟩
theorem Ws.alloc {w : World} {e : TypeId} (l : List Nat) : Ws (w.alloc (.cells (l.map NumC).toArray e)) w.heap.size e l := by
 have h : (w.alloc (.cells (l.map NumC).toArray e)).heap = w.heap.push (.cells (l.map NumC).toArray e) := rfl
 unfold Ws
 rw [h]
 simp
theorem zye {B : Nat} {w : World} (o : Obj) (h : B ≤ w.heap.size) : Below B w (w.alloc o) := (Below.refl B w).alloc h o
theorem below_grown_ {B g : Nat} {a w w' : World} (h : Below B a w) (hg : w.grownBy w' (some g)) (hB : B ≤ w.heap.size) (hr : B ≤ g) : Below B a w' := h.grown hg hB (fun k hk => by cases hk; exact hr)
theorem zff {B g i : Nat} {a w : World} {v : Value} (h : Below B a w) (hr : B ≤ g) : Below B a (w.setCell ⟨g, i, none⟩ v) := h.setCell hr _
theorem setWord_zero (w : World) (p : Option Addr) (len cap : Nat) :
  Calls Tryz.prog 116 #[.slice p len cap, .int .u64 0] w fun e w' => e = .returned (.slice p 0 cap) ∧ w' = w := by
 cases p with
 | none =>
  go_enter Tryz.func116, Tryz.ntmps116
  go_wp2
  go_ret
  exact ⟨rfl, rfl⟩
 | some a =>
  go_enter Tryz.func116, Tryz.ntmps116
  go_wp2
  go_ret
  exact ⟨rfl, rfl⟩
theorem setWord_reuse (w : World) (g len cap r : Nat) (full : List Nat) (hw : Ws w g 149 full) (hc : 1 ≤ cap) (hcf : full.length = cap) (hr : r ≠ 0) :
  Calls Tryz.prog 116 #[.slice (some ⟨g, 0, none⟩) len cap, .int .u64 (r : Int)] w fun e w' => e = .returned (.slice (some ⟨g, 0, none⟩) 1 cap) ∧ Ws w' g 149 (full.set 0 r) ∧ w' = w.setCell ⟨g, 0, none⟩ (.int .u64 (r : Int)) := by
 have b1 : ((r : Int) == 0) = false := by rw [beq_eq_false_iff_ne]; omega
 have b2 : ¬ ((r : Int) = 0) := by omega
 have hd := hw.cell 0 (by omega)
 obtain ⟨d, hdd⟩ : ∃ d, d = full.getD 0 0 := ⟨_, rfl⟩
 rw [← hdd] at hd
 have hf := hw.free 0
 have HS := za.mk (hw.set 0 r)
 have HM := za.mk (make_reuse w g len cap 1 hc)
 clear hw hdd
 go_enter Tryz.func116, Tryz.ntmps116
 go_wp2_with (first | (go_at_call 103; refine HM.out.mono ?_; rintro e' w' ⟨rfl, rfl⟩))
 go_ret
 exact ⟨rfl, HS.out, rfl⟩
theorem setWord_fresh (w : World) (p : Option Addr) (len r : Nat) (hr : r ≠ 0) :
  Calls Tryz.prog 116 #[.slice p len 0, .int .u64 (r : Int)] w fun e w' => ∃ c, 1 ≤ c ∧ c ≤ 5 ∧ e = .returned (.slice (some ⟨w.heap.size, 0, none⟩) 1 c) ∧ Ws w' w.heap.size 149 ((List.replicate c 0).set 0 r) ∧ (∀ B, B ≤ w.heap.size → Below B w w') := by
 have b1 : ((r : Int) == 0) = false := by rw [beq_eq_false_iff_ne]; omega
 have b2 : ¬ ((r : Int) = 0) := by omega
 have HM := za.mk (make_fresh w p len 0 1 (by omega) (by omega))
 go_enter Tryz.func116, Tryz.ntmps116
 go_upto_region 4 with (first | (go_at_call 103; refine HM.out.mono ?_; rintro e' w' ⟨c, hc1, hc2, rfl, hw'⟩; have HW' := za.mk hw'; clear hw'))
 have hw' := HW'.out
 have hw0 : Ws w' w.heap.size 149 (List.replicate c 0) := by
  rw [hw']
  have := Ws.alloc (w := w) (e := 149) (List.replicate c 0)
  rwa [List.map_replicate] at this
 have hd := hw0.cell 0 (by simp; omega)
 obtain ⟨d, hdd⟩ : ∃ d, d = (List.replicate c 0).getD 0 0 := ⟨_, rfl⟩
 rw [← hdd] at hd
 have hf := hw0.free 0
 have HS := za.mk (hw0.set 0 r)
 have HB : za (∀ B, B ≤ w.heap.size → Below B w (w'.setCell ⟨w.heap.size, 0, none⟩ (.int .u64 (r : Int)))) := ⟨fun B hB => zff (by rw [hw']; exact zye _ hB) hB⟩
 obtain ⟨G, hG⟩ : ∃ G, G = w.heap.size := ⟨_, rfl⟩
 rw [← hG] at hd hf HS HB ⊢
 have HG := za.mk hG
 have HC := za.mk (And.intro hc1 hc2)
 have b3 : ((0 : Int) < (1 : Int)) := by omega
 clear hw0 hdd hw' HW' hG hc1 hc2
 go_wp2
 go_ret
 refine ⟨c, HC.out.1, HC.out.2, ?_, ?_, ?_⟩
 ·rw [← HG.out]; rfl
 ·rw [← HG.out]; exact HS.out
 ·rw [← HG.out]; exact HB.out
theorem trimW_idem (l : List Nat) : trimW (trimW l) = trimW l := by
 have : ∀ (n : Nat) (l : List Nat), l.length = n → trimW (trimW l) = trimW l := by
  intro n
  induction n with
  | zero => intro l h; rw [List.length_eq_zero_iff.1 h]; rfl
  | succ n ih =>
   intro l h
   have hne : l ≠ [] := by intro e; subst e; simp at h
   obtain ⟨m, x, rfl⟩ : ∃ m x, l = m ++ [x] := ⟨l.dropLast, l.getLast hne, (List.dropLast_concat_getLast hne).symm⟩
   by_cases hx : x = 0
   ·subst hx
    rw [zcf]
    exact ih m (by simpa using h)
   ·rw [zng _ _ hx, zng _ _ hx]
 exact this _ l rfl
theorem zfh (c : Nat) : ∀ x ∈ List.replicate c 0, IsW x := by
 intro x hx
 rw [List.mem_replicate] at hx
 rw [hx.2]
 unfold IsW W64
 omega
theorem set_words {l : List Nat} (h : ∀ x ∈ l, IsW x) {v : Nat} (hv : IsW v) (i : Nat) : ∀ x ∈ l.set i v, IsW x := by
 intro x hx
 rcases List.mem_or_eq_of_mem_set hx with h2 | h2
 ·exact h x h2
 ·rw [h2]; exact hv
theorem mulAdd_tail (w wm : World) (B g gx n cap cx y r : Nat) (full xs : List Nat) (hz : Ws wm g 149 full) (hx : Ws wm gx 149 xs) (hn : n + 1 ≤ full.length) (hcap : full.length = cap) (hxn : n ≤ xs.length) (hsame : gx = g → xs = full) (hxs : ∀ x ∈ xs, IsW x) (hfs : ∀ x ∈ full, IsW x)
  (hy : IsW y) (hy0 : y ≠ 0) (hr : IsW r) (hn0 : n ≠ 0) (hbig : cap ≤ 1000000000) (hBg : B ≤ g) (hB : Below B w wm) (hBs : B ≤ wm.heap.size)
  (hm : ∀ len, Calls Tryz.prog 103 #[.slice (some ⟨gx, 0, none⟩) len cx, .int .i64 ((n + 1 : Nat) : Int)] w fun e w' => e = .returned (.slice (some ⟨g, 0, none⟩) (n + 1) cap) ∧ w' = wm) :
  Calls Tryz.prog 112 #[.slice (some ⟨gx, 0, none⟩) n cx, .slice (some ⟨gx, 0, none⟩) n cx, .int .u64 (y : Int), .int .u64 (r : Int)] w fun e w' => ∃ v' l', e = .returned v' ∧ NatS w' B v' l' ∧ num l' = num (xs.take n) * y + r ∧ l' = trimW l' ∧ l'.length ≤ n + 1 ∧ Below B w w' := by
 have b1 : ((n : Int) == 0) = false := by rw [beq_eq_false_iff_ne]; omega
 have b2 : ¬ ((n : Int) = 0) := by omega
 have b3 : ((y : Int) == 0) = false := by rw [beq_eq_false_iff_ne]; omega
 have b4 : ¬ ((y : Int) = 0) := by omega
 have e1 : ((n + 1 : Nat) : Int) = (n : Int) + 1 := by omega
 have e2 : wrap64 ((n : Int) + 1) = (n : Int) + 1 := by unfold wrap64; omega
 have b7 : n ≤ cap := by omega
 have b8 : ((n : Int) ≤ (cap : Int)) := by omega
 have HM := za.mk hm
 have HV := za.mk (mulAddVWW_ wm g gx n cap cx y r 149 full xs hz hx (by omega) hxn hsame hxs hy hr (by omega))
 have F := za.mk (And.intro hz (And.intro hn (And.intro hcap (And.intro hxs (And.intro hfs (And.intro hy (And.intro hr (And.intro hbig (And.intro hBg (And.intro hB (And.intro hBs hxn)))))))))))
 clear hz hx hn hxn hsame hxs hfs hy hr hy0 hn0 hbig hBg hB hBs hm hcap
 go_enter Tryz.func112, Tryz.ntmps112
 obtain ⟨m, hmv⟩ : ∃ m, m = mva (xs.take n) y r := ⟨_, rfl⟩
 rw [← hmv] at HV
 have HMV := za.mk hmv
 clear hmv
 have hcell : ∀ w2, Ws w2 g 149 (m.1 ++ full.drop n) → (∃ d : Nat, w2.cell? ⟨g, n, none⟩ = some (.int .u64 d)) ∧ w2.frozen? ⟨g, n, none⟩ = false ∧ Ws (w2.setCell ⟨g, n, none⟩ (.int .u64 (m.2 : Int))) g 149 ((m.1 ++ full.drop n).set n m.2) := by
  intro w2 h
  have hl : n < (m.1 ++ full.drop n).length := by
   rw [HMV.out, List.length_append, zvh, List.length_take, List.length_drop]
   have := F.out.2.1
   have := F.out.2.2.2.2.2.2.2.2.2.2.2
   omega
  exact ⟨⟨_, h.cell n hl⟩, h.free n, h.set n m.2⟩
 have HCELL := za.mk hcell
 clear hcell
 have b6 : ((n : Int) < (n : Int) + 1) := by omega
 have hnorm : ∀ w3, Ws w3 g 149 ((m.1 ++ full.drop n).set n m.2) → Calls Tryz.prog 105 #[.slice (some ⟨g, 0, none⟩) (n + 1) cap] w3 fun e w' => ∃ k, k ≤ n + 1 ∧ trimW (((m.1 ++ full.drop n).set n m.2).take (n + 1)) = ((m.1 ++ full.drop n).set n m.2).take k ∧ e = .returned (.slice (some ⟨g, 0, none⟩) k cap) ∧ w' = w3 := by
  intro w3 h
  have h2 := F.out.2.1
  have h3 := F.out.2.2.2.2.2.2.2.2.2.2.2
  have h4 := F.out.2.2.1
  have h5 := F.out.2.2.2.2.2.2.2.1
  exact norm_ w3 g (n + 1) cap _ h (by rw [List.length_set, HMV.out, List.length_append, zvh, List.length_take, List.length_drop]; omega) (by omega) (by omega)
 have HNORM := za.mk hnorm
 clear hnorm
 go_wp2_with (first
  | (go_at_call 103; rw [← e1]; refine (HM.out _).mono ?_; rintro e' w' ⟨rfl, rfl⟩)
  | (go_at_call 117; refine HV.out.mono ?_; rintro e' w2 ⟨rfl, h1, h2⟩; obtain ⟨⟨d, hd⟩, hf, hs⟩ := HCELL.out w2 h1; have HS := za.mk hs; have HG2 := za.mk h2; clear h1 h2 hs)
  | (go_at_call 105; refine (HNORM.out _ HS.out).mono ?_; rintro e' w3 ⟨k, hk, ht, rfl, rfl⟩; have HT := za.mk (And.intro hk ht); clear hk ht))
 go_ret
 obtain ⟨f1, f2, f3, f4, f5, f6, f7, f8, f9, f10, f11, f12⟩ := F.out
 obtain ⟨hk, ht⟩ := HT.out
 have hml : m.1.length = n := by rw [HMV.out, zvh, List.length_take]; omega
 have hfull2 : ((m.1 ++ full.drop n).set n m.2) = m.1 ++ [m.2] ++ (full.drop n).drop 1 := set_at _ _ _ _ hml (by rw [List.length_append, hml, List.length_drop]; omega)
 have hlen2 : ((m.1 ++ full.drop n).set n m.2).length = full.length := by rw [List.length_set, List.length_append, hml, List.length_drop]; omega
 have htk : ((m.1 ++ full.drop n).set n m.2).take (n + 1) = m.1 ++ [m.2] := by
  rw [hfull2, List.take_append_of_le_length (by rw [List.length_append, hml]; simp), List.take_of_length_le (by rw [List.length_append, hml]; simp)]
 have hkl : (((m.1 ++ full.drop n).set n m.2).take k).length = k := by rw [List.length_take]; omega
 rw [htk] at ht
 have hwords := mva_words (xs.take n) y r (fun x hx => f4 x (List.mem_of_mem_take hx)) f6 f7
 rw [← HMV.out] at hwords
 refine ⟨_, ((m.1 ++ full.drop n).set n m.2).take k, rfl, .inr ⟨g, _, ?_, f9, HS.out, ?_, ?_, ?_, ?_⟩, ?_, ?_, ?_, ?_⟩
 ·rw [hkl, hlen2, f3]
  rfl
 ·rw [hkl]
 ·rw [hkl, hlen2]; omega
 ·rw [hlen2, f3]; exact f8
 ·intro x hx
  rw [hfull2] at hx
  rcases List.mem_append.1 hx with hx | hx
  ·rcases List.mem_append.1 hx with hx | hx
   ·exact hwords.1 x hx
   ·rw [List.mem_singleton.1 hx]; exact hwords.2
  ·exact f5 x (List.mem_of_mem_drop (List.mem_of_mem_drop hx))
 ·rw [← ht, num_trimW, HMV.out, mva_num]
 ·rw [← ht]
  exact (trimW_idem _).symm
 ·rw [hkl]; exact hk
 ·exact zff (below_grown_ f10 HG2.out f11 f9) f9
theorem make_many (w : World) (p : Option Addr) (len cap n : Nat) (hn : cap < n) (hn1 : n ≠ 1) (hb : n ≤ 100000000) :
  Calls Tryz.prog 103 #[.slice p len cap, .int .i64 (n : Int)] w fun e w' => e = .returned (.slice (some ⟨w.heap.size, 0, none⟩) n (n + 4)) ∧ w' = w.alloc (.cells (List.replicate (n + 4) (NumC 0)).toArray 149) := by
 have b1 : decide ((n : Int) ≤ (cap : Int)) = false := decide_eq_false (by omega)
 have hm := make_run n (n + 4) (by omega) (by omega)
 have e1 : ((n + 4 : Nat) : Int) = (n : Int) + 4 := by omega
 rw [e1] at hm
 have b2 : ((n : Int) == 1) = false := by rw [beq_eq_false_iff_ne]; omega
 have b3 : ¬ ((n : Int) = 1) := by omega
 go_enter Tryz.func103, Tryz.ntmps103
 go_wp2
 go_ret
 exact ⟨rfl, rfl⟩
theorem mulAdd_zero (w : World) (p : Option Addr) (cap y r : Nat) (Q : Value → World → Prop)
  (h : Calls Tryz.prog 116 #[.slice p 0 cap, .int .u64 (r : Int)] w fun e w' => ∃ v, e = .returned v ∧ Q v w') :
  Calls Tryz.prog 112 #[.slice p 0 cap, .slice p 0 cap, .int .u64 (y : Int), .int .u64 (r : Int)] w fun e w' => ∃ v, e = .returned v ∧ Q v w' := by
 have H := za.mk h
 clear h
 have e0 : ((0 : Nat) : Int) = 0 := rfl
 go_enter Tryz.func112, Tryz.ntmps112
 go_wp2_with (first | (go_at_call 116; refine H.out.mono ?_; rintro e' w' ⟨v, rfl, hq⟩; have HQ := za.mk hq; clear hq))
 go_ret
 exact ⟨v, rfl, HQ.out⟩
theorem zte (w : World) (B : Nat) (v : Value) (l : List Nat) (y r : Nat) (h : NatS w B v l) (hBs : B ≤ w.heap.size) (hy : IsW y) (hy0 : y ≠ 0) (hr : IsW r) (hl : l.length ≤ 1000000) :
  Calls Tryz.prog 112 #[v, v, .int .u64 (y : Int), .int .u64 (r : Int)] w fun e w' => ∃ v' l', e = .returned v' ∧ NatS w' B v' l' ∧ num l' = num l * y + r ∧ l' = trimW l' ∧ l'.length ≤ l.length + 1 ∧ Below B w w' := by
 have fresh_words : ∀ c, ∀ x ∈ (List.replicate c 0).set 0 r, IsW x := fun c => set_words (zfh c) hr 0
 have one : r ≠ 0 → trimW [r] = [r] := fun h => zng [] r h
 by_cases hl0 : l = []
 ·subst hl0
  have hnum : num ([] : List Nat) * y + r = r := by simp [num]
  have fin : ∀ (p : Option Addr) (cap : Nat), v = .slice p 0 cap → (p = none → cap = 0) → (∀ a, p = some a → ∃ g full, a = ⟨g, 0, none⟩ ∧ B ≤ g ∧ Ws w g 149 full ∧ full.length = cap ∧ cap ≤ 1000000000 ∧ ∀ x ∈ full, IsW x) →
    Calls Tryz.prog 116 #[v, .int .u64 (r : Int)] w fun e w' => ∃ v', e = .returned v' ∧ ∃ l', NatS w' B v' l' ∧ num l' = r ∧ l' = trimW l' ∧ l'.length ≤ 1 ∧ Below B w w' := by
   intro p cap hv hnone hsome
   subst hv
   by_cases hr0 : r = 0
   ·subst hr0
    refine (setWord_zero w p 0 cap).mono ?_
    rintro e w' ⟨rfl, rfl⟩
    refine ⟨_, rfl, [], ?_, rfl, rfl, by simp, Below.refl _ _⟩
    cases p with
    | none => rw [hnone rfl]; exact .inl ⟨rfl, rfl⟩
    | some a =>
     obtain ⟨g, full, rfl, h1, h2, h3, h4, h5⟩ := hsome a rfl
     subst h3
     exact .inr ⟨g, full, rfl, h1, h2, rfl, by simp, h4, h5⟩
   ·by_cases hc : 1 ≤ cap
    ·cases p with
     | none => rw [hnone rfl] at hc; omega
     | some a =>
      obtain ⟨g, full, rfl, h1, h2, h3, h4, h5⟩ := hsome a rfl
      refine (setWord_reuse w g 0 cap r full h2 hc h3 hr0).mono ?_
      rintro e w' ⟨rfl, hw, rfl⟩
      refine ⟨_, rfl, [r], .inr ⟨g, full.set 0 r, ?_, h1, hw, ?_, by simp; omega, by simpa [h3] using h4, set_words h5 hr 0⟩, by simp [num], (one hr0).symm, by simp, zff (Below.refl _ _) h1⟩
      ·rw [List.length_set, h3]; rfl
      ·cases full with
       | nil => simp at h3; omega
       | cons x t => rfl
    ·have hc0 : cap = 0 := by omega
     subst hc0
     refine (setWord_fresh w p 0 r hr0).mono ?_
     rintro e w' ⟨c, hc1, hc2, rfl, hw, hb⟩
     refine ⟨_, rfl, [r], .inr ⟨w.heap.size, (List.replicate c 0).set 0 r, ?_, hBs, hw, ?_, by simp; omega, by simp; omega, fresh_words c⟩, by simp [num], (one hr0).symm, by simp, hb B hBs⟩
     ·simp
     ·cases c with
      | zero => omega
      | succ c => rfl
  rw [hnum]
  have shape : ∃ (p : Option Addr) (cap : Nat), v = .slice p 0 cap ∧ (p = none → cap = 0) ∧ (∀ a, p = some a → ∃ g full, a = ⟨g, 0, none⟩ ∧ B ≤ g ∧ Ws w g 149 full ∧ full.length = cap ∧ cap ≤ 1000000000 ∧ ∀ x ∈ full, IsW x) := by
   rcases h with ⟨rfl, _⟩ | ⟨g, full, rfl, h1, h2, h3, h4, h5, h6⟩
   ·exact ⟨none, 0, rfl, (fun _ => rfl), (fun a ha => by cases ha)⟩
   ·exact ⟨some ⟨g, 0, none⟩, full.length, rfl, (fun h => by cases h), (fun a ha => by cases ha; exact ⟨g, full, rfl, h1, h2, rfl, h5, h6⟩)⟩
  obtain ⟨p, cap, rfl, hp1, hp2⟩ := shape
  refine (mulAdd_zero w p cap y r _ (fin p cap rfl hp1 hp2)).mono ?_
  rintro e w' ⟨v', rfl, l', q⟩
  exact ⟨v', l', rfl, by simpa using q⟩
 ·have hn0 : l.length ≠ 0 := fun e => hl0 (List.length_eq_zero_iff.1 e)
  rcases h with ⟨_, h0⟩ | ⟨g, full, rfl, h1, h2, h3, h4, h5, h6⟩
  ·exact absurd h0 hl0
  ·by_cases hc : l.length + 1 ≤ full.length
   ·have t := mulAdd_tail w w B g g l.length full.length full.length y r full full h2 h2 hc rfl h4 (fun _ => rfl) h6 h6 hy hy0 hr hn0 h5 h1 (Below.refl _ _) hBs (fun len => make_reuse w g len full.length (l.length + 1) hc)
    rw [h3] at t
    exact t
   ·have hws : Ws (w.alloc (.cells (List.replicate (l.length + 1 + 4) (NumC 0)).toArray 149)) w.heap.size 149 (List.replicate (l.length + 1 + 4) 0) := by
     have := Ws.alloc (w := w) (e := 149) (List.replicate (l.length + 1 + 4) 0)
     rwa [List.map_replicate] at this
    have hold : Ws (w.alloc (.cells (List.replicate (l.length + 1 + 4) (NumC 0)).toArray 149)) g 149 full := h2.same (by
     have e : (w.alloc (.cells (List.replicate (l.length + 1 + 4) (NumC 0)).toArray 149)).heap = w.heap.push (.cells (List.replicate (l.length + 1 + 4) (NumC 0)).toArray 149) := rfl
     have := h2.lt
     rw [e, Array.getElem?_push, if_neg (by omega)])
    have hsz : B ≤ (w.alloc (.cells (List.replicate (l.length + 1 + 4) (NumC 0)).toArray 149)).heap.size := by
     have e : (w.alloc (.cells (List.replicate (l.length + 1 + 4) (NumC 0)).toArray 149)).heap = w.heap.push (.cells (List.replicate (l.length + 1 + 4) (NumC 0)).toArray 149) := rfl
     rw [e, Array.size_push]
     omega
    have t := mulAdd_tail w _ B w.heap.size g l.length (l.length + 1 + 4) full.length y r _ full hws hold (by simp) (by simp) h4 (fun e => by have := h2.lt; omega) h6 (zfh _) hy hy0 hr hn0 (by omega) hBs (zye _ hBs) hsz (fun len => make_many w _ len full.length (l.length + 1) (by omega) (by omega) (by omega))
    rw [h3] at t
    exact t
end Go.Proofs.YtapaijpglfmfgaaGreatDoorG
end
section
namespace Go.Proofs.YtapaijpglfmfgaaGreatDoorG
open Go.RowKit YtapaijpglfmfgaaGreatDoorW.PrintWords YtapaijpglfmfgaaGreatDoorW.PrintLast
def Rd (w : World) (b : Nat) (s : ByteArray) (i : Nat) (p : Int) : Prop := w.heap[b]? = some (.cells #[.string s, .int .i64 (i : Int), .int .i64 p] 158 (0, 0))
theorem Rd.c0 {w : World} {b : Nat} {s : ByteArray} {i : Nat} {p : Int} (h : Rd w b s i p) : w.cell? ⟨b, 0, none⟩ = some (.string s) := by unfold Rd at h; simp [World.cell?, h]
theorem Rd.c1 {w : World} {b : Nat} {s : ByteArray} {i : Nat} {p : Int} (h : Rd w b s i p) : w.cell? ⟨b, 1, none⟩ = some (.int .i64 (i : Int)) := by unfold Rd at h; simp [World.cell?, h]
theorem Rd.c2 {w : World} {b : Nat} {s : ByteArray} {i : Nat} {p : Int} (h : Rd w b s i p) : w.cell? ⟨b, 2, none⟩ = some (.int .i64 p) := by unfold Rd at h; simp [World.cell?, h]
theorem Rd.free {w : World} {b : Nat} {s : ByteArray} {i : Nat} {p : Int} (h : Rd w b s i p) (j : Nat) : w.frozen? ⟨b, j, none⟩ = false := by unfold Rd at h; simp [World.frozen?, h]
theorem Rd.set2 {w : World} {b : Nat} {s : ByteArray} {i : Nat} {p : Int} (h : Rd w b s i p) (q : Int) : Rd (w.setCell ⟨b, 2, none⟩ (.int .i64 q)) b s i q := by
 unfold Rd at h ⊢
 simp [World.setCell, Array.getElem?_modify, h]
theorem Rd.set1 {w : World} {b : Nat} {s : ByteArray} {i : Nat} {p : Int} (h : Rd w b s i p) (j : Nat) : Rd (w.setCell ⟨b, 1, none⟩ (.int .i64 (j : Int))) b s j p := by
 unfold Rd at h ⊢
 simp [World.setCell, Array.getElem?_modify, h]
theorem Rd.same {w w' : World} {b : Nat} {s : ByteArray} {i : Nat} {p : Int} (h : Rd w b s i p) (hb : w'.heap[b]? = w.heap[b]?) : Rd w' b s i p := by unfold Rd at h ⊢; rw [hb]; exact h
theorem Rd.lt {w : World} {b : Nat} {s : ByteArray} {i : Nat} {p : Int} (h : Rd w b s i p) : b < w.heap.size := (Array.getElem?_eq_some_iff.1 h).1
theorem cell_set_other {w : World} {g i : Nat} {v : Value} {a : Addr} (h : a.block ≠ g) : (w.setCell ⟨g, i, none⟩ v).cell? a = w.cell? a := by
 refine World.cell?_of_block ?_
 have : g ≠ a.block := fun e => h e.symm
 simp [World.setCell, Array.getElem?_modify, this]
theorem zvg {w wr : World} {r : Option Nat} (n : Nat) (h : w.grownBy wr r) : w.grownBy (wr.drewN n) r := h.trans ⟨rfl, rfl, rfl, Nat.le_refl _, fun _ _ _ => rfl⟩
theorem readByte_ (w : World) (b i : Nat) (s : ByteArray) (p : Int) (h : Rd w b s i p) (hi : i < s.size) (hs : s.size ≤ 140737488355328) :
  Calls Tryz.prog 149 #[.pointer (some ⟨b, 0, none⟩)] w fun e w' => e = .returned (.tuple #[.int .u8 (bt s i), .nilIface]) ∧ Rd w' b s (i + 1) (-1) ∧ w.grownBy w' (some b) := by
 have h2 := h.set2 (-1)
 have a2 := h.c2
 have f2 := h.free 2
 have b0 := h2.c0
 have b1 := h2.c1
 have g1 := h2.free 1
 have HE := za.mk (h2.set1 (i + 1))
 have e1 : ((i + 1 : Nat) : Int) = (i : Int) + 1 := by omega
 rw [e1] at HE
 have hb : ((s[i]'hi).toNat : Int) = bt s i := bt_at s i hi
 have HBT := za.mk hb
 clear hb
 have t1 : decide ((i : Int) ≥ (s.size : Int)) = false := decide_eq_false (by omega)
 have t2 : ((s.size : Int) ≤ (i : Int)) = False := eq_false (by omega)
 have t3 : (0 ≤ (i : Int)) = True := eq_true (by omega)
 have t4 : ((i : Int) < (s.size : Int)) = True := eq_true (by omega)
 clear h h2
 go_enter Tryz.func149, Tryz.ntmps149
 go_wp2
 go_quiet (fail)
 go_wp2
 go_quiet (fail)
 go_wp2
 go_ret2
 refine ⟨?_, HE.out, zzf _ _ _ _ _ (zvg _ (zzf w w b 2 _ (World.grownBy.refl w _)))⟩
 rw [← HBT.out]
 rfl
theorem zij (w : World) (b : Nat) (s : ByteArray) (p : Int) (E : Value) (h : Rd w b s s.size p) (hE : w.cell? ⟨2, 0, none⟩ = some E) (hEb : b ≠ 2) (hs : s.size ≤ 140737488355328) :
  Calls Tryz.prog 149 #[.pointer (some ⟨b, 0, none⟩)] w fun e w' => e = .returned (.tuple #[.int .u8 0, E]) ∧ Rd w' b s s.size (-1) ∧ w.grownBy w' (some b) := by
 have h2 := h.set2 (-1)
 have a2 := h.c2
 have f2 := h.free 2
 have b0 := h2.c0
 have b1 := h2.c1
 have g1 := h2.free 1
 have c1 : (w.setCell ⟨b, 2, none⟩ (.int .i64 (-1))).cell? ⟨2, 0, none⟩ = some E := by rw [cell_set_other (fun e => hEb e.symm)]; exact hE
 have HE := za.mk h2
 have t1 : decide ((s.size : Int) ≥ (s.size : Int)) = true := decide_eq_true (by omega)
 have t2 : ((s.size : Int) ≤ (s.size : Int)) = True := eq_true (by omega)
 clear h h2 hE hEb
 go_enter Tryz.func149, Tryz.ntmps149
 go_wp2
 go_quiet (fail)
 go_wp2
 go_quiet (fail)
 go_wp2
 go_ret2
 exact ⟨rfl, HE.out, by first | exact zvg _ (zzf w w b 2 _ (World.grownBy.refl w _)) | exact zvg _ (zvg _ (zzf w w b 2 _ (World.grownBy.refl w _)))⟩
theorem unreadByte_ (w : World) (b i : Nat) (s : ByteArray) (p : Int) (h : Rd w b s (i + 1) p) (hs : i < 140737488355328) :
  Calls Tryz.prog 150 #[.pointer (some ⟨b, 0, none⟩)] w fun e w' => e = .returned .nilIface ∧ Rd w' b s i (-1) ∧ w.grownBy w' (some b) := by
 have h2 := h.set2 (-1)
 have a1 := h.c1
 have a2 := h.c2
 have f2 := h.free 2
 have b1 := h2.c1
 have g1 := h2.free 1
 have HE := za.mk (h2.set1 i)
 have e1 : ((i + 1 : Nat) : Int) = (i : Int) + 1 := by omega
 rw [e1] at a1 b1
 have t1 : decide ((i : Int) + 1 ≤ 0) = false := decide_eq_false (by omega)
 have t2 : ((i : Int) + 1 ≤ 0) = False := eq_false (by omega)
 have t3 : (i : Int) + 1 - 1 = (i : Int) := by omega
 have t4 : wrap64 (i : Int) = (i : Int) := by unfold wrap64; omega
 clear h h2
 go_enter Tryz.func150, Tryz.ntmps150
 go_wp2
 go_ret
 exact ⟨rfl, HE.out, zzf _ _ _ _ _ (zzf w w b 2 _ (World.grownBy.refl w _))⟩
theorem newReader_ (w : World) (s : ByteArray) :
  Calls Tryz.prog 95 #[.string s] w fun e w' => e = .returned (.pointer (some ⟨w.heap.size, 0, none⟩)) ∧ w' = w.alloc (.cells #[.string s, .int .i64 0, .int .i64 (-1)] 158) := by
 go_enter Tryz.func95, Tryz.ntmps95
 go_wp2
 go_ret
 exact ⟨rfl, rfl⟩
end Go.Proofs.YtapaijpglfmfgaaGreatDoorG
end
section
namespace Go.Proofs.YtapaijpglfmfgaaGreatDoorG
open Go.RowKit YtapaijpglfmfgaaGreatDoorW.PrintWords YtapaijpglfmfgaaGreatDoorW.PrintLast
theorem zdg (p : Option Addr) (W : World) : (method 312 144 (.pointer p) "ReadByte").run Tryz.prog W = .ok (149, .pointer p) W := by kernel_rfl
theorem zzh (p : Option Addr) (W : World) : (method 312 144 (.pointer p) "UnreadByte").run Tryz.prog W = .ok (150, .pointer p) W := by kernel_rfl
theorem zcg (xs : Array Value) (W : World) : (callFunc 149 xs).run Tryz.prog W = .ok (.enter 149 xs) W := enters_ Tryz.func149 (by kernel_rfl) rfl xs W
theorem zyh (xs : Array Value) (W : World) : (callFunc 150 xs).run Tryz.prog W = .ok (.enter 150 xs) W := enters_ Tryz.func150 (by kernel_rfl) rfl xs W
theorem scanSign_ (w : World) (b : Nat) (s : ByteArray) (p : Int) (h : Rd w b s 0 p) (hi : 0 < s.size) (hs : s.size ≤ 140737488355328) (h1 : bt s 0 ≠ 45) (h2 : bt s 0 ≠ 43) :
  Calls Tryz.prog 107 #[.iface 144 (.pointer (some ⟨b, 0, none⟩))] w fun e w' => e = .returned (.tuple #[.bool false, .nilIface]) ∧ Rd w' b s 0 (-1) ∧ w.grownBy w' (some b) := by
 have HR := za.mk (readByte_ w b 0 s p h hi hs)
 have HU := za.mk (fun w1 p1 (h : Rd w1 b s 1 p1) => unreadByte_ w1 b 0 s p1 h (by omega))
 have e0 : ((0 : Nat) : Int) = 0 := rfl
 rw [e0] at HR
 obtain ⟨c, hc⟩ : ∃ c, c = bt s 0 := ⟨_, rfl⟩
 rw [← hc] at h1 h2 HR
 have b1 : (c == 45) = false := by rw [beq_eq_false_iff_ne]; exact h1
 have b2 : (c == 43) = false := by rw [beq_eq_false_iff_ne]; exact h2
 have i1 := zdg (some ⟨b, 0, none⟩)
 have i2 := zzh (some ⟨b, 0, none⟩)
 have i3 := zcg
 have i4 := zyh
 clear h hc
 go_enter Tryz.func107, Tryz.ntmps107
 go_wp2_with (first
  | (go_at_call 149; refine HR.out.mono ?_; rintro e' w1 ⟨rfl, r1, g1⟩; have R1 := za.mk r1; have G1 := za.mk g1; clear r1 g1)
  | (go_at_call 150; refine (HU.out _ _ R1.out).mono ?_; rintro e' w2 ⟨rfl, r2, g2⟩; have R2 := za.mk r2; have G2 := za.mk g2; clear r2 g2))
 go_ret2
 exact ⟨rfl, R2.out, G1.out.trans G2.out⟩
end Go.Proofs.YtapaijpglfmfgaaGreatDoorG
end
section
namespace Go.Proofs.YtapaijpglfmfgaaGreatDoorG
open Go.RowKit YtapaijpglfmfgaaGreatDoorW.PrintWords YtapaijpglfmfgaaGreatDoorW.PrintLast
theorem ztb {fn : Func} {t u v x : Tmp} (h : fn.results = #[.tmp t, .tmp u, .tmp v, .tmp x]) (tmps : Array Value) (P : Program) (w : World) :
  (results fn tmps).run P w = .ok (.tuple #[tmps.getD t undef, tmps.getD u undef, tmps.getD v undef, tmps.getD x undef]) w := by
 simp [results, h]
theorem errInfo : (Tryz.prog.info? 193).map (fun i => i.comparable) = some true := by kernel_rfl
theorem errPointee : (Tryz.prog.info? 210).isSome = true := by kernel_rfl
def ErrV (a : Addr) : Value := .iface 193 (.pointer (some a))
theorem eq_err (a : Addr) (W : World) : (binOp .eql 73 (.iface 193 (.pointer (some a))) (.iface 193 (.pointer (some a)))).run Tryz.prog W = .ok (.bool true) W := by
 obtain ⟨i, hi, hc⟩ := Option.map_eq_some_iff.1 errInfo
 obtain ⟨j, hj⟩ := Option.isSome_iff_exists.1 errPointee
 exact run_eql_iface_ptr_same W a Tryz.underlying73 Tryz.underlying193 hi hc hj
theorem eq_nil_err (a : Addr) (W : World) : (binOp .eql 73 .nilIface (.iface 193 (.pointer (some a)))).run Tryz.prog W = .ok (.bool false) W :=
 run_eql_iface_nil_left W 193 _ Tryz.underlying73
structure Bel (B b : Nat) (w w' : World) : Prop where
 os : w'.os = w.os
 tape : w'.tape = w.tape
 output : w'.output = w.output
 size : w.heap.size ≤ w'.heap.size
 block : ∀ k, k < B → k ≠ b → w'.heap[k]? = w.heap[k]?
theorem Bel.refl (B b : Nat) (w : World) : Bel B b w w := ⟨rfl, rfl, rfl, Nat.le_refl _, fun _ _ _ => rfl⟩
theorem Bel.below {B b : Nat} {w w1 w2 : World} (h : Bel B b w w1) (k : Below B w1 w2) : Bel B b w w2 :=
 ⟨k.os.trans h.os, k.tape.trans h.tape, k.output.trans h.output, Nat.le_trans h.size k.size, fun j h1 h2 => (k.block j h1).trans (h.block j h1 h2)⟩
theorem Bel.grown {B b : Nat} {w w1 w2 : World} (h : Bel B b w w1) (k : w1.grownBy w2 (some b)) (hb : b < w1.heap.size) (hB : B ≤ w1.heap.size) : Bel B b w w2 :=
 ⟨k.os.trans h.os, k.tape.trans h.tape, k.output.trans h.output, Nat.le_trans h.size k.size, fun j h1 h2 => (k.block j (by omega) (fun e => h2 (Option.some.inj e))).trans (h.block j h1 h2)⟩
theorem Bel.cell {B b : Nat} {w w1 : World} (h : Bel B b w w1) {p : Addr} (hp : p.block < B) (hb : p.block ≠ b) : w1.cell? p = w.cell? p := World.cell?_of_block (h.block _ hp hb)
def Dig (c : Int) : Prop := 48 ≤ c ∧ c ≤ 57
instance (c : Int) : Decidable (Dig c) := inferInstanceAs (Decidable (_ ∧ _))
def dv (s : ByteArray) : Nat → Nat
 | 0 => 0
 | k + 1 => dv s k * 10 + (bt s k - 48).toNat
theorem NatS.grown {w w' : World} {B b : Nat} {v : Value} {l : List Nat} (h : NatS w B v l) (k : w.grownBy w' (some b)) (hb : b < B) : NatS w' B v l := by
 rcases h with h | ⟨g, full, h1, h2, h3, h4⟩
 ·exact .inl h
 ·exact .inr ⟨g, full, h1, h2, h3.same (k.block g h3.lt (fun e => by have := Option.some.inj e; omega)), h4⟩
structure Sc (B b : Nat) (w wr : World) (s : ByteArray) (v : Value) (k d i : Nat) : Prop where
 nat : ∃ l, NatS wr B v l ∧ num l * 10 ^ i + d = dv s k ∧ l = trimW l ∧ l.length ≤ k
 i19 : i < 19
 dlt : d < 10 ^ i
 ile : i ≤ k
 dig : ∀ j : Nat, j < k → Dig (bt s j)
 bel : Bel B b w wr
theorem pow19 {i : Nat} (h : i < 19) : 10 ^ i ≤ 1000000000000000000 := by
 have : 10 ^ i ≤ 10 ^ 18 := Nat.pow_le_pow_right (by omega) (by omega)
 simpa using this
theorem Sc.word {B b : Nat} {w wr : World} {s : ByteArray} {v : Value} {k d i : Nat} (h : Sc B b w wr s v k d i) : d < 1000000000000000000 := Nat.lt_of_lt_of_le h.dlt (pow19 h.i19)
theorem Sc.grown {B b : Nat} {w w1 w2 : World} {s : ByteArray} {v : Value} {k d i : Nat} (h : Sc B b w w1 s v k d i) (g : w1.grownBy w2 (some b)) (hb : b < B) (hB : B ≤ w.heap.size) : Sc B b w w2 s v k d i := by
 obtain ⟨l, h1, h2⟩ := h.nat
 exact ⟨⟨l, h1.grown g hb, h2⟩, h.i19, h.dlt, h.ile, h.dig, h.bel.grown g (by have := h.bel.size; omega) (by have := h.bel.size; omega)⟩
theorem Sc.digit {B b : Nat} {w wr : World} {s : ByteArray} {v : Value} {k d i : Nat} (h : Sc B b w wr s v k d i) (hd : Dig (bt s k)) (hi : i + 1 < 19) : Sc B b w wr s v (k + 1) (d * 10 + (bt s k - 48).toNat) (i + 1) := by
 obtain ⟨l, h1, h2, h3, h4⟩ := h.nat
 have hx : (bt s k - 48).toNat ≤ 9 := by have := hd.2; have := hd.1; omega
 have hdl := h.dlt
 refine ⟨⟨l, h1, ?_, h3, by omega⟩, hi, ?_, by have := h.ile; omega, fun j hj => ?_, h.bel⟩
 ·simp only [dv]
  rw [← h2, Nat.pow_succ, Nat.add_mul, Nat.mul_assoc]
  omega
 ·rw [Nat.pow_succ]; omega
 ·by_cases e : j = k
  ·rw [e]; exact hd
  ·exact h.dig j (by omega)
theorem ten19 : (10 : Nat) ^ 18 * 10 = 10000000000000000000 := by rfl
theorem full_word (a d x : Nat) : (a * 10000000000000000000 + (d * 10 + x)) * 10 ^ 0 + 0 = (a * 10 ^ 18 + d) * 10 + x := by
 rw [Nat.pow_zero, Nat.mul_one, Nat.add_zero, Nat.add_mul, Nat.mul_assoc, ten19, Nat.add_assoc]
end Go.Proofs.YtapaijpglfmfgaaGreatDoorG
end
section
namespace Go.Proofs.YtapaijpglfmfgaaGreatDoorG
open Go.RowKit YtapaijpglfmfgaaGreatDoorW.PrintWords YtapaijpglfmfgaaGreatDoorW.PrintLast
theorem zug {d : Nat} (h : d < 1000000000000000000) : IsW d := by unfold IsW W64; omega
theorem zvf {i : Nat} (h : i < 19) : IsW (10 ^ i) := by
 have := pow19 h
 unfold IsW W64
 omega
theorem pow_ne (i : Nat) : 10 ^ i ≠ 0 := by
 have := Nat.pow_pos (n := i) (show 0 < 10 by omega)
 omega
def ten19i : Nat := 10000000000000000000
theorem ten19i_cast : ((ten19i : Nat) : Int) = 10000000000000000000 := by unfold ten19i; simp
theorem mulAdd19_ (w : World) (B : Nat) (v : Value) (l : List Nat) (r : Nat) (h : NatS w B v l) (hBs : B ≤ w.heap.size) (hr : IsW r) (hl : l.length ≤ 1000000) :
  Calls Tryz.prog 112 #[v, v, .int .u64 10000000000000000000, .int .u64 (r : Int)] w fun e w' => ∃ v' l', e = .returned v' ∧ NatS w' B v' l' ∧ num l' = num l * ten19i + r ∧ l' = trimW l' ∧ l'.length ≤ l.length + 1 ∧ Below B w w' := by
 have t := zte w B v l ten19i r h hBs (by unfold ten19i IsW W64; omega) (by unfold ten19i; omega) hr hl
 rw [ten19i_cast] at t
 exact t
theorem cast_one (k : Nat) : Value.int .i64 ((k : Int) + 1) = Value.int .i64 ((k + 1 : Nat) : Int) := rfl
theorem meas_one (k n : Nat) (h : k < n) : n - (intOf (.int .i64 ((k : Int) + 1))).toNat < n - (intOf (.int .i64 (k : Int))).toNat := by
 simp only [intOf]
 omega
theorem Sc.fill {B b : Nat} {w wr w5 : World} {s : ByteArray} {v v5 : Value} {k d i : Nat} {l l5 : List Nat} (h : Sc B b w wr s v k d i) (hd : Dig (bt s k)) (hi : i + 1 = 19) (m1 : NatS w5 B v5 l5) (m3 : l5 = trimW l5) (m4 : l5.length ≤ l.length + 1) (m5 : Below B wr w5)
  (m2 : num l5 = num l * ten19i + (d * 10 + (bt s k - 48).toNat)) (n2 : num l * 10 ^ i + d = dv s k) (n4 : l.length ≤ k) : Sc B b w w5 s v5 (k + 1) 0 0 := by
 refine ⟨⟨l5, m1, ?_, m3, by omega⟩, by omega, by simp, by omega, fun j hj => ?_, h.bel.below m5⟩
 ·have e : i = 18 := by omega
  have e3 : dv s (k + 1) = dv s k * 10 + (bt s k - 48).toNat := rfl
  rw [e3, m2, ← n2, e]
  unfold ten19i
  exact full_word _ _ _
 ·by_cases ej : j = k
  ·rw [ej]; exact hd
  ·exact h.dig j (by omega)
def Head (w : World) (b : Nat) (s : ByteArray) (k : Nat) (ch er : Value) (EP : Addr) : Prop :=
 (k < s.size ∧ er = .nilIface ∧ ch = .int .u8 (bt s k) ∧ Rd w b s (k + 1) (-1)) ∨ (k = s.size ∧ er = ErrV EP ∧ ch = .int .u8 0 ∧ Rd w b s s.size (-1))
theorem next_ (w : World) (b k : Nat) (s : ByteArray) (p : Int) (EP : Addr) (h : Rd w b s k p) (hk : k ≤ s.size) (hs : s.size ≤ 1000000) (hE : w.cell? ⟨2, 0, none⟩ = some (ErrV EP)) (hb : b ≠ 2) :
  Calls Tryz.prog 149 #[.pointer (some ⟨b, 0, none⟩)] w fun e w' => ∃ ch er, e = .returned (.tuple #[ch, er]) ∧ Head w' b s k ch er EP ∧ w.grownBy w' (some b) := by
 rcases Nat.lt_or_ge k s.size with h1 | h1
 ·refine (readByte_ w b k s p h h1 (by omega)).mono ?_
  rintro e w' ⟨rfl, h2, h3⟩
  exact ⟨_, _, rfl, .inl ⟨h1, rfl, rfl, h2⟩, h3⟩
 ·obtain rfl : k = s.size := by omega
  refine (zij w b s p _ h hE hb (by omega)).mono ?_
  rintro e w' ⟨rfl, h2, h3⟩
  exact ⟨_, _, rfl, .inr ⟨rfl, rfl, rfl, h2⟩, h3⟩
def Out (B b : Nat) (w : World) (s : ByteArray) (NP : Addr) (e : Ending) (w' : World) : Prop :=
 ∃ (v er : Value) (l : List Nat) (r : Nat), e = .returned (.tuple #[v, .int .i64 10, .int .i64 (r : Int), er]) ∧ NatS w' B v l ∧ num l = dv s r ∧ l = trimW l ∧ r ≤ s.size ∧ (∀ j : Nat, j < r → Dig (bt s j)) ∧ (r < s.size → ¬ Dig (bt s r)) ∧
  (r = 0 → er = ErrV NP) ∧ (0 < r → er = .nilIface) ∧ (∃ q, Rd w' b s r q) ∧ Bel B b w w'
theorem natScan_ (w : World) (B b : Nat) (s : ByteArray) (p : Int) (EP NP : Addr) (h : Rd w b s 0 p) (h0 : 0 < s.size) (hs : s.size ≤ 1000000) (hb : b < B) (hBs : B ≤ w.heap.size)
  (hE : w.cell? ⟨2, 0, none⟩ = some (ErrV EP)) (hN : w.cell? ⟨4, 0, none⟩ = some (ErrV NP)) (hbg : 4 < b) :
  Calls Tryz.prog 108 #[.slice none 0 0, .iface 144 (.pointer (some ⟨b, 0, none⟩)), .int .i64 10, .bool false] w (Out B b w s NP) := by
 have HFIRST := za.mk (readByte_ w b 0 s p h h0 (by omega))
 have e0 : ((0 : Nat) : Int) = 0 := rfl
 rw [e0] at HFIRST
 have i1 := zdg (some ⟨b, 0, none⟩)
 have i2 := zzh (some ⟨b, 0, none⟩)
 have i3 := zcg
 have i4 := zyh
 have HE := za.mk hE
 have HN := za.mk hN
 clear h hE hN
 go_enter Tryz.func108, Tryz.ntmps108
 go_wp2_with (first
  | (go_at_call 149; refine HFIRST.out.mono ?_; rintro e' w1 ⟨rfl, r1, g1⟩; have R1 := za.mk r1; have G1 := za.mk g1; clear r1 g1)
  | (go_at_call 111; refine (maxPow_ _).mono ?_; rintro e' w2 ⟨rfl, rfl⟩))
 have HB0 : za (B ≤ w.heap.size) := ⟨hBs⟩
 have HBB : za (b < B ∧ 4 < b ∧ s.size ≤ 1000000 ∧ 0 < s.size) := ⟨⟨hb, hbg, hs, h0⟩⟩
 have START : za (Sc B b w w2 s (.slice none 0 0) 0 0 0 ∧ Head w2 b s 0 (.int .u8 (bt s 0)) .nilIface EP) := ⟨⟨⟨⟨[], .inl ⟨rfl, rfl⟩, by simp [num, dv], rfl, by simp⟩, by omega, by simp, by omega, fun j hj => by omega, (Bel.refl B b w).grown G1.out (by omega) hBs⟩, .inl ⟨h0, rfl, rfl, R1.out⟩⟩⟩
 clear R1 G1 HFIRST h0 hs hb hBs hbg
 go_loopw [0, 3, 10, 11, 13, 14, 15, 20, 21, 22] (fun z fr cnt er pv iv ch di ii dp wr => ∃ k d i : Nat, k ≤ s.size ∧ fr = .bool false ∧ cnt = .int .i64 k ∧ (∃ pr : Int, pv = .int .i32 pr ∧ pr ≠ 95) ∧ iv = .bool false ∧ di = .int .u64 (d : Int) ∧ ii = .int .i64 (i : Int) ∧ dp = .int .i64 (-1) ∧ za (Sc B b w wr s z k d i) ∧ za (Head wr b s k ch er EP)) (fun _ _ cnt _ _ _ _ _ _ _ _ => s.size - (intOf cnt).toNat)
 case atStart => exact ⟨0, 0, 0, Nat.zero_le _, rfl, rfl, ⟨46, rfl, by decide⟩, rfl, rfl, rfl, rfl, ⟨START.out.1⟩, ⟨START.out.2⟩⟩
 case round =>
  clear START
  obtain ⟨k, d, i, hk, rfl, rfl, ⟨pr, rfl, hpr⟩, rfl, rfl, rfl, rfl, hsc, hhd⟩ := hrel
  have q1 := eq_err EP
  have q2 := eq_nil_err EP
  have q3 : (pr == 95) = false := by rw [beq_eq_false_iff_ne]; exact hpr
  rcases hhd.out with ⟨hks, he, hch, hr⟩ | ⟨hks, he, hch, hr⟩
  ·subst he
   subst hch
   have HR := za.mk hr
   have HUN := za.mk (unreadByte_ wr b k s (-1) hr (by have h_ := HBB.out.2.2.1; omega))
   clear hr hhd
   by_cases hdig : Dig (bt s k)
   ·have HDIG := za.mk hdig
    have HNEXT := za.mk (fun w3 (h : Rd w3 b s (k + 1) (-1)) (hE : w3.cell? ⟨2, 0, none⟩ = some (ErrV EP)) => next_ w3 b (k + 1) s (-1) EP h hks HBB.out.2.2.1 hE (by have h_ := HBB.out.2.1; omega))
    obtain ⟨x, hx⟩ : ∃ x : Nat, x = (bt s k - 48).toNat := ⟨_, rfl⟩
    obtain ⟨c, hc⟩ : ∃ c, c = bt s k := ⟨_, rfl⟩
    rw [← hc]
    have hd1 : 48 ≤ c := by rw [hc]; exact hdig.1
    have hd2 : c ≤ 57 := by rw [hc]; exact hdig.2
    have hxc : (x : Int) = c - 48 := by rw [hx, ← hc]; omega
    have HX := za.mk hx
    have f1 : (c == 46) = false := by rw [beq_eq_false_iff_ne]; omega
    have f2 : (c == 95) = false := by rw [beq_eq_false_iff_ne]; omega
    have f3 : decide (48 ≤ c) = true := decide_eq_true hd1
    have f4 : decide (c ≤ 57) = true := decide_eq_true hd2
    have f5 : (c - 48) % 256 = (x : Int) := by omega
    have f6 : IntKind.u64.wrap (x : Int) = (x : Int) := wrap_W (by unfold W64; omega)
    have hw := hsc.out.word
    obtain ⟨m, hm⟩ : ∃ m : Nat, m = d * 10 := ⟨_, rfl⟩
    obtain ⟨d2, hd⟩ : ∃ d2 : Nat, d2 = d * 10 + x := ⟨_, rfl⟩
    have f7 : IntKind.u64.wrap ((d : Int) * 10) = (m : Int) := by
     have e : (d : Int) * 10 = (m : Int) := by omega
     rw [e]
     exact wrap_W (by unfold W64; omega)
    have f8 : IntKind.u64.wrap ((m : Int) + (x : Int)) = (d2 : Int) := by
     have e : (m : Int) + (x : Int) = (d2 : Int) := by omega
     rw [e]
     exact wrap_W (by unfold W64; omega)
    have f9 : decide ((x : Int) ≥ 10) = false := decide_eq_false (by omega)
    have f9b : (10 ≤ (x : Int)) = False := eq_false (by omega)
    have f10 : wrap64 ((k : Int) + 1) = (k : Int) + 1 := by have h_ := HBB.out.2.2.1; unfold wrap64; omega
    have f11 : wrap64 ((i : Int) + 1) = (i : Int) + 1 := by have h_ := hsc.out.i19; unfold wrap64; omega
    have HD2 := za.mk hd
    have HW2 : za (IsW d2) := ⟨by unfold IsW W64; omega⟩
    have hEw : wr.cell? ⟨2, 0, none⟩ = some (ErrV EP) := by
     rw [hsc.out.bel.cell (p := ⟨2, 0, none⟩) (by have h_ := HBB.out.1; have h2_ := HBB.out.2.1; show 2 < B; omega) (by have h2_ := HBB.out.2.1; show 2 ≠ b; omega)]
     exact HE.out
    have HEW := za.mk hEw
    have HI := za.mk hsc.out.i19
    clear hEw hx hc hdig hm hd hw hd1 hd2 hxc
    by_cases hi : i + 1 = 19
    ·have g1 : ((i : Int) + 1 == 19) = true := by rw [beq_iff_eq]; omega
     have g2 : (i : Int) + 1 = 19 := by omega
     go_wp2_with (first
      | (go_at_call 112; obtain ⟨l, hl1, hl2, hl3, hl4⟩ := hsc.out.nat; refine (mulAdd19_ wr B u0 l d2 hl1 (Nat.le_trans HB0.out hsc.out.bel.size) HW2.out (Nat.le_trans hl4 (Nat.le_trans (Nat.le_of_lt hks) HBB.out.2.2.1))).mono ?_; rintro e' w5 ⟨v5, l5, rfl, m1, m2, m3, m4, m5⟩; have M := za.mk (And.intro m1 (And.intro m2 (And.intro m3 (And.intro m4 m5)))); have R5 : za (Rd w5 b s (k + 1) (-1)) := ⟨HR.out.same (m5.block b HBB.out.1)⟩; have E5 : za (w5.cell? ⟨2, 0, none⟩ = some (ErrV EP)) := ⟨by rw [← HEW.out]; exact World.cell?_of_block (m5.block _ (by have h_ := HBB.out.1; have h2_ := HBB.out.2.1; show 2 < B; omega))⟩; have L := za.mk (And.intro hl2 (And.intro hl4 hl1)); clear m1 m2 m3 m4 m5 hl1 hl2 hl3 hl4)
      | (go_at_call 149; refine (HNEXT.out _ R5.out E5.out).mono ?_; rintro e' w6 ⟨ch6, er6, rfl, hh6, hg6⟩; have H6 := za.mk hh6; have G6 := za.mk hg6; clear hh6 hg6))
     go_roundw
     case rel =>
      obtain ⟨m1, m2, m3, m4, m5⟩ := M.out
      obtain ⟨n2, n4, n1⟩ := L.out
      have hs2 : Sc B b w w5 s v5 (k + 1) 0 0 := hsc.out.fill HDIG.out hi m1 m3 m4 m5 (by rw [m2, HD2.out, HX.out]) n2 n4
      exact ⟨k + 1, 0, 0, Nat.succ_le_of_lt hks, rfl, cast_one k, ⟨48, rfl, by decide⟩, rfl, rfl, rfl, rfl, ⟨hs2.grown G6.out HBB.out.1 HB0.out⟩, H6⟩
     case measure => exact meas_one k s.size hks
    ·have HI19 : za (i + 1 < 19) := ⟨by have h_ := HI.out; omega⟩
     have g1 : ((i : Int) + 1 == 19) = false := by rw [beq_eq_false_iff_ne]; omega
     have g2 : ¬ ((i : Int) + 1 = 19) := by omega
     go_wp2_with (first
      | (go_at_call 149; refine (HNEXT.out _ HR.out HEW.out).mono ?_; rintro e' w6 ⟨ch6, er6, rfl, hh6, hg6⟩; have H6 := za.mk hh6; have G6 := za.mk hg6; clear hh6 hg6))
     go_roundw
     case rel =>
      have hs2 := (hsc.out.digit HDIG.out HI19.out).grown G6.out HBB.out.1 HB0.out
      exact ⟨k + 1, d2, i + 1, Nat.succ_le_of_lt hks, rfl, cast_one k, ⟨48, rfl, by decide⟩, rfl, rfl, cast_one i, rfl, ⟨by rw [HD2.out, HX.out]; exact hs2⟩, H6⟩
     case measure => exact meas_one k s.size hks
   ·have HND := za.mk hdig
    obtain ⟨c, hc⟩ : ∃ c, c = bt s k := ⟨_, rfl⟩
    have hr0 := bt_range s k
    rw [← hc] at hr0 ⊢
    have hnd : ¬ (48 ≤ c ∧ c ≤ 57) := by rw [hc]; exact hdig
    clear hdig hc hks
    by_cases hcc : c = 46
    ·subst hcc
     clear hnd hr0
     go_upto_region 80 with (first | (go_at_call 150; refine HUN.out.mono ?_; rintro e' w3 ⟨rfl, r3, g3⟩; have R3 := za.mk r3; have S3 : za (Sc B b w w3 s u0 k d i) := ⟨hsc.out.grown g3 HBB.out.1 HB0.out⟩; have hE3 : w3.cell? ⟨2, 0, none⟩ = some (.iface 193 (.pointer (some EP))) := (S3.out.bel.cell (p := ⟨2, 0, none⟩) (by have h_ := HBB.out.1; have h2_ := HBB.out.2.1; show 2 < B; omega) (by have h2_ := HBB.out.2.1; show 2 ≠ b; omega)).trans HE.out; have hN3 : w3.cell? ⟨4, 0, none⟩ = some (.iface 193 (.pointer (some NP))) := (S3.out.bel.cell (p := ⟨4, 0, none⟩) (by have h_ := HBB.out.1; have h2_ := HBB.out.2.1; show 4 < B; omega) (by have h2_ := HBB.out.2.1; show 4 ≠ b; omega)).trans HN.out; clear r3 g3))
     by_cases hk0 : k = 0
     ·have hi0 := S3.out.ile
      have c1 : ((k : Int) == 0) = true := by rw [beq_iff_eq]; omega
      have c2 : (k : Int) = 0 := by omega
      have c3 : (i : Int) = 0 := by omega
      have c4 : decide (0 < (i : Int)) = false := decide_eq_false (by omega)
      go_wp2
      (try simp only [Exit.inBlock, Exit.then])
      refine bodyPost_ret (ztb rfl _ _ _) rfl ?_
      obtain ⟨l, hl1, hl2, hl3, hl4⟩ := S3.out.nat
      obtain rfl : k = 0 := by omega
      obtain rfl : i = 0 := by omega
      exact ⟨_, _, l, 0, rfl, hl1, by have h_ := S3.out.dlt; simp at h_; rw [h_] at hl2; simpa using hl2, hl3, hk, S3.out.dig, (fun _ => HND.out), fun _ => rfl, (fun h => absurd h (Nat.lt_irrefl _)), ⟨-1, R3.out⟩, S3.out.bel⟩
     ·by_cases hi0 : i = 0
      ·have c1 : ((k : Int) == 0) = false := by rw [beq_eq_false_iff_ne]; omega
       have c2 : ¬ ((k : Int) = 0) := by omega
       have c3 : (i : Int) = 0 := by omega
       have c4 : decide (0 < (i : Int)) = false := decide_eq_false (by omega)
       go_wp2
       (try simp only [Exit.inBlock, Exit.then])
       refine bodyPost_ret (ztb rfl _ _ _) rfl ?_
       obtain ⟨l, hl1, hl2, hl3, hl4⟩ := S3.out.nat
       obtain rfl : i = 0 := by omega
       exact ⟨_, _, l, k, rfl, hl1, by have h_ := S3.out.dlt; simp at h_; rw [h_] at hl2; simpa using hl2, hl3, hk, S3.out.dig, (fun _ => HND.out), (fun h => absurd h (by omega)), fun _ => rfl, ⟨-1, R3.out⟩, S3.out.bel⟩
      ·have c1 : ((k : Int) == 0) = false := by rw [beq_eq_false_iff_ne]; omega
       have c2 : ¬ ((k : Int) = 0) := by omega
       have c4 : decide (0 < (i : Int)) = true := decide_eq_true (by omega)
       have c5 := S3.out.i19
       go_wp2_with (first | (go_at_call 113; refine (pow_ i (by omega) (by omega) _).mono ?_; rintro e' w4 ⟨rfl, hw4⟩; have hw4 := hw4.symm; subst hw4) | (go_at_call 112; obtain ⟨l, hl1, hl2, hl3, hl4⟩ := S3.out.nat; refine (zte w3 B u0 l (10 ^ i) d hl1 (Nat.le_trans HB0.out S3.out.bel.size) (zvf S3.out.i19) (pow_ne i) (zug S3.out.word) (Nat.le_trans hl4 (Nat.le_trans hk HBB.out.2.2.1))).mono ?_; rintro e' w5 ⟨v5, l5, rfl, m1, m2, m3, m4, m5⟩; have M := za.mk (And.intro m1 (And.intro (m2.trans hl2) (And.intro m3 m5))); clear m1 m2 m3 m4 m5 hl1 hl2 hl3 hl4))
       (try simp only [Exit.inBlock, Exit.then])
       refine bodyPost_ret (ztb rfl _ _ _) rfl ?_
       obtain ⟨m1, m2, m3, m5⟩ := M.out
       exact ⟨_, _, l5, k, rfl, m1, m2, m3, hk, S3.out.dig, (fun _ => HND.out), (fun h => absurd h (by omega)), fun _ => rfl, ⟨-1, R3.out.same (m5.block b HBB.out.1)⟩, S3.out.bel.below m5⟩
    ·have hn8 := hcc
     clear hcc
     by_cases hcc : c = 95
     ·subst hcc
      clear hnd hr0
      go_upto_region 80 with (first | (go_at_call 150; refine HUN.out.mono ?_; rintro e' w3 ⟨rfl, r3, g3⟩; have R3 := za.mk r3; have S3 : za (Sc B b w w3 s u0 k d i) := ⟨hsc.out.grown g3 HBB.out.1 HB0.out⟩; have hE3 : w3.cell? ⟨2, 0, none⟩ = some (.iface 193 (.pointer (some EP))) := (S3.out.bel.cell (p := ⟨2, 0, none⟩) (by have h_ := HBB.out.1; have h2_ := HBB.out.2.1; show 2 < B; omega) (by have h2_ := HBB.out.2.1; show 2 ≠ b; omega)).trans HE.out; have hN3 : w3.cell? ⟨4, 0, none⟩ = some (.iface 193 (.pointer (some NP))) := (S3.out.bel.cell (p := ⟨4, 0, none⟩) (by have h_ := HBB.out.1; have h2_ := HBB.out.2.1; show 4 < B; omega) (by have h2_ := HBB.out.2.1; show 4 ≠ b; omega)).trans HN.out; clear r3 g3))
      by_cases hk0 : k = 0
      ·have hi0 := S3.out.ile
       have c1 : ((k : Int) == 0) = true := by rw [beq_iff_eq]; omega
       have c2 : (k : Int) = 0 := by omega
       have c3 : (i : Int) = 0 := by omega
       have c4 : decide (0 < (i : Int)) = false := decide_eq_false (by omega)
       go_wp2
       (try simp only [Exit.inBlock, Exit.then])
       refine bodyPost_ret (ztb rfl _ _ _) rfl ?_
       obtain ⟨l, hl1, hl2, hl3, hl4⟩ := S3.out.nat
       obtain rfl : k = 0 := by omega
       obtain rfl : i = 0 := by omega
       exact ⟨_, _, l, 0, rfl, hl1, by have h_ := S3.out.dlt; simp at h_; rw [h_] at hl2; simpa using hl2, hl3, hk, S3.out.dig, (fun _ => HND.out), fun _ => rfl, (fun h => absurd h (Nat.lt_irrefl _)), ⟨-1, R3.out⟩, S3.out.bel⟩
      ·by_cases hi0 : i = 0
       ·have c1 : ((k : Int) == 0) = false := by rw [beq_eq_false_iff_ne]; omega
        have c2 : ¬ ((k : Int) = 0) := by omega
        have c3 : (i : Int) = 0 := by omega
        have c4 : decide (0 < (i : Int)) = false := decide_eq_false (by omega)
        go_wp2
        (try simp only [Exit.inBlock, Exit.then])
        refine bodyPost_ret (ztb rfl _ _ _) rfl ?_
        obtain ⟨l, hl1, hl2, hl3, hl4⟩ := S3.out.nat
        obtain rfl : i = 0 := by omega
        exact ⟨_, _, l, k, rfl, hl1, by have h_ := S3.out.dlt; simp at h_; rw [h_] at hl2; simpa using hl2, hl3, hk, S3.out.dig, (fun _ => HND.out), (fun h => absurd h (by omega)), fun _ => rfl, ⟨-1, R3.out⟩, S3.out.bel⟩
       ·have c1 : ((k : Int) == 0) = false := by rw [beq_eq_false_iff_ne]; omega
        have c2 : ¬ ((k : Int) = 0) := by omega
        have c4 : decide (0 < (i : Int)) = true := decide_eq_true (by omega)
        have c5 := S3.out.i19
        go_wp2_with (first | (go_at_call 113; refine (pow_ i (by omega) (by omega) _).mono ?_; rintro e' w4 ⟨rfl, hw4⟩; have hw4 := hw4.symm; subst hw4) | (go_at_call 112; obtain ⟨l, hl1, hl2, hl3, hl4⟩ := S3.out.nat; refine (zte w3 B u0 l (10 ^ i) d hl1 (Nat.le_trans HB0.out S3.out.bel.size) (zvf S3.out.i19) (pow_ne i) (zug S3.out.word) (Nat.le_trans hl4 (Nat.le_trans hk HBB.out.2.2.1))).mono ?_; rintro e' w5 ⟨v5, l5, rfl, m1, m2, m3, m4, m5⟩; have M := za.mk (And.intro m1 (And.intro (m2.trans hl2) (And.intro m3 m5))); clear m1 m2 m3 m4 m5 hl1 hl2 hl3 hl4))
        (try simp only [Exit.inBlock, Exit.then])
        refine bodyPost_ret (ztb rfl _ _ _) rfl ?_
        obtain ⟨m1, m2, m3, m5⟩ := M.out
        exact ⟨_, _, l5, k, rfl, m1, m2, m3, hk, S3.out.dig, (fun _ => HND.out), (fun h => absurd h (by omega)), fun _ => rfl, ⟨-1, R3.out.same (m5.block b HBB.out.1)⟩, S3.out.bel.below m5⟩
     ·have hn7 := hcc
      clear hcc
      by_cases hcc : 97 ≤ c ∧ c ≤ 122
      ·have f1 : (c == 46) = false := by rw [beq_eq_false_iff_ne]; omega
       have f2 : (c == 95) = false := by rw [beq_eq_false_iff_ne]; omega
       have f3 : decide (48 ≤ c) = true := decide_eq_true (by omega)
       have f4 : decide (c ≤ 57) = false := decide_eq_false (by omega)
       have f5 : decide (97 ≤ c) = true := decide_eq_true (by omega)
       have f6 : decide (c ≤ 122) = true := decide_eq_true (by omega)
       obtain ⟨y, hy⟩ : ∃ y : Nat, y = (c - 97).toNat := ⟨_, rfl⟩
       obtain ⟨x, hx⟩ : ∃ x : Nat, x = y + 10 := ⟨_, rfl⟩
       have f7 : (c - 97) % 256 = (y : Int) := by omega
       have f8 : ((y : Int) + 10) % 256 = (x : Int) := by omega
       have f9 : IntKind.u64.wrap (x : Int) = (x : Int) := wrap_W (by unfold W64; omega)
       have f10 : decide ((x : Int) ≥ 10) = true := decide_eq_true (by omega)
       have f10b : (10 ≤ (x : Int)) = True := eq_true (by omega)
       clear hx hy hcc
       clear hnd hr0
       go_upto_region 80 with (first | (go_at_call 150; refine HUN.out.mono ?_; rintro e' w3 ⟨rfl, r3, g3⟩; have R3 := za.mk r3; have S3 : za (Sc B b w w3 s u0 k d i) := ⟨hsc.out.grown g3 HBB.out.1 HB0.out⟩; have hE3 : w3.cell? ⟨2, 0, none⟩ = some (.iface 193 (.pointer (some EP))) := (S3.out.bel.cell (p := ⟨2, 0, none⟩) (by have h_ := HBB.out.1; have h2_ := HBB.out.2.1; show 2 < B; omega) (by have h2_ := HBB.out.2.1; show 2 ≠ b; omega)).trans HE.out; have hN3 : w3.cell? ⟨4, 0, none⟩ = some (.iface 193 (.pointer (some NP))) := (S3.out.bel.cell (p := ⟨4, 0, none⟩) (by have h_ := HBB.out.1; have h2_ := HBB.out.2.1; show 4 < B; omega) (by have h2_ := HBB.out.2.1; show 4 ≠ b; omega)).trans HN.out; clear r3 g3))
       by_cases hk0 : k = 0
       ·have hi0 := S3.out.ile
        have c1 : ((k : Int) == 0) = true := by rw [beq_iff_eq]; omega
        have c2 : (k : Int) = 0 := by omega
        have c3 : (i : Int) = 0 := by omega
        have c4 : decide (0 < (i : Int)) = false := decide_eq_false (by omega)
        go_wp2
        (try simp only [Exit.inBlock, Exit.then])
        refine bodyPost_ret (ztb rfl _ _ _) rfl ?_
        obtain ⟨l, hl1, hl2, hl3, hl4⟩ := S3.out.nat
        obtain rfl : k = 0 := by omega
        obtain rfl : i = 0 := by omega
        exact ⟨_, _, l, 0, rfl, hl1, by have h_ := S3.out.dlt; simp at h_; rw [h_] at hl2; simpa using hl2, hl3, hk, S3.out.dig, (fun _ => HND.out), fun _ => rfl, (fun h => absurd h (Nat.lt_irrefl _)), ⟨-1, R3.out⟩, S3.out.bel⟩
       ·by_cases hi0 : i = 0
        ·have c1 : ((k : Int) == 0) = false := by rw [beq_eq_false_iff_ne]; omega
         have c2 : ¬ ((k : Int) = 0) := by omega
         have c3 : (i : Int) = 0 := by omega
         have c4 : decide (0 < (i : Int)) = false := decide_eq_false (by omega)
         go_wp2
         (try simp only [Exit.inBlock, Exit.then])
         refine bodyPost_ret (ztb rfl _ _ _) rfl ?_
         obtain ⟨l, hl1, hl2, hl3, hl4⟩ := S3.out.nat
         obtain rfl : i = 0 := by omega
         exact ⟨_, _, l, k, rfl, hl1, by have h_ := S3.out.dlt; simp at h_; rw [h_] at hl2; simpa using hl2, hl3, hk, S3.out.dig, (fun _ => HND.out), (fun h => absurd h (by omega)), fun _ => rfl, ⟨-1, R3.out⟩, S3.out.bel⟩
        ·have c1 : ((k : Int) == 0) = false := by rw [beq_eq_false_iff_ne]; omega
         have c2 : ¬ ((k : Int) = 0) := by omega
         have c4 : decide (0 < (i : Int)) = true := decide_eq_true (by omega)
         have c5 := S3.out.i19
         go_wp2_with (first | (go_at_call 113; refine (pow_ i (by omega) (by omega) _).mono ?_; rintro e' w4 ⟨rfl, hw4⟩; have hw4 := hw4.symm; subst hw4) | (go_at_call 112; obtain ⟨l, hl1, hl2, hl3, hl4⟩ := S3.out.nat; refine (zte w3 B u0 l (10 ^ i) d hl1 (Nat.le_trans HB0.out S3.out.bel.size) (zvf S3.out.i19) (pow_ne i) (zug S3.out.word) (Nat.le_trans hl4 (Nat.le_trans hk HBB.out.2.2.1))).mono ?_; rintro e' w5 ⟨v5, l5, rfl, m1, m2, m3, m4, m5⟩; have M := za.mk (And.intro m1 (And.intro (m2.trans hl2) (And.intro m3 m5))); clear m1 m2 m3 m4 m5 hl1 hl2 hl3 hl4))
         (try simp only [Exit.inBlock, Exit.then])
         refine bodyPost_ret (ztb rfl _ _ _) rfl ?_
         obtain ⟨m1, m2, m3, m5⟩ := M.out
         exact ⟨_, _, l5, k, rfl, m1, m2, m3, hk, S3.out.dig, (fun _ => HND.out), (fun h => absurd h (by omega)), fun _ => rfl, ⟨-1, R3.out.same (m5.block b HBB.out.1)⟩, S3.out.bel.below m5⟩
      ·have hn6 := hcc
       clear hcc
       by_cases hcc : 65 ≤ c ∧ c ≤ 90
       ·have f1 : (c == 46) = false := by rw [beq_eq_false_iff_ne]; omega
        have f2 : (c == 95) = false := by rw [beq_eq_false_iff_ne]; omega
        have f3 : decide (48 ≤ c) = true := decide_eq_true (by omega)
        have f4 : decide (c ≤ 57) = false := decide_eq_false (by omega)
        have f5 : decide (97 ≤ c) = false := decide_eq_false (by omega)
        have f6 : decide (65 ≤ c) = true := decide_eq_true (by omega)
        have f6b : decide (c ≤ 90) = true := decide_eq_true (by omega)
        obtain ⟨y, hy⟩ : ∃ y : Nat, y = (c - 65).toNat := ⟨_, rfl⟩
        obtain ⟨x, hx⟩ : ∃ x : Nat, x = y + 10 := ⟨_, rfl⟩
        have f7 : (c - 65) % 256 = (y : Int) := by omega
        have f8 : ((y : Int) + 10) % 256 = (x : Int) := by omega
        have f9 : IntKind.u64.wrap (x : Int) = (x : Int) := wrap_W (by unfold W64; omega)
        have f10 : decide ((x : Int) ≥ 10) = true := decide_eq_true (by omega)
        have f10b : (10 ≤ (x : Int)) = True := eq_true (by omega)
        clear hx hy hcc
        clear hnd hr0
        go_upto_region 80 with (first | (go_at_call 150; refine HUN.out.mono ?_; rintro e' w3 ⟨rfl, r3, g3⟩; have R3 := za.mk r3; have S3 : za (Sc B b w w3 s u0 k d i) := ⟨hsc.out.grown g3 HBB.out.1 HB0.out⟩; have hE3 : w3.cell? ⟨2, 0, none⟩ = some (.iface 193 (.pointer (some EP))) := (S3.out.bel.cell (p := ⟨2, 0, none⟩) (by have h_ := HBB.out.1; have h2_ := HBB.out.2.1; show 2 < B; omega) (by have h2_ := HBB.out.2.1; show 2 ≠ b; omega)).trans HE.out; have hN3 : w3.cell? ⟨4, 0, none⟩ = some (.iface 193 (.pointer (some NP))) := (S3.out.bel.cell (p := ⟨4, 0, none⟩) (by have h_ := HBB.out.1; have h2_ := HBB.out.2.1; show 4 < B; omega) (by have h2_ := HBB.out.2.1; show 4 ≠ b; omega)).trans HN.out; clear r3 g3))
        by_cases hk0 : k = 0
        ·have hi0 := S3.out.ile
         have c1 : ((k : Int) == 0) = true := by rw [beq_iff_eq]; omega
         have c2 : (k : Int) = 0 := by omega
         have c3 : (i : Int) = 0 := by omega
         have c4 : decide (0 < (i : Int)) = false := decide_eq_false (by omega)
         go_wp2
         (try simp only [Exit.inBlock, Exit.then])
         refine bodyPost_ret (ztb rfl _ _ _) rfl ?_
         obtain ⟨l, hl1, hl2, hl3, hl4⟩ := S3.out.nat
         obtain rfl : k = 0 := by omega
         obtain rfl : i = 0 := by omega
         exact ⟨_, _, l, 0, rfl, hl1, by have h_ := S3.out.dlt; simp at h_; rw [h_] at hl2; simpa using hl2, hl3, hk, S3.out.dig, (fun _ => HND.out), fun _ => rfl, (fun h => absurd h (Nat.lt_irrefl _)), ⟨-1, R3.out⟩, S3.out.bel⟩
        ·by_cases hi0 : i = 0
         ·have c1 : ((k : Int) == 0) = false := by rw [beq_eq_false_iff_ne]; omega
          have c2 : ¬ ((k : Int) = 0) := by omega
          have c3 : (i : Int) = 0 := by omega
          have c4 : decide (0 < (i : Int)) = false := decide_eq_false (by omega)
          go_wp2
          (try simp only [Exit.inBlock, Exit.then])
          refine bodyPost_ret (ztb rfl _ _ _) rfl ?_
          obtain ⟨l, hl1, hl2, hl3, hl4⟩ := S3.out.nat
          obtain rfl : i = 0 := by omega
          exact ⟨_, _, l, k, rfl, hl1, by have h_ := S3.out.dlt; simp at h_; rw [h_] at hl2; simpa using hl2, hl3, hk, S3.out.dig, (fun _ => HND.out), (fun h => absurd h (by omega)), fun _ => rfl, ⟨-1, R3.out⟩, S3.out.bel⟩
         ·have c1 : ((k : Int) == 0) = false := by rw [beq_eq_false_iff_ne]; omega
          have c2 : ¬ ((k : Int) = 0) := by omega
          have c4 : decide (0 < (i : Int)) = true := decide_eq_true (by omega)
          have c5 := S3.out.i19
          go_wp2_with (first | (go_at_call 113; refine (pow_ i (by omega) (by omega) _).mono ?_; rintro e' w4 ⟨rfl, hw4⟩; have hw4 := hw4.symm; subst hw4) | (go_at_call 112; obtain ⟨l, hl1, hl2, hl3, hl4⟩ := S3.out.nat; refine (zte w3 B u0 l (10 ^ i) d hl1 (Nat.le_trans HB0.out S3.out.bel.size) (zvf S3.out.i19) (pow_ne i) (zug S3.out.word) (Nat.le_trans hl4 (Nat.le_trans hk HBB.out.2.2.1))).mono ?_; rintro e' w5 ⟨v5, l5, rfl, m1, m2, m3, m4, m5⟩; have M := za.mk (And.intro m1 (And.intro (m2.trans hl2) (And.intro m3 m5))); clear m1 m2 m3 m4 m5 hl1 hl2 hl3 hl4))
          (try simp only [Exit.inBlock, Exit.then])
          refine bodyPost_ret (ztb rfl _ _ _) rfl ?_
          obtain ⟨m1, m2, m3, m5⟩ := M.out
          exact ⟨_, _, l5, k, rfl, m1, m2, m3, hk, S3.out.dig, (fun _ => HND.out), (fun h => absurd h (by omega)), fun _ => rfl, ⟨-1, R3.out.same (m5.block b HBB.out.1)⟩, S3.out.bel.below m5⟩
       ·have hn5 := hcc
        clear hcc
        by_cases hcc : c < 48
        ·have f1 : (c == 46) = false := by rw [beq_eq_false_iff_ne]; omega
         have f2 : (c == 95) = false := by rw [beq_eq_false_iff_ne]; omega
         have f3 : decide (48 ≤ c) = false := decide_eq_false (by omega)
         have f4 : decide (97 ≤ c) = false := decide_eq_false (by omega)
         have f5 : decide (65 ≤ c) = false := decide_eq_false (by omega)
         clear hcc
         clear hnd hr0
         go_upto_region 80 with (first | (go_at_call 150; refine HUN.out.mono ?_; rintro e' w3 ⟨rfl, r3, g3⟩; have R3 := za.mk r3; have S3 : za (Sc B b w w3 s u0 k d i) := ⟨hsc.out.grown g3 HBB.out.1 HB0.out⟩; have hE3 : w3.cell? ⟨2, 0, none⟩ = some (.iface 193 (.pointer (some EP))) := (S3.out.bel.cell (p := ⟨2, 0, none⟩) (by have h_ := HBB.out.1; have h2_ := HBB.out.2.1; show 2 < B; omega) (by have h2_ := HBB.out.2.1; show 2 ≠ b; omega)).trans HE.out; have hN3 : w3.cell? ⟨4, 0, none⟩ = some (.iface 193 (.pointer (some NP))) := (S3.out.bel.cell (p := ⟨4, 0, none⟩) (by have h_ := HBB.out.1; have h2_ := HBB.out.2.1; show 4 < B; omega) (by have h2_ := HBB.out.2.1; show 4 ≠ b; omega)).trans HN.out; clear r3 g3))
         by_cases hk0 : k = 0
         ·have hi0 := S3.out.ile
          have c1 : ((k : Int) == 0) = true := by rw [beq_iff_eq]; omega
          have c2 : (k : Int) = 0 := by omega
          have c3 : (i : Int) = 0 := by omega
          have c4 : decide (0 < (i : Int)) = false := decide_eq_false (by omega)
          go_wp2
          (try simp only [Exit.inBlock, Exit.then])
          refine bodyPost_ret (ztb rfl _ _ _) rfl ?_
          obtain ⟨l, hl1, hl2, hl3, hl4⟩ := S3.out.nat
          obtain rfl : k = 0 := by omega
          obtain rfl : i = 0 := by omega
          exact ⟨_, _, l, 0, rfl, hl1, by have h_ := S3.out.dlt; simp at h_; rw [h_] at hl2; simpa using hl2, hl3, hk, S3.out.dig, (fun _ => HND.out), fun _ => rfl, (fun h => absurd h (Nat.lt_irrefl _)), ⟨-1, R3.out⟩, S3.out.bel⟩
         ·by_cases hi0 : i = 0
          ·have c1 : ((k : Int) == 0) = false := by rw [beq_eq_false_iff_ne]; omega
           have c2 : ¬ ((k : Int) = 0) := by omega
           have c3 : (i : Int) = 0 := by omega
           have c4 : decide (0 < (i : Int)) = false := decide_eq_false (by omega)
           go_wp2
           (try simp only [Exit.inBlock, Exit.then])
           refine bodyPost_ret (ztb rfl _ _ _) rfl ?_
           obtain ⟨l, hl1, hl2, hl3, hl4⟩ := S3.out.nat
           obtain rfl : i = 0 := by omega
           exact ⟨_, _, l, k, rfl, hl1, by have h_ := S3.out.dlt; simp at h_; rw [h_] at hl2; simpa using hl2, hl3, hk, S3.out.dig, (fun _ => HND.out), (fun h => absurd h (by omega)), fun _ => rfl, ⟨-1, R3.out⟩, S3.out.bel⟩
          ·have c1 : ((k : Int) == 0) = false := by rw [beq_eq_false_iff_ne]; omega
           have c2 : ¬ ((k : Int) = 0) := by omega
           have c4 : decide (0 < (i : Int)) = true := decide_eq_true (by omega)
           have c5 := S3.out.i19
           go_wp2_with (first | (go_at_call 113; refine (pow_ i (by omega) (by omega) _).mono ?_; rintro e' w4 ⟨rfl, hw4⟩; have hw4 := hw4.symm; subst hw4) | (go_at_call 112; obtain ⟨l, hl1, hl2, hl3, hl4⟩ := S3.out.nat; refine (zte w3 B u0 l (10 ^ i) d hl1 (Nat.le_trans HB0.out S3.out.bel.size) (zvf S3.out.i19) (pow_ne i) (zug S3.out.word) (Nat.le_trans hl4 (Nat.le_trans hk HBB.out.2.2.1))).mono ?_; rintro e' w5 ⟨v5, l5, rfl, m1, m2, m3, m4, m5⟩; have M := za.mk (And.intro m1 (And.intro (m2.trans hl2) (And.intro m3 m5))); clear m1 m2 m3 m4 m5 hl1 hl2 hl3 hl4))
           (try simp only [Exit.inBlock, Exit.then])
           refine bodyPost_ret (ztb rfl _ _ _) rfl ?_
           obtain ⟨m1, m2, m3, m5⟩ := M.out
           exact ⟨_, _, l5, k, rfl, m1, m2, m3, hk, S3.out.dig, (fun _ => HND.out), (fun h => absurd h (by omega)), fun _ => rfl, ⟨-1, R3.out.same (m5.block b HBB.out.1)⟩, S3.out.bel.below m5⟩
        ·have hn4 := hcc
         clear hcc
         by_cases hcc : c ≤ 64
         ·have f1 : (c == 46) = false := by rw [beq_eq_false_iff_ne]; omega
          have f2 : (c == 95) = false := by rw [beq_eq_false_iff_ne]; omega
          have f3 : decide (48 ≤ c) = true := decide_eq_true (by omega)
          have f4 : decide (c ≤ 57) = false := decide_eq_false (by omega)
          have f5 : decide (97 ≤ c) = false := decide_eq_false (by omega)
          have f6 : decide (65 ≤ c) = false := decide_eq_false (by omega)
          clear hcc
          clear hnd hr0
          go_upto_region 80 with (first | (go_at_call 150; refine HUN.out.mono ?_; rintro e' w3 ⟨rfl, r3, g3⟩; have R3 := za.mk r3; have S3 : za (Sc B b w w3 s u0 k d i) := ⟨hsc.out.grown g3 HBB.out.1 HB0.out⟩; have hE3 : w3.cell? ⟨2, 0, none⟩ = some (.iface 193 (.pointer (some EP))) := (S3.out.bel.cell (p := ⟨2, 0, none⟩) (by have h_ := HBB.out.1; have h2_ := HBB.out.2.1; show 2 < B; omega) (by have h2_ := HBB.out.2.1; show 2 ≠ b; omega)).trans HE.out; have hN3 : w3.cell? ⟨4, 0, none⟩ = some (.iface 193 (.pointer (some NP))) := (S3.out.bel.cell (p := ⟨4, 0, none⟩) (by have h_ := HBB.out.1; have h2_ := HBB.out.2.1; show 4 < B; omega) (by have h2_ := HBB.out.2.1; show 4 ≠ b; omega)).trans HN.out; clear r3 g3))
          by_cases hk0 : k = 0
          ·have hi0 := S3.out.ile
           have c1 : ((k : Int) == 0) = true := by rw [beq_iff_eq]; omega
           have c2 : (k : Int) = 0 := by omega
           have c3 : (i : Int) = 0 := by omega
           have c4 : decide (0 < (i : Int)) = false := decide_eq_false (by omega)
           go_wp2
           (try simp only [Exit.inBlock, Exit.then])
           refine bodyPost_ret (ztb rfl _ _ _) rfl ?_
           obtain ⟨l, hl1, hl2, hl3, hl4⟩ := S3.out.nat
           obtain rfl : k = 0 := by omega
           obtain rfl : i = 0 := by omega
           exact ⟨_, _, l, 0, rfl, hl1, by have h_ := S3.out.dlt; simp at h_; rw [h_] at hl2; simpa using hl2, hl3, hk, S3.out.dig, (fun _ => HND.out), fun _ => rfl, (fun h => absurd h (Nat.lt_irrefl _)), ⟨-1, R3.out⟩, S3.out.bel⟩
          ·by_cases hi0 : i = 0
           ·have c1 : ((k : Int) == 0) = false := by rw [beq_eq_false_iff_ne]; omega
            have c2 : ¬ ((k : Int) = 0) := by omega
            have c3 : (i : Int) = 0 := by omega
            have c4 : decide (0 < (i : Int)) = false := decide_eq_false (by omega)
            go_wp2
            (try simp only [Exit.inBlock, Exit.then])
            refine bodyPost_ret (ztb rfl _ _ _) rfl ?_
            obtain ⟨l, hl1, hl2, hl3, hl4⟩ := S3.out.nat
            obtain rfl : i = 0 := by omega
            exact ⟨_, _, l, k, rfl, hl1, by have h_ := S3.out.dlt; simp at h_; rw [h_] at hl2; simpa using hl2, hl3, hk, S3.out.dig, (fun _ => HND.out), (fun h => absurd h (by omega)), fun _ => rfl, ⟨-1, R3.out⟩, S3.out.bel⟩
           ·have c1 : ((k : Int) == 0) = false := by rw [beq_eq_false_iff_ne]; omega
            have c2 : ¬ ((k : Int) = 0) := by omega
            have c4 : decide (0 < (i : Int)) = true := decide_eq_true (by omega)
            have c5 := S3.out.i19
            go_wp2_with (first | (go_at_call 113; refine (pow_ i (by omega) (by omega) _).mono ?_; rintro e' w4 ⟨rfl, hw4⟩; have hw4 := hw4.symm; subst hw4) | (go_at_call 112; obtain ⟨l, hl1, hl2, hl3, hl4⟩ := S3.out.nat; refine (zte w3 B u0 l (10 ^ i) d hl1 (Nat.le_trans HB0.out S3.out.bel.size) (zvf S3.out.i19) (pow_ne i) (zug S3.out.word) (Nat.le_trans hl4 (Nat.le_trans hk HBB.out.2.2.1))).mono ?_; rintro e' w5 ⟨v5, l5, rfl, m1, m2, m3, m4, m5⟩; have M := za.mk (And.intro m1 (And.intro (m2.trans hl2) (And.intro m3 m5))); clear m1 m2 m3 m4 m5 hl1 hl2 hl3 hl4))
            (try simp only [Exit.inBlock, Exit.then])
            refine bodyPost_ret (ztb rfl _ _ _) rfl ?_
            obtain ⟨m1, m2, m3, m5⟩ := M.out
            exact ⟨_, _, l5, k, rfl, m1, m2, m3, hk, S3.out.dig, (fun _ => HND.out), (fun h => absurd h (by omega)), fun _ => rfl, ⟨-1, R3.out.same (m5.block b HBB.out.1)⟩, S3.out.bel.below m5⟩
         ·have hn3 := hcc
          clear hcc
          by_cases hcc : c ≤ 96
          ·have f1 : (c == 46) = false := by rw [beq_eq_false_iff_ne]; omega
           have f2 : (c == 95) = false := by rw [beq_eq_false_iff_ne]; omega
           have f3 : decide (48 ≤ c) = true := decide_eq_true (by omega)
           have f4 : decide (c ≤ 57) = false := decide_eq_false (by omega)
           have f5 : decide (97 ≤ c) = false := decide_eq_false (by omega)
           have f6 : decide (65 ≤ c) = true := decide_eq_true (by omega)
           have f7 : decide (c ≤ 90) = false := decide_eq_false (by omega)
           clear hcc
           clear hnd hr0
           go_upto_region 80 with (first | (go_at_call 150; refine HUN.out.mono ?_; rintro e' w3 ⟨rfl, r3, g3⟩; have R3 := za.mk r3; have S3 : za (Sc B b w w3 s u0 k d i) := ⟨hsc.out.grown g3 HBB.out.1 HB0.out⟩; have hE3 : w3.cell? ⟨2, 0, none⟩ = some (.iface 193 (.pointer (some EP))) := (S3.out.bel.cell (p := ⟨2, 0, none⟩) (by have h_ := HBB.out.1; have h2_ := HBB.out.2.1; show 2 < B; omega) (by have h2_ := HBB.out.2.1; show 2 ≠ b; omega)).trans HE.out; have hN3 : w3.cell? ⟨4, 0, none⟩ = some (.iface 193 (.pointer (some NP))) := (S3.out.bel.cell (p := ⟨4, 0, none⟩) (by have h_ := HBB.out.1; have h2_ := HBB.out.2.1; show 4 < B; omega) (by have h2_ := HBB.out.2.1; show 4 ≠ b; omega)).trans HN.out; clear r3 g3))
           by_cases hk0 : k = 0
           ·have hi0 := S3.out.ile
            have c1 : ((k : Int) == 0) = true := by rw [beq_iff_eq]; omega
            have c2 : (k : Int) = 0 := by omega
            have c3 : (i : Int) = 0 := by omega
            have c4 : decide (0 < (i : Int)) = false := decide_eq_false (by omega)
            go_wp2
            (try simp only [Exit.inBlock, Exit.then])
            refine bodyPost_ret (ztb rfl _ _ _) rfl ?_
            obtain ⟨l, hl1, hl2, hl3, hl4⟩ := S3.out.nat
            obtain rfl : k = 0 := by omega
            obtain rfl : i = 0 := by omega
            exact ⟨_, _, l, 0, rfl, hl1, by have h_ := S3.out.dlt; simp at h_; rw [h_] at hl2; simpa using hl2, hl3, hk, S3.out.dig, (fun _ => HND.out), fun _ => rfl, (fun h => absurd h (Nat.lt_irrefl _)), ⟨-1, R3.out⟩, S3.out.bel⟩
           ·by_cases hi0 : i = 0
            ·have c1 : ((k : Int) == 0) = false := by rw [beq_eq_false_iff_ne]; omega
             have c2 : ¬ ((k : Int) = 0) := by omega
             have c3 : (i : Int) = 0 := by omega
             have c4 : decide (0 < (i : Int)) = false := decide_eq_false (by omega)
             go_wp2
             (try simp only [Exit.inBlock, Exit.then])
             refine bodyPost_ret (ztb rfl _ _ _) rfl ?_
             obtain ⟨l, hl1, hl2, hl3, hl4⟩ := S3.out.nat
             obtain rfl : i = 0 := by omega
             exact ⟨_, _, l, k, rfl, hl1, by have h_ := S3.out.dlt; simp at h_; rw [h_] at hl2; simpa using hl2, hl3, hk, S3.out.dig, (fun _ => HND.out), (fun h => absurd h (by omega)), fun _ => rfl, ⟨-1, R3.out⟩, S3.out.bel⟩
            ·have c1 : ((k : Int) == 0) = false := by rw [beq_eq_false_iff_ne]; omega
             have c2 : ¬ ((k : Int) = 0) := by omega
             have c4 : decide (0 < (i : Int)) = true := decide_eq_true (by omega)
             have c5 := S3.out.i19
             go_wp2_with (first | (go_at_call 113; refine (pow_ i (by omega) (by omega) _).mono ?_; rintro e' w4 ⟨rfl, hw4⟩; have hw4 := hw4.symm; subst hw4) | (go_at_call 112; obtain ⟨l, hl1, hl2, hl3, hl4⟩ := S3.out.nat; refine (zte w3 B u0 l (10 ^ i) d hl1 (Nat.le_trans HB0.out S3.out.bel.size) (zvf S3.out.i19) (pow_ne i) (zug S3.out.word) (Nat.le_trans hl4 (Nat.le_trans hk HBB.out.2.2.1))).mono ?_; rintro e' w5 ⟨v5, l5, rfl, m1, m2, m3, m4, m5⟩; have M := za.mk (And.intro m1 (And.intro (m2.trans hl2) (And.intro m3 m5))); clear m1 m2 m3 m4 m5 hl1 hl2 hl3 hl4))
             (try simp only [Exit.inBlock, Exit.then])
             refine bodyPost_ret (ztb rfl _ _ _) rfl ?_
             obtain ⟨m1, m2, m3, m5⟩ := M.out
             exact ⟨_, _, l5, k, rfl, m1, m2, m3, hk, S3.out.dig, (fun _ => HND.out), (fun h => absurd h (by omega)), fun _ => rfl, ⟨-1, R3.out.same (m5.block b HBB.out.1)⟩, S3.out.bel.below m5⟩
          ·have hn2 := hcc
           clear hcc
           have f1 : (c == 46) = false := by rw [beq_eq_false_iff_ne]; omega
           have f2 : (c == 95) = false := by rw [beq_eq_false_iff_ne]; omega
           have f3 : decide (48 ≤ c) = true := decide_eq_true (by omega)
           have f4 : decide (c ≤ 57) = false := decide_eq_false (by omega)
           have f5 : decide (97 ≤ c) = true := decide_eq_true (by omega)
           have f6 : decide (c ≤ 122) = false := decide_eq_false (by omega)
           have f7 : decide (65 ≤ c) = true := decide_eq_true (by omega)
           have f8 : decide (c ≤ 90) = false := decide_eq_false (by omega)

           clear hnd hr0
           go_upto_region 80 with (first | (go_at_call 150; refine HUN.out.mono ?_; rintro e' w3 ⟨rfl, r3, g3⟩; have R3 := za.mk r3; have S3 : za (Sc B b w w3 s u0 k d i) := ⟨hsc.out.grown g3 HBB.out.1 HB0.out⟩; have hE3 : w3.cell? ⟨2, 0, none⟩ = some (.iface 193 (.pointer (some EP))) := (S3.out.bel.cell (p := ⟨2, 0, none⟩) (by have h_ := HBB.out.1; have h2_ := HBB.out.2.1; show 2 < B; omega) (by have h2_ := HBB.out.2.1; show 2 ≠ b; omega)).trans HE.out; have hN3 : w3.cell? ⟨4, 0, none⟩ = some (.iface 193 (.pointer (some NP))) := (S3.out.bel.cell (p := ⟨4, 0, none⟩) (by have h_ := HBB.out.1; have h2_ := HBB.out.2.1; show 4 < B; omega) (by have h2_ := HBB.out.2.1; show 4 ≠ b; omega)).trans HN.out; clear r3 g3))
           by_cases hk0 : k = 0
           ·have hi0 := S3.out.ile
            have c1 : ((k : Int) == 0) = true := by rw [beq_iff_eq]; omega
            have c2 : (k : Int) = 0 := by omega
            have c3 : (i : Int) = 0 := by omega
            have c4 : decide (0 < (i : Int)) = false := decide_eq_false (by omega)
            go_wp2
            (try simp only [Exit.inBlock, Exit.then])
            refine bodyPost_ret (ztb rfl _ _ _) rfl ?_
            obtain ⟨l, hl1, hl2, hl3, hl4⟩ := S3.out.nat
            obtain rfl : k = 0 := by omega
            obtain rfl : i = 0 := by omega
            exact ⟨_, _, l, 0, rfl, hl1, by have h_ := S3.out.dlt; simp at h_; rw [h_] at hl2; simpa using hl2, hl3, hk, S3.out.dig, (fun _ => HND.out), fun _ => rfl, (fun h => absurd h (Nat.lt_irrefl _)), ⟨-1, R3.out⟩, S3.out.bel⟩
           ·by_cases hi0 : i = 0
            ·have c1 : ((k : Int) == 0) = false := by rw [beq_eq_false_iff_ne]; omega
             have c2 : ¬ ((k : Int) = 0) := by omega
             have c3 : (i : Int) = 0 := by omega
             have c4 : decide (0 < (i : Int)) = false := decide_eq_false (by omega)
             go_wp2
             (try simp only [Exit.inBlock, Exit.then])
             refine bodyPost_ret (ztb rfl _ _ _) rfl ?_
             obtain ⟨l, hl1, hl2, hl3, hl4⟩ := S3.out.nat
             obtain rfl : i = 0 := by omega
             exact ⟨_, _, l, k, rfl, hl1, by have h_ := S3.out.dlt; simp at h_; rw [h_] at hl2; simpa using hl2, hl3, hk, S3.out.dig, (fun _ => HND.out), (fun h => absurd h (by omega)), fun _ => rfl, ⟨-1, R3.out⟩, S3.out.bel⟩
            ·have c1 : ((k : Int) == 0) = false := by rw [beq_eq_false_iff_ne]; omega
             have c2 : ¬ ((k : Int) = 0) := by omega
             have c4 : decide (0 < (i : Int)) = true := decide_eq_true (by omega)
             have c5 := S3.out.i19
             go_wp2_with (first | (go_at_call 113; refine (pow_ i (by omega) (by omega) _).mono ?_; rintro e' w4 ⟨rfl, hw4⟩; have hw4 := hw4.symm; subst hw4) | (go_at_call 112; obtain ⟨l, hl1, hl2, hl3, hl4⟩ := S3.out.nat; refine (zte w3 B u0 l (10 ^ i) d hl1 (Nat.le_trans HB0.out S3.out.bel.size) (zvf S3.out.i19) (pow_ne i) (zug S3.out.word) (Nat.le_trans hl4 (Nat.le_trans hk HBB.out.2.2.1))).mono ?_; rintro e' w5 ⟨v5, l5, rfl, m1, m2, m3, m4, m5⟩; have M := za.mk (And.intro m1 (And.intro (m2.trans hl2) (And.intro m3 m5))); clear m1 m2 m3 m4 m5 hl1 hl2 hl3 hl4))
             (try simp only [Exit.inBlock, Exit.then])
             refine bodyPost_ret (ztb rfl _ _ _) rfl ?_
             obtain ⟨m1, m2, m3, m5⟩ := M.out
             exact ⟨_, _, l5, k, rfl, m1, m2, m3, hk, S3.out.dig, (fun _ => HND.out), (fun h => absurd h (by omega)), fun _ => rfl, ⟨-1, R3.out.same (m5.block b HBB.out.1)⟩, S3.out.bel.below m5⟩
  ·subst he
   subst hch
   have HR : za (Rd wr b s k (-1)) := ⟨by rw [hks]; exact hr⟩
   have hE3 : wr.cell? ⟨2, 0, none⟩ = some (.iface 193 (.pointer (some EP))) := (hsc.out.bel.cell (p := ⟨2, 0, none⟩) (by have h_ := HBB.out.1; have h2_ := HBB.out.2.1; show 2 < B; omega) (by have h2_ := HBB.out.2.1; show 2 ≠ b; omega)).trans HE.out
   have hN3 : wr.cell? ⟨4, 0, none⟩ = some (.iface 193 (.pointer (some NP))) := (hsc.out.bel.cell (p := ⟨4, 0, none⟩) (by have h_ := HBB.out.1; have h2_ := HBB.out.2.1; show 4 < B; omega) (by have h2_ := HBB.out.2.1; show 4 ≠ b; omega)).trans HN.out
   have HKS := za.mk hks
   simp only [ErrV]
   clear hr hhd hks
   go_upto_region 80 with (fail)
   by_cases hk0 : k = 0
   ·have hi0 := hsc.out.ile
    have c1 : ((k : Int) == 0) = true := by rw [beq_iff_eq]; omega
    have c2 : (k : Int) = 0 := by omega
    have c3 : (i : Int) = 0 := by omega
    have c4 : decide (0 < (i : Int)) = false := decide_eq_false (by omega)
    go_wp2
    (try simp only [Exit.inBlock, Exit.then])
    refine bodyPost_ret (ztb rfl _ _ _) rfl ?_
    obtain ⟨l, hl1, hl2, hl3, hl4⟩ := hsc.out.nat
    obtain rfl : k = 0 := by omega
    obtain rfl : i = 0 := by omega
    exact ⟨_, _, l, 0, rfl, hl1, by have h_ := hsc.out.dlt; simp at h_; rw [h_] at hl2; simpa using hl2, hl3, hk, hsc.out.dig, (fun h => absurd h (by rw [HKS.out]; exact Nat.lt_irrefl _)), fun _ => rfl, (fun h => absurd h (Nat.lt_irrefl _)), ⟨-1, HR.out⟩, hsc.out.bel⟩
   ·by_cases hi0 : i = 0
    ·have c1 : ((k : Int) == 0) = false := by rw [beq_eq_false_iff_ne]; omega
     have c2 : ¬ ((k : Int) = 0) := by omega
     have c3 : (i : Int) = 0 := by omega
     have c4 : decide (0 < (i : Int)) = false := decide_eq_false (by omega)
     go_wp2
     (try simp only [Exit.inBlock, Exit.then])
     refine bodyPost_ret (ztb rfl _ _ _) rfl ?_
     obtain ⟨l, hl1, hl2, hl3, hl4⟩ := hsc.out.nat
     obtain rfl : i = 0 := by omega
     exact ⟨_, _, l, k, rfl, hl1, by have h_ := hsc.out.dlt; simp at h_; rw [h_] at hl2; simpa using hl2, hl3, hk, hsc.out.dig, (fun h => absurd h (by rw [HKS.out]; exact Nat.lt_irrefl _)), (fun h => absurd h (by omega)), fun _ => rfl, ⟨-1, HR.out⟩, hsc.out.bel⟩
    ·have c1 : ((k : Int) == 0) = false := by rw [beq_eq_false_iff_ne]; omega
     have c2 : ¬ ((k : Int) = 0) := by omega
     have c4 : decide (0 < (i : Int)) = true := decide_eq_true (by omega)
     have c5 := hsc.out.i19
     go_wp2_with (first | (go_at_call 113; refine (pow_ i (by omega) (by omega) _).mono ?_; rintro e' w4 ⟨rfl, hw4⟩; have hw4 := hw4.symm; subst hw4) | (go_at_call 112; obtain ⟨l, hl1, hl2, hl3, hl4⟩ := hsc.out.nat; refine (zte wr B u0 l (10 ^ i) d hl1 (Nat.le_trans HB0.out hsc.out.bel.size) (zvf hsc.out.i19) (pow_ne i) (zug hsc.out.word) (Nat.le_trans hl4 (Nat.le_trans hk HBB.out.2.2.1))).mono ?_; rintro e' w5 ⟨v5, l5, rfl, m1, m2, m3, m4, m5⟩; have M := za.mk (And.intro m1 (And.intro (m2.trans hl2) (And.intro m3 m5))); clear m1 m2 m3 m4 m5 hl1 hl2 hl3 hl4))
     (try simp only [Exit.inBlock, Exit.then])
     refine bodyPost_ret (ztb rfl _ _ _) rfl ?_
     obtain ⟨m1, m2, m3, m5⟩ := M.out
     exact ⟨_, _, l5, k, rfl, m1, m2, m3, hk, hsc.out.dig, (fun h => absurd h (by rw [HKS.out]; exact Nat.lt_irrefl _)), (fun h => absurd h (by omega)), fun _ => rfl, ⟨-1, HR.out.same (m5.block b HBB.out.1)⟩, hsc.out.bel.below m5⟩
end Go.Proofs.YtapaijpglfmfgaaGreatDoorG
end
section
namespace Go.Proofs.YtapaijpglfmfgaaGreatDoorG
open Go.RowKit YtapaijpglfmfgaaGreatDoorW.PrintWords YtapaijpglfmfgaaGreatDoorW.PrintLast
def Bg (w : World) (a : Nat) (ng : Bool) (v : Value) : Prop := w.heap[a]? = some (.cells #[.bool ng, v] 100 (0, 0))
theorem Bg.c0 {w : World} {a : Nat} {ng : Bool} {v : Value} (h : Bg w a ng v) : w.cell? ⟨a, 0, none⟩ = some (.bool ng) := by unfold Bg at h; simp [World.cell?, h]
theorem Bg.c1 {w : World} {a : Nat} {ng : Bool} {v : Value} (h : Bg w a ng v) : w.cell? ⟨a, 1, none⟩ = some v := by unfold Bg at h; simp [World.cell?, h]
theorem Bg.free {w : World} {a : Nat} {ng : Bool} {v : Value} (h : Bg w a ng v) (j : Nat) : w.frozen? ⟨a, j, none⟩ = false := by unfold Bg at h; simp [World.frozen?, h]
theorem Bg.set1 {w : World} {a : Nat} {ng : Bool} {v : Value} (h : Bg w a ng v) (u : Value) : Bg (w.setCell ⟨a, 1, none⟩ u) a ng u := by
 unfold Bg at h ⊢
 simp [World.setCell, Array.getElem?_modify, h]
theorem Bg.set0 {w : World} {a : Nat} {ng : Bool} {v : Value} (h : Bg w a ng v) (u : Bool) : Bg (w.setCell ⟨a, 0, none⟩ (.bool u)) a u v := by
 unfold Bg at h ⊢
 simp [World.setCell, Array.getElem?_modify, h]
theorem Bg.same {w w' : World} {a : Nat} {ng : Bool} {v : Value} (h : Bg w a ng v) (hb : w'.heap[a]? = w.heap[a]?) : Bg w' a ng v := by unfold Bg at h ⊢; rw [hb]; exact h
theorem Bg.lt {w : World} {a : Nat} {ng : Bool} {v : Value} (h : Bg w a ng v) : a < w.heap.size := (Array.getElem?_eq_some_iff.1 h).1
theorem zqe {w : World} {g i k : Nat} {v : Value} (h : k ≠ g) : (w.setCell ⟨g, i, none⟩ v).heap[k]? = w.heap[k]? := by
 have : g ≠ k := fun e => h e.symm
 simp [World.setCell, Array.getElem?_modify, this]
theorem NatS.other {w w' : World} {B : Nat} {v : Value} {l : List Nat} (h : NatS w B v l) (hk : ∀ k, B ≤ k → k < w.heap.size → w'.heap[k]? = w.heap[k]?) : NatS w' B v l := by
 rcases h with h | ⟨g, full, h1, h2, h3, h4⟩
 ·exact .inl h
 ·exact .inr ⟨g, full, h1, h2, h3.same (hk g h2 h3.lt), h4⟩
theorem NatS.shape {w : World} {B : Nat} {v : Value} {l : List Nat} (h : NatS w B v l) : ∃ p c, v = .slice p l.length c := by
 rcases h with ⟨rfl, rfl⟩ | ⟨g, full, rfl, _⟩
 ·exact ⟨none, 0, rfl⟩
 ·exact ⟨_, _, rfl⟩
theorem Bel.toBelow {B b B0 : Nat} {w w' : World} (h : Bel B b w w') (h1 : B0 ≤ B) (h2 : B0 ≤ b) : Below B0 w w' := ⟨h.os, h.tape, h.output, h.size, fun k hk => h.block k (by omega) (by omega)⟩
structure Scanned (B0 H a b : Nat) (s : ByteArray) (w w' : World) (r : Nat) : Prop where
 big : ∃ v l, Bg w' a false v ∧ NatS w' H v l ∧ num l = dv s r ∧ l = trimW l
 le : r ≤ s.size
 dig : ∀ j : Nat, j < r → Dig (bt s j)
 fin : r < s.size → ¬ Dig (bt s r)
 rd : ∃ q, Rd w' b s r q
 below : Below B0 w w'
theorem intScan_ (w : World) (B0 a b : Nat) (s : ByteArray) (p : Int) (EP NP : Addr) (hz : Bg w a false (.slice none 0 0)) (h : Rd w b s 0 p) (h0 : 0 < s.size) (hs : s.size ≤ 1000000) (h1 : bt s 0 ≠ 45) (h2 : bt s 0 ≠ 43) (hab : a ≠ b) (hBa : B0 ≤ a) (hBb : B0 ≤ b)
  (hE : w.cell? ⟨2, 0, none⟩ = some (ErrV EP)) (hN : w.cell? ⟨4, 0, none⟩ = some (ErrV NP)) (hbg : 4 < b) (hag : 4 < a) :
  Calls Tryz.prog 102 #[.pointer (some ⟨a, 0, none⟩), .iface 144 (.pointer (some ⟨b, 0, none⟩)), .int .i64 10] w fun e w' => ∃ r, Scanned B0 w.heap.size a b s w w' r ∧
   (r = 0 → e = .returned (.tuple #[.pointer none, .int .i64 10, ErrV NP])) ∧ (0 < r → e = .returned (.tuple #[.pointer (some ⟨a, 0, none⟩), .int .i64 10, .nilIface])) := by
 have HS := za.mk (scanSign_ w b s p h h0 (by omega) h1 h2)
 have hb := h.lt
 have ha := hz.lt
 have HNAT := za.mk (fun w1 (r1 : Rd w1 b s 0 (-1)) (g1 : w.grownBy w1 (some b)) => natScan_ w1 w.heap.size b s (-1) EP NP r1 h0 hs hb g1.size
  ((World.cell?_of_block (g1.block 2 (by omega) (fun e => by have := Option.some.inj e; omega))).trans hE) ((World.cell?_of_block (g1.block 4 (by omega) (fun e => by have := Option.some.inj e; omega))).trans hN) hbg)
 have HZ1 := za.mk (fun w1 (g1 : w.grownBy w1 (some b)) => hz.same (w' := w1) (g1.block a ha (fun e => hab (Option.some.inj e))))
 have hc1 : ∀ w1, w.grownBy w1 (some b) → w1.cell? ⟨a, 1, none⟩ = some (.slice none 0 0) := fun w1 g1 => (HZ1.out w1 g1).c1
 have HC1 := za.mk hc1
 have F := za.mk (And.intro hb (And.intro ha (And.intro hab (And.intro hBa hBb))))
 clear h hz h0 hs h1 h2 hE hN hbg hag hb ha hc1 hab hBa hBb
 go_enter Tryz.func102, Tryz.ntmps102
 go_upto_region 5 with (first
  | (go_at_call 107; refine HS.out.mono ?_; rintro e' w1 ⟨rfl, r1, g1⟩; have R1 := za.mk r1; have G1 := za.mk g1; have c1 := HC1.out w1 g1; clear r1 g1)
  | (go_at_call 108; refine (HNAT.out w1 R1.out G1.out).mono ?_; rintro e' w2 ⟨v, er, l, r, rfl, n1, n2, n3, n4, n5, n6, n7, n8, n9, n10⟩; obtain ⟨pv, cv, hv⟩ := n1.shape; subst hv; have O := za.mk (And.intro n1 (And.intro n2 (And.intro n3 (And.intro n4 (And.intro n5 (And.intro n6 (And.intro n7 (And.intro n8 (And.intro n9 n10))))))))); have Z2 : za (Bg w2 a false (.slice none 0 0)) := ⟨(HZ1.out w1 G1.out).same (n10.block a F.out.2.1 F.out.2.2.1)⟩; have d1 := Z2.out.c1; have d2 := Z2.out.free 1; clear n1 n2 n3 n4 n5 n6 n7 n8 n9 n10 c1))
 obtain ⟨n1, n2, n3, n4, n5, n6, n7, n8, n9, n10⟩ := O.out
 obtain ⟨v, hv⟩ : ∃ v, v = Value.slice pv l.length cv := ⟨_, rfl⟩
 rw [← hv] at n1
 have Z3 := Z2.out.set1 v
 have fin : ∀ w', Bg w' a false v → (∀ k, k ≠ a → w'.heap[k]? = w2.heap[k]?) → w'.os = w2.os ∧ w'.tape = w2.tape ∧ w'.output = w2.output ∧ w'.heap.size = w2.heap.size → Scanned B0 w.heap.size a b s w w' r := by
  intro w' hb2 hk hrest
  obtain ⟨f1, f2, f3, f4, f5⟩ := F.out
  obtain ⟨q, hq⟩ := n9
  refine ⟨⟨v, l, hb2, n1.other (fun k hk1 _ => hk k (by omega)), n2, n3⟩, n4, n5, n6, ⟨q, hq.same (hk b (fun e => f3 e.symm))⟩, ?_⟩
  have hbl : Below B0 w w2 := Below.trans ⟨G1.out.os, G1.out.tape, G1.out.output, G1.out.size, fun k hk2 => G1.out.block k (by omega) (fun e => by have := Option.some.inj e; omega)⟩ (n10.toBelow (by omega) f5)
  exact ⟨hrest.1.trans hbl.os, hrest.2.1.trans hbl.tape, hrest.2.2.1.trans hbl.output, by rw [hrest.2.2.2]; exact hbl.size, fun k hk2 => (hk k (by omega)).trans (hbl.block k hk2)⟩
 have FIN := za.mk fin
 subst hv
 have e1 := Z3.c1
 have e0 := Z3.c0
 have f0 := Z3.free 0
 have Z4 := za.mk (Z3.set0 false)
 have ZZ3 := za.mk Z3
 by_cases hr0 : r = 0
 ·have her := n7 hr0
  subst her
  simp only [ErrV]
  have HR := za.mk hr0
  clear fin n1 n2 n3 n4 n5 n6 n7 n8 n9 n10 Z3 hr0
  go_wp2
  go_ret3
  exact ⟨r, FIN.out _ ZZ3.out (fun k hk => zqe hk) ⟨rfl, rfl, rfl, by simp [World.setCell]⟩, fun _ => rfl, fun h => absurd HR.out (Nat.pos_iff_ne_zero.1 h)⟩
 ·have her := n8 (Nat.pos_of_ne_zero hr0)
  subst her
  have HR := za.mk hr0
  clear fin n1 n2 n3 n4 n5 n6 n7 n8 n9 n10 Z3 hr0
  by_cases hl : 0 < l.length
  ·have b1 : decide (0 < (l.length : Int)) = true := decide_eq_true (by omega)
   go_wp2
   go_ret3
   exact ⟨r, FIN.out _ Z4.out (fun k hk => (zqe hk).trans (zqe hk)) ⟨rfl, rfl, rfl, by simp [World.setCell]⟩, fun h => absurd h HR.out, fun _ => rfl⟩
  ·have b1 : decide (0 < (l.length : Int)) = false := decide_eq_false (by omega)
   go_wp2
   go_ret3
   exact ⟨r, FIN.out _ Z4.out (fun k hk => (zqe hk).trans (zqe hk)) ⟨rfl, rfl, rfl, by simp [World.setCell]⟩, fun h => absurd h HR.out, fun _ => rfl⟩
end Go.Proofs.YtapaijpglfmfgaaGreatDoorG
end
section
namespace Go.Proofs.YtapaijpglfmfgaaGreatDoorG
open Go.RowKit YtapaijpglfmfgaaGreatDoorW.PrintWords YtapaijpglfmfgaaGreatDoorW.PrintLast
theorem neq_err (a : Addr) (W : World) : (binOp .neq 73 (.iface 193 (.pointer (some a))) (.iface 193 (.pointer (some a)))).run Tryz.prog W = .ok (.bool false) W := by
 have h := eq_err a W
 simp only [binOp] at h ⊢
 simp only [Op.equal, Op.maxDepth] at h ⊢
 obtain ⟨i, hi, hc⟩ := Option.map_eq_some_iff.1 errInfo
 obtain ⟨j, hj⟩ := Option.isSome_iff_exists.1 errPointee
 simp [run_equalIn_iface_ptr_same (P := Tryz.prog) W 9998 a Tryz.underlying73 Tryz.underlying193 hi hc hj]
theorem neq_nil_err (a : Addr) (W : World) : (binOp .neq 73 .nilIface (.iface 193 (.pointer (some a)))).run Tryz.prog W = .ok (.bool true) W := by
 have h : ∀ d : Nat, (Op.equalIn (d + 1) 73 .nilIface (.iface 193 (.pointer (some a)))).run Tryz.prog W = .ok false W := fun d => by simp [Op.equalIn, run_underlying Tryz.underlying73]
 simp only [binOp]
 simp [Op.equal, Op.maxDepth, h 9999]
theorem digits_ahead (s : ByteArray) : ∃ r, r ≤ s.size ∧ (∀ j : Nat, j < r → Dig (bt s j)) ∧ (r < s.size → ¬ Dig (bt s r)) := by
 have : ∀ n k : Nat, s.size - k = n → k ≤ s.size → (∀ j : Nat, j < k → Dig (bt s j)) → ∃ r, r ≤ s.size ∧ (∀ j : Nat, j < r → Dig (bt s j)) ∧ (r < s.size → ¬ Dig (bt s r)) := by
  intro n
  induction n with
  | zero => intro k h1 h2 h3; exact ⟨k, h2, h3, fun h => by omega⟩
  | succ n ih =>
   intro k h1 h2 h3
   by_cases hd : Dig (bt s k)
   ·refine ih (k + 1) (by omega) (by omega) (fun j hj => ?_)
    by_cases e : j = k
    ·rw [e]; exact hd
    ·exact h3 j (by omega)
   ·exact ⟨k, h2, h3, fun _ => hd⟩
 exact this _ 0 rfl (Nat.zero_le _) (fun j hj => by omega)
theorem digits_one {s : ByteArray} {r q : Nat} (h1 : r ≤ s.size) (h2 : ∀ j : Nat, j < r → Dig (bt s j)) (h3 : r < s.size → ¬ Dig (bt s r)) (k1 : q ≤ s.size) (k2 : ∀ j : Nat, j < q → Dig (bt s j)) (k3 : q < s.size → ¬ Dig (bt s q)) : r = q := by
 rcases Nat.lt_trichotomy r q with h | h | h
 ·exact absurd (k2 r h) (h3 (by omega))
 ·exact h
 ·exact absurd (h2 q h) (k3 (by omega))
def zae (s : ByteArray) : Prop := 0 < s.size ∧ ∀ j : Nat, j < s.size → Dig (bt s j)
structure Set_ (B0 H a : Nat) (s : ByteArray) (w w' : World) (e : Ending) : Prop where
 ok : zae s → e = .returned (.tuple #[.pointer (some ⟨a, 0, none⟩), .bool true]) ∧ ∃ v l, Bg w' a false v ∧ NatS w' H v l ∧ num l = dv s s.size ∧ l = trimW l
 no : ¬ zae s → e = .returned (.tuple #[.pointer none, .bool false])
 below : Below B0 w w'
theorem setFromScanner_ (w : World) (B0 a b : Nat) (s : ByteArray) (p : Int) (EP NP : Addr) (hz : Bg w a false (.slice none 0 0)) (h : Rd w b s 0 p) (h0 : 0 < s.size) (hs : s.size ≤ 1000000) (h1 : bt s 0 ≠ 45) (h2 : bt s 0 ≠ 43) (hab : a ≠ b) (hBa : B0 ≤ a) (hBb : B0 ≤ b)
  (hE : w.cell? ⟨2, 0, none⟩ = some (ErrV EP)) (hN : w.cell? ⟨4, 0, none⟩ = some (ErrV NP)) (hbg : 4 < b) (hag : 4 < a) (hg0 : 4 < B0) :
  Calls Tryz.prog 94 #[.pointer (some ⟨a, 0, none⟩), .iface 144 (.pointer (some ⟨b, 0, none⟩)), .int .i64 10] w (fun e w' => Set_ B0 w.heap.size a s w w' e) := by
 have HI := za.mk (intScan_ w B0 a b s p EP NP hz h h0 hs h1 h2 hab hBa hBb hE hN hbg hag)
 have F := za.mk (And.intro h0 (And.intro hs (And.intro hab (And.intro hBa (And.intro hBb (And.intro hg0 (And.intro hE (And.intro h.lt hbg))))))))
 have i1 := zdg (some ⟨b, 0, none⟩)
 have i3 := zcg
 have q1 := neq_err EP
 have q2 := neq_nil_err EP
 clear hz h h0 hs h1 h2 hab hBa hBb hE hN hbg hag hg0
 go_enter Tryz.func94, Tryz.ntmps94
 obtain ⟨r, hr1, hr2, hr3⟩ := digits_ahead s
 have hscan : Calls Tryz.prog 102 #[.pointer (some ⟨a, 0, none⟩), .iface 144 (.pointer (some ⟨b, 0, none⟩)), .int .i64 10] w (fun e w' => Scanned B0 w.heap.size a b s w w' r ∧ e = .returned (if r = 0 then .tuple #[.pointer none, .int .i64 10, ErrV NP] else .tuple #[.pointer (some ⟨a, 0, none⟩), .int .i64 10, .nilIface])) := by
  refine HI.out.mono ?_
  rintro e w' ⟨q, hsc, hz, hp⟩
  have e1 : q = r := digits_one hsc.le hsc.dig hsc.fin hr1 hr2 hr3
  subst e1
  refine ⟨hsc, ?_⟩
  by_cases h0 : q = 0
  ·rw [if_pos h0]; exact hz h0
  ·rw [if_neg h0]; exact hp (Nat.pos_of_ne_zero h0)
 have hnot : (r = 0 ∨ r < s.size) → ¬ zae s := by
  intro h hall
  rcases h with h | h
  ·subst h
   exact hr3 hall.1 (hall.2 0 hall.1)
  ·exact hr3 h (hall.2 r h)
 have hall : 0 < r → r = s.size → zae s := fun h1 h2 => ⟨by omega, fun j hj => hr2 j (by omega)⟩
 have HNOT := za.mk hnot
 have HALL := za.mk hall
 clear hnot hall
 have HD := za.mk (And.intro hr1 (And.intro hr2 hr3))
 clear hr1 hr2 hr3
 by_cases hr0 : r = 0
 ·rw [if_pos hr0] at hscan
  simp only [ErrV] at hscan
  have HSC := za.mk hscan
  have HR0 := za.mk hr0
  clear hscan hr0
  go_wp2_with (first | (go_at_call 102; refine HSC.out.mono ?_; rintro e' w1 ⟨hsc, rfl⟩; have SC := za.mk hsc; clear hsc))
  go_ret2
  exact ⟨fun h => absurd h (HNOT.out (.inl HR0.out)), fun _ => rfl, SC.out.below⟩
 ·rw [if_neg hr0] at hscan
  have HSC := za.mk hscan
  have HR0 := za.mk hr0
  clear hscan hr0
  have hrd : ∀ w1, Scanned B0 w.heap.size a b s w w1 r → Calls Tryz.prog 149 #[.pointer (some ⟨b, 0, none⟩)] w1 fun e w' => ∃ ch er, e = .returned (.tuple #[ch, er]) ∧ Head w' b s r ch er EP ∧ w1.grownBy w' (some b) := by
   intro w1 hsc
   obtain ⟨f1, f2, f3, f4, f5, f6, f7, f8, f9⟩ := F.out
   obtain ⟨q, hq⟩ := hsc.rd
   exact next_ w1 b r s q EP hq HD.out.1 f2 ((World.cell?_of_block (hsc.below.block 2 (by omega))).trans f7) (by omega)
  have hEw : ∀ w1 w2, Scanned B0 w.heap.size a b s w w1 r → w1.grownBy w2 (some b) → w2.cell? ⟨2, 0, none⟩ = some (.iface 193 (.pointer (some EP))) := by
   intro w1 w2 hsc hg
   obtain ⟨f1, f2, f3, f4, f5, f6, f7, f8, f9⟩ := F.out
   have hsz := hsc.below.size
   exact ((World.cell?_of_block (hg.block 2 (by omega) (fun e => by have := Option.some.inj e; omega))).trans (World.cell?_of_block (hsc.below.block 2 (by omega)))).trans f7
  have HRD := za.mk hrd
  have HEW := za.mk hEw
  have hset : ∀ w1 w2, Scanned B0 w.heap.size a b s w w1 r → w1.grownBy w2 (some b) → (∃ v l, Bg w2 a false v ∧ NatS w2 w.heap.size v l ∧ num l = dv s r ∧ l = trimW l) ∧ Below B0 w w2 := by
   intro w1 w2 hsc hg
   obtain ⟨f1, f2, f3, f4, f5, f6, f7, f8, f9⟩ := F.out
   obtain ⟨v, l, g1, g2, g3, g4⟩ := hsc.big
   have hsz := hsc.below.size
   exact ⟨⟨v, l, g1.same (hg.block a g1.lt (fun e => f3 (Option.some.inj e))), g2.grown hg f8, g3, g4⟩, hsc.below.grown hg (by have := g1.lt; omega) (fun k hk => by cases hk; exact f5)⟩
  have HSET := za.mk hset
  clear hrd hEw hset
  go_upto_region 5 with (first
   | (go_at_call 102; refine HSC.out.mono ?_; rintro e' w1 ⟨hsc, rfl⟩; have SC := za.mk hsc; clear hsc)
   | (go_at_call 149; refine (HRD.out w1 SC.out).mono ?_; rintro e' w2 ⟨ch, er, rfl, hh, hg⟩; have HH := za.mk hh; have HG := za.mk hg; have e1 := HEW.out w1 w2 SC.out hg; clear hh hg))
  obtain ⟨⟨v, l, g1, g2, g3, g4⟩, hbel⟩ := HSET.out w1 w2 SC.out HG.out
  have G := za.mk (And.intro g1 (And.intro g2 (And.intro g3 (And.intro g4 hbel))))
  clear g1 g2 g3 g4 hbel
  rcases HH.out with ⟨hlt, he, hch, hr⟩ | ⟨hlt, he, hch, hr⟩
  ·subst he
   subst hch
   have HLT := za.mk hlt
   clear hlt hr HH
   go_wp2
   go_ret2
   exact ⟨fun h => absurd h (HNOT.out (.inr HLT.out)), fun _ => rfl, G.out.2.2.2.2⟩
  ·subst he
   subst hch
   simp only [ErrV]
   have HLT := za.mk hlt
   clear hlt hr HH
   go_wp2
   go_ret2
   refine ⟨fun _ => ⟨rfl, v, l, G.out.1, G.out.2.1, ?_, G.out.2.2.2.1⟩, fun h => absurd (HALL.out (Nat.pos_of_ne_zero HR0.out) HLT.out) h, G.out.2.2.2.2⟩
   rw [← HLT.out]
   exact G.out.2.2.1
end Go.Proofs.YtapaijpglfmfgaaGreatDoorG
end
section
namespace Go.Proofs.YtapaijpglfmfgaaGreatDoorG
open Go.RowKit YtapaijpglfmfgaaGreatDoorW.PrintWords YtapaijpglfmfgaaGreatDoorW.PrintLast
theorem zaj (w : World) (o : Obj) : (w.alloc o).heap = w.heap.push o := rfl
theorem alloc_at (w : World) (o : Obj) : (w.alloc o).heap[w.heap.size]? = some o := by rw [zaj]; simp
theorem alloc_old (w : World) (o : Obj) {k : Nat} (h : k < w.heap.size) : (w.alloc o).heap[k]? = w.heap[k]? := by rw [zaj, Array.getElem?_push, if_neg (by omega)]
theorem zsb (w : World) (o : Obj) : (w.alloc o).heap.size = w.heap.size + 1 := by rw [zaj, Array.size_push]
theorem setString_ (w : World) (B0 a : Nat) (s : ByteArray) (EP NP : Addr) (hz : Bg w a false (.slice none 0 0)) (h0 : 0 < s.size) (hs : s.size ≤ 1000000) (h1 : bt s 0 ≠ 45) (h2 : bt s 0 ≠ 43) (hBa : B0 ≤ a)
  (hE : w.cell? ⟨2, 0, none⟩ = some (ErrV EP)) (hN : w.cell? ⟨4, 0, none⟩ = some (ErrV NP)) (hg0 : 4 < B0) :
  Calls Tryz.prog 81 #[.pointer (some ⟨a, 0, none⟩), .string s, .int .i64 10] w (fun e w' => Set_ B0 (w.heap.size + 1) a s w w' e) := by
 have ha := hz.lt
 obtain ⟨w1, hw1⟩ : ∃ w1, w1 = w.alloc (.cells #[.string s, .int .i64 0, .int .i64 (-1)] 158) := ⟨_, rfl⟩
 have hsz : w1.heap.size = w.heap.size + 1 := by rw [hw1]; exact zsb _ _
 have hold : ∀ k, k < w.heap.size → w1.heap[k]? = w.heap[k]? := fun k hk => by rw [hw1]; exact alloc_old _ _ hk
 have hrd : Rd w1 w.heap.size s 0 (-1) := by unfold Rd; rw [hw1]; exact alloc_at _ _
 have hcon := setFromScanner_ w1 B0 a w.heap.size s (-1) EP NP (hz.same (hold a ha)) hrd h0 hs h1 h2 (by omega) hBa (by omega) ((World.cell?_of_block (hold _ (by show 2 < _; omega))).trans hE) ((World.cell?_of_block (hold _ (by show 4 < _; omega))).trans hN) (by omega) (by omega) hg0
 have HB : za (Below B0 w w1) := ⟨by rw [hw1]; exact zye _ (by omega)⟩
 rw [hsz] at hcon
 have HNEW := za.mk (newReader_ w s)
 have HW1 := za.mk hw1
 by_cases hall : zae s
 ·have HCON := za.mk (hcon.mono (R' := fun e w' => e = .returned (.tuple #[.pointer (some ⟨a, 0, none⟩), .bool true]) ∧ Set_ B0 (w.heap.size + 1) a s w1 w' e) (fun e w' h => ⟨(h.ok hall).1, h⟩))
  clear hz h0 hs h1 h2 hBa hE hN hg0 ha hsz hold hrd hcon hw1
  go_enter Tryz.func81, Tryz.ntmps81
  go_wp2_with (first
   | (go_at_call 95; refine HNEW.out.mono ?_; rintro e' w2 ⟨rfl, hw2⟩; have hw3 := hw2.trans HW1.out.symm; clear hw2; subst hw3)
   | (go_at_call 94; refine HCON.out.mono ?_; rintro e' w3 ⟨rfl, hst⟩; have ST := za.mk hst; clear hst))
  go_ret2
  exact ⟨fun h => ⟨rfl, (ST.out.ok h).2⟩, fun h => absurd hall h, HB.out.trans ST.out.below⟩
 ·have HCON := za.mk (hcon.mono (R' := fun e w' => e = .returned (.tuple #[.pointer none, .bool false]) ∧ Set_ B0 (w.heap.size + 1) a s w1 w' e) (fun e w' h => ⟨h.no hall, h⟩))
  clear hz h0 hs h1 h2 hBa hE hN hg0 ha hsz hold hrd hcon hw1
  go_enter Tryz.func81, Tryz.ntmps81
  go_wp2_with (first
   | (go_at_call 95; refine HNEW.out.mono ?_; rintro e' w2 ⟨rfl, hw2⟩; have hw3 := hw2.trans HW1.out.symm; clear hw2; subst hw3)
   | (go_at_call 94; refine HCON.out.mono ?_; rintro e' w3 ⟨rfl, hst⟩; have ST := za.mk hst; clear hst))
  go_ret2
  exact ⟨fun h => absurd h hall, fun _ => rfl, HB.out.trans ST.out.below⟩
structure Conv (s : ByteArray) (EV : Addr) (w w' : World) (e : Ending) : Prop where
 ok : zae s → ∃ v l, e = .returned (.tuple #[.pointer (some ⟨w.heap.size, 0, none⟩), .nilIface]) ∧ Bg w' w.heap.size false v ∧ NatS w' w.heap.size v l ∧ num l = dv s s.size ∧ l = trimW l
 no : ¬ zae s → e = .returned (.tuple #[.pointer none, ErrV EV])
 below : Below w.heap.size w w'
theorem NatS.lower {w : World} {B B' : Nat} {v : Value} {l : List Nat} (h : NatS w B v l) (hB : B' ≤ B) : NatS w B' v l := by
 rcases h with h | ⟨g, full, h1, h2, h3⟩
 ·exact .inl h
 ·exact .inr ⟨g, full, h1, by omega, h3⟩
theorem convert_ (w : World) (s : ByteArray) (EV EP NP : Addr) (h0 : 0 < s.size) (hs : s.size ≤ 1000000) (h1 : bt s 0 ≠ 45) (h2 : bt s 0 ≠ 43)
  (hV : w.cell? ⟨0, 0, none⟩ = some (ErrV EV)) (hE : w.cell? ⟨2, 0, none⟩ = some (ErrV EP)) (hN : w.cell? ⟨4, 0, none⟩ = some (ErrV NP)) (hg0 : 4 < w.heap.size) :
  Calls Tryz.prog 62 #[.string s] w (fun e w' => Conv s EV w w' e) := by
 obtain ⟨w1, hw1⟩ : ∃ w1, w1 = w.alloc (.cells #[.bool false, .slice none 0 0] 100) := ⟨_, rfl⟩
 have hsz : w1.heap.size = w.heap.size + 1 := by rw [hw1]; exact zsb _ _
 have hold : ∀ k, k < w.heap.size → w1.heap[k]? = w.heap[k]? := fun k hk => by rw [hw1]; exact alloc_old _ _ hk
 have hz : Bg w1 w.heap.size false (.slice none 0 0) := by unfold Bg; rw [hw1]; exact alloc_at _ _
 have hcon := setString_ w1 w.heap.size w.heap.size s EP NP hz h0 hs h1 h2 (Nat.le_refl _) ((World.cell?_of_block (hold _ (by show 2 < _; omega))).trans hE) ((World.cell?_of_block (hold _ (by show 4 < _; omega))).trans hN) (by omega)
 have hbel : Below w.heap.size w w1 := by rw [hw1]; exact zye _ (Nat.le_refl _)
 have HB := za.mk hbel
 have HV := za.mk (fun w2 (h : Below w.heap.size w1 w2) => ((World.cell?_of_block (h.block 0 (by omega))).trans (World.cell?_of_block (hold _ (by show 0 < _; omega)))).trans hV)
 rw [hw1] at hcon HB HV
 by_cases hall : zae s
 ·have HCON := za.mk (hcon.mono (R' := fun e w' => e = .returned (.tuple #[.pointer (some ⟨w.heap.size, 0, none⟩), .bool true]) ∧ Set_ w.heap.size (w1.heap.size + 1) w.heap.size s w1 w' e) (fun e w' h => by rw [← hw1] at h; exact ⟨(h.ok hall).1, h⟩))
  rw [hw1] at HCON
  clear hz h0 hs h1 h2 hE hN hg0 hsz hold hcon hbel hw1 hV
  go_enter Tryz.func62, Tryz.ntmps62
  go_wp2_with (first
   | (go_at_call 81; refine HCON.out.mono ?_; rintro e' w3 ⟨rfl, hst⟩; have ST := za.mk hst; clear hst))
  go_ret2
  obtain ⟨_, v, l, q1, q2, q3, q4⟩ := ST.out.ok hall
  exact ⟨fun _ => ⟨v, l, rfl, q1, q2.lower (by rw [zsb]; omega), q3, q4⟩, fun h => absurd hall h, HB.out.trans ST.out.below⟩
 ·have HCON := za.mk (hcon.mono (R' := fun e w' => e = .returned (.tuple #[.pointer none, .bool false]) ∧ Below w.heap.size w1 w' ) (fun e w' h => by rw [← hw1] at h; exact ⟨h.no hall, h.below⟩))
  rw [hw1] at HCON
  clear hz h0 hs h1 h2 hE hN hg0 hsz hold hcon hbel hw1 hV
  simp only [ErrV] at HV
  go_enter Tryz.func62, Tryz.ntmps62
  go_wp2_with (first
   | (go_at_call 81; refine HCON.out.mono ?_; rintro e' w3 ⟨rfl, hst⟩; have ST := za.mk hst; have cv := HV.out w3 hst; clear hst))
  go_quiet (fail)
  go_wp2
  go_ret2
  exact ⟨fun h => absurd h hall, fun _ => rfl, by first | exact HB.out.trans ST.out | (apply zd; exact HB.out.trans ST.out)⟩
end Go.Proofs.YtapaijpglfmfgaaGreatDoorG
end
