/- Contracts of math/big's words and natural numbers as far as a text of digits is read, and of strings.Reader; each as its theorem says. -/
import Derived.Test.YtdjkekgfeadmoaaGreatDoorWWords
import Derived.Test.YtdjkekgfeadmoaaGreatDoorWLast
import Derived.Test.YtdjkekgfeadmoaaGreatDoorProg
import Derived.WalkKit
import Derived.Deep.LoopGhost
import Derived.Laws.Externs
import Derived.Shelf.Bits.Mul64
import Derived.BigQuiet
import Derived.LaidEql

namespace Go.Proofs
open Go.Shelf
def Tryz.lays212_ren : Go.Shelf.Ren := ⟨fun | 212 => 98 | 263 => 100 | 264 => 101 | n => n, fun | 46 => 70 | 51 => 130 | 146 => 142 | 53 => 90 | 148 => 144 | n => n, fun | n => n⟩
theorem Tryz.lays212 : Go.Proofs.Lays.n212 Tryz.prog Tryz.lays212_ren := {
 mixed := by kernel_rfl
 f212 := Tryz.func98.trans (congrArg some (by kernel_rfl))
 f263 := Tryz.func100.trans (congrArg some (by kernel_rfl))
 f264 := Tryz.func101.trans (congrArg some (by kernel_rfl))
 t46 := Tryz.underlying70
 a46 := Tryz.isAgg70
 z46 := Tryz.sizeOf70
 v46 := Tryz.zeroValue70
 t51 := Tryz.underlying130
 a51 := Tryz.isAgg130
 z51 := Tryz.sizeOf130
 v51 := Tryz.zeroValue130
 t53 := Tryz.underlying90
 a53 := Tryz.isAgg90
 z53 := Tryz.sizeOf90
 v53 := Tryz.zeroValue90
 t146 := Tryz.underlying142
 a146 := Tryz.isAgg142
 z146 := Tryz.sizeOf142
 v146 := Tryz.zeroValue142
 t148 := Tryz.underlying144
 a148 := Tryz.isAgg144
 z148 := Tryz.sizeOf144
 v148 := Tryz.zeroValue144 }
open Go.RowKit Go.Lib in
/-- math/bits.Mul: "Mul returns the full-width product of x and y": on a machine of 64 bits: Mul64's. (LAID: no walk: one application.) -/
theorem Tryz.bits_Mul (x y : Nat) (hx : x < 18446744073709551616) (hy : y < 18446744073709551616) (w : World) :
  Calls Tryz.prog 98 #[.int .u64 x, .int .u64 y] w fun e w' => e = .returned (.tuple #[.int .u64 ((x * y / 18446744073709551616 : Nat) : Int), .int .u64 ((x * y % 18446744073709551616 : Nat) : Int)]) ∧ w' = w := Any.bits_Mul Tryz.lays212 x y hx hy w
end Go.Proofs
namespace Go.Proofs.YtdjkekgfeadmoaaGreatDoorG
open Go.RowKit Go.Proofs.YtdjkekgfeadmoaaGreatDoorW.PrintWords Go.Proofs.YtdjkekgfeadmoaaGreatDoorW.PrintLast
set_option linter.unusedVariables false
set_option linter.unusedSimpArgs false

/-! ### Words: numbers below 2^64 (the base behind a name, so that no walk meets the numeral) -/
def W64 : Nat := 18446744073709551616
def loW (n : Nat) : Nat := n % W64
def hiW (n : Nat) : Nat := n / W64
def IsW (n : Nat) : Prop := n < W64
theorem hiW_loW (n : Nat) : hiW n * W64 + loW n = n := by unfold hiW loW W64; omega
theorem loW_lt (n : Nat) : loW n < W64 := by unfold loW W64; omega

theorem wrap_W {n : Nat} (h : n < W64) : IntKind.u64.wrap (n : Int) = n := by
 unfold W64 at h
 simp [IntKind.wrap, IntKind.signed, IntKind.bits]
 omega
theorem bits_Mul_ (x y : Nat) (hx : IsW x) (hy : IsW y) (w : World) :
  Calls Tryz.prog 98 #[.int .u64 x, .int .u64 y] w fun e w' => e = .returned (.tuple #[.int .u64 (hiW (x * y) : Nat), .int .u64 (loW (x * y) : Nat)]) ∧ w' = w := Tryz.bits_Mul x y hx hy w
theorem add64_call (x y : Nat) (w : World) :
  (callFunc 103 #[.int .u64 x, .int .u64 y, .int .u64 0]).run Tryz.prog w = .ok (.value (.tuple #[.int .u64 (loW (x + y) : Nat), .int .u64 (hiW (x + y) : Nat)])) w := by
 rw [run_callFunc_extern Tryz.func103 (by kernel_rfl) (by kernel_rfl) (by kernel_rfl) (e := add64Entry) (by kernel_rfl)]
 have h := run_add64 (P := Tryz.prog) x y 0 (by omega) (by omega) (by omega) (by omega) w
 rw [h]
 simp only [Result.andThen, loW, hiW, W64]
 congr 5 <;> omega
theorem bits_Add_ (x y : Nat) (w : World) :
  Calls Tryz.prog 99 #[.int .u64 x, .int .u64 y, .int .u64 0] w fun e w' => e = .returned (.tuple #[.int .u64 (loW (x + y) : Nat), .int .u64 (hiW (x + y) : Nat)]) ∧ w' = w := by
 have h := fun W => add64_call x y W
 go_enter Tryz.func99, Tryz.ntmps99
 go_wp2
 go_ret2
 exact ⟨rfl, rfl⟩
theorem mulAddWWW_ (x y c : Nat) (hx : IsW x) (hy : IsW y) (hc : IsW c) (w : World) :
  Calls Tryz.prog 95 #[.int .u64 x, .int .u64 y, .int .u64 c] w fun e w' => e = .returned (.tuple #[.int .u64 (hiW (x * y + c) : Nat), .int .u64 (loW (x * y + c) : Nat)]) ∧ w' = w := by
 have HX := Aside0.mk hx
 have HY := Aside0.mk hy
 have key : IntKind.u64.wrap ((hiW (x * y) : Int) + (hiW (loW (x * y) + c) : Int)) = (hiW (x * y + c) : Int) ∧ loW (loW (x * y) + c) = loW (x * y + c) := by
  have h1 : x * y ≤ (W64 - 1) * (W64 - 1) := Nat.mul_le_mul (by unfold IsW at hx; omega) (by unfold IsW at hy; omega)
  unfold IsW at hc
  have e : hiW (x * y) + hiW (loW (x * y) + c) = hiW (x * y + c) ∧ hiW (x * y + c) < W64 := by
   simp only [hiW, loW, W64] at *
   generalize x * y = p at *
   omega
  refine ⟨?_, by simp only [loW, W64]; omega⟩
  have e2 : (hiW (x * y) : Int) + (hiW (loW (x * y) + c) : Int) = (hiW (x * y + c) : Int) := by omega
  rw [e2]
  exact wrap_W e.2
 clear hx hy hc
 obtain ⟨k1, k2⟩ := key
 have K1 := Aside0.mk k1
 have K2 := Aside0.mk k2
 clear k1 k2
 go_enter Tryz.func95, Tryz.ntmps95
 go_wp2_with (first
  | (go_at_call 98; refine (bits_Mul_ x y HX.out HY.out _).mono ?_; rintro e w' ⟨rfl, rfl⟩)
  | (go_at_call 99; refine (bits_Add_ (loW (x * y)) c _).mono ?_; rintro e w' ⟨rfl, rfl⟩))
 go_ret2
 refine ⟨?_, rfl⟩
 simp only [K1.out, K2.out]
 rfl

/-! ### A block of words -/
def NumC (n : Nat) : Value := .int .u64 (n : Int)
def Ws (w : World) (g : Nat) (e : TypeId) (l : List Nat) : Prop := w.heap[g]? = some (.cells (l.map NumC).toArray e (0, 0))
theorem Ws.cell {w : World} {g : Nat} {e : TypeId} {l : List Nat} (h : Ws w g e l) (i : Nat) (hi : i < l.length) : w.cell? ⟨g, i, none⟩ = some (.int .u64 (l.getD i 0 : Nat)) := by
 unfold Ws at h
 simp [World.cell?, h, hi, NumC, List.getD_eq_getElem?_getD]
theorem Ws.free {w : World} {g : Nat} {e : TypeId} {l : List Nat} (h : Ws w g e l) (i : Nat) : w.frozen? ⟨g, i, none⟩ = false := by
 unfold Ws at h
 simp [World.frozen?, h]
theorem Ws.set {w : World} {g : Nat} {e : TypeId} {l : List Nat} (h : Ws w g e l) (i v : Nat) : Ws (w.setCell ⟨g, i, none⟩ (.int .u64 (v : Int))) g e (l.set i v) := by
 unfold Ws at h ⊢
 have e1 : (w.setCell ⟨g, i, none⟩ (.int .u64 (v : Int))).heap[g]? = some (.cells ((l.map NumC).toArray.setIfInBounds i (NumC v)) e (0, 0)) := by
  simp [World.setCell, Array.getElem?_modify, h, NumC]
 rw [e1]
 congr 2
 apply Array.toList_inj.1
 simp [List.map_set]
theorem Ws.same {w w' : World} {g : Nat} {e : TypeId} {l : List Nat} (h : Ws w g e l) (hb : w'.heap[g]? = w.heap[g]?) : Ws w' g e l := by unfold Ws at h ⊢; rw [hb]; exact h
theorem Ws.lt {w : World} {g : Nat} {e : TypeId} {l : List Nat} (h : Ws w g e l) : g < w.heap.size := (Array.getElem?_eq_some_iff.1 h).1
theorem grown_set (w wr : World) (g i : Nat) (v : Value) (h : w.grownBy wr (some g)) : w.grownBy (wr.setCell ⟨g, i, none⟩ v) (some g) := by
 refine h.trans ?_
 refine ⟨rfl, rfl, rfl, by simp, fun k hk hne => ?_⟩
 have : g ≠ k := fun e => hne (by rw [e])
 simp [World.setCell, Array.getElem?_modify, this]
/-- The words of a row times a word, and a word; what is carried. -/
def mva : List Nat → Nat → Nat → List Nat × Nat
 | [], _, c => ([], c)
 | x :: l, y, c => (loW (x * y + c) :: (mva l y (hiW (x * y + c))).1, (mva l y (hiW (x * y + c))).2)
theorem mva_length : ∀ (l : List Nat) (y c : Nat), (mva l y c).1.length = l.length := by
 intro l
 induction l with
 | nil => intro y c; rfl
 | cons x l ih => intro y c; simp [mva, ih]
theorem mva_snoc : ∀ (l : List Nat) (x y c : Nat), mva (l ++ [x]) y c = ((mva l y c).1 ++ [loW (x * y + (mva l y c).2)], hiW (x * y + (mva l y c).2)) := by
 intro l
 induction l with
 | nil => intro x y c; rfl
 | cons z l ih => intro x y c; simp [mva, ih]
theorem hiW_lt {x y c : Nat} (hx : IsW x) (hy : IsW y) (hc : IsW c) : IsW (hiW (x * y + c)) := by
 have h1 : x * y ≤ (W64 - 1) * (W64 - 1) := Nat.mul_le_mul (by unfold IsW at hx; omega) (by unfold IsW at hy; omega)
 unfold IsW at *
 simp only [hiW, W64] at *
 generalize x * y = p at *
 omega
theorem mva_words : ∀ (l : List Nat) (y c : Nat), (∀ x ∈ l, IsW x) → IsW y → IsW c → (∀ x ∈ (mva l y c).1, IsW x) ∧ IsW (mva l y c).2 := by
 intro l
 induction l with
 | nil => intro y c _ _ hc; exact ⟨(by intro x hx; cases hx), hc⟩
 | cons z l ih =>
  intro y c hl hy hc
  have hz := hl z List.mem_cons_self
  have h := ih y (hiW (z * y + c)) (fun x hx => hl x (List.mem_cons_of_mem _ hx)) hy (hiW_lt hz hy hc)
  refine ⟨fun x hx => ?_, h.2⟩
  rcases List.mem_cons.1 hx with rfl | hx
  ·exact loW_lt _
  ·exact h.1 x hx
/-- The number that a row of words is, the least word first. -/
def num : List Nat → Nat
 | [] => 0
 | x :: l => x + W64 * num l
theorem mva_num : ∀ (l : List Nat) (y c : Nat), num ((mva l y c).1 ++ [(mva l y c).2]) = num l * y + c := by
 intro l
 induction l with
 | nil => intro y c; simp [mva, num]
 | cons z l ih =>
  intro y c
  have h := ih y (hiW (z * y + c))
  have h2 := hiW_loW (z * y + c)
  simp only [mva, num, List.cons_append]
  rw [h, Nat.mul_add, Nat.add_mul]
  have e : W64 * num l * y = W64 * (num l * y) := Nat.mul_assoc _ _ _
  rw [e]
  have e2 : W64 * hiW (z * y + c) = hiW (z * y + c) * W64 := Nat.mul_comm _ _
  omega
theorem set_at (a b : List Nat) (k v : Nat) (ha : a.length = k) (hb : k < (a ++ b).length) : (a ++ b).set k v = a ++ [v] ++ b.drop 1 := by
 subst ha
 rw [List.set_append_right _ _ (Nat.le_refl _), Nat.sub_self]
 cases b with
 | nil => simp at hb
 | cons x b => simp

set_option maxRecDepth 100000 in
/-- z[:n] = x[:n] * y + r; the word that is left over is returned. z and x are the same row, or two. -/
theorem mulAddVWW_g_ (w : World) (g gx n cz cx y r : Nat) (e : TypeId) (full xs : List Nat) (hz : Ws w g e full) (hx : Ws w gx e xs) (hn : n ≤ full.length) (hxn : n ≤ xs.length) (hsame : gx = g → xs = full) (hxs : ∀ x ∈ xs, IsW x) (hy : IsW y) (hr : IsW r) (hbig : n ≤ 4611686018427387904) :
  Calls Tryz.prog 88 #[.slice (some ⟨g, 0, none⟩) n cz, .slice (some ⟨gx, 0, none⟩) n cx, .int .u64 y, .int .u64 r] w fun e' w' =>
   e' = .returned (.int .u64 ((mva (xs.take n) y r).2 : Nat)) ∧ Ws w' g e ((mva (xs.take n) y r).1 ++ full.drop n) ∧ w.grownBy w' (some g) := by
 have HZ := Aside0.mk hz
 have HX := Aside0.mk hx
 have HXS := Aside0.mk hxs
 have HY := Aside0.mk hy
 have HR := Aside0.mk hr
 have HS := Aside0.mk hsame
 have HN := Aside0.mk hn
 have HXN := Aside0.mk hxn
 clear hz hx hxs hy hr hsame hn hxn
 go_enter Tryz.func88, Tryz.ntmps88
 go_wp2
 go_loopw [8, 19] (fun c i wr => ∃ k : Nat, k ≤ n ∧ i = .int .i64 k ∧ c = .int .u64 ((mva (xs.take k) y r).2 : Nat) ∧ Aside0 (Ws wr g e ((mva (xs.take k) y r).1 ++ full.drop k)) ∧ Aside0 (w.grownBy wr (some g))) (fun _ i _ => n - (intOf i).toNat)
 case atStart => exact ⟨0, Nat.zero_le _, rfl, rfl, ⟨by simpa [mva] using HZ.out⟩, ⟨World.grownBy.refl w _⟩⟩
 case round =>
  obtain ⟨k, hk, rfl, rfl, hw, hg⟩ := hrel
  by_cases hlt : k < n
  ·have hml : (mva (xs.take k) y r).1.length = k := by rw [mva_length, List.length_take]; have := HXN.out; omega
   have hc : wr.cell? ⟨gx, k, none⟩ = some (.int .u64 (xs.getD k 0 : Nat)) := by
    by_cases hgg : gx = g
    ·have h1 := hw.out.cell k (by rw [List.length_append, hml, List.length_drop]; have := HN.out; omega)
     rw [hgg, HS.out hgg]
     rw [h1]
     congr 3
     rw [List.getD_eq_getElem?_getD, List.getElem?_append_right (by omega), hml, Nat.sub_self, List.getD_eq_getElem?_getD]
     simp
    ·have h1 := HX.out.cell k (by have := HXN.out; omega)
     rw [← h1]
     exact World.cell?_of_block (hg.out.block gx HX.out.lt (fun e => hgg (Option.some.inj e)))
   obtain ⟨xk, hxk⟩ : ∃ xk, xk = xs.getD k 0 := ⟨_, rfl⟩
   rw [← hxk] at hc
   have hW : IsW xk := by
    rw [hxk, List.getD_eq_getElem?_getD, List.getElem?_eq_getElem (by have := HXN.out; omega)]
    exact HXS.out _ (List.getElem_mem _)
   have hf := hw.out.free k
   have hd := hw.out.cell k (by rw [List.length_append, hml, List.length_drop]; have := HN.out; omega)
   obtain ⟨dk, hdk⟩ : ∃ dk, dk = ((mva (xs.take k) y r).1 ++ full.drop k).getD k 0 := ⟨_, rfl⟩
   rw [← hdk] at hd
   obtain ⟨c, hcc⟩ : ∃ c, c = (mva (xs.take k) y r).2 := ⟨_, rfl⟩
   rw [← hcc]
   have hCW : IsW c := by
    rw [hcc]
    exact (mva_words _ _ _ (fun x hx => HXS.out x (List.mem_of_mem_take hx)) HY.out HR.out).2
   have hset := hw.out.set k (loW (xk * y + c))
   have hst : ((mva (xs.take k) y r).1 ++ full.drop k).set k (loW (xk * y + c)) = (mva (xs.take (k + 1)) y r).1 ++ full.drop (k + 1) ∧ hiW (xk * y + c) = (mva (xs.take (k + 1)) y r).2 := by
    have e1 : xs.take (k + 1) = xs.take k ++ [xk] := by
     rw [List.take_succ_eq_append_getElem (by have := HXN.out; omega), hxk]
     simp [List.getD_eq_getElem?_getD, show k < xs.length by have := HXN.out; omega]
    rw [e1, mva_snoc, ← hcc]
    refine ⟨?_, rfl⟩
    rw [set_at _ _ _ _ hml (by rw [List.length_append, hml, List.length_drop]; have := HN.out; omega), List.drop_drop]
   rw [hst.1] at hset
   have HSET := Aside0.mk hset
   have HST := Aside0.mk hst.2
   have HG2 := Aside0.mk (grown_set w wr g k (.int .u64 (loW (xk * y + c) : Nat)) hg.out)
   have HW1 := Aside0.mk hW
   have HW2 := Aside0.mk hCW
   clear hset hst hW hCW hw hg hml hxk hdk hcc
   go_wp2_with (first | (go_at_call 95; refine (mulAddWWW_ xk y c HW1.out HY.out HW2.out _).mono ?_; rintro e' w' ⟨rfl, rfl⟩))
   go_roundw
   case rel => exact ⟨k + 1, by omega, by go_num, by rw [HST.out], HSET, HG2⟩
   case measure => simp [intOf]; omega
  ·obtain rfl : k = n := by omega
   go_wp2
   go_ret
   exact ⟨rfl, hw.out, hg.out⟩

end Go.Proofs.YtdjkekgfeadmoaaGreatDoorG

/- Contracts of math/big's natural numbers as far as a text of digits is read: make, setWord, norm, mulAddWW, maxPow, pow. -/
namespace Go.Proofs.YtdjkekgfeadmoaaGreatDoorG
open Go.RowKit Go.Proofs.YtdjkekgfeadmoaaGreatDoorW.PrintWords Go.Proofs.YtdjkekgfeadmoaaGreatDoorW.PrintLast
set_option linter.unusedVariables false
set_option linter.unusedSimpArgs false

theorem infoWord : (Tryz.prog.info? 71).map (fun i => (i.zero, i.size, i.bytes)) = some (some (.int .u64 0), 1, 8) := by kernel_rfl
set_option maxRecDepth 100000 in
theorem make_run (n c : Nat) (hnc : n ≤ c) (hc : c ≤ 1099511627776) : ∀ W : World, (Instr.makeSlice 60 (.int .i64 (n : Int)) (.int .i64 (c : Int))).run Tryz.prog W = .ok (.slice (some ⟨W.heap.size, 0, none⟩) n c) (W.alloc (.cells (List.replicate c (NumC 0)).toArray 71)) := by
 intro W
 obtain ⟨i, hi, hzz⟩ := Option.map_eq_some_iff.1 infoWord
 simp only [Prod.mk.injEq] at hzz
 obtain ⟨hz0, hz1, hz2⟩ := hzz
 have h := run_make (P := Tryz.prog) W 60 71 i _ Tryz.underlying60 hi hz0 .i64 .i64 (n : Int) (c : Int) (by omega) (by omega) (by rw [hz2]; omega) (by omega)
 rw [h]
 simp only [Int.toNat_natCast, hz1, Nat.mul_one]
 congr 3
 apply Array.toList_inj.1
 apply List.ext_getElem
 ·simp [madeCells]
 ·intro i h1 h2
  simp [madeCells, Nat.mod_one, Value.cells, NumC]
/-- make: the row again, or a new one. -/
theorem make_reuse (w : World) (g len cap n : Nat) (hn : n ≤ cap) :
  Calls Tryz.prog 78 #[.slice (some ⟨g, 0, none⟩) len cap, .int .i64 (n : Int)] w fun e w' => e = .returned (.slice (some ⟨g, 0, none⟩) n cap) ∧ w' = w := by
 have b1 : decide ((n : Int) ≤ (cap : Int)) = true := decide_eq_true (by omega)
 go_enter Tryz.func78, Tryz.ntmps78
 go_wp2
 go_ret
 exact ⟨rfl, rfl⟩
theorem make_fresh (w : World) (p : Option Addr) (len cap n : Nat) (hn : cap < n) (hb : n ≤ 1000000000) :
  Calls Tryz.prog 78 #[.slice p len cap, .int .i64 (n : Int)] w fun e w' => ∃ c, n ≤ c ∧ c ≤ n + 4 ∧ e = .returned (.slice (some ⟨w.heap.size, 0, none⟩) n c) ∧ w' = w.alloc (.cells (List.replicate c (NumC 0)).toArray 71) := by
 have b1 : decide ((n : Int) ≤ (cap : Int)) = false := decide_eq_false (by omega)
 by_cases h1 : n = 1
 ·subst h1
  have hm := make_run 1 1 (by omega) (by omega)
  have e1 : ((1 : Nat) : Int) = 1 := rfl
  rw [e1] at hm b1 ⊢
  go_enter Tryz.func78, Tryz.ntmps78
  go_wp2
  go_ret
  exact ⟨1, by omega, by omega, rfl, rfl⟩
 ·have hm := make_run n (n + 4) (by omega) (by omega)
  have e1 : ((n + 4 : Nat) : Int) = (n : Int) + 4 := by omega
  rw [e1] at hm
  have b2 : ((n : Int) == 1) = false := by rw [beq_eq_false_iff_ne]; omega
  have b3 : ¬ ((n : Int) = 1) := by omega
  go_enter Tryz.func78, Tryz.ntmps78
  go_wp2
  go_ret
  exact ⟨n + 4, by omega, by omega, rfl, rfl⟩

/-- A natural number: nil, or a row of words, the least first. -/
def NatS (w : World) (B : Nat) (v : Value) (l : List Nat) : Prop :=
 (v = .slice none 0 0 ∧ l = []) ∨
 ∃ g full, v = .slice (some ⟨g, 0, none⟩) l.length full.length ∧ B ≤ g ∧ Ws w g 71 full ∧ full.take l.length = l ∧ l.length ≤ full.length ∧ full.length ≤ 1000000000 ∧ ∀ x ∈ full, IsW x
def trimW (l : List Nat) : List Nat := (l.reverse.dropWhile (fun x => decide (x = 0))).reverse
theorem trimW_snoc_zero (l : List Nat) : trimW (l ++ [0]) = trimW l := by simp [trimW]
theorem trimW_snoc (l : List Nat) (x : Nat) (h : x ≠ 0) : trimW (l ++ [x]) = l ++ [x] := by simp [trimW, h]
theorem num_snoc_zero (l : List Nat) : num (l ++ [0]) = num l := by
 induction l with
 | nil => simp [num]
 | cons x l ih => simp [num, ih]
theorem num_trimW (l : List Nat) : num (trimW l) = num l := by
 have : ∀ (n : Nat) (l : List Nat), l.length = n → num (trimW l) = num l := by
  intro n
  induction n with
  | zero => intro l h; rw [List.length_eq_zero_iff.1 h]; rfl
  | succ n ih =>
   intro l h
   have hne : l ≠ [] := by intro e; subst e; simp at h
   obtain ⟨m, x, rfl⟩ : ∃ m x, l = m ++ [x] := ⟨l.dropLast, l.getLast hne, (List.dropLast_concat_getLast hne).symm⟩
   by_cases hx : x = 0
   ·subst hx
    rw [trimW_snoc_zero, num_snoc_zero]
    exact ih m (by simpa using h)
   ·rw [trimW_snoc _ _ hx]
 exact this _ l rfl
/-- Where the last word that is not 0 stands. -/
theorem trimW_at (l : List Nat) (k : Nat) (hk : k ≤ l.length) (hz : ∀ j, k ≤ j → j < l.length → l.getD j 0 = 0) (hl : k = 0 ∨ l.getD (k - 1) 0 ≠ 0) : trimW l = l.take k := by
 have : ∀ (n : Nat) (l : List Nat), l.length - k = n → k ≤ l.length → (∀ j, k ≤ j → j < l.length → l.getD j 0 = 0) → (k = 0 ∨ l.getD (k - 1) 0 ≠ 0) → trimW l = l.take k := by
  intro n
  induction n with
  | zero =>
   intro l hn hk hz hl
   have e : k = l.length := by omega
   rw [List.take_of_length_le (by omega)]
   by_cases h0 : l = []
   ·subst h0; rfl
   ·obtain ⟨m, x, rfl⟩ : ∃ m x, l = m ++ [x] := ⟨l.dropLast, l.getLast h0, (List.dropLast_concat_getLast h0).symm⟩
    refine trimW_snoc _ _ ?_
    rcases hl with hl | hl
    ·rw [hl] at e; simp at e
    ·rw [e] at hl
     simpa [List.getD_eq_getElem?_getD] using hl
  | succ n ih =>
   intro l hn hk hz hl
   have h0 : l ≠ [] := by intro e; subst e; simp at hn
   obtain ⟨m, x, rfl⟩ : ∃ m x, l = m ++ [x] := ⟨l.dropLast, l.getLast h0, (List.dropLast_concat_getLast h0).symm⟩
   have hlen : (m ++ [x]).length = m.length + 1 := by simp
   have hx : x = 0 := by
    have := hz m.length (by omega) (by omega)
    simpa [List.getD_eq_getElem?_getD] using this
   subst hx
   rw [trimW_snoc_zero, List.take_append_of_le_length (by omega)]
   refine ih m (by omega) (by omega) (fun j h1 h2 => ?_) ?_
   ·have := hz j h1 (by omega)
    rw [List.getD_eq_getElem?_getD, List.getElem?_append_left h2, ← List.getD_eq_getElem?_getD] at this
    exact this
   ·rcases hl with hl | hl
    ·exact .inl hl
    ·by_cases hk0 : k = 0
     ·exact .inl hk0
     ·right
      rw [List.getD_eq_getElem?_getD, List.getElem?_append_left (by omega), ← List.getD_eq_getElem?_getD] at hl
      exact hl
 exact this _ l rfl hk hz hl

set_option maxRecDepth 100000 in
/-- norm: the row without the zeros at its end. -/
theorem norm_ (w : World) (g n cap : Nat) (full : List Nat) (hw : Ws w g 71 full) (hn : n ≤ full.length) (hcap : n ≤ cap) (hbig : n ≤ 1000000000) :
  Calls Tryz.prog 74 #[.slice (some ⟨g, 0, none⟩) n cap] w fun e w' => ∃ k, k ≤ n ∧ trimW (full.take n) = full.take k ∧ e = .returned (.slice (some ⟨g, 0, none⟩) k cap) ∧ w' = w := by
 have HW := Aside0.mk hw
 have HN := Aside0.mk hn
 clear hw hn
 go_enter Tryz.func74, Tryz.ntmps74
 go_wp2
 go_loopw [3] (fun i wr => ∃ k : Nat, k ≤ n ∧ i = .int .i64 k ∧ Aside0 (∀ j, k ≤ j → j < n → full.getD j 0 = 0) ∧ wr = w) (fun i _ => (intOf i).toNat)
 case atStart => exact ⟨n, Nat.le_refl _, rfl, ⟨fun j h1 h2 => by omega⟩, rfl⟩
 case round =>
  obtain ⟨k, hk, rfl, hz, rfl⟩ := hrel
  by_cases hk0 : k = 0
  ·subst hk0
   go_wp2
   go_ret
   refine ⟨0, Nat.zero_le _, ?_, rfl, rfl⟩
   refine (trimW_at _ 0 (Nat.zero_le _) (fun j h1 h2 => ?_) (.inl rfl)).trans (by simp)
   rw [List.length_take] at h2
   have := hz.out j h1 (by omega)
   rw [List.getD_eq_getElem?_getD] at this ⊢
   rwa [List.getElem?_take_of_lt (by omega)]
  ·obtain ⟨m, rfl⟩ : ∃ m, k = m + 1 := ⟨k - 1, by omega⟩
   have hm : m < full.length := by have := HN.out; omega
   have hc := HW.out.cell m hm
   obtain ⟨x, hx⟩ : ∃ x, x = full.getD m 0 := ⟨_, rfl⟩
   rw [← hx] at hc
   have HX := Aside0.mk hx
   clear hx
   have e0 : ((m + 1 : Nat) : Int) - 1 = (m : Int) := by omega
   have e1 : wrap64 (((m + 1 : Nat) : Int) - 1) = (m : Int) := by unfold wrap64; omega
   have b0 : decide (0 < ((m + 1 : Nat) : Int)) = true := decide_eq_true (by omega)
   by_cases hx0 : x = 0
   ·subst hx0
    go_wp2
    go_roundw
    case rel =>
     refine ⟨m, by omega, by first | rfl | go_num | (congr 1; omega), ⟨fun j h1 h2 => ?_⟩, by first | rfl | trivial⟩
     by_cases hj : j = m
     ·rw [hj]; exact HX.out.symm
     ·exact hz.out j (by omega) h2
    case measure => first | (simp [intOf]; done) | (simp [intOf]; omega)
   ·have b2 : ((x : Int) == 0) = false := by rw [beq_eq_false_iff_ne]; omega
    have b3 : ¬ ((x : Int) = 0) := by omega
    have HX0 := Aside0.mk hx0
    clear hx0
    go_wp2
    go_ret
    refine ⟨m + 1, hk, ?_, by first | rfl | (congr 2), rfl⟩
    have HNo := HN.out
    refine (trimW_at _ (m + 1) (by rw [List.length_take]; omega) (fun j h1 h2 => ?_) (.inr ?_)).trans (by rw [List.take_take]; congr 1; omega)
    ·rw [List.length_take] at h2
     have := hz.out j h1 (by omega)
     rw [List.getD_eq_getElem?_getD] at this ⊢
     rwa [List.getElem?_take_of_lt (by omega)]
    ·rw [Nat.add_sub_cancel, List.getD_eq_getElem?_getD, List.getElem?_take_of_lt (by omega), ← List.getD_eq_getElem?_getD, ← HX.out]
     exact HX0.out
end Go.Proofs.YtdjkekgfeadmoaaGreatDoorG

/- Contracts of math/big's maxPow and pow, at the base ten (as reading digits calls them). -/
namespace Go.Proofs.YtdjkekgfeadmoaaGreatDoorG
open Go.RowKit Go.Proofs.YtdjkekgfeadmoaaGreatDoorW.PrintWords Go.Proofs.YtdjkekgfeadmoaaGreatDoorW.PrintLast
set_option linter.unusedVariables false
set_option linter.unusedSimpArgs false

set_option maxRecDepth 100000 in
set_option maxHeartbeats 4000000 in
theorem maxPow_ (w : World) : Calls Tryz.prog 70 #[.int .u64 10] w fun e w' => e = .returned (.tuple #[.int .u64 10000000000000000000, .int .i64 19]) ∧ w' = w := by
 go_enter Tryz.func70, Tryz.ntmps70
 go_wp2
 go_loopw [2, 3] (fun p n wr => wr = w ∧ ((p = .int .u64 10 ∧ n = .int .i64 1) ∨ (p = .int .u64 100 ∧ n = .int .i64 2) ∨ (p = .int .u64 1000 ∧ n = .int .i64 3) ∨ (p = .int .u64 10000 ∧ n = .int .i64 4) ∨ (p = .int .u64 100000 ∧ n = .int .i64 5) ∨ (p = .int .u64 1000000 ∧ n = .int .i64 6) ∨ (p = .int .u64 10000000 ∧ n = .int .i64 7) ∨ (p = .int .u64 100000000 ∧ n = .int .i64 8) ∨ (p = .int .u64 1000000000 ∧ n = .int .i64 9) ∨ (p = .int .u64 10000000000 ∧ n = .int .i64 10) ∨ (p = .int .u64 100000000000 ∧ n = .int .i64 11) ∨ (p = .int .u64 1000000000000 ∧ n = .int .i64 12) ∨ (p = .int .u64 10000000000000 ∧ n = .int .i64 13) ∨ (p = .int .u64 100000000000000 ∧ n = .int .i64 14) ∨ (p = .int .u64 1000000000000000 ∧ n = .int .i64 15) ∨ (p = .int .u64 10000000000000000 ∧ n = .int .i64 16) ∨ (p = .int .u64 100000000000000000 ∧ n = .int .i64 17) ∨ (p = .int .u64 1000000000000000000 ∧ n = .int .i64 18) ∨ (p = .int .u64 10000000000000000000 ∧ n = .int .i64 19))) (fun _ n _ => 19 - (intOf n).toNat)
 case atStart => exact ⟨rfl, .inl ⟨rfl, rfl⟩⟩
 case round =>
  obtain ⟨rfl, hrel⟩ := hrel
  rcases hrel with ⟨rfl, rfl⟩ | ⟨rfl, rfl⟩ | ⟨rfl, rfl⟩ | ⟨rfl, rfl⟩ | ⟨rfl, rfl⟩ | ⟨rfl, rfl⟩ | ⟨rfl, rfl⟩ | ⟨rfl, rfl⟩ | ⟨rfl, rfl⟩ | ⟨rfl, rfl⟩ | ⟨rfl, rfl⟩ | ⟨rfl, rfl⟩ | ⟨rfl, rfl⟩ | ⟨rfl, rfl⟩ | ⟨rfl, rfl⟩ | ⟨rfl, rfl⟩ | ⟨rfl, rfl⟩ | ⟨rfl, rfl⟩ | ⟨rfl, rfl⟩
  ·go_wp2
   go_roundw
   case rel => first | exact ⟨rfl, .inr (.inl ⟨rfl, rfl⟩)⟩ | exact ⟨trivial, .inr (.inl ⟨rfl, rfl⟩)⟩ | (simp; done)
   case measure => simp [intOf]
  ·go_wp2
   go_roundw
   case rel => first | exact ⟨rfl, .inr (.inr (.inl ⟨rfl, rfl⟩))⟩ | exact ⟨trivial, .inr (.inr (.inl ⟨rfl, rfl⟩))⟩ | (simp; done)
   case measure => simp [intOf]
  ·go_wp2
   go_roundw
   case rel => first | exact ⟨rfl, .inr (.inr (.inr (.inl ⟨rfl, rfl⟩)))⟩ | exact ⟨trivial, .inr (.inr (.inr (.inl ⟨rfl, rfl⟩)))⟩ | (simp; done)
   case measure => simp [intOf]
  ·go_wp2
   go_roundw
   case rel => first | exact ⟨rfl, .inr (.inr (.inr (.inr (.inl ⟨rfl, rfl⟩))))⟩ | exact ⟨trivial, .inr (.inr (.inr (.inr (.inl ⟨rfl, rfl⟩))))⟩ | (simp; done)
   case measure => simp [intOf]
  ·go_wp2
   go_roundw
   case rel => first | exact ⟨rfl, .inr (.inr (.inr (.inr (.inr (.inl ⟨rfl, rfl⟩)))))⟩ | exact ⟨trivial, .inr (.inr (.inr (.inr (.inr (.inl ⟨rfl, rfl⟩)))))⟩ | (simp; done)
   case measure => simp [intOf]
  ·go_wp2
   go_roundw
   case rel => first | exact ⟨rfl, .inr (.inr (.inr (.inr (.inr (.inr (.inl ⟨rfl, rfl⟩))))))⟩ | exact ⟨trivial, .inr (.inr (.inr (.inr (.inr (.inr (.inl ⟨rfl, rfl⟩))))))⟩ | (simp; done)
   case measure => simp [intOf]
  ·go_wp2
   go_roundw
   case rel => first | exact ⟨rfl, .inr (.inr (.inr (.inr (.inr (.inr (.inr (.inl ⟨rfl, rfl⟩)))))))⟩ | exact ⟨trivial, .inr (.inr (.inr (.inr (.inr (.inr (.inr (.inl ⟨rfl, rfl⟩)))))))⟩ | (simp; done)
   case measure => simp [intOf]
  ·go_wp2
   go_roundw
   case rel => first | exact ⟨rfl, .inr (.inr (.inr (.inr (.inr (.inr (.inr (.inr (.inl ⟨rfl, rfl⟩))))))))⟩ | exact ⟨trivial, .inr (.inr (.inr (.inr (.inr (.inr (.inr (.inr (.inl ⟨rfl, rfl⟩))))))))⟩ | (simp; done)
   case measure => simp [intOf]
  ·go_wp2
   go_roundw
   case rel => first | exact ⟨rfl, .inr (.inr (.inr (.inr (.inr (.inr (.inr (.inr (.inr (.inl ⟨rfl, rfl⟩)))))))))⟩ | exact ⟨trivial, .inr (.inr (.inr (.inr (.inr (.inr (.inr (.inr (.inr (.inl ⟨rfl, rfl⟩)))))))))⟩ | (simp; done)
   case measure => simp [intOf]
  ·go_wp2
   go_roundw
   case rel => first | exact ⟨rfl, .inr (.inr (.inr (.inr (.inr (.inr (.inr (.inr (.inr (.inr (.inl ⟨rfl, rfl⟩))))))))))⟩ | exact ⟨trivial, .inr (.inr (.inr (.inr (.inr (.inr (.inr (.inr (.inr (.inr (.inl ⟨rfl, rfl⟩))))))))))⟩ | (simp; done)
   case measure => simp [intOf]
  ·go_wp2
   go_roundw
   case rel => first | exact ⟨rfl, .inr (.inr (.inr (.inr (.inr (.inr (.inr (.inr (.inr (.inr (.inr (.inl ⟨rfl, rfl⟩)))))))))))⟩ | exact ⟨trivial, .inr (.inr (.inr (.inr (.inr (.inr (.inr (.inr (.inr (.inr (.inr (.inl ⟨rfl, rfl⟩)))))))))))⟩ | (simp; done)
   case measure => simp [intOf]
  ·go_wp2
   go_roundw
   case rel => first | exact ⟨rfl, .inr (.inr (.inr (.inr (.inr (.inr (.inr (.inr (.inr (.inr (.inr (.inr (.inl ⟨rfl, rfl⟩))))))))))))⟩ | exact ⟨trivial, .inr (.inr (.inr (.inr (.inr (.inr (.inr (.inr (.inr (.inr (.inr (.inr (.inl ⟨rfl, rfl⟩))))))))))))⟩ | (simp; done)
   case measure => simp [intOf]
  ·go_wp2
   go_roundw
   case rel => first | exact ⟨rfl, .inr (.inr (.inr (.inr (.inr (.inr (.inr (.inr (.inr (.inr (.inr (.inr (.inr (.inl ⟨rfl, rfl⟩)))))))))))))⟩ | exact ⟨trivial, .inr (.inr (.inr (.inr (.inr (.inr (.inr (.inr (.inr (.inr (.inr (.inr (.inr (.inl ⟨rfl, rfl⟩)))))))))))))⟩ | (simp; done)
   case measure => simp [intOf]
  ·go_wp2
   go_roundw
   case rel => first | exact ⟨rfl, .inr (.inr (.inr (.inr (.inr (.inr (.inr (.inr (.inr (.inr (.inr (.inr (.inr (.inr (.inl ⟨rfl, rfl⟩))))))))))))))⟩ | exact ⟨trivial, .inr (.inr (.inr (.inr (.inr (.inr (.inr (.inr (.inr (.inr (.inr (.inr (.inr (.inr (.inl ⟨rfl, rfl⟩))))))))))))))⟩ | (simp; done)
   case measure => simp [intOf]
  ·go_wp2
   go_roundw
   case rel => first | exact ⟨rfl, .inr (.inr (.inr (.inr (.inr (.inr (.inr (.inr (.inr (.inr (.inr (.inr (.inr (.inr (.inr (.inl ⟨rfl, rfl⟩)))))))))))))))⟩ | exact ⟨trivial, .inr (.inr (.inr (.inr (.inr (.inr (.inr (.inr (.inr (.inr (.inr (.inr (.inr (.inr (.inr (.inl ⟨rfl, rfl⟩)))))))))))))))⟩ | (simp; done)
   case measure => simp [intOf]
  ·go_wp2
   go_roundw
   case rel => first | exact ⟨rfl, .inr (.inr (.inr (.inr (.inr (.inr (.inr (.inr (.inr (.inr (.inr (.inr (.inr (.inr (.inr (.inr (.inl ⟨rfl, rfl⟩))))))))))))))))⟩ | exact ⟨trivial, .inr (.inr (.inr (.inr (.inr (.inr (.inr (.inr (.inr (.inr (.inr (.inr (.inr (.inr (.inr (.inr (.inl ⟨rfl, rfl⟩))))))))))))))))⟩ | (simp; done)
   case measure => simp [intOf]
  ·go_wp2
   go_roundw
   case rel => first | exact ⟨rfl, .inr (.inr (.inr (.inr (.inr (.inr (.inr (.inr (.inr (.inr (.inr (.inr (.inr (.inr (.inr (.inr (.inr (.inl ⟨rfl, rfl⟩)))))))))))))))))⟩ | exact ⟨trivial, .inr (.inr (.inr (.inr (.inr (.inr (.inr (.inr (.inr (.inr (.inr (.inr (.inr (.inr (.inr (.inr (.inr (.inl ⟨rfl, rfl⟩)))))))))))))))))⟩ | (simp; done)
   case measure => simp [intOf]
  ·go_wp2
   go_roundw
   case rel => first | exact ⟨rfl, .inr (.inr (.inr (.inr (.inr (.inr (.inr (.inr (.inr (.inr (.inr (.inr (.inr (.inr (.inr (.inr (.inr (.inr (⟨rfl, rfl⟩))))))))))))))))))⟩ | exact ⟨trivial, .inr (.inr (.inr (.inr (.inr (.inr (.inr (.inr (.inr (.inr (.inr (.inr (.inr (.inr (.inr (.inr (.inr (.inr (⟨rfl, rfl⟩))))))))))))))))))⟩ | (simp; done)
   case measure => simp [intOf]
  ·go_wp2
   go_ret2
   exact ⟨rfl, rfl⟩

set_option maxRecDepth 100000 in
set_option maxHeartbeats 4000000 in
theorem pow_1 (w : World) : Calls Tryz.prog 72 #[.int .u64 10, .int .i64 1] w fun e w' => e = .returned (.int .u64 10) ∧ w' = w := by
 go_enter Tryz.func72, Tryz.ntmps72
 go_wp2
 go_loopw [0, 1, 4] (fun x n p wr => wr = w ∧ ((x = .int .u64 10 ∧ n = .int .i64 1 ∧ p = .int .u64 1) ∨ (x = .int .u64 100 ∧ n = .int .i64 0 ∧ p = .int .u64 10))) (fun _ n _ _ => (intOf n).toNat)
 case atStart => exact ⟨rfl, .inl ⟨rfl, rfl, rfl⟩⟩
 case round =>
  obtain ⟨rfl, hrel⟩ := hrel
  rcases hrel with ⟨rfl, rfl, rfl⟩ | ⟨rfl, rfl, rfl⟩
  ·go_wp2
   go_roundw
   case rel => first | exact ⟨rfl, .inr (⟨rfl, rfl, rfl⟩)⟩ | exact ⟨trivial, .inr (⟨rfl, rfl, rfl⟩)⟩ | (simp; done)
   case measure => simp [intOf]
  ·go_wp2
   go_ret
   exact ⟨rfl, rfl⟩

set_option maxRecDepth 100000 in
set_option maxHeartbeats 4000000 in
theorem pow_2 (w : World) : Calls Tryz.prog 72 #[.int .u64 10, .int .i64 2] w fun e w' => e = .returned (.int .u64 100) ∧ w' = w := by
 go_enter Tryz.func72, Tryz.ntmps72
 go_wp2
 go_loopw [0, 1, 4] (fun x n p wr => wr = w ∧ ((x = .int .u64 10 ∧ n = .int .i64 2 ∧ p = .int .u64 1) ∨ (x = .int .u64 100 ∧ n = .int .i64 1 ∧ p = .int .u64 1) ∨ (x = .int .u64 10000 ∧ n = .int .i64 0 ∧ p = .int .u64 100))) (fun _ n _ _ => (intOf n).toNat)
 case atStart => exact ⟨rfl, .inl ⟨rfl, rfl, rfl⟩⟩
 case round =>
  obtain ⟨rfl, hrel⟩ := hrel
  rcases hrel with ⟨rfl, rfl, rfl⟩ | ⟨rfl, rfl, rfl⟩ | ⟨rfl, rfl, rfl⟩
  ·go_wp2
   go_roundw
   case rel => first | exact ⟨rfl, .inr (.inl ⟨rfl, rfl, rfl⟩)⟩ | exact ⟨trivial, .inr (.inl ⟨rfl, rfl, rfl⟩)⟩ | (simp; done)
   case measure => simp [intOf]
  ·go_wp2
   go_roundw
   case rel => first | exact ⟨rfl, .inr (.inr (⟨rfl, rfl, rfl⟩))⟩ | exact ⟨trivial, .inr (.inr (⟨rfl, rfl, rfl⟩))⟩ | (simp; done)
   case measure => simp [intOf]
  ·go_wp2
   go_ret
   exact ⟨rfl, rfl⟩

set_option maxRecDepth 100000 in
set_option maxHeartbeats 4000000 in
theorem pow_3 (w : World) : Calls Tryz.prog 72 #[.int .u64 10, .int .i64 3] w fun e w' => e = .returned (.int .u64 1000) ∧ w' = w := by
 go_enter Tryz.func72, Tryz.ntmps72
 go_wp2
 go_loopw [0, 1, 4] (fun x n p wr => wr = w ∧ ((x = .int .u64 10 ∧ n = .int .i64 3 ∧ p = .int .u64 1) ∨ (x = .int .u64 100 ∧ n = .int .i64 1 ∧ p = .int .u64 10) ∨ (x = .int .u64 10000 ∧ n = .int .i64 0 ∧ p = .int .u64 1000))) (fun _ n _ _ => (intOf n).toNat)
 case atStart => exact ⟨rfl, .inl ⟨rfl, rfl, rfl⟩⟩
 case round =>
  obtain ⟨rfl, hrel⟩ := hrel
  rcases hrel with ⟨rfl, rfl, rfl⟩ | ⟨rfl, rfl, rfl⟩ | ⟨rfl, rfl, rfl⟩
  ·go_wp2
   go_roundw
   case rel => first | exact ⟨rfl, .inr (.inl ⟨rfl, rfl, rfl⟩)⟩ | exact ⟨trivial, .inr (.inl ⟨rfl, rfl, rfl⟩)⟩ | (simp; done)
   case measure => simp [intOf]
  ·go_wp2
   go_roundw
   case rel => first | exact ⟨rfl, .inr (.inr (⟨rfl, rfl, rfl⟩))⟩ | exact ⟨trivial, .inr (.inr (⟨rfl, rfl, rfl⟩))⟩ | (simp; done)
   case measure => simp [intOf]
  ·go_wp2
   go_ret
   exact ⟨rfl, rfl⟩

set_option maxRecDepth 100000 in
set_option maxHeartbeats 4000000 in
theorem pow_4 (w : World) : Calls Tryz.prog 72 #[.int .u64 10, .int .i64 4] w fun e w' => e = .returned (.int .u64 10000) ∧ w' = w := by
 go_enter Tryz.func72, Tryz.ntmps72
 go_wp2
 go_loopw [0, 1, 4] (fun x n p wr => wr = w ∧ ((x = .int .u64 10 ∧ n = .int .i64 4 ∧ p = .int .u64 1) ∨ (x = .int .u64 100 ∧ n = .int .i64 2 ∧ p = .int .u64 1) ∨ (x = .int .u64 10000 ∧ n = .int .i64 1 ∧ p = .int .u64 1) ∨ (x = .int .u64 100000000 ∧ n = .int .i64 0 ∧ p = .int .u64 10000))) (fun _ n _ _ => (intOf n).toNat)
 case atStart => exact ⟨rfl, .inl ⟨rfl, rfl, rfl⟩⟩
 case round =>
  obtain ⟨rfl, hrel⟩ := hrel
  rcases hrel with ⟨rfl, rfl, rfl⟩ | ⟨rfl, rfl, rfl⟩ | ⟨rfl, rfl, rfl⟩ | ⟨rfl, rfl, rfl⟩
  ·go_wp2
   go_roundw
   case rel => first | exact ⟨rfl, .inr (.inl ⟨rfl, rfl, rfl⟩)⟩ | exact ⟨trivial, .inr (.inl ⟨rfl, rfl, rfl⟩)⟩ | (simp; done)
   case measure => simp [intOf]
  ·go_wp2
   go_roundw
   case rel => first | exact ⟨rfl, .inr (.inr (.inl ⟨rfl, rfl, rfl⟩))⟩ | exact ⟨trivial, .inr (.inr (.inl ⟨rfl, rfl, rfl⟩))⟩ | (simp; done)
   case measure => simp [intOf]
  ·go_wp2
   go_roundw
   case rel => first | exact ⟨rfl, .inr (.inr (.inr (⟨rfl, rfl, rfl⟩)))⟩ | exact ⟨trivial, .inr (.inr (.inr (⟨rfl, rfl, rfl⟩)))⟩ | (simp; done)
   case measure => simp [intOf]
  ·go_wp2
   go_ret
   exact ⟨rfl, rfl⟩

set_option maxRecDepth 100000 in
set_option maxHeartbeats 4000000 in
theorem pow_5 (w : World) : Calls Tryz.prog 72 #[.int .u64 10, .int .i64 5] w fun e w' => e = .returned (.int .u64 100000) ∧ w' = w := by
 go_enter Tryz.func72, Tryz.ntmps72
 go_wp2
 go_loopw [0, 1, 4] (fun x n p wr => wr = w ∧ ((x = .int .u64 10 ∧ n = .int .i64 5 ∧ p = .int .u64 1) ∨ (x = .int .u64 100 ∧ n = .int .i64 2 ∧ p = .int .u64 10) ∨ (x = .int .u64 10000 ∧ n = .int .i64 1 ∧ p = .int .u64 10) ∨ (x = .int .u64 100000000 ∧ n = .int .i64 0 ∧ p = .int .u64 100000))) (fun _ n _ _ => (intOf n).toNat)
 case atStart => exact ⟨rfl, .inl ⟨rfl, rfl, rfl⟩⟩
 case round =>
  obtain ⟨rfl, hrel⟩ := hrel
  rcases hrel with ⟨rfl, rfl, rfl⟩ | ⟨rfl, rfl, rfl⟩ | ⟨rfl, rfl, rfl⟩ | ⟨rfl, rfl, rfl⟩
  ·go_wp2
   go_roundw
   case rel => first | exact ⟨rfl, .inr (.inl ⟨rfl, rfl, rfl⟩)⟩ | exact ⟨trivial, .inr (.inl ⟨rfl, rfl, rfl⟩)⟩ | (simp; done)
   case measure => simp [intOf]
  ·go_wp2
   go_roundw
   case rel => first | exact ⟨rfl, .inr (.inr (.inl ⟨rfl, rfl, rfl⟩))⟩ | exact ⟨trivial, .inr (.inr (.inl ⟨rfl, rfl, rfl⟩))⟩ | (simp; done)
   case measure => simp [intOf]
  ·go_wp2
   go_roundw
   case rel => first | exact ⟨rfl, .inr (.inr (.inr (⟨rfl, rfl, rfl⟩)))⟩ | exact ⟨trivial, .inr (.inr (.inr (⟨rfl, rfl, rfl⟩)))⟩ | (simp; done)
   case measure => simp [intOf]
  ·go_wp2
   go_ret
   exact ⟨rfl, rfl⟩

set_option maxRecDepth 100000 in
set_option maxHeartbeats 4000000 in
theorem pow_6 (w : World) : Calls Tryz.prog 72 #[.int .u64 10, .int .i64 6] w fun e w' => e = .returned (.int .u64 1000000) ∧ w' = w := by
 go_enter Tryz.func72, Tryz.ntmps72
 go_wp2
 go_loopw [0, 1, 4] (fun x n p wr => wr = w ∧ ((x = .int .u64 10 ∧ n = .int .i64 6 ∧ p = .int .u64 1) ∨ (x = .int .u64 100 ∧ n = .int .i64 3 ∧ p = .int .u64 1) ∨ (x = .int .u64 10000 ∧ n = .int .i64 1 ∧ p = .int .u64 100) ∨ (x = .int .u64 100000000 ∧ n = .int .i64 0 ∧ p = .int .u64 1000000))) (fun _ n _ _ => (intOf n).toNat)
 case atStart => exact ⟨rfl, .inl ⟨rfl, rfl, rfl⟩⟩
 case round =>
  obtain ⟨rfl, hrel⟩ := hrel
  rcases hrel with ⟨rfl, rfl, rfl⟩ | ⟨rfl, rfl, rfl⟩ | ⟨rfl, rfl, rfl⟩ | ⟨rfl, rfl, rfl⟩
  ·go_wp2
   go_roundw
   case rel => first | exact ⟨rfl, .inr (.inl ⟨rfl, rfl, rfl⟩)⟩ | exact ⟨trivial, .inr (.inl ⟨rfl, rfl, rfl⟩)⟩ | (simp; done)
   case measure => simp [intOf]
  ·go_wp2
   go_roundw
   case rel => first | exact ⟨rfl, .inr (.inr (.inl ⟨rfl, rfl, rfl⟩))⟩ | exact ⟨trivial, .inr (.inr (.inl ⟨rfl, rfl, rfl⟩))⟩ | (simp; done)
   case measure => simp [intOf]
  ·go_wp2
   go_roundw
   case rel => first | exact ⟨rfl, .inr (.inr (.inr (⟨rfl, rfl, rfl⟩)))⟩ | exact ⟨trivial, .inr (.inr (.inr (⟨rfl, rfl, rfl⟩)))⟩ | (simp; done)
   case measure => simp [intOf]
  ·go_wp2
   go_ret
   exact ⟨rfl, rfl⟩

set_option maxRecDepth 100000 in
set_option maxHeartbeats 4000000 in
theorem pow_7 (w : World) : Calls Tryz.prog 72 #[.int .u64 10, .int .i64 7] w fun e w' => e = .returned (.int .u64 10000000) ∧ w' = w := by
 go_enter Tryz.func72, Tryz.ntmps72
 go_wp2
 go_loopw [0, 1, 4] (fun x n p wr => wr = w ∧ ((x = .int .u64 10 ∧ n = .int .i64 7 ∧ p = .int .u64 1) ∨ (x = .int .u64 100 ∧ n = .int .i64 3 ∧ p = .int .u64 10) ∨ (x = .int .u64 10000 ∧ n = .int .i64 1 ∧ p = .int .u64 1000) ∨ (x = .int .u64 100000000 ∧ n = .int .i64 0 ∧ p = .int .u64 10000000))) (fun _ n _ _ => (intOf n).toNat)
 case atStart => exact ⟨rfl, .inl ⟨rfl, rfl, rfl⟩⟩
 case round =>
  obtain ⟨rfl, hrel⟩ := hrel
  rcases hrel with ⟨rfl, rfl, rfl⟩ | ⟨rfl, rfl, rfl⟩ | ⟨rfl, rfl, rfl⟩ | ⟨rfl, rfl, rfl⟩
  ·go_wp2
   go_roundw
   case rel => first | exact ⟨rfl, .inr (.inl ⟨rfl, rfl, rfl⟩)⟩ | exact ⟨trivial, .inr (.inl ⟨rfl, rfl, rfl⟩)⟩ | (simp; done)
   case measure => simp [intOf]
  ·go_wp2
   go_roundw
   case rel => first | exact ⟨rfl, .inr (.inr (.inl ⟨rfl, rfl, rfl⟩))⟩ | exact ⟨trivial, .inr (.inr (.inl ⟨rfl, rfl, rfl⟩))⟩ | (simp; done)
   case measure => simp [intOf]
  ·go_wp2
   go_roundw
   case rel => first | exact ⟨rfl, .inr (.inr (.inr (⟨rfl, rfl, rfl⟩)))⟩ | exact ⟨trivial, .inr (.inr (.inr (⟨rfl, rfl, rfl⟩)))⟩ | (simp; done)
   case measure => simp [intOf]
  ·go_wp2
   go_ret
   exact ⟨rfl, rfl⟩

set_option maxRecDepth 100000 in
set_option maxHeartbeats 4000000 in
theorem pow_8 (w : World) : Calls Tryz.prog 72 #[.int .u64 10, .int .i64 8] w fun e w' => e = .returned (.int .u64 100000000) ∧ w' = w := by
 go_enter Tryz.func72, Tryz.ntmps72
 go_wp2
 go_loopw [0, 1, 4] (fun x n p wr => wr = w ∧ ((x = .int .u64 10 ∧ n = .int .i64 8 ∧ p = .int .u64 1) ∨ (x = .int .u64 100 ∧ n = .int .i64 4 ∧ p = .int .u64 1) ∨ (x = .int .u64 10000 ∧ n = .int .i64 2 ∧ p = .int .u64 1) ∨ (x = .int .u64 100000000 ∧ n = .int .i64 1 ∧ p = .int .u64 1) ∨ (x = .int .u64 10000000000000000 ∧ n = .int .i64 0 ∧ p = .int .u64 100000000))) (fun _ n _ _ => (intOf n).toNat)
 case atStart => exact ⟨rfl, .inl ⟨rfl, rfl, rfl⟩⟩
 case round =>
  obtain ⟨rfl, hrel⟩ := hrel
  rcases hrel with ⟨rfl, rfl, rfl⟩ | ⟨rfl, rfl, rfl⟩ | ⟨rfl, rfl, rfl⟩ | ⟨rfl, rfl, rfl⟩ | ⟨rfl, rfl, rfl⟩
  ·go_wp2
   go_roundw
   case rel => first | exact ⟨rfl, .inr (.inl ⟨rfl, rfl, rfl⟩)⟩ | exact ⟨trivial, .inr (.inl ⟨rfl, rfl, rfl⟩)⟩ | (simp; done)
   case measure => simp [intOf]
  ·go_wp2
   go_roundw
   case rel => first | exact ⟨rfl, .inr (.inr (.inl ⟨rfl, rfl, rfl⟩))⟩ | exact ⟨trivial, .inr (.inr (.inl ⟨rfl, rfl, rfl⟩))⟩ | (simp; done)
   case measure => simp [intOf]
  ·go_wp2
   go_roundw
   case rel => first | exact ⟨rfl, .inr (.inr (.inr (.inl ⟨rfl, rfl, rfl⟩)))⟩ | exact ⟨trivial, .inr (.inr (.inr (.inl ⟨rfl, rfl, rfl⟩)))⟩ | (simp; done)
   case measure => simp [intOf]
  ·go_wp2
   go_roundw
   case rel => first | exact ⟨rfl, .inr (.inr (.inr (.inr (⟨rfl, rfl, rfl⟩))))⟩ | exact ⟨trivial, .inr (.inr (.inr (.inr (⟨rfl, rfl, rfl⟩))))⟩ | (simp; done)
   case measure => simp [intOf]
  ·go_wp2
   go_ret
   exact ⟨rfl, rfl⟩

set_option maxRecDepth 100000 in
set_option maxHeartbeats 4000000 in
theorem pow_9 (w : World) : Calls Tryz.prog 72 #[.int .u64 10, .int .i64 9] w fun e w' => e = .returned (.int .u64 1000000000) ∧ w' = w := by
 go_enter Tryz.func72, Tryz.ntmps72
 go_wp2
 go_loopw [0, 1, 4] (fun x n p wr => wr = w ∧ ((x = .int .u64 10 ∧ n = .int .i64 9 ∧ p = .int .u64 1) ∨ (x = .int .u64 100 ∧ n = .int .i64 4 ∧ p = .int .u64 10) ∨ (x = .int .u64 10000 ∧ n = .int .i64 2 ∧ p = .int .u64 10) ∨ (x = .int .u64 100000000 ∧ n = .int .i64 1 ∧ p = .int .u64 10) ∨ (x = .int .u64 10000000000000000 ∧ n = .int .i64 0 ∧ p = .int .u64 1000000000))) (fun _ n _ _ => (intOf n).toNat)
 case atStart => exact ⟨rfl, .inl ⟨rfl, rfl, rfl⟩⟩
 case round =>
  obtain ⟨rfl, hrel⟩ := hrel
  rcases hrel with ⟨rfl, rfl, rfl⟩ | ⟨rfl, rfl, rfl⟩ | ⟨rfl, rfl, rfl⟩ | ⟨rfl, rfl, rfl⟩ | ⟨rfl, rfl, rfl⟩
  ·go_wp2
   go_roundw
   case rel => first | exact ⟨rfl, .inr (.inl ⟨rfl, rfl, rfl⟩)⟩ | exact ⟨trivial, .inr (.inl ⟨rfl, rfl, rfl⟩)⟩ | (simp; done)
   case measure => simp [intOf]
  ·go_wp2
   go_roundw
   case rel => first | exact ⟨rfl, .inr (.inr (.inl ⟨rfl, rfl, rfl⟩))⟩ | exact ⟨trivial, .inr (.inr (.inl ⟨rfl, rfl, rfl⟩))⟩ | (simp; done)
   case measure => simp [intOf]
  ·go_wp2
   go_roundw
   case rel => first | exact ⟨rfl, .inr (.inr (.inr (.inl ⟨rfl, rfl, rfl⟩)))⟩ | exact ⟨trivial, .inr (.inr (.inr (.inl ⟨rfl, rfl, rfl⟩)))⟩ | (simp; done)
   case measure => simp [intOf]
  ·go_wp2
   go_roundw
   case rel => first | exact ⟨rfl, .inr (.inr (.inr (.inr (⟨rfl, rfl, rfl⟩))))⟩ | exact ⟨trivial, .inr (.inr (.inr (.inr (⟨rfl, rfl, rfl⟩))))⟩ | (simp; done)
   case measure => simp [intOf]
  ·go_wp2
   go_ret
   exact ⟨rfl, rfl⟩

set_option maxRecDepth 100000 in
set_option maxHeartbeats 4000000 in
theorem pow_10 (w : World) : Calls Tryz.prog 72 #[.int .u64 10, .int .i64 10] w fun e w' => e = .returned (.int .u64 10000000000) ∧ w' = w := by
 go_enter Tryz.func72, Tryz.ntmps72
 go_wp2
 go_loopw [0, 1, 4] (fun x n p wr => wr = w ∧ ((x = .int .u64 10 ∧ n = .int .i64 10 ∧ p = .int .u64 1) ∨ (x = .int .u64 100 ∧ n = .int .i64 5 ∧ p = .int .u64 1) ∨ (x = .int .u64 10000 ∧ n = .int .i64 2 ∧ p = .int .u64 100) ∨ (x = .int .u64 100000000 ∧ n = .int .i64 1 ∧ p = .int .u64 100) ∨ (x = .int .u64 10000000000000000 ∧ n = .int .i64 0 ∧ p = .int .u64 10000000000))) (fun _ n _ _ => (intOf n).toNat)
 case atStart => exact ⟨rfl, .inl ⟨rfl, rfl, rfl⟩⟩
 case round =>
  obtain ⟨rfl, hrel⟩ := hrel
  rcases hrel with ⟨rfl, rfl, rfl⟩ | ⟨rfl, rfl, rfl⟩ | ⟨rfl, rfl, rfl⟩ | ⟨rfl, rfl, rfl⟩ | ⟨rfl, rfl, rfl⟩
  ·go_wp2
   go_roundw
   case rel => first | exact ⟨rfl, .inr (.inl ⟨rfl, rfl, rfl⟩)⟩ | exact ⟨trivial, .inr (.inl ⟨rfl, rfl, rfl⟩)⟩ | (simp; done)
   case measure => simp [intOf]
  ·go_wp2
   go_roundw
   case rel => first | exact ⟨rfl, .inr (.inr (.inl ⟨rfl, rfl, rfl⟩))⟩ | exact ⟨trivial, .inr (.inr (.inl ⟨rfl, rfl, rfl⟩))⟩ | (simp; done)
   case measure => simp [intOf]
  ·go_wp2
   go_roundw
   case rel => first | exact ⟨rfl, .inr (.inr (.inr (.inl ⟨rfl, rfl, rfl⟩)))⟩ | exact ⟨trivial, .inr (.inr (.inr (.inl ⟨rfl, rfl, rfl⟩)))⟩ | (simp; done)
   case measure => simp [intOf]
  ·go_wp2
   go_roundw
   case rel => first | exact ⟨rfl, .inr (.inr (.inr (.inr (⟨rfl, rfl, rfl⟩))))⟩ | exact ⟨trivial, .inr (.inr (.inr (.inr (⟨rfl, rfl, rfl⟩))))⟩ | (simp; done)
   case measure => simp [intOf]
  ·go_wp2
   go_ret
   exact ⟨rfl, rfl⟩

set_option maxRecDepth 100000 in
set_option maxHeartbeats 4000000 in
theorem pow_11 (w : World) : Calls Tryz.prog 72 #[.int .u64 10, .int .i64 11] w fun e w' => e = .returned (.int .u64 100000000000) ∧ w' = w := by
 go_enter Tryz.func72, Tryz.ntmps72
 go_wp2
 go_loopw [0, 1, 4] (fun x n p wr => wr = w ∧ ((x = .int .u64 10 ∧ n = .int .i64 11 ∧ p = .int .u64 1) ∨ (x = .int .u64 100 ∧ n = .int .i64 5 ∧ p = .int .u64 10) ∨ (x = .int .u64 10000 ∧ n = .int .i64 2 ∧ p = .int .u64 1000) ∨ (x = .int .u64 100000000 ∧ n = .int .i64 1 ∧ p = .int .u64 1000) ∨ (x = .int .u64 10000000000000000 ∧ n = .int .i64 0 ∧ p = .int .u64 100000000000))) (fun _ n _ _ => (intOf n).toNat)
 case atStart => exact ⟨rfl, .inl ⟨rfl, rfl, rfl⟩⟩
 case round =>
  obtain ⟨rfl, hrel⟩ := hrel
  rcases hrel with ⟨rfl, rfl, rfl⟩ | ⟨rfl, rfl, rfl⟩ | ⟨rfl, rfl, rfl⟩ | ⟨rfl, rfl, rfl⟩ | ⟨rfl, rfl, rfl⟩
  ·go_wp2
   go_roundw
   case rel => first | exact ⟨rfl, .inr (.inl ⟨rfl, rfl, rfl⟩)⟩ | exact ⟨trivial, .inr (.inl ⟨rfl, rfl, rfl⟩)⟩ | (simp; done)
   case measure => simp [intOf]
  ·go_wp2
   go_roundw
   case rel => first | exact ⟨rfl, .inr (.inr (.inl ⟨rfl, rfl, rfl⟩))⟩ | exact ⟨trivial, .inr (.inr (.inl ⟨rfl, rfl, rfl⟩))⟩ | (simp; done)
   case measure => simp [intOf]
  ·go_wp2
   go_roundw
   case rel => first | exact ⟨rfl, .inr (.inr (.inr (.inl ⟨rfl, rfl, rfl⟩)))⟩ | exact ⟨trivial, .inr (.inr (.inr (.inl ⟨rfl, rfl, rfl⟩)))⟩ | (simp; done)
   case measure => simp [intOf]
  ·go_wp2
   go_roundw
   case rel => first | exact ⟨rfl, .inr (.inr (.inr (.inr (⟨rfl, rfl, rfl⟩))))⟩ | exact ⟨trivial, .inr (.inr (.inr (.inr (⟨rfl, rfl, rfl⟩))))⟩ | (simp; done)
   case measure => simp [intOf]
  ·go_wp2
   go_ret
   exact ⟨rfl, rfl⟩

set_option maxRecDepth 100000 in
set_option maxHeartbeats 4000000 in
theorem pow_12 (w : World) : Calls Tryz.prog 72 #[.int .u64 10, .int .i64 12] w fun e w' => e = .returned (.int .u64 1000000000000) ∧ w' = w := by
 go_enter Tryz.func72, Tryz.ntmps72
 go_wp2
 go_loopw [0, 1, 4] (fun x n p wr => wr = w ∧ ((x = .int .u64 10 ∧ n = .int .i64 12 ∧ p = .int .u64 1) ∨ (x = .int .u64 100 ∧ n = .int .i64 6 ∧ p = .int .u64 1) ∨ (x = .int .u64 10000 ∧ n = .int .i64 3 ∧ p = .int .u64 1) ∨ (x = .int .u64 100000000 ∧ n = .int .i64 1 ∧ p = .int .u64 10000) ∨ (x = .int .u64 10000000000000000 ∧ n = .int .i64 0 ∧ p = .int .u64 1000000000000))) (fun _ n _ _ => (intOf n).toNat)
 case atStart => exact ⟨rfl, .inl ⟨rfl, rfl, rfl⟩⟩
 case round =>
  obtain ⟨rfl, hrel⟩ := hrel
  rcases hrel with ⟨rfl, rfl, rfl⟩ | ⟨rfl, rfl, rfl⟩ | ⟨rfl, rfl, rfl⟩ | ⟨rfl, rfl, rfl⟩ | ⟨rfl, rfl, rfl⟩
  ·go_wp2
   go_roundw
   case rel => first | exact ⟨rfl, .inr (.inl ⟨rfl, rfl, rfl⟩)⟩ | exact ⟨trivial, .inr (.inl ⟨rfl, rfl, rfl⟩)⟩ | (simp; done)
   case measure => simp [intOf]
  ·go_wp2
   go_roundw
   case rel => first | exact ⟨rfl, .inr (.inr (.inl ⟨rfl, rfl, rfl⟩))⟩ | exact ⟨trivial, .inr (.inr (.inl ⟨rfl, rfl, rfl⟩))⟩ | (simp; done)
   case measure => simp [intOf]
  ·go_wp2
   go_roundw
   case rel => first | exact ⟨rfl, .inr (.inr (.inr (.inl ⟨rfl, rfl, rfl⟩)))⟩ | exact ⟨trivial, .inr (.inr (.inr (.inl ⟨rfl, rfl, rfl⟩)))⟩ | (simp; done)
   case measure => simp [intOf]
  ·go_wp2
   go_roundw
   case rel => first | exact ⟨rfl, .inr (.inr (.inr (.inr (⟨rfl, rfl, rfl⟩))))⟩ | exact ⟨trivial, .inr (.inr (.inr (.inr (⟨rfl, rfl, rfl⟩))))⟩ | (simp; done)
   case measure => simp [intOf]
  ·go_wp2
   go_ret
   exact ⟨rfl, rfl⟩

set_option maxRecDepth 100000 in
set_option maxHeartbeats 4000000 in
theorem pow_13 (w : World) : Calls Tryz.prog 72 #[.int .u64 10, .int .i64 13] w fun e w' => e = .returned (.int .u64 10000000000000) ∧ w' = w := by
 go_enter Tryz.func72, Tryz.ntmps72
 go_wp2
 go_loopw [0, 1, 4] (fun x n p wr => wr = w ∧ ((x = .int .u64 10 ∧ n = .int .i64 13 ∧ p = .int .u64 1) ∨ (x = .int .u64 100 ∧ n = .int .i64 6 ∧ p = .int .u64 10) ∨ (x = .int .u64 10000 ∧ n = .int .i64 3 ∧ p = .int .u64 10) ∨ (x = .int .u64 100000000 ∧ n = .int .i64 1 ∧ p = .int .u64 100000) ∨ (x = .int .u64 10000000000000000 ∧ n = .int .i64 0 ∧ p = .int .u64 10000000000000))) (fun _ n _ _ => (intOf n).toNat)
 case atStart => exact ⟨rfl, .inl ⟨rfl, rfl, rfl⟩⟩
 case round =>
  obtain ⟨rfl, hrel⟩ := hrel
  rcases hrel with ⟨rfl, rfl, rfl⟩ | ⟨rfl, rfl, rfl⟩ | ⟨rfl, rfl, rfl⟩ | ⟨rfl, rfl, rfl⟩ | ⟨rfl, rfl, rfl⟩
  ·go_wp2
   go_roundw
   case rel => first | exact ⟨rfl, .inr (.inl ⟨rfl, rfl, rfl⟩)⟩ | exact ⟨trivial, .inr (.inl ⟨rfl, rfl, rfl⟩)⟩ | (simp; done)
   case measure => simp [intOf]
  ·go_wp2
   go_roundw
   case rel => first | exact ⟨rfl, .inr (.inr (.inl ⟨rfl, rfl, rfl⟩))⟩ | exact ⟨trivial, .inr (.inr (.inl ⟨rfl, rfl, rfl⟩))⟩ | (simp; done)
   case measure => simp [intOf]
  ·go_wp2
   go_roundw
   case rel => first | exact ⟨rfl, .inr (.inr (.inr (.inl ⟨rfl, rfl, rfl⟩)))⟩ | exact ⟨trivial, .inr (.inr (.inr (.inl ⟨rfl, rfl, rfl⟩)))⟩ | (simp; done)
   case measure => simp [intOf]
  ·go_wp2
   go_roundw
   case rel => first | exact ⟨rfl, .inr (.inr (.inr (.inr (⟨rfl, rfl, rfl⟩))))⟩ | exact ⟨trivial, .inr (.inr (.inr (.inr (⟨rfl, rfl, rfl⟩))))⟩ | (simp; done)
   case measure => simp [intOf]
  ·go_wp2
   go_ret
   exact ⟨rfl, rfl⟩

set_option maxRecDepth 100000 in
set_option maxHeartbeats 4000000 in
theorem pow_14 (w : World) : Calls Tryz.prog 72 #[.int .u64 10, .int .i64 14] w fun e w' => e = .returned (.int .u64 100000000000000) ∧ w' = w := by
 go_enter Tryz.func72, Tryz.ntmps72
 go_wp2
 go_loopw [0, 1, 4] (fun x n p wr => wr = w ∧ ((x = .int .u64 10 ∧ n = .int .i64 14 ∧ p = .int .u64 1) ∨ (x = .int .u64 100 ∧ n = .int .i64 7 ∧ p = .int .u64 1) ∨ (x = .int .u64 10000 ∧ n = .int .i64 3 ∧ p = .int .u64 100) ∨ (x = .int .u64 100000000 ∧ n = .int .i64 1 ∧ p = .int .u64 1000000) ∨ (x = .int .u64 10000000000000000 ∧ n = .int .i64 0 ∧ p = .int .u64 100000000000000))) (fun _ n _ _ => (intOf n).toNat)
 case atStart => exact ⟨rfl, .inl ⟨rfl, rfl, rfl⟩⟩
 case round =>
  obtain ⟨rfl, hrel⟩ := hrel
  rcases hrel with ⟨rfl, rfl, rfl⟩ | ⟨rfl, rfl, rfl⟩ | ⟨rfl, rfl, rfl⟩ | ⟨rfl, rfl, rfl⟩ | ⟨rfl, rfl, rfl⟩
  ·go_wp2
   go_roundw
   case rel => first | exact ⟨rfl, .inr (.inl ⟨rfl, rfl, rfl⟩)⟩ | exact ⟨trivial, .inr (.inl ⟨rfl, rfl, rfl⟩)⟩ | (simp; done)
   case measure => simp [intOf]
  ·go_wp2
   go_roundw
   case rel => first | exact ⟨rfl, .inr (.inr (.inl ⟨rfl, rfl, rfl⟩))⟩ | exact ⟨trivial, .inr (.inr (.inl ⟨rfl, rfl, rfl⟩))⟩ | (simp; done)
   case measure => simp [intOf]
  ·go_wp2
   go_roundw
   case rel => first | exact ⟨rfl, .inr (.inr (.inr (.inl ⟨rfl, rfl, rfl⟩)))⟩ | exact ⟨trivial, .inr (.inr (.inr (.inl ⟨rfl, rfl, rfl⟩)))⟩ | (simp; done)
   case measure => simp [intOf]
  ·go_wp2
   go_roundw
   case rel => first | exact ⟨rfl, .inr (.inr (.inr (.inr (⟨rfl, rfl, rfl⟩))))⟩ | exact ⟨trivial, .inr (.inr (.inr (.inr (⟨rfl, rfl, rfl⟩))))⟩ | (simp; done)
   case measure => simp [intOf]
  ·go_wp2
   go_ret
   exact ⟨rfl, rfl⟩

set_option maxRecDepth 100000 in
set_option maxHeartbeats 4000000 in
theorem pow_15 (w : World) : Calls Tryz.prog 72 #[.int .u64 10, .int .i64 15] w fun e w' => e = .returned (.int .u64 1000000000000000) ∧ w' = w := by
 go_enter Tryz.func72, Tryz.ntmps72
 go_wp2
 go_loopw [0, 1, 4] (fun x n p wr => wr = w ∧ ((x = .int .u64 10 ∧ n = .int .i64 15 ∧ p = .int .u64 1) ∨ (x = .int .u64 100 ∧ n = .int .i64 7 ∧ p = .int .u64 10) ∨ (x = .int .u64 10000 ∧ n = .int .i64 3 ∧ p = .int .u64 1000) ∨ (x = .int .u64 100000000 ∧ n = .int .i64 1 ∧ p = .int .u64 10000000) ∨ (x = .int .u64 10000000000000000 ∧ n = .int .i64 0 ∧ p = .int .u64 1000000000000000))) (fun _ n _ _ => (intOf n).toNat)
 case atStart => exact ⟨rfl, .inl ⟨rfl, rfl, rfl⟩⟩
 case round =>
  obtain ⟨rfl, hrel⟩ := hrel
  rcases hrel with ⟨rfl, rfl, rfl⟩ | ⟨rfl, rfl, rfl⟩ | ⟨rfl, rfl, rfl⟩ | ⟨rfl, rfl, rfl⟩ | ⟨rfl, rfl, rfl⟩
  ·go_wp2
   go_roundw
   case rel => first | exact ⟨rfl, .inr (.inl ⟨rfl, rfl, rfl⟩)⟩ | exact ⟨trivial, .inr (.inl ⟨rfl, rfl, rfl⟩)⟩ | (simp; done)
   case measure => simp [intOf]
  ·go_wp2
   go_roundw
   case rel => first | exact ⟨rfl, .inr (.inr (.inl ⟨rfl, rfl, rfl⟩))⟩ | exact ⟨trivial, .inr (.inr (.inl ⟨rfl, rfl, rfl⟩))⟩ | (simp; done)
   case measure => simp [intOf]
  ·go_wp2
   go_roundw
   case rel => first | exact ⟨rfl, .inr (.inr (.inr (.inl ⟨rfl, rfl, rfl⟩)))⟩ | exact ⟨trivial, .inr (.inr (.inr (.inl ⟨rfl, rfl, rfl⟩)))⟩ | (simp; done)
   case measure => simp [intOf]
  ·go_wp2
   go_roundw
   case rel => first | exact ⟨rfl, .inr (.inr (.inr (.inr (⟨rfl, rfl, rfl⟩))))⟩ | exact ⟨trivial, .inr (.inr (.inr (.inr (⟨rfl, rfl, rfl⟩))))⟩ | (simp; done)
   case measure => simp [intOf]
  ·go_wp2
   go_ret
   exact ⟨rfl, rfl⟩

set_option maxRecDepth 100000 in
set_option maxHeartbeats 4000000 in
theorem pow_16 (w : World) : Calls Tryz.prog 72 #[.int .u64 10, .int .i64 16] w fun e w' => e = .returned (.int .u64 10000000000000000) ∧ w' = w := by
 go_enter Tryz.func72, Tryz.ntmps72
 go_wp2
 go_loopw [0, 1, 4] (fun x n p wr => wr = w ∧ ((x = .int .u64 10 ∧ n = .int .i64 16 ∧ p = .int .u64 1) ∨ (x = .int .u64 100 ∧ n = .int .i64 8 ∧ p = .int .u64 1) ∨ (x = .int .u64 10000 ∧ n = .int .i64 4 ∧ p = .int .u64 1) ∨ (x = .int .u64 100000000 ∧ n = .int .i64 2 ∧ p = .int .u64 1) ∨ (x = .int .u64 10000000000000000 ∧ n = .int .i64 1 ∧ p = .int .u64 1) ∨ (x = .int .u64 9632337040368467968 ∧ n = .int .i64 0 ∧ p = .int .u64 10000000000000000))) (fun _ n _ _ => (intOf n).toNat)
 case atStart => exact ⟨rfl, .inl ⟨rfl, rfl, rfl⟩⟩
 case round =>
  obtain ⟨rfl, hrel⟩ := hrel
  rcases hrel with ⟨rfl, rfl, rfl⟩ | ⟨rfl, rfl, rfl⟩ | ⟨rfl, rfl, rfl⟩ | ⟨rfl, rfl, rfl⟩ | ⟨rfl, rfl, rfl⟩ | ⟨rfl, rfl, rfl⟩
  ·go_wp2
   go_roundw
   case rel => first | exact ⟨rfl, .inr (.inl ⟨rfl, rfl, rfl⟩)⟩ | exact ⟨trivial, .inr (.inl ⟨rfl, rfl, rfl⟩)⟩ | (simp; done)
   case measure => simp [intOf]
  ·go_wp2
   go_roundw
   case rel => first | exact ⟨rfl, .inr (.inr (.inl ⟨rfl, rfl, rfl⟩))⟩ | exact ⟨trivial, .inr (.inr (.inl ⟨rfl, rfl, rfl⟩))⟩ | (simp; done)
   case measure => simp [intOf]
  ·go_wp2
   go_roundw
   case rel => first | exact ⟨rfl, .inr (.inr (.inr (.inl ⟨rfl, rfl, rfl⟩)))⟩ | exact ⟨trivial, .inr (.inr (.inr (.inl ⟨rfl, rfl, rfl⟩)))⟩ | (simp; done)
   case measure => simp [intOf]
  ·go_wp2
   go_roundw
   case rel => first | exact ⟨rfl, .inr (.inr (.inr (.inr (.inl ⟨rfl, rfl, rfl⟩))))⟩ | exact ⟨trivial, .inr (.inr (.inr (.inr (.inl ⟨rfl, rfl, rfl⟩))))⟩ | (simp; done)
   case measure => simp [intOf]
  ·go_wp2
   go_roundw
   case rel => first | exact ⟨rfl, .inr (.inr (.inr (.inr (.inr (⟨rfl, rfl, rfl⟩)))))⟩ | exact ⟨trivial, .inr (.inr (.inr (.inr (.inr (⟨rfl, rfl, rfl⟩)))))⟩ | (simp; done)
   case measure => simp [intOf]
  ·go_wp2
   go_ret
   exact ⟨rfl, rfl⟩

set_option maxRecDepth 100000 in
set_option maxHeartbeats 4000000 in
theorem pow_17 (w : World) : Calls Tryz.prog 72 #[.int .u64 10, .int .i64 17] w fun e w' => e = .returned (.int .u64 100000000000000000) ∧ w' = w := by
 go_enter Tryz.func72, Tryz.ntmps72
 go_wp2
 go_loopw [0, 1, 4] (fun x n p wr => wr = w ∧ ((x = .int .u64 10 ∧ n = .int .i64 17 ∧ p = .int .u64 1) ∨ (x = .int .u64 100 ∧ n = .int .i64 8 ∧ p = .int .u64 10) ∨ (x = .int .u64 10000 ∧ n = .int .i64 4 ∧ p = .int .u64 10) ∨ (x = .int .u64 100000000 ∧ n = .int .i64 2 ∧ p = .int .u64 10) ∨ (x = .int .u64 10000000000000000 ∧ n = .int .i64 1 ∧ p = .int .u64 10) ∨ (x = .int .u64 9632337040368467968 ∧ n = .int .i64 0 ∧ p = .int .u64 100000000000000000))) (fun _ n _ _ => (intOf n).toNat)
 case atStart => exact ⟨rfl, .inl ⟨rfl, rfl, rfl⟩⟩
 case round =>
  obtain ⟨rfl, hrel⟩ := hrel
  rcases hrel with ⟨rfl, rfl, rfl⟩ | ⟨rfl, rfl, rfl⟩ | ⟨rfl, rfl, rfl⟩ | ⟨rfl, rfl, rfl⟩ | ⟨rfl, rfl, rfl⟩ | ⟨rfl, rfl, rfl⟩
  ·go_wp2
   go_roundw
   case rel => first | exact ⟨rfl, .inr (.inl ⟨rfl, rfl, rfl⟩)⟩ | exact ⟨trivial, .inr (.inl ⟨rfl, rfl, rfl⟩)⟩ | (simp; done)
   case measure => simp [intOf]
  ·go_wp2
   go_roundw
   case rel => first | exact ⟨rfl, .inr (.inr (.inl ⟨rfl, rfl, rfl⟩))⟩ | exact ⟨trivial, .inr (.inr (.inl ⟨rfl, rfl, rfl⟩))⟩ | (simp; done)
   case measure => simp [intOf]
  ·go_wp2
   go_roundw
   case rel => first | exact ⟨rfl, .inr (.inr (.inr (.inl ⟨rfl, rfl, rfl⟩)))⟩ | exact ⟨trivial, .inr (.inr (.inr (.inl ⟨rfl, rfl, rfl⟩)))⟩ | (simp; done)
   case measure => simp [intOf]
  ·go_wp2
   go_roundw
   case rel => first | exact ⟨rfl, .inr (.inr (.inr (.inr (.inl ⟨rfl, rfl, rfl⟩))))⟩ | exact ⟨trivial, .inr (.inr (.inr (.inr (.inl ⟨rfl, rfl, rfl⟩))))⟩ | (simp; done)
   case measure => simp [intOf]
  ·go_wp2
   go_roundw
   case rel => first | exact ⟨rfl, .inr (.inr (.inr (.inr (.inr (⟨rfl, rfl, rfl⟩)))))⟩ | exact ⟨trivial, .inr (.inr (.inr (.inr (.inr (⟨rfl, rfl, rfl⟩)))))⟩ | (simp; done)
   case measure => simp [intOf]
  ·go_wp2
   go_ret
   exact ⟨rfl, rfl⟩

set_option maxRecDepth 100000 in
set_option maxHeartbeats 4000000 in
theorem pow_18 (w : World) : Calls Tryz.prog 72 #[.int .u64 10, .int .i64 18] w fun e w' => e = .returned (.int .u64 1000000000000000000) ∧ w' = w := by
 go_enter Tryz.func72, Tryz.ntmps72
 go_wp2
 go_loopw [0, 1, 4] (fun x n p wr => wr = w ∧ ((x = .int .u64 10 ∧ n = .int .i64 18 ∧ p = .int .u64 1) ∨ (x = .int .u64 100 ∧ n = .int .i64 9 ∧ p = .int .u64 1) ∨ (x = .int .u64 10000 ∧ n = .int .i64 4 ∧ p = .int .u64 100) ∨ (x = .int .u64 100000000 ∧ n = .int .i64 2 ∧ p = .int .u64 100) ∨ (x = .int .u64 10000000000000000 ∧ n = .int .i64 1 ∧ p = .int .u64 100) ∨ (x = .int .u64 9632337040368467968 ∧ n = .int .i64 0 ∧ p = .int .u64 1000000000000000000))) (fun _ n _ _ => (intOf n).toNat)
 case atStart => exact ⟨rfl, .inl ⟨rfl, rfl, rfl⟩⟩
 case round =>
  obtain ⟨rfl, hrel⟩ := hrel
  rcases hrel with ⟨rfl, rfl, rfl⟩ | ⟨rfl, rfl, rfl⟩ | ⟨rfl, rfl, rfl⟩ | ⟨rfl, rfl, rfl⟩ | ⟨rfl, rfl, rfl⟩ | ⟨rfl, rfl, rfl⟩
  ·go_wp2
   go_roundw
   case rel => first | exact ⟨rfl, .inr (.inl ⟨rfl, rfl, rfl⟩)⟩ | exact ⟨trivial, .inr (.inl ⟨rfl, rfl, rfl⟩)⟩ | (simp; done)
   case measure => simp [intOf]
  ·go_wp2
   go_roundw
   case rel => first | exact ⟨rfl, .inr (.inr (.inl ⟨rfl, rfl, rfl⟩))⟩ | exact ⟨trivial, .inr (.inr (.inl ⟨rfl, rfl, rfl⟩))⟩ | (simp; done)
   case measure => simp [intOf]
  ·go_wp2
   go_roundw
   case rel => first | exact ⟨rfl, .inr (.inr (.inr (.inl ⟨rfl, rfl, rfl⟩)))⟩ | exact ⟨trivial, .inr (.inr (.inr (.inl ⟨rfl, rfl, rfl⟩)))⟩ | (simp; done)
   case measure => simp [intOf]
  ·go_wp2
   go_roundw
   case rel => first | exact ⟨rfl, .inr (.inr (.inr (.inr (.inl ⟨rfl, rfl, rfl⟩))))⟩ | exact ⟨trivial, .inr (.inr (.inr (.inr (.inl ⟨rfl, rfl, rfl⟩))))⟩ | (simp; done)
   case measure => simp [intOf]
  ·go_wp2
   go_roundw
   case rel => first | exact ⟨rfl, .inr (.inr (.inr (.inr (.inr (⟨rfl, rfl, rfl⟩)))))⟩ | exact ⟨trivial, .inr (.inr (.inr (.inr (.inr (⟨rfl, rfl, rfl⟩)))))⟩ | (simp; done)
   case measure => simp [intOf]
  ·go_wp2
   go_ret
   exact ⟨rfl, rfl⟩

theorem pow_ (n : Nat) (h1 : 1 ≤ n) (h2 : n ≤ 18) (w : World) : Calls Tryz.prog 72 #[.int .u64 10, .int .i64 n] w fun e w' => e = .returned (.int .u64 (10 ^ n : Nat)) ∧ w' = w := by
 have h : n = 1 ∨ n = 2 ∨ n = 3 ∨ n = 4 ∨ n = 5 ∨ n = 6 ∨ n = 7 ∨ n = 8 ∨ n = 9 ∨ n = 10 ∨ n = 11 ∨ n = 12 ∨ n = 13 ∨ n = 14 ∨ n = 15 ∨ n = 16 ∨ n = 17 ∨ n = 18 := by omega
 rcases h with rfl | rfl | rfl | rfl | rfl | rfl | rfl | rfl | rfl | rfl | rfl | rfl | rfl | rfl | rfl | rfl | rfl | rfl
 ·exact pow_1 w
 ·exact pow_2 w
 ·exact pow_3 w
 ·exact pow_4 w
 ·exact pow_5 w
 ·exact pow_6 w
 ·exact pow_7 w
 ·exact pow_8 w
 ·exact pow_9 w
 ·exact pow_10 w
 ·exact pow_11 w
 ·exact pow_12 w
 ·exact pow_13 w
 ·exact pow_14 w
 ·exact pow_15 w
 ·exact pow_16 w
 ·exact pow_17 w
 ·exact pow_18 w
end Go.Proofs.YtdjkekgfeadmoaaGreatDoorG

/- Contracts of math/big's setWord and mulAddWW (a number times a word, and a word), the number and the result the same row or a new one. -/
namespace Go.Proofs.YtdjkekgfeadmoaaGreatDoorG
open Go.RowKit Go.Proofs.YtdjkekgfeadmoaaGreatDoorW.PrintWords Go.Proofs.YtdjkekgfeadmoaaGreatDoorW.PrintLast
set_option linter.unusedVariables false
set_option linter.unusedSimpArgs false

theorem mulAddVWW_ (w : World) (g gx n cz cx y r : Nat) (e : TypeId) (full xs : List Nat) (hz : Ws w g e full) (hx : Ws w gx e xs) (hn : n ≤ full.length) (hxn : n ≤ xs.length) (hsame : gx = g → xs = full) (hxs : ∀ x ∈ xs, IsW x) (hy : IsW y) (hr : IsW r) (hbig : n ≤ 4611686018427387904) :
  Calls Tryz.prog 79 #[.slice (some ⟨g, 0, none⟩) n cz, .slice (some ⟨gx, 0, none⟩) n cx, .int .u64 y, .int .u64 r] w fun e' w' =>
   e' = .returned (.int .u64 ((mva (xs.take n) y r).2 : Nat)) ∧ Ws w' g e ((mva (xs.take n) y r).1 ++ full.drop n) ∧ w.grownBy w' (some g) := by
 have H := Aside0.mk (mulAddVWW_g_ w g gx n cz cx y r e full xs hz hx hn hxn hsame hxs hy hr hbig)
 clear hz hx hn hxn hsame hxs hy hr hbig
 go_enter Tryz.func79, Tryz.ntmps79
 go_wp2_with (first | (go_at_call 88; refine H.out.mono ?_; rintro e' w' ⟨rfl, h1, h2⟩))
 go_ret
 exact ⟨rfl, h1, h2⟩

theorem Ws.alloc {w : World} {e : TypeId} (l : List Nat) : Ws (w.alloc (.cells (l.map NumC).toArray e)) w.heap.size e l := by
 have h : (w.alloc (.cells (l.map NumC).toArray e)).heap = w.heap.push (.cells (l.map NumC).toArray e) := rfl
 unfold Ws
 rw [h]
 simp
theorem below_alloc_ {B : Nat} {w : World} (o : Obj) (h : B ≤ w.heap.size) : Below B w (w.alloc o) := (Below.refl B w).alloc h o
theorem below_grown_ {B g : Nat} {a w w' : World} (h : Below B a w) (hg : w.grownBy w' (some g)) (hB : B ≤ w.heap.size) (hr : B ≤ g) : Below B a w' := h.grown hg hB (fun k hk => by cases hk; exact hr)
theorem below_setCell {B g i : Nat} {a w : World} {v : Value} (h : Below B a w) (hr : B ≤ g) : Below B a (w.setCell ⟨g, i, none⟩ v) := h.setCell hr _

theorem setWord_zero (w : World) (p : Option Addr) (len cap : Nat) :
  Calls Tryz.prog 77 #[.slice p len cap, .int .u64 0] w fun e w' => e = .returned (.slice p 0 cap) ∧ w' = w := by
 cases p with
 | none =>
  go_enter Tryz.func77, Tryz.ntmps77
  go_wp2
  go_ret
  exact ⟨rfl, rfl⟩
 | some a =>
  go_enter Tryz.func77, Tryz.ntmps77
  go_wp2
  go_ret
  exact ⟨rfl, rfl⟩
theorem setWord_reuse (w : World) (g len cap r : Nat) (full : List Nat) (hw : Ws w g 71 full) (hc : 1 ≤ cap) (hcf : full.length = cap) (hr : r ≠ 0) :
  Calls Tryz.prog 77 #[.slice (some ⟨g, 0, none⟩) len cap, .int .u64 (r : Int)] w fun e w' => e = .returned (.slice (some ⟨g, 0, none⟩) 1 cap) ∧ Ws w' g 71 (full.set 0 r) ∧ w' = w.setCell ⟨g, 0, none⟩ (.int .u64 (r : Int)) := by
 have b1 : ((r : Int) == 0) = false := by rw [beq_eq_false_iff_ne]; omega
 have b2 : ¬ ((r : Int) = 0) := by omega
 have hd := hw.cell 0 (by omega)
 obtain ⟨d, hdd⟩ : ∃ d, d = full.getD 0 0 := ⟨_, rfl⟩
 rw [← hdd] at hd
 have hf := hw.free 0
 have HS := Aside0.mk (hw.set 0 r)
 have HM := Aside0.mk (make_reuse w g len cap 1 hc)
 clear hw hdd
 go_enter Tryz.func77, Tryz.ntmps77
 go_wp2_with (first | (go_at_call 78; refine HM.out.mono ?_; rintro e' w' ⟨rfl, rfl⟩))
 go_ret
 exact ⟨rfl, HS.out, rfl⟩
theorem setWord_fresh (w : World) (p : Option Addr) (len r : Nat) (hr : r ≠ 0) :
  Calls Tryz.prog 77 #[.slice p len 0, .int .u64 (r : Int)] w fun e w' => ∃ c, 1 ≤ c ∧ c ≤ 5 ∧ e = .returned (.slice (some ⟨w.heap.size, 0, none⟩) 1 c) ∧ Ws w' w.heap.size 71 ((List.replicate c 0).set 0 r) ∧ (∀ B, B ≤ w.heap.size → Below B w w') := by
 have b1 : ((r : Int) == 0) = false := by rw [beq_eq_false_iff_ne]; omega
 have b2 : ¬ ((r : Int) = 0) := by omega
 have HM := Aside0.mk (make_fresh w p len 0 1 (by omega) (by omega))
 go_enter Tryz.func77, Tryz.ntmps77
 go_upto_region 4 with (first | (go_at_call 78; refine HM.out.mono ?_; rintro e' w' ⟨c, hc1, hc2, rfl, hw'⟩; have HW' := Aside0.mk hw'; clear hw'))
 have hw' := HW'.out
 have hw0 : Ws w' w.heap.size 71 (List.replicate c 0) := by
  rw [hw']
  have := Ws.alloc (w := w) (e := 71) (List.replicate c 0)
  rwa [List.map_replicate] at this
 have hd := hw0.cell 0 (by simp; omega)
 obtain ⟨d, hdd⟩ : ∃ d, d = (List.replicate c 0).getD 0 0 := ⟨_, rfl⟩
 rw [← hdd] at hd
 have hf := hw0.free 0
 have HS := Aside0.mk (hw0.set 0 r)
 have HB : Aside0 (∀ B, B ≤ w.heap.size → Below B w (w'.setCell ⟨w.heap.size, 0, none⟩ (.int .u64 (r : Int)))) := ⟨fun B hB => below_setCell (by rw [hw']; exact below_alloc_ _ hB) hB⟩
 obtain ⟨G, hG⟩ : ∃ G, G = w.heap.size := ⟨_, rfl⟩
 rw [← hG] at hd hf HS HB ⊢
 have HG := Aside0.mk hG
 have HC := Aside0.mk (And.intro hc1 hc2)
 have b3 : ((0 : Int) < (1 : Int)) := by omega
 clear hw0 hdd hw' HW' hG hc1 hc2
 go_wp2
 go_ret
 refine ⟨c, HC.out.1, HC.out.2, ?_, ?_, ?_⟩
 ·rw [← HG.out]; rfl
 ·rw [← HG.out]; exact HS.out
 ·rw [← HG.out]; exact HB.out

theorem trimW_idem (l : List Nat) : trimW (trimW l) = trimW l := by
 have : ∀ (n : Nat) (l : List Nat), l.length = n → trimW (trimW l) = trimW l := by
  intro n
  induction n with
  | zero => intro l h; rw [List.length_eq_zero_iff.1 h]; rfl
  | succ n ih =>
   intro l h
   have hne : l ≠ [] := by intro e; subst e; simp at h
   obtain ⟨m, x, rfl⟩ : ∃ m x, l = m ++ [x] := ⟨l.dropLast, l.getLast hne, (List.dropLast_concat_getLast hne).symm⟩
   by_cases hx : x = 0
   ·subst hx
    rw [trimW_snoc_zero]
    exact ih m (by simpa using h)
   ·rw [trimW_snoc _ _ hx, trimW_snoc _ _ hx]
 exact this _ l rfl
theorem trimW_length (l : List Nat) : (trimW l).length ≤ l.length := by
 unfold trimW
 rw [List.length_reverse]
 have := (List.dropWhile_sublist (l := l.reverse) (fun x => decide (x = 0))).length_le
 rw [List.length_reverse] at this
 exact this
theorem take_of_take {l full : List Nat} {n k : Nat} (hk : k ≤ n) (hn : n ≤ full.length) (h : (full.take n) = l) : (full.take k).length = k := by rw [List.length_take]; omega
theorem replicate_words (c : Nat) : ∀ x ∈ List.replicate c 0, IsW x := by
 intro x hx
 rw [List.mem_replicate] at hx
 rw [hx.2]
 unfold IsW W64
 omega
theorem set_words {l : List Nat} (h : ∀ x ∈ l, IsW x) {v : Nat} (hv : IsW v) (i : Nat) : ∀ x ∈ l.set i v, IsW x := by
 intro x hx
 rcases List.mem_or_eq_of_mem_set hx with h2 | h2
 ·exact h x h2
 ·rw [h2]; exact hv

set_option maxRecDepth 100000 in
/-- The end of mulAddWW: the product, the word that is left over stored behind it, the zeros cut off: from the world in which the row of n + 1 words is there. -/
theorem mulAdd_tail (w wm : World) (B g gx n cap cx y r : Nat) (full xs : List Nat) (hz : Ws wm g 71 full) (hx : Ws wm gx 71 xs) (hn : n + 1 ≤ full.length) (hcap : full.length = cap) (hxn : n ≤ xs.length) (hsame : gx = g → xs = full) (hxs : ∀ x ∈ xs, IsW x) (hfs : ∀ x ∈ full, IsW x)
  (hy : IsW y) (hy0 : y ≠ 0) (hr : IsW r) (hn0 : n ≠ 0) (hbig : cap ≤ 1000000000) (hBg : B ≤ g) (hB : Below B w wm) (hBs : B ≤ wm.heap.size)
  (hm : ∀ len, Calls Tryz.prog 78 #[.slice (some ⟨gx, 0, none⟩) len cx, .int .i64 ((n + 1 : Nat) : Int)] w fun e w' => e = .returned (.slice (some ⟨g, 0, none⟩) (n + 1) cap) ∧ w' = wm) :
  Calls Tryz.prog 71 #[.slice (some ⟨gx, 0, none⟩) n cx, .slice (some ⟨gx, 0, none⟩) n cx, .int .u64 (y : Int), .int .u64 (r : Int)] w fun e w' => ∃ v' l', e = .returned v' ∧ NatS w' B v' l' ∧ num l' = num (xs.take n) * y + r ∧ l' = trimW l' ∧ l'.length ≤ n + 1 ∧ Below B w w' := by
 have b1 : ((n : Int) == 0) = false := by rw [beq_eq_false_iff_ne]; omega
 have b2 : ¬ ((n : Int) = 0) := by omega
 have b3 : ((y : Int) == 0) = false := by rw [beq_eq_false_iff_ne]; omega
 have b4 : ¬ ((y : Int) = 0) := by omega
 have e1 : ((n + 1 : Nat) : Int) = (n : Int) + 1 := by omega
 have e2 : wrap64 ((n : Int) + 1) = (n : Int) + 1 := by unfold wrap64; omega
 have b7 : n ≤ cap := by omega
 have b8 : ((n : Int) ≤ (cap : Int)) := by omega
 have HM := Aside0.mk hm
 have HV := Aside0.mk (mulAddVWW_ wm g gx n cap cx y r 71 full xs hz hx (by omega) hxn hsame hxs hy hr (by omega))
 have F := Aside0.mk (And.intro hz (And.intro hn (And.intro hcap (And.intro hxs (And.intro hfs (And.intro hy (And.intro hr (And.intro hbig (And.intro hBg (And.intro hB (And.intro hBs hxn)))))))))))
 clear hz hx hn hxn hsame hxs hfs hy hr hy0 hn0 hbig hBg hB hBs hm hcap
 go_enter Tryz.func71, Tryz.ntmps71
 obtain ⟨m, hmv⟩ : ∃ m, m = mva (xs.take n) y r := ⟨_, rfl⟩
 rw [← hmv] at HV
 have HMV := Aside0.mk hmv
 clear hmv
 have hcell : ∀ w2, Ws w2 g 71 (m.1 ++ full.drop n) → (∃ d : Nat, w2.cell? ⟨g, n, none⟩ = some (.int .u64 d)) ∧ w2.frozen? ⟨g, n, none⟩ = false ∧ Ws (w2.setCell ⟨g, n, none⟩ (.int .u64 (m.2 : Int))) g 71 ((m.1 ++ full.drop n).set n m.2) := by
  intro w2 h
  have hl : n < (m.1 ++ full.drop n).length := by
   rw [HMV.out, List.length_append, mva_length, List.length_take, List.length_drop]
   have := F.out.2.1
   have := F.out.2.2.2.2.2.2.2.2.2.2.2
   omega
  exact ⟨⟨_, h.cell n hl⟩, h.free n, h.set n m.2⟩
 have HCELL := Aside0.mk hcell
 clear hcell
 have b6 : ((n : Int) < (n : Int) + 1) := by omega
 have hnorm : ∀ w3, Ws w3 g 71 ((m.1 ++ full.drop n).set n m.2) → Calls Tryz.prog 74 #[.slice (some ⟨g, 0, none⟩) (n + 1) cap] w3 fun e w' => ∃ k, k ≤ n + 1 ∧ trimW (((m.1 ++ full.drop n).set n m.2).take (n + 1)) = ((m.1 ++ full.drop n).set n m.2).take k ∧ e = .returned (.slice (some ⟨g, 0, none⟩) k cap) ∧ w' = w3 := by
  intro w3 h
  have h2 := F.out.2.1
  have h3 := F.out.2.2.2.2.2.2.2.2.2.2.2
  have h4 := F.out.2.2.1
  have h5 := F.out.2.2.2.2.2.2.2.1
  exact norm_ w3 g (n + 1) cap _ h (by rw [List.length_set, HMV.out, List.length_append, mva_length, List.length_take, List.length_drop]; omega) (by omega) (by omega)
 have HNORM := Aside0.mk hnorm
 clear hnorm
 go_wp2_with (first
  | (go_at_call 78; rw [← e1]; refine (HM.out _).mono ?_; rintro e' w' ⟨rfl, rfl⟩)
  | (go_at_call 79; refine HV.out.mono ?_; rintro e' w2 ⟨rfl, h1, h2⟩; obtain ⟨⟨d, hd⟩, hf, hs⟩ := HCELL.out w2 h1; have HS := Aside0.mk hs; have HG2 := Aside0.mk h2; clear h1 h2 hs)
  | (go_at_call 74; refine (HNORM.out _ HS.out).mono ?_; rintro e' w3 ⟨k, hk, ht, rfl, rfl⟩; have HT := Aside0.mk (And.intro hk ht); clear hk ht))
 go_ret
 obtain ⟨f1, f2, f3, f4, f5, f6, f7, f8, f9, f10, f11, f12⟩ := F.out
 obtain ⟨hk, ht⟩ := HT.out
 have hml : m.1.length = n := by rw [HMV.out, mva_length, List.length_take]; omega
 have hfull2 : ((m.1 ++ full.drop n).set n m.2) = m.1 ++ [m.2] ++ (full.drop n).drop 1 := set_at _ _ _ _ hml (by rw [List.length_append, hml, List.length_drop]; omega)
 have hlen2 : ((m.1 ++ full.drop n).set n m.2).length = full.length := by rw [List.length_set, List.length_append, hml, List.length_drop]; omega
 have htk : ((m.1 ++ full.drop n).set n m.2).take (n + 1) = m.1 ++ [m.2] := by
  rw [hfull2, List.take_append_of_le_length (by rw [List.length_append, hml]; simp), List.take_of_length_le (by rw [List.length_append, hml]; simp)]
 have hkl : (((m.1 ++ full.drop n).set n m.2).take k).length = k := by rw [List.length_take]; omega
 rw [htk] at ht
 have hwords := mva_words (xs.take n) y r (fun x hx => f4 x (List.mem_of_mem_take hx)) f6 f7
 rw [← HMV.out] at hwords
 refine ⟨_, ((m.1 ++ full.drop n).set n m.2).take k, rfl, .inr ⟨g, _, ?_, f9, HS.out, ?_, ?_, ?_, ?_⟩, ?_, ?_, ?_, ?_⟩
 ·rw [hkl, hlen2, f3]
  rfl
 ·rw [hkl]
 ·rw [hkl, hlen2]; omega
 ·rw [hlen2, f3]; exact f8
 ·intro x hx
  rw [hfull2] at hx
  rcases List.mem_append.1 hx with hx | hx
  ·rcases List.mem_append.1 hx with hx | hx
   ·exact hwords.1 x hx
   ·rw [List.mem_singleton.1 hx]; exact hwords.2
  ·exact f5 x (List.mem_of_mem_drop (List.mem_of_mem_drop hx))
 ·rw [← ht, num_trimW, HMV.out, mva_num]
 ·rw [← ht]
  exact (trimW_idem _).symm
 ·rw [hkl]; exact hk
 ·exact below_setCell (below_grown_ f10 HG2.out f11 f9) f9

theorem make_many (w : World) (p : Option Addr) (len cap n : Nat) (hn : cap < n) (hn1 : n ≠ 1) (hb : n ≤ 100000000) :
  Calls Tryz.prog 78 #[.slice p len cap, .int .i64 (n : Int)] w fun e w' => e = .returned (.slice (some ⟨w.heap.size, 0, none⟩) n (n + 4)) ∧ w' = w.alloc (.cells (List.replicate (n + 4) (NumC 0)).toArray 71) := by
 have b1 : decide ((n : Int) ≤ (cap : Int)) = false := decide_eq_false (by omega)
 have hm := make_run n (n + 4) (by omega) (by omega)
 have e1 : ((n + 4 : Nat) : Int) = (n : Int) + 4 := by omega
 rw [e1] at hm
 have b2 : ((n : Int) == 1) = false := by rw [beq_eq_false_iff_ne]; omega
 have b3 : ¬ ((n : Int) = 1) := by omega
 go_enter Tryz.func78, Tryz.ntmps78
 go_wp2
 go_ret
 exact ⟨rfl, rfl⟩
set_option maxRecDepth 100000 in
theorem mulAdd_zero (w : World) (p : Option Addr) (cap y r : Nat) (Q : Value → World → Prop)
  (h : Calls Tryz.prog 77 #[.slice p 0 cap, .int .u64 (r : Int)] w fun e w' => ∃ v, e = .returned v ∧ Q v w') :
  Calls Tryz.prog 71 #[.slice p 0 cap, .slice p 0 cap, .int .u64 (y : Int), .int .u64 (r : Int)] w fun e w' => ∃ v, e = .returned v ∧ Q v w' := by
 have H := Aside0.mk h
 clear h
 have e0 : ((0 : Nat) : Int) = 0 := rfl
 go_enter Tryz.func71, Tryz.ntmps71
 go_wp2_with (first | (go_at_call 77; refine H.out.mono ?_; rintro e' w' ⟨v, rfl, hq⟩; have HQ := Aside0.mk hq; clear hq))
 go_ret
 exact ⟨v, rfl, HQ.out⟩
/-- z*y + r, in z's own row or in a new one: z is nil or a row of words of the call's own (of the blocks from B on). -/
theorem mulAddWW_ (w : World) (B : Nat) (v : Value) (l : List Nat) (y r : Nat) (h : NatS w B v l) (hBs : B ≤ w.heap.size) (hy : IsW y) (hy0 : y ≠ 0) (hr : IsW r) (hl : l.length ≤ 1000000) :
  Calls Tryz.prog 71 #[v, v, .int .u64 (y : Int), .int .u64 (r : Int)] w fun e w' => ∃ v' l', e = .returned v' ∧ NatS w' B v' l' ∧ num l' = num l * y + r ∧ l' = trimW l' ∧ l'.length ≤ l.length + 1 ∧ Below B w w' := by
 have fresh_words : ∀ c, ∀ x ∈ (List.replicate c 0).set 0 r, IsW x := fun c => set_words (replicate_words c) hr 0
 have one : r ≠ 0 → trimW [r] = [r] := fun h => trimW_snoc [] r h
 by_cases hl0 : l = []
 ·subst hl0
  have hnum : num ([] : List Nat) * y + r = r := by simp [num]
  have fin : ∀ (p : Option Addr) (cap : Nat), v = .slice p 0 cap → (p = none → cap = 0) → (∀ a, p = some a → ∃ g full, a = ⟨g, 0, none⟩ ∧ B ≤ g ∧ Ws w g 71 full ∧ full.length = cap ∧ cap ≤ 1000000000 ∧ ∀ x ∈ full, IsW x) →
    Calls Tryz.prog 77 #[v, .int .u64 (r : Int)] w fun e w' => ∃ v', e = .returned v' ∧ ∃ l', NatS w' B v' l' ∧ num l' = r ∧ l' = trimW l' ∧ l'.length ≤ 1 ∧ Below B w w' := by
   intro p cap hv hnone hsome
   subst hv
   by_cases hr0 : r = 0
   ·subst hr0
    refine (setWord_zero w p 0 cap).mono ?_
    rintro e w' ⟨rfl, rfl⟩
    refine ⟨_, rfl, [], ?_, rfl, rfl, by simp, Below.refl _ _⟩
    cases p with
    | none => rw [hnone rfl]; exact .inl ⟨rfl, rfl⟩
    | some a =>
     obtain ⟨g, full, rfl, h1, h2, h3, h4, h5⟩ := hsome a rfl
     subst h3
     exact .inr ⟨g, full, rfl, h1, h2, rfl, by simp, h4, h5⟩
   ·by_cases hc : 1 ≤ cap
    ·cases p with
     | none => rw [hnone rfl] at hc; omega
     | some a =>
      obtain ⟨g, full, rfl, h1, h2, h3, h4, h5⟩ := hsome a rfl
      refine (setWord_reuse w g 0 cap r full h2 hc h3 hr0).mono ?_
      rintro e w' ⟨rfl, hw, rfl⟩
      refine ⟨_, rfl, [r], .inr ⟨g, full.set 0 r, ?_, h1, hw, ?_, by simp; omega, by simpa [h3] using h4, set_words h5 hr 0⟩, by simp [num], (one hr0).symm, by simp, below_setCell (Below.refl _ _) h1⟩
      ·rw [List.length_set, h3]; rfl
      ·cases full with
       | nil => simp at h3; omega
       | cons x t => rfl
    ·have hc0 : cap = 0 := by omega
     subst hc0
     refine (setWord_fresh w p 0 r hr0).mono ?_
     rintro e w' ⟨c, hc1, hc2, rfl, hw, hb⟩
     refine ⟨_, rfl, [r], .inr ⟨w.heap.size, (List.replicate c 0).set 0 r, ?_, hBs, hw, ?_, by simp; omega, by simp; omega, fresh_words c⟩, by simp [num], (one hr0).symm, by simp, hb B hBs⟩
     ·simp
     ·cases c with
      | zero => omega
      | succ c => rfl
  rw [hnum]
  have shape : ∃ (p : Option Addr) (cap : Nat), v = .slice p 0 cap ∧ (p = none → cap = 0) ∧ (∀ a, p = some a → ∃ g full, a = ⟨g, 0, none⟩ ∧ B ≤ g ∧ Ws w g 71 full ∧ full.length = cap ∧ cap ≤ 1000000000 ∧ ∀ x ∈ full, IsW x) := by
   rcases h with ⟨rfl, _⟩ | ⟨g, full, rfl, h1, h2, h3, h4, h5, h6⟩
   ·exact ⟨none, 0, rfl, (fun _ => rfl), (fun a ha => by cases ha)⟩
   ·exact ⟨some ⟨g, 0, none⟩, full.length, rfl, (fun h => by cases h), (fun a ha => by cases ha; exact ⟨g, full, rfl, h1, h2, rfl, h5, h6⟩)⟩
  obtain ⟨p, cap, rfl, hp1, hp2⟩ := shape
  refine (mulAdd_zero w p cap y r _ (fin p cap rfl hp1 hp2)).mono ?_
  rintro e w' ⟨v', rfl, l', q⟩
  exact ⟨v', l', rfl, by simpa using q⟩
 ·have hn0 : l.length ≠ 0 := fun e => hl0 (List.length_eq_zero_iff.1 e)
  rcases h with ⟨_, h0⟩ | ⟨g, full, rfl, h1, h2, h3, h4, h5, h6⟩
  ·exact absurd h0 hl0
  ·by_cases hc : l.length + 1 ≤ full.length
   ·have t := mulAdd_tail w w B g g l.length full.length full.length y r full full h2 h2 hc rfl h4 (fun _ => rfl) h6 h6 hy hy0 hr hn0 h5 h1 (Below.refl _ _) hBs (fun len => make_reuse w g len full.length (l.length + 1) hc)
    rw [h3] at t
    exact t
   ·have hws : Ws (w.alloc (.cells (List.replicate (l.length + 1 + 4) (NumC 0)).toArray 71)) w.heap.size 71 (List.replicate (l.length + 1 + 4) 0) := by
     have := Ws.alloc (w := w) (e := 71) (List.replicate (l.length + 1 + 4) 0)
     rwa [List.map_replicate] at this
    have hold : Ws (w.alloc (.cells (List.replicate (l.length + 1 + 4) (NumC 0)).toArray 71)) g 71 full := h2.same (by
     have e : (w.alloc (.cells (List.replicate (l.length + 1 + 4) (NumC 0)).toArray 71)).heap = w.heap.push (.cells (List.replicate (l.length + 1 + 4) (NumC 0)).toArray 71) := rfl
     have := h2.lt
     rw [e, Array.getElem?_push, if_neg (by omega)])
    have hsz : B ≤ (w.alloc (.cells (List.replicate (l.length + 1 + 4) (NumC 0)).toArray 71)).heap.size := by
     have e : (w.alloc (.cells (List.replicate (l.length + 1 + 4) (NumC 0)).toArray 71)).heap = w.heap.push (.cells (List.replicate (l.length + 1 + 4) (NumC 0)).toArray 71) := rfl
     rw [e, Array.size_push]
     omega
    have t := mulAdd_tail w _ B w.heap.size g l.length (l.length + 1 + 4) full.length y r _ full hws hold (by simp) (by simp) h4 (fun e => by have := h2.lt; omega) h6 (replicate_words _) hy hy0 hr hn0 (by omega) hBs (below_alloc_ _ hBs) hsz (fun len => make_many w _ len full.length (l.length + 1) (by omega) (by omega) (by omega))
    rw [h3] at t
    exact t
end Go.Proofs.YtdjkekgfeadmoaaGreatDoorG

/- Contracts of strings.Reader as far as a number is read: NewReader, ReadByte, UnreadByte. -/
namespace Go.Proofs.YtdjkekgfeadmoaaGreatDoorG
open Go.RowKit Go.Proofs.YtdjkekgfeadmoaaGreatDoorW.PrintWords Go.Proofs.YtdjkekgfeadmoaaGreatDoorW.PrintLast
set_option linter.unusedVariables false
set_option linter.unusedSimpArgs false

/-- A reader: its text, its place, what it keeps of the last rune. -/
def Rd (w : World) (b : Nat) (s : ByteArray) (i : Nat) (p : Int) : Prop := w.heap[b]? = some (.cells #[.string s, .int .i64 (i : Int), .int .i64 p] 89 (0, 0))
theorem Rd.c0 {w : World} {b : Nat} {s : ByteArray} {i : Nat} {p : Int} (h : Rd w b s i p) : w.cell? ⟨b, 0, none⟩ = some (.string s) := by unfold Rd at h; simp [World.cell?, h]
theorem Rd.c1 {w : World} {b : Nat} {s : ByteArray} {i : Nat} {p : Int} (h : Rd w b s i p) : w.cell? ⟨b, 1, none⟩ = some (.int .i64 (i : Int)) := by unfold Rd at h; simp [World.cell?, h]
theorem Rd.c2 {w : World} {b : Nat} {s : ByteArray} {i : Nat} {p : Int} (h : Rd w b s i p) : w.cell? ⟨b, 2, none⟩ = some (.int .i64 p) := by unfold Rd at h; simp [World.cell?, h]
theorem Rd.free {w : World} {b : Nat} {s : ByteArray} {i : Nat} {p : Int} (h : Rd w b s i p) (j : Nat) : w.frozen? ⟨b, j, none⟩ = false := by unfold Rd at h; simp [World.frozen?, h]
theorem Rd.set2 {w : World} {b : Nat} {s : ByteArray} {i : Nat} {p : Int} (h : Rd w b s i p) (q : Int) : Rd (w.setCell ⟨b, 2, none⟩ (.int .i64 q)) b s i q := by
 unfold Rd at h ⊢
 simp [World.setCell, Array.getElem?_modify, h]
theorem Rd.set1 {w : World} {b : Nat} {s : ByteArray} {i : Nat} {p : Int} (h : Rd w b s i p) (j : Nat) : Rd (w.setCell ⟨b, 1, none⟩ (.int .i64 (j : Int))) b s j p := by
 unfold Rd at h ⊢
 simp [World.setCell, Array.getElem?_modify, h]
theorem Rd.same {w w' : World} {b : Nat} {s : ByteArray} {i : Nat} {p : Int} (h : Rd w b s i p) (hb : w'.heap[b]? = w.heap[b]?) : Rd w' b s i p := by unfold Rd at h ⊢; rw [hb]; exact h
theorem Rd.lt {w : World} {b : Nat} {s : ByteArray} {i : Nat} {p : Int} (h : Rd w b s i p) : b < w.heap.size := (Array.getElem?_eq_some_iff.1 h).1
theorem cell_set_other {w : World} {g i : Nat} {v : Value} {a : Addr} (h : a.block ≠ g) : (w.setCell ⟨g, i, none⟩ v).cell? a = w.cell? a := by
 refine World.cell?_of_block ?_
 have : g ≠ a.block := fun e => h e.symm
 simp [World.setCell, Array.getElem?_modify, this]

theorem grown_drewN {w wr : World} {r : Option Nat} (n : Nat) (h : w.grownBy wr r) : w.grownBy (wr.drewN n) r := h.trans ⟨rfl, rfl, rfl, Nat.le_refl _, fun _ _ _ => rfl⟩
theorem grown_drew {w wr : World} {r : Option Nat} (h : w.grownBy wr r) : w.grownBy wr.drew r := h.trans ⟨rfl, rfl, rfl, Nat.le_refl _, fun _ _ _ => rfl⟩
theorem Rd.drewN {w : World} {b : Nat} {s : ByteArray} {i : Nat} {p : Int} (n : Nat) (h : Rd w b s i p) : Rd (w.drewN n) b s i p := h
set_option maxRecDepth 100000 in
theorem readByte_ (w : World) (b i : Nat) (s : ByteArray) (p : Int) (h : Rd w b s i p) (hi : i < s.size) (hs : s.size ≤ 140737488355328) :
  Calls Tryz.prog 123 #[.pointer (some ⟨b, 0, none⟩)] w fun e w' => e = .returned (.tuple #[.int .u8 (bt s i), .nilIface]) ∧ Rd w' b s (i + 1) (-1) ∧ w.grownBy w' (some b) := by
 have h2 := h.set2 (-1)
 have a2 := h.c2
 have f2 := h.free 2
 have b0 := h2.c0
 have b1 := h2.c1
 have g1 := h2.free 1
 have HE := Aside0.mk (h2.set1 (i + 1))
 have e1 : ((i + 1 : Nat) : Int) = (i : Int) + 1 := by omega
 rw [e1] at HE
 have hb : ((s[i]'hi).toNat : Int) = bt s i := bt_at s i hi
 have HBT := Aside0.mk hb
 clear hb
 have t1 : decide ((i : Int) ≥ (s.size : Int)) = false := decide_eq_false (by omega)
 have t2 : ((s.size : Int) ≤ (i : Int)) = False := eq_false (by omega)
 have t3 : (0 ≤ (i : Int)) = True := eq_true (by omega)
 have t4 : ((i : Int) < (s.size : Int)) = True := eq_true (by omega)
 clear h h2
 go_enter Tryz.func123, Tryz.ntmps123
 go_wp2
 go_quiet (fail)
 go_wp2
 go_quiet (fail)
 go_wp2
 go_ret2
 refine ⟨?_, HE.out, grown_set _ _ _ _ _ (grown_drewN _ (grown_set w w b 2 _ (World.grownBy.refl w _)))⟩
 rw [← HBT.out]
 rfl

set_option maxRecDepth 100000 in
/-- At the text's end it answers io.EOF. -/
theorem readByte_end (w : World) (b : Nat) (s : ByteArray) (p : Int) (E : Value) (h : Rd w b s s.size p) (hE : w.cell? ⟨3, 0, none⟩ = some E) (hEb : b ≠ 3) (hs : s.size ≤ 140737488355328) :
  Calls Tryz.prog 123 #[.pointer (some ⟨b, 0, none⟩)] w fun e w' => e = .returned (.tuple #[.int .u8 0, E]) ∧ Rd w' b s s.size (-1) ∧ w.grownBy w' (some b) := by
 have h2 := h.set2 (-1)
 have a2 := h.c2
 have f2 := h.free 2
 have b0 := h2.c0
 have b1 := h2.c1
 have g1 := h2.free 1
 have c1 : (w.setCell ⟨b, 2, none⟩ (.int .i64 (-1))).cell? ⟨3, 0, none⟩ = some E := by rw [cell_set_other (fun e => hEb e.symm)]; exact hE
 have HE := Aside0.mk h2
 have t1 : decide ((s.size : Int) ≥ (s.size : Int)) = true := decide_eq_true (by omega)
 have t2 : ((s.size : Int) ≤ (s.size : Int)) = True := eq_true (by omega)
 clear h h2 hE hEb
 go_enter Tryz.func123, Tryz.ntmps123
 go_wp2
 go_quiet (fail)
 go_wp2
 go_quiet (fail)
 go_wp2
 go_ret2
 exact ⟨rfl, HE.out, by first | exact grown_drewN _ (grown_set w w b 2 _ (World.grownBy.refl w _)) | exact grown_drewN _ (grown_drewN _ (grown_set w w b 2 _ (World.grownBy.refl w _)))⟩
set_option maxRecDepth 100000 in
theorem unreadByte_ (w : World) (b i : Nat) (s : ByteArray) (p : Int) (h : Rd w b s (i + 1) p) (hs : i < 140737488355328) :
  Calls Tryz.prog 124 #[.pointer (some ⟨b, 0, none⟩)] w fun e w' => e = .returned .nilIface ∧ Rd w' b s i (-1) ∧ w.grownBy w' (some b) := by
 have h2 := h.set2 (-1)
 have a1 := h.c1
 have a2 := h.c2
 have f2 := h.free 2
 have b1 := h2.c1
 have g1 := h2.free 1
 have HE := Aside0.mk (h2.set1 i)
 have e1 : ((i + 1 : Nat) : Int) = (i : Int) + 1 := by omega
 rw [e1] at a1 b1
 have t1 : decide ((i : Int) + 1 ≤ 0) = false := decide_eq_false (by omega)
 have t2 : ((i : Int) + 1 ≤ 0) = False := eq_false (by omega)
 have t3 : (i : Int) + 1 - 1 = (i : Int) := by omega
 have t4 : wrap64 (i : Int) = (i : Int) := by unfold wrap64; omega
 clear h h2
 go_enter Tryz.func124, Tryz.ntmps124
 go_wp2
 go_ret
 exact ⟨rfl, HE.out, grown_set _ _ _ _ _ (grown_set w w b 2 _ (World.grownBy.refl w _))⟩
theorem newReader_ (w : World) (s : ByteArray) :
  Calls Tryz.prog 53 #[.string s] w fun e w' => e = .returned (.pointer (some ⟨w.heap.size, 0, none⟩)) ∧ w' = w.alloc (.cells #[.string s, .int .i64 0, .int .i64 (-1)] 89) := by
 go_enter Tryz.func53, Tryz.ntmps53
 go_wp2
 go_ret
 exact ⟨rfl, rfl⟩
end Go.Proofs.YtdjkekgfeadmoaaGreatDoorG

/- Contract of math/big's scanSign on a text that begins with no sign. -/
namespace Go.Proofs.YtdjkekgfeadmoaaGreatDoorG
open Go.RowKit Go.Proofs.YtdjkekgfeadmoaaGreatDoorW.PrintWords Go.Proofs.YtdjkekgfeadmoaaGreatDoorW.PrintLast
set_option linter.unusedVariables false
set_option linter.unusedSimpArgs false

theorem inv_ReadByte (p : Option Addr) (W : World) : (method 263 68 (.pointer p) "ReadByte").run Tryz.prog W = .ok (123, .pointer p) W := by kernel_rfl
theorem inv_UnreadByte (p : Option Addr) (W : World) : (method 263 68 (.pointer p) "UnreadByte").run Tryz.prog W = .ok (124, .pointer p) W := by kernel_rfl
theorem ent_ReadByte (xs : Array Value) (W : World) : (callFunc 123 xs).run Tryz.prog W = .ok (.enter 123 xs) W := enters_ Tryz.func123 (by kernel_rfl) rfl xs W
theorem ent_UnreadByte (xs : Array Value) (W : World) : (callFunc 124 xs).run Tryz.prog W = .ok (.enter 124 xs) W := enters_ Tryz.func124 (by kernel_rfl) rfl xs W
set_option maxRecDepth 100000 in
theorem scanSign_ (w : World) (b : Nat) (s : ByteArray) (p : Int) (h : Rd w b s 0 p) (hi : 0 < s.size) (hs : s.size ≤ 140737488355328) (h1 : bt s 0 ≠ 45) (h2 : bt s 0 ≠ 43) :
  Calls Tryz.prog 65 #[.iface 68 (.pointer (some ⟨b, 0, none⟩))] w fun e w' => e = .returned (.tuple #[.bool false, .nilIface]) ∧ Rd w' b s 0 (-1) ∧ w.grownBy w' (some b) := by
 have HR := Aside0.mk (readByte_ w b 0 s p h hi hs)
 have HU := Aside0.mk (fun w1 p1 (h : Rd w1 b s 1 p1) => unreadByte_ w1 b 0 s p1 h (by omega))
 have e0 : ((0 : Nat) : Int) = 0 := rfl
 rw [e0] at HR
 obtain ⟨c, hc⟩ : ∃ c, c = bt s 0 := ⟨_, rfl⟩
 rw [← hc] at h1 h2 HR
 have b1 : (c == 45) = false := by rw [beq_eq_false_iff_ne]; exact h1
 have b2 : (c == 43) = false := by rw [beq_eq_false_iff_ne]; exact h2
 have i1 := inv_ReadByte (some ⟨b, 0, none⟩)
 have i2 := inv_UnreadByte (some ⟨b, 0, none⟩)
 have i3 := ent_ReadByte
 have i4 := ent_UnreadByte
 clear h hc
 go_enter Tryz.func65, Tryz.ntmps65
 go_wp2_with (first
  | (go_at_call 123; refine HR.out.mono ?_; rintro e' w1 ⟨rfl, r1, g1⟩; have R1 := Aside0.mk r1; have G1 := Aside0.mk g1; clear r1 g1)
  | (go_at_call 124; refine (HU.out _ _ R1.out).mono ?_; rintro e' w2 ⟨rfl, r2, g2⟩; have R2 := Aside0.mk r2; have G2 := Aside0.mk g2; clear r2 g2))
 go_ret2
 exact ⟨rfl, R2.out, G1.out.trans G2.out⟩
end Go.Proofs.YtdjkekgfeadmoaaGreatDoorG

/- Contract of math/big's (nat).scan at base ten, on a text that begins with no sign: the digits that it begins with are read, and no more. -/
namespace Go.Proofs.YtdjkekgfeadmoaaGreatDoorG
open Go.RowKit Go.Proofs.YtdjkekgfeadmoaaGreatDoorW.PrintWords Go.Proofs.YtdjkekgfeadmoaaGreatDoorW.PrintLast
set_option linter.unusedVariables false
set_option linter.unusedSimpArgs false

theorem results_tmp4 {fn : Func} {t u v x : Tmp} (h : fn.results = #[.tmp t, .tmp u, .tmp v, .tmp x]) (tmps : Array Value) (P : Program) (w : World) :
  (results fn tmps).run P w = .ok (.tuple #[tmps.getD t undef, tmps.getD u undef, tmps.getD v undef, tmps.getD x undef]) w := by
 simp [results, h]
theorem errInfo : (Tryz.prog.info? 103).map (fun i => i.comparable) = some true := by kernel_rfl
theorem errPointee : (Tryz.prog.info? 105).isSome = true := by kernel_rfl
def ErrV (a : Addr) : Value := .iface 103 (.pointer (some a))
theorem eq_err (a : Addr) (W : World) : (binOp .eql 36 (.iface 103 (.pointer (some a))) (.iface 103 (.pointer (some a)))).run Tryz.prog W = .ok (.bool true) W := by
 obtain ⟨i, hi, hc⟩ := Option.map_eq_some_iff.1 errInfo
 obtain ⟨j, hj⟩ := Option.isSome_iff_exists.1 errPointee
 exact run_eql_iface_ptr_same W a Tryz.underlying36 Tryz.underlying103 hi hc hj
theorem eq_nil_err (a : Addr) (W : World) : (binOp .eql 36 .nilIface (.iface 103 (.pointer (some a)))).run Tryz.prog W = .ok (.bool false) W :=
 run_eql_iface_nil_left W 103 _ Tryz.underlying36

/-- What lay below block B is as it was, but for block b. -/
structure Bel (B b : Nat) (w w' : World) : Prop where
 os : w'.os = w.os
 tape : w'.tape = w.tape
 output : w'.output = w.output
 size : w.heap.size ≤ w'.heap.size
 block : ∀ k, k < B → k ≠ b → w'.heap[k]? = w.heap[k]?
theorem Bel.refl (B b : Nat) (w : World) : Bel B b w w := ⟨rfl, rfl, rfl, Nat.le_refl _, fun _ _ _ => rfl⟩
theorem Bel.below {B b : Nat} {w w1 w2 : World} (h : Bel B b w w1) (k : Below B w1 w2) : Bel B b w w2 :=
 ⟨k.os.trans h.os, k.tape.trans h.tape, k.output.trans h.output, Nat.le_trans h.size k.size, fun j h1 h2 => (k.block j h1).trans (h.block j h1 h2)⟩
theorem Bel.grown {B b : Nat} {w w1 w2 : World} (h : Bel B b w w1) (k : w1.grownBy w2 (some b)) (hb : b < w1.heap.size) (hB : B ≤ w1.heap.size) : Bel B b w w2 :=
 ⟨k.os.trans h.os, k.tape.trans h.tape, k.output.trans h.output, Nat.le_trans h.size k.size, fun j h1 h2 => (k.block j (by omega) (fun e => h2 (Option.some.inj e))).trans (h.block j h1 h2)⟩
theorem Bel.cell {B b : Nat} {w w1 : World} (h : Bel B b w w1) {p : Addr} (hp : p.block < B) (hb : p.block ≠ b) : w1.cell? p = w.cell? p := World.cell?_of_block (h.block _ hp hb)

def Dig (c : Int) : Prop := 48 ≤ c ∧ c ≤ 57
instance (c : Int) : Decidable (Dig c) := inferInstanceAs (Decidable (_ ∧ _))
/-- The number that the first k digits are. -/
def dv (s : ByteArray) : Nat → Nat
 | 0 => 0
 | k + 1 => dv s k * 10 + (bt s k - 48).toNat
theorem NatS.grown {w w' : World} {B b : Nat} {v : Value} {l : List Nat} (h : NatS w B v l) (k : w.grownBy w' (some b)) (hb : b < B) : NatS w' B v l := by
 rcases h with h | ⟨g, full, h1, h2, h3, h4⟩
 ·exact .inl h
 ·exact .inr ⟨g, full, h1, h2, h3.same (k.block g h3.lt (fun e => by have := Option.some.inj e; omega)), h4⟩
/-- Where the reading stands: k digits read; the words l, and d, of i digits, behind them. -/
structure Sc (B b : Nat) (w wr : World) (s : ByteArray) (v : Value) (k d i : Nat) : Prop where
 nat : ∃ l, NatS wr B v l ∧ num l * 10 ^ i + d = dv s k ∧ l = trimW l ∧ l.length ≤ k
 i19 : i < 19
 dlt : d < 10 ^ i
 ile : i ≤ k
 dig : ∀ j : Nat, j < k → Dig (bt s j)
 bel : Bel B b w wr
theorem pow19 {i : Nat} (h : i < 19) : 10 ^ i ≤ 1000000000000000000 := by
 have : 10 ^ i ≤ 10 ^ 18 := Nat.pow_le_pow_right (by omega) (by omega)
 simpa using this
theorem Sc.word {B b : Nat} {w wr : World} {s : ByteArray} {v : Value} {k d i : Nat} (h : Sc B b w wr s v k d i) : d < 1000000000000000000 := Nat.lt_of_lt_of_le h.dlt (pow19 h.i19)
theorem Sc.grown {B b : Nat} {w w1 w2 : World} {s : ByteArray} {v : Value} {k d i : Nat} (h : Sc B b w w1 s v k d i) (g : w1.grownBy w2 (some b)) (hb : b < B) (hB : B ≤ w.heap.size) : Sc B b w w2 s v k d i := by
 obtain ⟨l, h1, h2⟩ := h.nat
 exact ⟨⟨l, h1.grown g hb, h2⟩, h.i19, h.dlt, h.ile, h.dig, h.bel.grown g (by have := h.bel.size; omega) (by have := h.bel.size; omega)⟩
/-- A digit more, short of a full word. -/
theorem Sc.digit {B b : Nat} {w wr : World} {s : ByteArray} {v : Value} {k d i : Nat} (h : Sc B b w wr s v k d i) (hd : Dig (bt s k)) (hi : i + 1 < 19) : Sc B b w wr s v (k + 1) (d * 10 + (bt s k - 48).toNat) (i + 1) := by
 obtain ⟨l, h1, h2, h3, h4⟩ := h.nat
 have hx : (bt s k - 48).toNat ≤ 9 := by have := hd.2; have := hd.1; omega
 have hdl := h.dlt
 refine ⟨⟨l, h1, ?_, h3, by omega⟩, hi, ?_, by have := h.ile; omega, fun j hj => ?_, h.bel⟩
 ·simp only [dv]
  rw [← h2, Nat.pow_succ, Nat.add_mul, Nat.mul_assoc]
  omega
 ·rw [Nat.pow_succ]; omega
 ·by_cases e : j = k
  ·rw [e]; exact hd
  ·exact h.dig j (by omega)
theorem ten19 : (10 : Nat) ^ 18 * 10 = 10000000000000000000 := by rfl
theorem full_word (a d x : Nat) : (a * 10000000000000000000 + (d * 10 + x)) * 10 ^ 0 + 0 = (a * 10 ^ 18 + d) * 10 + x := by
 rw [Nat.pow_zero, Nat.mul_one, Nat.add_zero, Nat.add_mul, Nat.mul_assoc, ten19, Nat.add_assoc]
set_option maxRecDepth 100000 in
/-- What a full word comes to. -/
theorem Sc.full {B b : Nat} {w wr w2 : World} {s : ByteArray} {v v2 : Value} {k d i : Nat} {l2 : List Nat} (hd : Dig (bt s k)) (hi : i + 1 = 19) (h : Sc B b w wr s v k d i)
  (hn : ∀ l, num l * 10 ^ i + d = dv s k → l.length ≤ k → num l2 = num l * 10000000000000000000 + (d * 10 + (bt s k - 48).toNat) ∧ l2.length ≤ l.length + 1) (hs : NatS w2 B v2 l2) (ht : l2 = trimW l2) (hb : Below B wr w2) : Sc B b w w2 s v2 (k + 1) 0 0 := by
 obtain ⟨l, h1, h2, h3, h4⟩ := h.nat
 obtain ⟨n1, n2⟩ := hn l h2 h4
 refine ⟨⟨l2, hs, ?_, ht, by omega⟩, by omega, by simp, by omega, fun j hj => ?_, h.bel.below hb⟩
 ·have e : i = 18 := by omega
  have e3 : dv s (k + 1) = dv s k * 10 + (bt s k - 48).toNat := rfl
  rw [e3, n1, ← h2, e]
  exact full_word _ _ _
 ·by_cases e : j = k
  ·rw [e]; exact hd
  ·exact h.dig j (by omega)
end Go.Proofs.YtdjkekgfeadmoaaGreatDoorG
