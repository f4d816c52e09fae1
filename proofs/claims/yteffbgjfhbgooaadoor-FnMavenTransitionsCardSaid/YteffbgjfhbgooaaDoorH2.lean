/- Contracts of sort.Ints on a row of the call's own, and of mavenFindTransitions: called on any text, it returns what its 'f' tells, and of the memory that was there nothing is changed. The first is the library's contract, laid for this program. -/
import Derived.Shelf.Sort.Plain
import Derived.Shelf.Slices.In.SortNone2
import Derived.Test.YteffbgjfhbgooaaDoorZx
import Derived.Test.YteffbgjfhbgooaaDoorH1
namespace Go.Proofs
open Go.Shelf
def Tryd.lays191_ren : Go.Shelf.Ren := ⟨fun | 191 => 48 | 189 => 58 | 125 => 68 | 257 => 67 | 128 => 82 | 129 => 83 | 294 => 73 | 295 => 74 | 296 => 75 | 297 => 76 | 298 => 77 | 299 => 78 | 216 => 79 | 300 => 80 | 301 => 81 | 328 => 87 | 329 => 88 | 330 => 89 | 331 => 90 | 332 => 91 | 215 => 92 | 343 => 93 | n => n, fun | 28 => 31 | 0 => 0 | 3 => 3 | 46 => 68 | 51 => 90 | 53 => 92 | 4 => 4 | 183 => 82 | 182 => 81 | 131 => 87 | 5 => 5 | 9 => 9 | 218 => 96 | 222 => 100 | 228 => 107 | 229 => 108 | n => n, fun | n => n⟩
theorem Tryd.lays191 : Go.Proofs.Lays.n191 Tryd.prog Tryd.lays191_ren := {
  mixed := by kernel_rfl
  f125 := Tryd.func68.trans (congrArg some (by kernel_rfl))
  f128 := Tryd.func82.trans (congrArg some (by kernel_rfl))
  f129 := Tryd.func83.trans (congrArg some (by kernel_rfl))
  f189 := Tryd.func58.trans (congrArg some (by kernel_rfl))
  f191 := Tryd.func48.trans (congrArg some (by kernel_rfl))
  f215 := Tryd.func92.trans (congrArg some (by kernel_rfl))
  f216 := Tryd.func79.trans (congrArg some (by kernel_rfl))
  f257 := Tryd.func67.trans (congrArg some (by kernel_rfl))
  f294 := Tryd.func73.trans (congrArg some (by kernel_rfl))
  f295 := Tryd.func74.trans (congrArg some (by kernel_rfl))
  f296 := Tryd.func75.trans (congrArg some (by kernel_rfl))
  f297 := Tryd.func76.trans (congrArg some (by kernel_rfl))
  f298 := Tryd.func77.trans (congrArg some (by kernel_rfl))
  f299 := Tryd.func78.trans (congrArg some (by kernel_rfl))
  f300 := Tryd.func80.trans (congrArg some (by kernel_rfl))
  f301 := Tryd.func81.trans (congrArg some (by kernel_rfl))
  f328 := Tryd.func87.trans (congrArg some (by kernel_rfl))
  f329 := Tryd.func88.trans (congrArg some (by kernel_rfl))
  f330 := Tryd.func89.trans (congrArg some (by kernel_rfl))
  f331 := Tryd.func90.trans (congrArg some (by kernel_rfl))
  f332 := Tryd.func91.trans (congrArg some (by kernel_rfl))
  f343 := Tryd.func93.trans (congrArg some (by kernel_rfl))
  t0 := Tryd.underlying0
  a0 := Tryd.isAgg0
  z0 := Tryd.sizeOf0
  v0 := Tryd.zeroValue0
  t3 := Tryd.underlying3
  a3 := Tryd.isAgg3
  z3 := Tryd.sizeOf3
  v3 := Tryd.zeroValue3
  t4 := Tryd.underlying4
  a4 := Tryd.isAgg4
  z4 := Tryd.sizeOf4
  v4 := Tryd.zeroValue4
  t5 := Tryd.underlying5
  a5 := Tryd.isAgg5
  z5 := Tryd.sizeOf5
  v5 := Tryd.zeroValue5
  t9 := Tryd.underlying9
  a9 := Tryd.isAgg9
  z9 := Tryd.sizeOf9
  v9 := Tryd.zeroValue9
  t28 := Tryd.underlying31
  a28 := Tryd.isAgg31
  z28 := Tryd.sizeOf31
  v28 := Tryd.zeroValue31
  t46 := Tryd.underlying68
  a46 := Tryd.isAgg68
  z46 := Tryd.sizeOf68
  v46 := Tryd.zeroValue68
  t51 := Tryd.underlying90
  a51 := Tryd.isAgg90
  z51 := Tryd.sizeOf90
  v51 := Tryd.zeroValue90
  t53 := Tryd.underlying92
  a53 := Tryd.isAgg92
  z53 := Tryd.sizeOf92
  v53 := Tryd.zeroValue92
  t131 := Tryd.underlying87
  a131 := Tryd.isAgg87
  z131 := Tryd.sizeOf87
  v131 := Tryd.zeroValue87
  t182 := Tryd.underlying81
  a182 := Tryd.isAgg81
  z182 := Tryd.sizeOf81
  v182 := Tryd.zeroValue81
  t183 := Tryd.underlying82
  a183 := Tryd.isAgg82
  z183 := Tryd.sizeOf82
  v183 := Tryd.zeroValue82
  t218 := Tryd.underlying96
  a218 := Tryd.isAgg96
  z218 := Tryd.sizeOf96
  v218 := Tryd.zeroValue96
  t222 := Tryd.underlying100
  a222 := Tryd.isAgg100
  z222 := Tryd.sizeOf100
  v222 := Tryd.zeroValue100
  t228 := Tryd.underlying107
  a228 := Tryd.isAgg107
  z228 := Tryd.sizeOf107
  v228 := Tryd.zeroValue107
  t229 := Tryd.underlying108
  a229 := Tryd.isAgg108
  z229 := Tryd.sizeOf108
  v229 := Tryd.zeroValue108 }
open Go.RowKit Go.Sort in
theorem Tryd.sort_Ints (blk off cap : Nat) (zs : List Int) (w : World) (hH : Holds (Value.int .i64) w blk off zs.toArray) (hblk : blk < w.heap.size) (hsz : zs.length < 4611686018427387904) :
    Calls Tryd.prog 48 #[.slice (some ⟨blk, off, none⟩) zs.length cap] w fun e w' =>
      e = .returned (.tuple #[]) ∧ ∃ n os, w' = grow (putRow (Value.int .i64) (Sort.ahead w n) blk off (zs.mergeSort fun x y => decide (x ≤ y)).toArray) os := Any.sort_Ints Tryd.lays191 blk off cap zs w hH hblk hsz
open Go.RowKit Go.Sort in
theorem Tryd.sort_Ints_none (p : Option Addr) (cap : Nat) (w : World) :
    Calls Tryd.prog 48 #[.slice p 0 cap] w fun e w' => e = .returned (.tuple #[]) ∧ w' = w := Any.sort_Ints_none Tryd.lays191 p cap w
end Go.Proofs
namespace Go.Proofs.YteffbgjfhbgooaaDoorH
open Go.RowKit Go.Sort Go.Proofs.YteffbgjfhbgooaaDoorW.PrintWords Go.Proofs.YteffbgjfhbgooaaDoorW.PrintLast
set_option linter.unusedVariables false
set_option linter.unusedSimpArgs false

theorem below_trans_ {B : Nat} {a w w' : World} (h : Below B a w) (k : Below B w w') : Below B a w' := h.trans k
theorem heap_sorted_int {w : World} {g n : Nat} {os : Array Obj} {cur : Array Value} {e : TypeId} {fr : Nat × Nat} (d : Array Int) (hb : w.heap[g]? = some (.cells cur e fr)) :
    (grow (putRow (Value.int .i64) (Sort.ahead w n) g 0 d) os).heap[g]? = some (.cells (putCells (Value.int .i64) 0 d cur) e fr) := by
  have hg : g < w.heap.size := (Array.getElem?_eq_some_iff.1 hb).1
  rw [heap_grow_old _ _ (by simpa using hg)]
  simp [putRow, mapBlock, Sort.ahead, Array.getElem?_modify, hb, onCells]
theorem grownBy_sorted_int {w : World} {g n : Nat} {os : Array Obj} (d : Array Int) : w.grownBy (grow (putRow (Value.int .i64) (Sort.ahead w n) g 0 d) os) (some g) := by
  refine ⟨rfl, rfl, rfl, by simp, fun k hk hne => ?_⟩
  rw [heap_grow_old _ _ (by simpa using hk)]
  have : g ≠ k := fun e => hne (by rw [e])
  simp [putRow, mapBlock, Sort.ahead, Array.getElem?_modify, this]
theorem take_putCells_int (cur : Array Value) (ts : List Int) (h : ts.length ≤ cur.size) : (putCells (Value.int .i64) 0 ts.toArray cur).toList.take ts.length = ts.map (Value.int .i64) := by
  apply List.ext_getElem?
  intro j
  by_cases hj : j < ts.length
  · rw [List.getElem?_take_of_lt hj, Array.getElem?_toList]
    simp [putCells, hj, show j < cur.size by omega]
  · rw [List.getElem?_take_eq_none (by omega), List.getElem?_eq_none (by simp; omega)]
theorem holds_int {w : World} {g : Nat} {cur : Array Value} {e : TypeId} {ss : List Int} (hb : w.heap[g]? = some (.cells cur e (0, 0))) (ht : cur.toList.take ss.length = ss.map (Value.int .i64)) : Holds (Value.int .i64) w g 0 ss.toArray := by
  intro j hj
  have hj' : j < ss.length := by simpa using hj
  refine ⟨?_, by simp [World.frozen?, hb]⟩
  have h1 : (cur.toList.take ss.length)[j]? = (ss.map (Value.int .i64))[j]? := by rw [ht]
  rw [List.getElem?_take_of_lt hj'] at h1
  simp only [World.cell?, hb, Nat.zero_add]
  simp only [Option.isSome_none, Bool.false_eq_true, if_false]
  rw [← Array.getElem?_toList, h1]
  simp [hj']
theorem own_of_R_int {e : Nat} {w : World} {base : Nat} {ok : Nat → Prop} {v : Value} {l : List Int} (h : Kd.R (Kd.int .i64) e w base ok v l) : w.ownsRow base e 1 v l.length (l.map (Value.int .i64)) := by
  obtain ⟨_, inner, ho, hl, hr⟩ := h
  have e1 : inner = l.map (Value.int .i64) := by
    apply List.ext_getElem?
    intro j
    by_cases hj : j < l.length
    · have h2 := hr j l[j] (List.getElem?_eq_getElem hj)
      have e2 : (Kd.int .i64).sz = 1 := rfl
      rw [e2, Nat.mul_one] at hl h2
      have h3 : (inner.drop j).take 1 = [.int .i64 l[j]] := h2
      have hj2 : j < inner.length := by omega
      rw [List.drop_eq_getElem_cons hj2, List.take_succ_cons, List.take_zero] at h3
      rw [List.getElem?_eq_getElem hj2, List.getElem?_map, List.getElem?_eq_getElem hj]
      simpa using h3
    · have e2 : (Kd.int .i64).sz = 1 := rfl
      rw [e2, Nat.mul_one] at hl
      rw [List.getElem?_eq_none (by omega), List.getElem?_eq_none (by simp; omega)]
  subst e1
  exact ho
/-- sort.Ints on a row of the call's own. -/
theorem sort_row {w : World} {base : Nat} {v : Value} {l : List Int} (h : Kd.R (Kd.int .i64) 3 w base (fun _ => True) v l) (hbase : base ≤ w.heap.size) (hl : l.length < 4611686018427387904) :
    Calls Tryd.prog 48 #[v] w fun e w' => e = .returned (.tuple #[]) ∧ Kd.R (Kd.int .i64) 3 w' base (fun _ => True) v (l.mergeSort fun x y => decide (x ≤ y)) ∧ Below base w w' := by
  have ho := own_of_R_int h
  rcases ho.2 with ⟨rfl, hn⟩ | ⟨g, cap, cur, rfl, hg, hb, h1, h2, h3, h4⟩
  · obtain rfl : l = [] := List.length_eq_zero_iff.1 hn
    refine (Tryd.sort_Ints_none none 0 w).mono ?_
    rintro e w' ⟨rfl, rfl⟩
    exact ⟨rfl, by simpa using h, Below.refl _ _⟩
  · rw [Nat.mul_one] at h3 h4
    have hlt : g < w.heap.size := (Array.getElem?_eq_some_iff.1 hb).1
    refine (Tryd.sort_Ints g 0 cap l w (holds_int hb (by simpa using h4)) hlt hl).mono ?_
    rintro e w' ⟨rfl, n, os, rfl⟩
    have hml : (l.mergeSort fun x y => decide (x ≤ y)).length = l.length := by simp
    refine ⟨rfl, ?_, (Below.refl base w).grown (grownBy_sorted_int _) hbase (fun k hk => by cases hk; exact hg)⟩
    refine Kd.R_of_own (enc := Value.int .i64) ?_ (fun k _ => trivial)
    refine ⟨by simp [encs], .inr ⟨g, cap, _, by rw [hml], hg, heap_sorted_int _ hb, by rw [hml]; exact h1, h2, by simp [putCells, h3], ?_⟩⟩
    rw [Nat.mul_one]
    exact take_putCells_int cur _ (by rw [hml]; omega)

section
open Go.Proofs.YteffbgjfhbgooaaDoor.Z
/-! ### semantic_mavenFindTransitions: function 40 -/
mutual
def semantic_mavenFindTransitions.l0 : Nat → ByteArray → List Int → List (List Int) → Int → Int → Option (List Int)
  | 0, _, _, _, _, _ => none
  | k + 1, x0, x2, x8, x9, x10 => if x10 < x9 then (if 0 ≤ x10 then (if x10 < (x8.length : Int) then (if 0 < ((rd_L1 x8 x10).length : Int) then (if x2.length < 17592186044416 then (semantic_mavenFindTransitions.l0 k x0 (x2 ++ [wrap64 ((rd (rd_L1 x8 x10) 0) + 1)]) x8 x9 (wrap64 (x10 + 1))) else (none)) else (none)) else (none)) else (none)) else ((semantic_zzPairs.f k x0 true).bind fun t121 => (semantic_mavenFindTransitions.l1 k x2 t121 (t121.length : Int) 0))
def semantic_mavenFindTransitions.l1 : Nat → List Int → List (List Int) → Int → Int → Option (List Int)
  | 0, _, _, _, _ => none
  | k + 1, x2, x23, x24, x25 => if x25 < x24 then (if 0 ≤ x25 then (if x25 < (x23.length : Int) then (if 0 < ((rd_L1 x23 x25).length : Int) then (if x2.length < 17592186044416 then (semantic_mavenFindTransitions.l1 k (x2 ++ [wrap64 ((rd (rd_L1 x23 x25) 0) + 1)]) x23 x24 (wrap64 (x25 + 1))) else (none)) else (none)) else (none)) else (none)) else (if x2.length < 4611686018427387904 then (some (x2.mergeSort fun x y => decide (x ≤ y))) else (none))
end
def semantic_mavenFindTransitions.f (k : Nat) (a0 : ByteArray) : Option (List Int) := (semantic_zzPairs.f k a0 false).bind fun t113 => (semantic_mavenFindTransitions.l0 k a0 ([] : List Int) t113 (t113.length : Int) 0)
theorem semantic_mavenFindTransitions.mono_l : ∀ k, (∀ y0 y1 y2 y3 y4, LeO (semantic_mavenFindTransitions.l0 k y0 y1 y2 y3 y4) (semantic_mavenFindTransitions.l0 (k + 1) y0 y1 y2 y3 y4)) ∧ (∀ y0 y1 y2 y3, LeO (semantic_mavenFindTransitions.l1 k y0 y1 y2 y3) (semantic_mavenFindTransitions.l1 (k + 1) y0 y1 y2 y3))
  | 0 => ⟨fun _ _ _ _ _ r h => by simp [semantic_mavenFindTransitions.l0] at h, fun _ _ _ _ r h => by simp [semantic_mavenFindTransitions.l1] at h⟩
  | k + 1 => by
    obtain ⟨ih0, ih1⟩ := semantic_mavenFindTransitions.mono_l k
    refine ⟨?_, ?_⟩
    · intro y0 y1 y2 y3 y4
      unfold semantic_mavenFindTransitions.l0
      repeat' first
      | (with_reducible exact ih0 _ _ _ _ _)
      | (with_reducible exact ih1 _ _ _ _)
      | (with_reducible exact semantic_zzPairs.mono _ _ _)
      | (with_reducible exact LeO.refl _)
      | (with_reducible exact LeO.none _)
      | (with_reducible refine LeO.ite ?_ ?_)
      | (with_reducible refine LeO.bind ?_ (fun _ => ?_))
      | exact ih0 _ _ _ _ _
      | exact ih1 _ _ _ _
      | exact semantic_zzPairs.mono _ _ _
      | exact LeO.none _
      | refine LeO.ite ?_ ?_
      | refine LeO.bind ?_ (fun _ => ?_)
    · intro y0 y1 y2 y3
      unfold semantic_mavenFindTransitions.l1
      repeat' first
      | (with_reducible exact ih0 _ _ _ _ _)
      | (with_reducible exact ih1 _ _ _ _)
      | (with_reducible exact semantic_zzPairs.mono _ _ _)
      | (with_reducible exact LeO.refl _)
      | (with_reducible exact LeO.none _)
      | (with_reducible refine LeO.ite ?_ ?_)
      | (with_reducible refine LeO.bind ?_ (fun _ => ?_))
      | exact ih0 _ _ _ _ _
      | exact ih1 _ _ _ _
      | exact semantic_zzPairs.mono _ _ _
      | exact LeO.none _
      | refine LeO.ite ?_ ?_
      | refine LeO.bind ?_ (fun _ => ?_)
theorem semantic_mavenFindTransitions.mono : ∀ a0 k, LeO (semantic_mavenFindTransitions.f k a0) (semantic_mavenFindTransitions.f (k + 1) a0) := by
  intro a0 k
  obtain ⟨ih0, ih1⟩ := semantic_mavenFindTransitions.mono_l k
  unfold semantic_mavenFindTransitions.f
  repeat' first
      | (with_reducible exact ih0 _ _ _ _ _)
      | (with_reducible exact ih1 _ _ _ _)
      | (with_reducible exact semantic_zzPairs.mono _ _ _)
      | (with_reducible exact LeO.refl _)
      | (with_reducible exact LeO.none _)
      | (with_reducible refine LeO.ite ?_ ?_)
      | (with_reducible refine LeO.bind ?_ (fun _ => ?_))
      | exact ih0 _ _ _ _ _
      | exact ih1 _ _ _ _
      | exact semantic_zzPairs.mono _ _ _
      | exact LeO.none _
      | refine LeO.ite ?_ ?_
      | refine LeO.bind ?_ (fun _ => ?_)
set_option maxHeartbeats 8000000 in
set_option maxRecDepth 100000 in
theorem semantic_mavenFindTransitions.calls (k : Nat) (a0 : ByteArray) (r : List Int) (w : World) (h : semantic_mavenFindTransitions.f k a0 = some r) :
    Calls Tryd.prog 40 #[.string a0] w fun e w' => ∃ v0_ : Value, e = .returned (v0_) ∧ Kd.R (Kd.int .i64) 3 w' w.heap.size (fun _ => True) v0_ r ∧ Below w.heap.size w w' := by
  have HB := Aside0.mk (Below.refl w.heap.size w)
  have H : ((semantic_zzPairs.f k a0 false).bind fun t113 => (semantic_mavenFindTransitions.l0 k a0 ([] : List Int) t113 (t113.length : Int) 0)) = some r := h
  clear h
  replace H := Option.bind_eq_some_iff.mp H
  obtain ⟨t113, A20, H⟩ := H
  replace H : (semantic_mavenFindTransitions.l0 k a0 ([] : List Int) t113 (t113.length : Int) 0) = some r := H
  have A2 := Aside0.mk A20
  clear A20
  have H' := Aside0.mk H
  clear H
  go_enter Tryd.func40, Tryd.ntmps40
  go_wp2_with (first | ((with_reducible refine gate_callee (f := 47) rfl ?_); refine goesL_ (some 8) rfl rfl Tryd.func47 (by kernel_rfl) rfl #[.string a0, .bool false] rfl (by (try simp only [List.map_toArray, List.map_cons, List.map_nil]); first | done | rfl | (simp only [List.length_drop, List.length_take]; rfl)) ?_; (with_reducible refine (semantic_zzPairs.calls k a0 false t113 _ A2.out).mono ?_); rintro e w3 ⟨v114, rfl, ho0, hb⟩; refine ⟨_, rfl, ?_⟩; have n0_ := Aside0.mk (Kd.S_lower ho0 (below_size (by repeat (first | (with_reducible first | exact HB.out | apply below_alloc | apply pw_below_drewN | apply below_drew1) | exact HB.out)))); have n1_ := Aside0.mk (below_step (by repeat (first | (with_reducible first | exact HB.out | apply below_alloc | apply pw_below_drewN | apply below_drew1) | exact HB.out)) hb); clear HB; have HO115 := n0_; have HB := n1_; clear n0_ n1_; (try clear hb); (try clear hb2); (try clear hk); (try clear hi); (try clear ho0); obtain ⟨Ao4, co4, eo4⟩ := Kd.S_slice HO115.out; subst eo4))
  (try simp only [Act.put, List.setIfInBounds_toArray, List.set_cons_zero, List.set_cons_succ])
  go_loopg [2, 10] k (fun kq v2 v10 w' => ∃ (x2_1 : List Int) (x10_1 : Int), v10 = .int .i64 x10_1 ∧ Aside0 (semantic_mavenFindTransitions.l0 kq a0 x2_1 t113 (t113.length : Int) x10_1 = some r) ∧ Aside0 (kq ≤ k) ∧ Aside0 (Kd.R (Kd.int .i64) 3 w' w.heap.size (fun _ => True) v2 x2_1) ∧ Aside0 (Kd.S (Kd.slice 3 (Kd.int .i64)) 31 w' w.heap.size (fun k_ => some k_ ≠ (v2 : Value).ownBlock) (.slice Ao4 t113.length co4) t113) ∧ Aside0 (Below w.heap.size w w'))
  case atStart => exact ⟨(([] : List Int)), (0), (by first | rfl | (simp; done) | (simp [*]; done) | (simp [bne_nil_hyb]; done) | (simp [bne_nil_hyb, *]; done)), H', ⟨Nat.le_refl _⟩, ⟨by first | exact Kd.R_nil _ _ _ _ _ | exact Kd.N_nil _ _ _ _ _ | exact Kd.V_nil _ _ _ _ _ | exact Kd.Q_nil _ _ _ _ _ | exact Kd.S_nil _ _ _ _ _⟩, ⟨by (with_reducible repeat (first | apply Kd.S_alloc | apply Kd.S_drewN | apply Kd.S_drew)); exact Kd.S_mono HO115.out (fun _ hk => (by simp [Value.ownBlock]))⟩, ⟨by repeat (first | (with_reducible first | exact HB.out | apply below_alloc | apply pw_below_drewN | apply below_drew1) | exact HB.out)⟩⟩
  case round =>
    clear H'
    try clear p2
    try clear c4
    obtain ⟨x2_1, x10_1, rfl, HA, HK1, HO_2, HO_8, HB⟩ := hrel
    cases gk with
    | zero => exact absurd HA.out (by simp [semantic_mavenFindTransitions.l0])
    | succ k1 =>
      have H := HA.out
      clear HA
      simp only [semantic_mavenFindTransitions.l0] at H
      by_cases c5 : x10_1 < (t113.length : Int)
      · rw [if_pos c5] at H
        have c5b0 : decide (x10_1 < (t113.length : Int)) = true := decide_eq_true c5
        clear c5
        by_cases c6 : 0 ≤ x10_1
        · rw [if_pos c6] at H
          have c6b0 : decide (0 ≤ x10_1) = true := decide_eq_true c6
          clear c6
          by_cases c7 : x10_1 < (t113.length : Int)
          · rw [if_pos c7] at H
            have c7b0 : decide (x10_1 < (t113.length : Int)) = true := decide_eq_true c7
            clear c7
            by_cases c8 : 0 < ((rd_L1 t113 x10_1).length : Int)
            · rw [if_pos c8] at H
              have c8b0 : decide (0 < ((rd_L1 t113 x10_1).length : Int)) = true := decide_eq_true c8
              have c8b1 : decide (0 < (rd_L1 t113 x10_1).length) = true := decide_eq_true (by omega)
              clear c8
              by_cases c9 : x2_1.length < 17592186044416
              · rw [if_pos c9] at H
                have LMc9 := Aside0.mk c9
                clear c9
                obtain ⟨y118, hy118⟩ : ∃ y_ : List Int, y_ = (x2_1 ++ [wrap64 ((rd (rd_L1 t113 x10_1) 0) + 1)]) := ⟨_, rfl⟩
                replace H : (semantic_mavenFindTransitions.l0 k1 a0 y118 t113 (t113.length : Int) (wrap64 (x10_1 + 1))) = some r := by first | (rw [hy118]; with_reducible exact H) | (have H2_ := (Option.bind_some _ _).symm.trans H; rw [hy118]; with_reducible exact H2_) | (have H2_ := (Option.bind_some _ _).symm.trans H; with_reducible exact H2_) | with_reducible exact H | (rw [hy118]; exact H) | exact H
                have Ny118 := Aside0.mk hy118
                clear hy118
                have H' := Aside0.mk H
                clear H
                have p116 : 0 ≤ (x10_1 : Int) := of_decide_eq_true (by first | (with_reducible assumption) | assumption)
                have q116 : x10_1 < (t113.length : Int) := of_decide_eq_true (by first | (with_reducible assumption) | assumption)
                obtain ⟨ad116, A116_0, c116_0, e116, hx116_0, hl116_0, hi116_0⟩ := at_L1 (Kd.S_reads' HO_8.out).2.2 x10_1 p116 q116
                cases e116
                obtain ⟨ce116, hce116, hMe116, hcc116⟩ := Kd.S_get HO_8.out [] x10_1 p116 (by first | exact q116 | exact of_decide_eq_true (by first | (with_reducible assumption) | assumption) | (have e_ := (Kd.S_reads' HO_8.out).1; omega))
                obtain ⟨ve116_0, rfl, ge116_0⟩ := hMe116
                have hv116_0 := hcc116 0 _ rfl
                rw [Nat.add_zero, show ((Kd.slice 3 (Kd.int .i64))).sz = 1 from rfl, Nat.mul_one] at hv116_0
                replace hv116_0 := Option.some.inj (hv116_0.symm.trans hx116_0)
                rw [hv116_0] at ge116_0
                have HL116_0 := Aside0.mk (show Kd.R (Kd.int .i64) 3 _ _ _ _ (rd_L1 t113 x10_1) from ge116_0)
                clear hv116_0 ge116_0
                clear hcc116 hce116
                have HR116_0 := Aside0.mk hi116_0
                have HC116_0 := Aside0.mk hl116_0
                clear hi116_0 hl116_0
                replace p116 := eq_true p116
                replace q116 := eq_true q116
                have p117 : 0 ≤ (0 : Int) := (by omega)
                have q117 : 0 < ((rd_L1 t113 x10_1).length : Int) := of_decide_eq_true (by first | (with_reducible assumption) | assumption)
                obtain ⟨ad117, e117, hx117_0⟩ := Kd.at_int (by repeat (first | (with_reducible exact HR116_0.out) | (with_reducible refine Kd.C_alloc ?_ _) | (with_reducible refine Kd.C_drewN ?_ _) | (with_reducible refine Kd.C_drew ?_) | exact HR116_0.out)) 0 p117 q117
                cases e117
                have qi117 : (0 < (rd_L1 t113 x10_1).length) = True := eq_true (by omega)
                (try rw [show ((0 : Int)).toNat = 0 from rfl] at hx117_0)
                (try rw [Addr.add_zero'] at hx117_0)
                replace p117 := eq_true p117
                replace q117 := eq_true q117
                go_wp2_with (first | ((with_reducible refine gate_builtin (b := .append) (xs := #[.tmp 14, .tmp 19]) rfl ?_); at_builtin; refine Kd.R_append (Kd.int .i64) (w0 := w) w.heap.size rfl (.tmp 14) (.tmp 19) 31 3 (.int .i64 0) 8 rfl Tryd.underlying31 info3 rfl (by decide) (by omega) u2 x2_1 (wrap64 ((rd (rd_L1 t113 x10_1) 0) + 1)) [.int .i64 (wrap64 ((rd (rd_L1 t113 x10_1) 0) + 1))] (fun _ => True) (fun _ => False) rfl rfl ?aP (fun _ hk => hk.elim) ?aF ?aO ?aB ?aS ?aL ?_; (case aP => exact rfl); (case aB => exact (by repeat (first | (with_reducible first | exact HB.out | apply below_alloc | apply pw_below_drewN | apply below_drew1) | exact HB.out))); (case aF => exact (fun _ _ => trivial)); (case aO => exact (by (with_reducible repeat (first | apply Kd.R_alloc | apply Kd.R_drewN | apply Kd.R_drew)); exact HO_2.out)); (case aS => exact (below_size (by repeat (first | (with_reducible first | exact HB.out | apply below_alloc | apply pw_below_drewN | apply below_drew1) | exact HB.out)))); (case aL => have := LMc9.out; omega); intro v119 w10 ho hb hg hat; rw [← Ny118.out] at ho; have n0_ := Aside0.mk (Kd.S_after (ok := (fun _ => True)) (by (with_reducible repeat (first | apply Kd.S_alloc | apply Kd.S_drewN | apply Kd.S_drew)); exact Kd.S_mono HO_8.out (fun _ hk => ⟨trivial, hk⟩)) hg hat); have n1_ := Aside0.mk (Kd.R_after (ok := (fun k_ => some k_ ≠ (.slice (some ad116) t113.length co4 : Value).ownBlock)) (by (with_reducible repeat (first | apply Kd.R_alloc | apply Kd.R_drewN | apply Kd.R_drew)); exact Kd.R_mono HL116_0.out (fun _ hk => ⟨hk.2, hk.1⟩)) hg hat); have n2_ := Aside0.mk (hb); have n3_ := Aside0.mk (ho); clear HO_8; clear HL116_0; clear HB; clear HO_2; have HO_8 := n0_; have HL116_0 := n1_; have HB := n2_; have HO120 := n3_; clear n0_ n1_ n2_ n3_; clear ho hb hg hat))
                go_roundg k1
                case measure => have := HK1.out; omega
                case rel => exact ⟨(y118), (wrap64 (x10_1 + 1)), (by first | rfl | (simp; done) | (simp [*]; done) | (simp [bne_nil_hyb]; done) | (simp [bne_nil_hyb, *]; done)), H', ⟨by have := HK1.out; omega⟩, ⟨by (with_reducible repeat (first | apply Kd.R_alloc | apply Kd.R_drewN | apply Kd.R_drew)); exact HO120.out⟩, ⟨by (with_reducible repeat (first | apply Kd.S_alloc | apply Kd.S_drewN | apply Kd.S_drew)); exact Kd.S_mono HO_8.out (fun _ hk => hk.2)⟩, ⟨by repeat (first | (with_reducible first | exact HB.out | apply below_alloc | apply pw_below_drewN | apply below_drew1) | exact HB.out)⟩⟩
              · rw [if_neg c9] at H
                exact absurd H (by simp)
            · rw [if_neg c8] at H
              exact absurd H (by simp)
          · rw [if_neg c7] at H
            exact absurd H (by simp)
        · rw [if_neg c6] at H
          exact absurd H (by simp)
      · rw [if_neg c5] at H
        have c5b0 : decide (x10_1 < (t113.length : Int)) = false := decide_eq_false c5
        clear c5
        replace H := Option.bind_eq_some_iff.mp H
        obtain ⟨t121, A110, H⟩ := H
        replace H : (semantic_mavenFindTransitions.l1 k1 x2_1 t121 (t121.length : Int) 0) = some r := H
        have A11 := Aside0.mk A110
        clear A110
        have H' := Aside0.mk H
        clear H
        go_wp2_with (first | ((with_reducible refine gate_callee (f := 47) rfl ?_); refine goesL_ (some 23) rfl rfl Tryd.func47 (by kernel_rfl) rfl #[.string a0, .bool true] rfl (by (try simp only [List.map_toArray, List.map_cons, List.map_nil]); first | done | rfl | (simp only [List.length_drop, List.length_take]; rfl)) ?_; (with_reducible refine (semantic_zzPairs.calls k1 a0 true t121 _ A11.out).mono ?_); rintro e w12 ⟨v122, rfl, ho0, hb⟩; refine ⟨_, rfl, ?_⟩; have n0_ := Aside0.mk (Kd.R_below (by (with_reducible repeat (first | apply Kd.R_alloc | apply Kd.R_drewN | apply Kd.R_drew)); exact HO_2.out) hb); have n1_ := Aside0.mk (Kd.S_elder' (by (with_reducible repeat (first | apply Kd.S_alloc | apply Kd.S_drewN | apply Kd.S_drew)); exact HO_8.out) (Kd.S_base ho0) hb); have n2_ := Aside0.mk (Kd.S_lower (Kd.S_new' (Kd.S_new' ho0 (Kd.R_lt (by (with_reducible repeat (first | apply Kd.R_alloc | apply Kd.R_drewN | apply Kd.R_drew)); exact HO_2.out))) (Kd.S_lt (by (with_reducible repeat (first | apply Kd.S_alloc | apply Kd.S_drewN | apply Kd.S_drew)); exact HO_8.out))) (below_size (by repeat (first | (with_reducible first | exact HB.out | apply below_alloc | apply pw_below_drewN | apply below_drew1) | exact HB.out)))); have n3_ := Aside0.mk (below_step (by repeat (first | (with_reducible first | exact HB.out | apply below_alloc | apply pw_below_drewN | apply below_drew1) | exact HB.out)) hb); clear HO_2; clear HO_8; clear HB; have HO_2 := n0_; have HO_8 := n1_; have HO123 := n2_; have HB := n3_; clear n0_ n1_ n2_ n3_; (try clear hb); (try clear hb2); (try clear hk); (try clear hi); (try clear ho0); obtain ⟨Ao13, co13, eo13⟩ := Kd.S_slice HO123.out; subst eo13))
        (try simp only [Act.put, List.setIfInBounds_toArray, List.set_cons_zero, List.set_cons_succ])
        go_loopg [2, 25] k1 (fun kq v2 v25 w' => ∃ (x2_2 : List Int) (x25_2 : Int), v25 = .int .i64 x25_2 ∧ Aside0 (semantic_mavenFindTransitions.l1 kq x2_2 t121 (t121.length : Int) x25_2 = some r) ∧ Aside0 (kq ≤ k1) ∧ Aside0 (Kd.R (Kd.int .i64) 3 w' w.heap.size (fun _ => True) v2 x2_2) ∧ Aside0 (Kd.S (Kd.slice 3 (Kd.int .i64)) 31 w' w.heap.size (fun k_ => some k_ ≠ (v2 : Value).ownBlock) (.slice Ao13 t121.length co13) t121) ∧ Aside0 (Below w.heap.size w w'))
        case atStart => exact ⟨(x2_1), (0), (by first | rfl | (simp; done) | (simp [*]; done) | (simp [bne_nil_hyb]; done) | (simp [bne_nil_hyb, *]; done)), H', ⟨Nat.le_refl _⟩, ⟨by (with_reducible repeat (first | apply Kd.R_alloc | apply Kd.R_drewN | apply Kd.R_drew)); exact HO_2.out⟩, ⟨by (with_reducible repeat (first | apply Kd.S_alloc | apply Kd.S_drewN | apply Kd.S_drew)); exact Kd.S_mono HO123.out (fun _ hk => hk.1.2)⟩, ⟨by repeat (first | (with_reducible first | exact HB.out | apply below_alloc | apply pw_below_drewN | apply below_drew1) | exact HB.out)⟩⟩
        case round =>
          clear H'
          try clear c1
          try clear p1
          try clear q1
          try clear hx1
          try clear qi1
          try clear p2
          try clear c4
          try clear c5
          try clear c5b0
          try clear c6
          try clear c6b0
          try clear p6
          try clear c7
          try clear c7b0
          try clear c8
          try clear c8b0
          try clear c8b1
          try clear c9
          try clear c11
          try clear p11
          try clear q11
          try clear hx11
          try clear qi11
          try clear hx116_0
          try clear hx117_0
          try clear p116
          try clear p117
          try clear p2
          try clear q116
          try clear q117
          obtain ⟨x2_2, x25_2, rfl, HA, HK2, HO_2, HO_23, HB⟩ := hrel
          cases gk with
          | zero => exact absurd HA.out (by simp [semantic_mavenFindTransitions.l1])
          | succ k2 =>
            have H := HA.out
            clear HA
            simp only [semantic_mavenFindTransitions.l1] at H
            by_cases c14 : x25_2 < (t121.length : Int)
            · rw [if_pos c14] at H
              have c14b0 : decide (x25_2 < (t121.length : Int)) = true := decide_eq_true c14
              clear c14
              by_cases c15 : 0 ≤ x25_2
              · rw [if_pos c15] at H
                have c15b0 : decide (0 ≤ x25_2) = true := decide_eq_true c15
                clear c15
                by_cases c16 : x25_2 < (t121.length : Int)
                · rw [if_pos c16] at H
                  have c16b0 : decide (x25_2 < (t121.length : Int)) = true := decide_eq_true c16
                  clear c16
                  by_cases c17 : 0 < ((rd_L1 t121 x25_2).length : Int)
                  · rw [if_pos c17] at H
                    have c17b0 : decide (0 < ((rd_L1 t121 x25_2).length : Int)) = true := decide_eq_true c17
                    have c17b1 : decide (0 < (rd_L1 t121 x25_2).length) = true := decide_eq_true (by omega)
                    clear c17
                    by_cases c18 : x2_2.length < 17592186044416
                    · rw [if_pos c18] at H
                      have LMc18 := Aside0.mk c18
                      clear c18
                      obtain ⟨y126, hy126⟩ : ∃ y_ : List Int, y_ = (x2_2 ++ [wrap64 ((rd (rd_L1 t121 x25_2) 0) + 1)]) := ⟨_, rfl⟩
                      replace H : (semantic_mavenFindTransitions.l1 k2 y126 t121 (t121.length : Int) (wrap64 (x25_2 + 1))) = some r := by first | (rw [hy126]; with_reducible exact H) | (have H2_ := (Option.bind_some _ _).symm.trans H; rw [hy126]; with_reducible exact H2_) | (have H2_ := (Option.bind_some _ _).symm.trans H; with_reducible exact H2_) | with_reducible exact H | (rw [hy126]; exact H) | exact H
                      have Ny126 := Aside0.mk hy126
                      clear hy126
                      have H' := Aside0.mk H
                      clear H
                      have p124 : 0 ≤ (x25_2 : Int) := of_decide_eq_true (by first | (with_reducible assumption) | assumption)
                      have q124 : x25_2 < (t121.length : Int) := of_decide_eq_true (by first | (with_reducible assumption) | assumption)
                      obtain ⟨ad124, A124_0, c124_0, e124, hx124_0, hl124_0, hi124_0⟩ := at_L1 (Kd.S_reads' HO_23.out).2.2 x25_2 p124 q124
                      cases e124
                      obtain ⟨ce124, hce124, hMe124, hcc124⟩ := Kd.S_get HO_23.out [] x25_2 p124 (by first | exact q124 | exact of_decide_eq_true (by first | (with_reducible assumption) | assumption) | (have e_ := (Kd.S_reads' HO_23.out).1; omega))
                      obtain ⟨ve124_0, rfl, ge124_0⟩ := hMe124
                      have hv124_0 := hcc124 0 _ rfl
                      rw [Nat.add_zero, show ((Kd.slice 3 (Kd.int .i64))).sz = 1 from rfl, Nat.mul_one] at hv124_0
                      replace hv124_0 := Option.some.inj (hv124_0.symm.trans hx124_0)
                      rw [hv124_0] at ge124_0
                      have HL124_0 := Aside0.mk (show Kd.R (Kd.int .i64) 3 _ _ _ _ (rd_L1 t121 x25_2) from ge124_0)
                      clear hv124_0 ge124_0
                      clear hcc124 hce124
                      have HR124_0 := Aside0.mk hi124_0
                      have HC124_0 := Aside0.mk hl124_0
                      clear hi124_0 hl124_0
                      replace p124 := eq_true p124
                      replace q124 := eq_true q124
                      have p125 : 0 ≤ (0 : Int) := (by omega)
                      have q125 : 0 < ((rd_L1 t121 x25_2).length : Int) := of_decide_eq_true (by first | (with_reducible assumption) | assumption)
                      obtain ⟨ad125, e125, hx125_0⟩ := Kd.at_int (by repeat (first | (with_reducible exact HR124_0.out) | (with_reducible refine Kd.C_alloc ?_ _) | (with_reducible refine Kd.C_drewN ?_ _) | (with_reducible refine Kd.C_drew ?_) | exact HR124_0.out)) 0 p125 q125
                      cases e125
                      have qi125 : (0 < (rd_L1 t121 x25_2).length) = True := eq_true (by omega)
                      (try rw [show ((0 : Int)).toNat = 0 from rfl] at hx125_0)
                      (try rw [Addr.add_zero'] at hx125_0)
                      replace p125 := eq_true p125
                      replace q125 := eq_true q125
                      go_wp2_with (first | ((with_reducible refine gate_builtin (b := .append) (xs := #[.tmp 29, .tmp 34]) rfl ?_); at_builtin; refine Kd.R_append (Kd.int .i64) (w0 := w) w.heap.size rfl (.tmp 29) (.tmp 34) 31 3 (.int .i64 0) 8 rfl Tryd.underlying31 info3 rfl (by decide) (by omega) u2 x2_2 (wrap64 ((rd (rd_L1 t121 x25_2) 0) + 1)) [.int .i64 (wrap64 ((rd (rd_L1 t121 x25_2) 0) + 1))] (fun _ => True) (fun _ => False) rfl rfl ?aP (fun _ hk => hk.elim) ?aF ?aO ?aB ?aS ?aL ?_; (case aP => exact rfl); (case aB => exact (by repeat (first | (with_reducible first | exact HB.out | apply below_alloc | apply pw_below_drewN | apply below_drew1) | exact HB.out))); (case aF => exact (fun _ _ => trivial)); (case aO => exact (by (with_reducible repeat (first | apply Kd.R_alloc | apply Kd.R_drewN | apply Kd.R_drew)); exact HO_2.out)); (case aS => exact (below_size (by repeat (first | (with_reducible first | exact HB.out | apply below_alloc | apply pw_below_drewN | apply below_drew1) | exact HB.out)))); (case aL => have := LMc18.out; omega); intro v127 w19 ho hb hg hat; rw [← Ny126.out] at ho; have n0_ := Aside0.mk (Kd.S_after (ok := (fun _ => True)) (by (with_reducible repeat (first | apply Kd.S_alloc | apply Kd.S_drewN | apply Kd.S_drew)); exact Kd.S_mono HO_23.out (fun _ hk => ⟨trivial, hk⟩)) hg hat); have n1_ := Aside0.mk (Kd.R_after (ok := (fun k_ => some k_ ≠ (.slice (some ad124) t121.length co13 : Value).ownBlock)) (by (with_reducible repeat (first | apply Kd.R_alloc | apply Kd.R_drewN | apply Kd.R_drew)); exact Kd.R_mono HL124_0.out (fun _ hk => ⟨hk.2, hk.1⟩)) hg hat); have n2_ := Aside0.mk (hb); have n3_ := Aside0.mk (ho); clear HO_23; clear HL124_0; clear HB; clear HO_2; have HO_23 := n0_; have HL124_0 := n1_; have HB := n2_; have HO128 := n3_; clear n0_ n1_ n2_ n3_; clear ho hb hg hat))
                      go_roundg k2
                      case measure => have := HK1.out; have := HK2.out; omega
                      case rel => exact ⟨(y126), (wrap64 (x25_2 + 1)), (by first | rfl | (simp; done) | (simp [*]; done) | (simp [bne_nil_hyb]; done) | (simp [bne_nil_hyb, *]; done)), H', ⟨by have := HK1.out; have := HK2.out; omega⟩, ⟨by (with_reducible repeat (first | apply Kd.R_alloc | apply Kd.R_drewN | apply Kd.R_drew)); exact HO128.out⟩, ⟨by (with_reducible repeat (first | apply Kd.S_alloc | apply Kd.S_drewN | apply Kd.S_drew)); exact Kd.S_mono HO_23.out (fun _ hk => hk.2)⟩, ⟨by repeat (first | (with_reducible first | exact HB.out | apply below_alloc | apply pw_below_drewN | apply below_drew1) | exact HB.out)⟩⟩
                    · rw [if_neg c18] at H
                      exact absurd H (by simp)
                  · rw [if_neg c17] at H
                    exact absurd H (by simp)
                · rw [if_neg c16] at H
                  exact absurd H (by simp)
              · rw [if_neg c15] at H
                exact absurd H (by simp)
            · rw [if_neg c14] at H
              have c14b0 : decide (x25_2 < (t121.length : Int)) = false := decide_eq_false c14
              clear c14
              by_cases cs : x2_2.length < 4611686018427387904
              · rw [if_pos cs] at H
                obtain rfl := Option.some.inj H
                clear H
                have CS := Aside0.mk cs
                clear cs
                go_wp2_with (first | ((with_reducible refine gate_callee (f := 48) rfl ?_); refine goesL_ (some 38) rfl rfl Tryd.func48 (by kernel_rfl) rfl #[u2] rfl (by (try simp only [List.map_toArray, List.map_cons, List.map_nil]); first | done | rfl) ?_; refine (sort_row (base := w.heap.size) HO_2.out (below_size (by repeat (first | (with_reducible first | exact HB.out | apply below_alloc | apply pw_below_drewN | apply below_drew1) | exact HB.out))) CS.out).mono ?_; rintro e w5 ⟨rfl, ho0, hb⟩; refine ⟨_, rfl, ?_⟩; have n0_ := Aside0.mk ho0; have n1_ := Aside0.mk (below_trans_ HB.out hb); clear HB; have HOS := n0_; have HB := n1_; clear n0_ n1_; clear hb; clear ho0))
                go_ret
                exact ⟨_, rfl, HOS.out, HB.out⟩
              · rw [if_neg cs] at H
                exact absurd H (by simp)
end
end Go.Proofs.YteffbgjfhbgooaaDoorH
