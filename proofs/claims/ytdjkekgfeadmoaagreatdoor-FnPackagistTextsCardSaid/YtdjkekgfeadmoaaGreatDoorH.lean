/- What the printed texts of this seat lack, in the form that they use: a string appended inside a region that draws its order; contracts of functions that print.sh does not take. -/
import Derived.Test.YtdjkekgfeadmoaaGreatDoorProg
import Derived.Test.YtdjkekgfeadmoaaGreatDoorWWords
import Derived.Laws.Runes
import Derived.Lib.Strings
import Derived.Lib.Slices
import Derived.Lib.Walk
import Derived.WalkKit
import Derived.LoopTactic
import Derived.Outline
import Derived.Below
import Derived.KernelRfl
import Derived.SliceStrings
namespace Go.Proofs.YtdjkekgfeadmoaaGreatDoorH
open Go.RowKit Go.Proofs.YtdjkekgfeadmoaaGreatDoorW.PrintWords

theorem bne_nil_hyb (l : List UInt8) : (l != []) = !l.isEmpty := by cases l <;> rfl

theorem bytesLess_tri : ∀ a b : List UInt8, (!(Op.bytesLess a b || a == b)) = Op.bytesLess b a
  | [], [] => by simp [Op.bytesLess]
  | [], y :: b => by simp [Op.bytesLess]
  | x :: a, [] => by simp [Op.bytesLess]
  | x :: a, y :: b => by
    have ih := bytesLess_tri a b
    simp only [Op.bytesLess]
    by_cases h1 : x < y
    · have h2 : ¬ y < x := fun h => by rw [UInt8.lt_iff_toNat_lt] at h1 h; omega
      have h3 : (y == x) = false := by rw [beq_eq_false_iff_ne]; intro e; rw [e, UInt8.lt_iff_toNat_lt] at h1; omega
      simp [h1, h2, h3]
    · by_cases h2 : y < x
      · have h3 : (x == y) = false := by rw [beq_eq_false_iff_ne]; intro e; rw [e, UInt8.lt_iff_toNat_lt] at h2; omega
        have h4 : ((x :: a) == (y :: b)) = false := by rw [beq_eq_false_iff_ne]; intro e; injection e with e _; rw [e] at h3; simp at h3
        simp [h1, h2, h3, h4]
      · have e : x = y := by rw [← UInt8.toNat_inj]; rw [UInt8.lt_iff_toNat_lt] at h1 h2; omega
        subst e
        have h5 : ((x :: a) == (x :: b)) = (a == b) := by simp
        rw [h5]
        simp [h1]
        simpa using ih
theorem run_gtr_str {P : Program} (W : World) (t : TypeId) (a b : ByteArray) : (binOp .gtr t (.string a) (.string b)).run P W = .ok (.bool (Op.bytesLess b.toList a.toList)) W := by
  have h : binOp .gtr t (.string a) (.string b) = pure (.bool !(Op.bytesLess a.toList b.toList || a.toList == b.toList)) := by simp [binOp, Op.stringOp]
  rw [h, bytesLess_tri]
  rfl
theorem append_str_at {P : Program} (w : World) (base : Nat) (t u ty e : TypeId) (i : TypeInfo) (ht : P.underlying t = some (.slice e)) (hu : P.underlying u = some .string) (hi : P.info? e = some i) (hz : i.zero = some (.int .u8 0))
    (hsize : i.size = 1) (hby : i.bytes = 1) (v : Value) (n : Nat) (xs : List Value) (hown : w.ownsRow base e 1 v n xs) (s : ByteArray)
    (h63 : n + s.size ≤ maxLen) (hbytes : n + s.size ≤ 140737488355328) (hbase : base ≤ w.heap.size) :
    ∃ v' w', (Builtin.append_ #[t, u] ty #[v, .string s]).run P w = .ok v' w' ∧ w'.ownsRow base e 1 v' (n + s.size) (xs ++ Lib.strCells s) ∧ w.grownBy w' v.ownBlock ∧
      (v'.ownBlock = v.ownBlock ∨ ∃ b, v'.ownBlock = some b ∧ w.heap.size ≤ b) := by
  obtain ⟨v', w', hr, h1, h2, h3⟩ := Lib.run_append_own_string (P := P) w base t u ty e i ht hu hi hz hsize hby v n xs hown s h63 hbytes hbase
  refine ⟨v', w', hr, h1, h2, ?_⟩
  have hsmall : n + s.size ≤ 9223372036854775807 := by simp only [maxLen] at h63; omega
  have same : ∀ {a b : Value} {c d : World}, (Result.ok a c : Result Value) = .ok b d → a = b := fun h => by cases h; rfl
  rcases hown.2 with ⟨rfl, rfl⟩ | ⟨g, cap, cur, rfl, hbg, hg, hnc, hcm, hcs, htake⟩
  · by_cases hm : s.size = 0
    · left
      rw [h3.2 ⟨rfl, hm⟩]
    · right
      have hk := run_append_nil_string (P := P) w t u ty e i (.int .u8 0) ht hu hi hz s (by omega) (by omega) (by rw [hby]; omega)
      have hv := same (hr.symm.trans hk)
      subst hv
      exact ⟨w.heap.size, by simp [Value.ownBlock], Nat.le_refl _⟩
  · have hxl : xs.length = n := by simpa using hown.1
    by_cases hroom : n + s.size ≤ cap
    · left
      have hcs' : cur.size = cap := by simpa using hcs
      have hk := Lib.run_append_room_string (P := P) w t u ty e i ht hu hi hsize g n cap cur hg s hroom (by omega)
      have hv := same (hr.symm.trans hk)
      subst hv
      simp [Value.ownBlock]
    · right
      have holds : ∀ j u, xs[j]? = some u → w.cell? ((⟨g, 0, none⟩ : Addr).add j) = some u := hown.cells (g := g) rfl
      have hk := Lib.run_append_grow_string (P := P) w t u ty e i (.int .u8 0) ht hu hi hz ⟨g, 0, none⟩ n cap xs (by rw [hsize]; simpa using hxl) holds s (by omega) (by omega) (by rw [hby]; exact growslice_fits (by omega) (by omega))
      have hv := same (hr.symm.trans hk)
      subst hv
      exact ⟨w.heap.size, by simp [Value.ownBlock], Nat.le_refl _⟩

section
variable {P : Program} {ops : Array Oper} {rest : List Oper} {o : Oper} {a : Act} {K : Act → World → Prop} {Q : Exit → Act → World → Prop}
theorem R_append_str_run {w0 W : World} (base : Nat) (t u ty e : TypeId)
    (ht : P.underlying t = some (.slice e)) (hu : P.underlying u = some .string) (hinfo : (P.info? e).map (fun i => (i.zero, i.size, i.bytes)) = some (some (.int .u8 0), 1, 1))
    (v : Value) (xs : List Int) (y : ByteArray) (ok : Nat → Prop) (hfresh : ∀ k, W.heap.size ≤ k → ok k)
    (HO : (Kd.int .u8).R e W base ok v xs) (HB : Below base w0 W) (hbase : base ≤ W.heap.size) (hl : xs.length + y.size ≤ 140737488355328) :
    ∃ v1 w1, (Builtin.append_ #[t, u] ty #[v, .string y]).run P W = .ok v1 w1 ∧ (Kd.int .u8).R e w1 base ok v1 (xs ++ bytesOf y) ∧ Below base w0 w1 ∧ W.grownBy w1 v.ownBlock ∧ (v1.ownBlock = v.ownBlock ∨ ∃ b, v1.ownBlock = some b ∧ W.heap.size ≤ b) := by
  obtain ⟨i0, hi, hzz⟩ := Option.map_eq_some_iff.1 hinfo
  simp only [Prod.mk.injEq] at hzz
  obtain ⟨hz0, hz1, hz2⟩ := hzz
  have ho := Kd.own_of_R HO
  obtain ⟨v1, w1, hr, hown, hg, hat⟩ := append_str_at (P := P) W base t u ty e i0 ht hu hi hz0 hz1 hz2 v xs.length (encs (Value.int .u8) xs) ho y (by simp only [maxLen]; omega) hl hbase
  have hl2 : (xs ++ bytesOf y).length = xs.length + y.size := by rw [List.length_append, bytesOf_length]
  have hc : encs (Value.int .u8) (xs ++ bytesOf y) = encs (Value.int .u8) xs ++ Lib.strCells y := by
    simp [encs, bytesOf, Lib.strCells]
  refine ⟨v1, w1, hr, Kd.R_of_own (by rw [hl2, hc]; exact hown) (fun k hk => ?_), HB.grown hg hbase (own_base ho), hg, hat⟩
  rcases hat with hat | ⟨b, hb, hle⟩
  · exact HO.1 k (by rw [← hat]; exact hk)
  · rw [hb] at hk
    obtain rfl := Option.some.inj hk
    exact hfresh _ hle
theorem R_append_str {w0 W : World} (base : Nat) (hgd : o.guard = none) (s x : Operand) (t u e : TypeId)
    (ho : o.op = .call { callee := .builtin .append, args := #[s, x], argTypes := #[t, u] })
    (ht : P.underlying t = some (.slice e)) (hu : P.underlying u = some .string) (hinfo : (P.info? e).map (fun i => (i.zero, i.size, i.bytes)) = some (some (.int .u8 0), 1, 1))
    (v : Value) (xs : List Int) (y : ByteArray) (ok : Nat → Prop) (hs : a.eval s = v) (hx : a.eval x = .string y) (hfresh : ∀ k, W.heap.size ≤ k → ok k)
    (HO : (Kd.int .u8).R e W base ok v xs) (HB : Below base w0 W) (hbase : base ≤ W.heap.size) (hl : xs.length + y.size ≤ 140737488355328)
    (h : ∀ v1 w1, (Kd.int .u8).R e w1 base ok v1 (xs ++ bytesOf y) → Below base w0 w1 → W.grownBy w1 v.ownBlock → (v1.ownBlock = v.ownBlock ∨ ∃ b, v1.ownBlock = some b ∧ W.heap.size ≤ b) → wpList P ops Q rest (a.put o.dst v1) w1) :
    wpList P ops Q (o :: rest) a W := by
  obtain ⟨v1, w1, hr, h1, h2, h3, h4⟩ := R_append_str_run (P := P) base t u o.type e ht hu hinfo v xs y ok hfresh HO HB hbase hl
  refine wpList_plain hgd fun K hK => ?_
  unfold Oper.wp execOp
  simp only [ho, resolve, invoke, builtin, Sem.run_bind, Sem.run_pure, Result.andThen_ok, List.map_toArray, List.map_cons, List.map_nil, hs, hx, hr]
  exact hK _ _ (h v1 w1 h1 h2 h3 h4)
theorem R_append_str_step {w0 W : World} (base : Nat) (hw : Region.wanted o (yielded ops a.tmps) = true) (s x : Operand) (t u e : TypeId)
    (ho : o.op = .call { callee := .builtin .append, args := #[s, x], argTypes := #[t, u] })
    (ht : P.underlying t = some (.slice e)) (hu : P.underlying u = some .string) (hinfo : (P.info? e).map (fun i => (i.zero, i.size, i.bytes)) = some (some (.int .u8 0), 1, 1))
    (v : Value) (xs : List Int) (y : ByteArray) (ok : Nat → Prop) (hs : a.eval s = v) (hx : a.eval x = .string y) (hfresh : ∀ k, W.heap.size ≤ k → ok k)
    (HO : (Kd.int .u8).R e W base ok v xs) (HB : Below base w0 W) (hbase : base ≤ W.heap.size) (hl : xs.length + y.size ≤ 140737488355328)
    (h : ∀ v1 w1, (Kd.int .u8).R e w1 base ok v1 (xs ++ bytesOf y) → Below base w0 w1 → W.grownBy w1 v.ownBlock → (v1.ownBlock = v.ownBlock ∨ ∃ b, v1.ownBlock = some b ∧ W.heap.size ≤ b) → K (a.put o.dst v1) w1) :
    if Region.wanted o (yielded ops a.tmps) = true then Oper.wp P o a W K Q else K (a.put o.dst undef) W := by
  obtain ⟨v1, w1, hr, h1, h2, h3, h4⟩ := R_append_str_run (P := P) base t u o.type e ht hu hinfo v xs y ok hfresh HO HB hbase hl
  rw [if_pos hw]
  unfold Oper.wp execOp
  simp only [ho, resolve, invoke, builtin, Sem.run_bind, Sem.run_pure, Result.andThen_ok, List.map_toArray, List.map_cons, List.map_nil, hs, hx, hr]
  exact h v1 w1 h1 h2 h3 h4
end

section
variable {P : Program} {ops : Array Oper} {rest : List Oper} {o : Oper} {a : Act} {Q : Exit → Act → World → Prop}
/-- An operation's value under another name. -/
theorem named_event {W : World} (hgd : o.guard = none) {N : Tmp} (_hd : o.dst = some N) {v v' : Value} (hrun : (execOp a.eval o).run P W = .ok (.value v) W) (e : v = v')
    (h : wpList P ops Q rest (a.put o.dst v') W) : wpList P ops Q (o :: rest) a W := by
  subst e
  exact Kd.event_run hgd hrun h
end

/-! A buffer that '[]byte(s)' made: its numbers, one cell each; what lies behind them is frozen. -/
def Buf (w : World) (g : Nat) (e : TypeId) (l : List Int) : Prop :=
  ∃ (cs : Array Value) (m : Nat), w.heap[g]? = some (.cells cs e (m, m + 1)) ∧ cs.size = m ∧ l.length ≤ m ∧ ∀ j, j < l.length → cs[j]? = some (.int .u8 (l.getD j 0))
theorem Buf.made (W : World) (e : TypeId) (s : ByteArray) : Buf (Lib.bytesWorld W e s) W.heap.size e (bytesOf s) := by
  refine ⟨_, _, Lib.bytesWorld_at_new W e s, rfl, ?_, fun j hj => ?_⟩
  · simp [bytesOf, Lib.bytesCells]
  · have hj' : j < s.size := by rw [bytesOf_length] at hj; exact hj
    have h := Lib.bytesWorld_cell W e s j hj'
    simp only [World.cell?, Lib.bytesWorld_at_new] at h
    have h2 : (bytesOf s).getD j 0 = ((s.data.toList.getD j 0).toNat : Int) := by
      have hl : j < s.data.toList.length := by rw [data_length]; exact hj'
      simp [bytesOf, List.getD_eq_getElem?_getD, List.getElem?_eq_getElem hl]
    rw [h2]
    simpa using h
theorem Buf.cell {w : World} {g : Nat} {e : TypeId} {l : List Int} (h : Buf w g e l) (i : Nat) (hi : i < l.length) : w.cell? ⟨g, i, none⟩ = some (.int .u8 (l.getD i 0)) := by
  obtain ⟨cs, m, h1, h2, h3, h4⟩ := h
  simp [World.cell?, h1, h4 i hi]
theorem Buf.free {w : World} {g : Nat} {e : TypeId} {l : List Int} (h : Buf w g e l) (i : Nat) (hi : i < l.length) : w.frozen? ⟨g, i, none⟩ = false := by
  obtain ⟨cs, m, h1, h2, h3, h4⟩ := h
  simp [World.frozen?, h1]
  omega
theorem Buf.set {w : World} {g : Nat} {e : TypeId} {l : List Int} (h : Buf w g e l) (i : Nat) (v : Int) (hi : i < l.length) : Buf (w.setCell ⟨g, i, none⟩ (.int .u8 v)) g e (l.set i v) := by
  obtain ⟨cs, m, h1, h2, h3, h4⟩ := h
  refine ⟨cs.setIfInBounds i (.int .u8 v), m, ?_, by simp [h2], by simpa using h3, fun j hj => ?_⟩
  · simp [World.setCell, Array.getElem?_modify, h1]
  · have hj' : j < l.length := by simpa using hj
    by_cases e : i = j
    · subst e
      have : i < cs.size := by omega
      simp [this, List.getD_eq_getElem?_getD, hi]
    · simp [Array.getElem?_setIfInBounds_ne e, h4 j hj', List.getD_eq_getElem?_getD, e]
theorem Buf.reads {w : World} {g : Nat} {e : TypeId} {l : List Int} (h : Buf w g e l) (hl : l.length ≤ 9223372036854775807) : ReadsInt w .u8 (some ⟨g, 0, none⟩) l.length l := by
  refine ⟨rfl, hl, fun _ => ⟨_, rfl, fun j hj => ?_⟩⟩
  rw [add_plain]
  exact h.cell j hj

def ptI (c : Int) : Int := if c = 45 ∨ c = 95 ∨ c = 43 then 46 else c
theorem mapTake_succ (f : Int → Int) (l : List Int) (k : Nat) (hk : k < l.length) :
    (l.take (k + 1)).map f ++ l.drop (k + 1) = ((l.take k).map f ++ l.drop k).set k (f (l.getD k 0)) := by
  have h1 : l.drop k = l[k] :: l.drop (k + 1) := List.drop_eq_getElem_cons hk
  have h2 : l.take (k + 1) = l.take k ++ [l[k]] := List.take_succ_eq_append_getElem hk
  have h3 : l.getD k 0 = l[k] := by simp [List.getD_eq_getElem?_getD, hk]
  have h0 : ((l.take k).map f).length = k := by simp; omega
  rw [h2, h1, h3, List.map_append, List.append_assoc]
  generalize (l.take k).map f = A at h0
  subst h0
  rw [List.set_append]
  simp
  rw [h1]
  rfl
theorem mapTake_same (f : Int → Int) (l : List Int) (k : Nat) (hk : k < l.length) (h : f (l.getD k 0) = l.getD k 0) :
    (l.take (k + 1)).map f ++ l.drop (k + 1) = (l.take k).map f ++ l.drop k := by
  have h1 : l.drop k = l[k] :: l.drop (k + 1) := List.drop_eq_getElem_cons hk
  have h2 : l.take (k + 1) = l.take k ++ [l[k]] := List.take_succ_eq_append_getElem hk
  have h3 : l.getD k 0 = l[k] := by simp [List.getD_eq_getElem?_getD, hk]
  rw [h3] at h
  rw [h2, h1, List.map_append, List.append_assoc, List.map_cons, h]
  rfl
theorem mapTake_at (f : Int → Int) (l : List Int) (k : Nat) (hk : k < l.length) : ((l.take k).map f ++ l.drop k).getD k 0 = l.getD k 0 := by
  simp [List.getD_eq_getElem?_getD, List.getElem?_append, hk, Nat.min_eq_left (Nat.le_of_lt hk)]
theorem mapTake_len (f : Int → Int) (l : List Int) (k : Nat) : ((l.take k).map f ++ l.drop k).length = l.length := by
  simp; omega

def semantic_zzPointed.f (a0 : ByteArray) : Option ByteArray := if a0.size ≤ 140737488355328 then some (strOfNums ((bytesOf a0).map ptI)) else none
set_option maxHeartbeats 4000000 in
set_option maxRecDepth 100000 in
theorem semantic_zzPointed.calls (a0 : ByteArray) (r : ByteArray) (w : World) (h : semantic_zzPointed.f a0 = some r) :
    Calls Tryz.prog 33 #[.string a0] w fun e w' => e = .returned (.string r) ∧ Below w.heap.size w w' := by
  unfold semantic_zzPointed.f at h
  by_cases hs : a0.size ≤ 140737488355328
  · rw [if_pos hs] at h
    obtain rfl := Option.some.inj h
    clear h
    have kb := fun W => print_bytes (P := Tryz.prog) 9 45 5 Tryz.underlying9 Tryz.underlying45 Tryz.underlying5 a0 W
    go_enter Tryz.func33, Tryz.ntmps33
    go_wp2
    have hn : (bytesOf a0).length = a0.size := bytesOf_length a0
    have hB := Buf.made w 5 a0
    have hW : Below w.heap.size w (Lib.bytesWorld w 5 a0) := bytes_below (Below.refl _ _) (Nat.le_refl _) 5 a0
    clear kb
    have HN := Aside0.mk hn
    clear hn
    go_loopw [10] (fun i wr => ∃ k : Nat, k ≤ a0.size ∧ i = .int .i64 k ∧ Aside0 (Buf wr w.heap.size 5 (((bytesOf a0).take k).map ptI ++ (bytesOf a0).drop k)) ∧ Aside0 (Below w.heap.size w wr)) (fun i _ => a0.size - (intOf i).toNat)
    case atStart => exact ⟨0, Nat.zero_le _, rfl, ⟨by simpa using hB⟩, ⟨hW⟩⟩
    case round =>
      clear hB hW
      obtain ⟨k, hk, rfl, hb, hw⟩ := hrel
      by_cases hlt : k < a0.size
      · have hl : k < (bytesOf a0).length := by rw [HN.out]; exact hlt
        have hl2 : k < (((bytesOf a0).take k).map ptI ++ (bytesOf a0).drop k).length := by rw [mapTake_len]; exact hl
        have hc := hb.out.cell k hl2
        rw [mapTake_at ptI _ k hl] at hc
        have hf := hb.out.free k hl2
        have hrd : (bytesOf a0).getD k 0 = bt a0 k := by
          have := rd_bytesOf a0 k
          simpa [rd] using this
        rw [hrd] at hc
        have hset := hb.out.set k (ptI ((bytesOf a0).getD k 0)) hl2
        rw [← mapTake_succ ptI _ k hl, hrd] at hset
        have hsame := mapTake_same ptI (bytesOf a0) k hl
        rw [hrd] at hsame
        by_cases hp : bt a0 k = 45 ∨ bt a0 k = 95 ∨ bt a0 k = 43
        · have hv : ptI (bt a0 k) = 46 := by unfold ptI; rw [if_pos hp]
          rw [hv] at hset
          have HS := Aside0.mk hset
          clear hset hsame hb hrd hv hl hl2
          have hw2 : Below w.heap.size w (wr.setCell ⟨w.heap.size, k, none⟩ (.int .u8 46)) := hw.out.setCell (Nat.le_refl _) _
          have HW2 := Aside0.mk hw2
          clear hw2 hw
          by_cases h1 : bt a0 k = 45
          · have b1 : (bt a0 k == 45) = true := by simpa using h1
            clear hp h1
            go_wp2
            go_roundw
            case rel => exact ⟨k + 1, by omega, by go_num, HS, HW2⟩
            case measure => simp [intOf]; omega
          · have b1 : (bt a0 k == 45) = false := by simpa using h1
            by_cases h2 : bt a0 k = 95
            · have b2 : (bt a0 k == 95) = true := by simpa using h2
              clear hp h1 h2
              go_wp2
              go_roundw
              case rel => exact ⟨k + 1, by omega, by go_num, HS, HW2⟩
              case measure => simp [intOf]; omega
            · have b2 : (bt a0 k == 95) = false := by simpa using h2
              have b3 : (bt a0 k == 43) = true := by simp; omega
              clear hp h1 h2
              go_wp2
              go_roundw
              case rel => exact ⟨k + 1, by omega, by go_num, HS, HW2⟩
              case measure => simp [intOf]; omega
        · have hv : ptI (bt a0 k) = bt a0 k := by unfold ptI; rw [if_neg hp]
          have hb2 := hb.out
          rw [← hsame hv] at hb2
          have HS := Aside0.mk hb2
          have b1 : (bt a0 k == 45) = false := by simp; omega
          have b2 : (bt a0 k == 95) = false := by simp; omega
          have b3 : (bt a0 k == 43) = false := by simp; omega
          clear hset hsame hb hb2 hrd hv hp hl hl2
          go_wp2
          go_roundw
          case rel => exact ⟨k + 1, by omega, by go_num, HS, hw⟩
          case measure => simp [intOf]; omega
      · obtain rfl : k = a0.size := by omega
        have hb2 := hb.out
        rw [List.take_of_length_le (by rw [HN.out]; exact Nat.le_refl _), List.drop_of_length_le (by rw [HN.out]; exact Nat.le_refl _), List.append_nil] at hb2
        have hr := hb2.reads (by rw [List.length_map, HN.out]; omega)
        rw [List.length_map, HN.out] at hr
        have hcv := string_of_reads (P := Tryz.prog) (c := grownCap w a0.size 0 5) Tryz.underlying45 Tryz.underlying5 Tryz.underlying9 hr
        clear hb hb2 hr
        go_wp2
        go_ret
        exact ⟨rfl, hw.out⟩
  · rw [if_neg hs] at h
    cases h

/-- A []string that came in, as a row that is read. -/
theorem C_of_strings {w : World} {a : Option Addr} {len cap : Nat} {zs : List ByteArray} (h : (a = none ∧ len = 0 ∧ cap = 0 ∧ zs = []) ∨ ∃ x, a = some x ∧ len ≤ cap ∧ cap ≤ maxLen ∧ zs.length = cap ∧ (∀ i, i < zs.length → w.cell? (x.add i) = some (.string (zs.getD i ByteArray.empty))) ∧ ∀ s ∈ zs, s.size ≤ maxLen) :
    ∃ l : List ByteArray, len = l.length ∧ Kd.C Kd.string w a l.length l ∧ l.length ≤ maxLen ∧ l.length ≤ cap := by
  rcases h with ⟨rfl, rfl, rfl, rfl⟩ | ⟨x, rfl, hl, hm, hz, hc, hw⟩
  · exact ⟨[], rfl, ⟨rfl, Nat.zero_le _, fun h => absurd h (Nat.lt_irrefl _)⟩, Nat.zero_le _, Nat.zero_le _⟩
  · have e : (zs.take len).length = len := by simp; omega
    have hm' : len ≤ maxLen := Nat.le_trans hl hm
    refine ⟨zs.take len, e.symm, ⟨rfl, by rw [e]; simpa [maxLen] using hm', fun _ => ⟨x, rfl, fun j p hj => ⟨[.string p], rfl, rfl, fun i u hu => ?_⟩⟩⟩, by rw [e]; exact hm', by rw [e]; exact hl⟩
    obtain ⟨hl2, hp⟩ := List.getElem?_eq_some_iff.1 hj
    rw [e] at hl2
    have h2 := hc j (by omega)
    have hj2 : zs[j]? = some p := by rw [List.getElem?_take, if_pos hl2] at hj; exact hj
    rw [List.getD_eq_getElem?_getD, hj2] at h2
    cases i with
    | zero =>
      have hu2 : Value.string p = u := by simpa using hu
      subst hu2
      have e1 : Kd.string.sz = 1 := rfl
      rw [e1, Nat.mul_one, Nat.add_zero]
      exact h2
    | succ i => simp at hu
end Go.Proofs.YtdjkekgfeadmoaaGreatDoorH
