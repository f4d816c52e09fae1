/- The plain law FnPackagistStages. -/
import Derived.Test.YtdjkekgfeadmoaaDoorY3
import Derived.Test.YtdjkekgfeadmoaaDoorQx4
namespace Go.Proofs.YtdjkekgfeadmoaaDoor.V
open Go.RowKit Go.Proofs.YtdjkekgfeadmoaaDoor.Q Go.Proofs.YtdjkekgfeadmoaaDoorH Go.Proofs.YtdjkekgfeadmoaaDoorB Go.Proofs.YtdjkekgfeadmoaaDoorG Go.Proofs.YtdjkekgfeadmoaaDoorW.PrintWords Go.Proofs.YtdjkekgfeadmoaaDoorW.PrintLast
set_option linter.unusedVariables false
set_option linter.unusedSimpArgs false

/-- A stage: nothing behind the numbers, or a word and digits. -/
inductive Stage where
  | bare
  | word (w : List Int)
def Stage.tail (d : List Int) : Stage → List ByteArray
  | .bare => []
  | .word w => [strOfNums w, strOfNums d]
def Stage.weight : Stage → Int
  | .bare => 4
  | .word w => weighL w
def Stage.good : Stage → Prop
  | .bare => True
  | .word w => Word w ∧ weighL w ≠ 4
theorem hash_L : weigh hash = 4 := by rw [weigh_L]; decide
theorem special_word {w : List Int} (h : Word w) : special (strOfNums w) hash = cmpI (weighL w) 4 ∧ special hash (strOfNums w) = cmpI 4 (weighL w) := by
  unfold special
  rw [hash_L, weigh_L, h.asc.str]
  exact ⟨rfl, rfl⟩
theorem cmpI_ne {a b : Int} (h : a ≠ b) : cmpI a b ≠ 0 := by
  unfold cmpI
  split
  · decide
  · rw [if_pos (by omega)]; decide
theorem cmpI_self (a : Int) : cmpI a a = 0 := by unfold cmpI; rw [if_neg (by omega), if_neg (by omega)]
theorem stage_cmp {d : List Int} (hd : Digs d) : ∀ (x y : Stage), x.good → y.good → pcmp (x.tail d) (y.tail d) = cmpI x.weight y.weight
  | .bare, .bare, _, _ => by simp [Stage.tail, Stage.weight, pcmp, nrest, cmpI]
  | .bare, .word w, _, h => by
    simp only [Stage.tail, Stage.weight, pcmp, nrest, if_neg (word_not h.1), (special_word h.1).2]
    rw [if_neg (cmpI_ne (fun e => h.2 e.symm))]
  | .word w, .bare, h, _ => by
    simp only [Stage.tail, Stage.weight, pcmp, prest, if_neg (word_not h.1), (special_word h.1).1]
    rw [if_neg (cmpI_ne h.2)]
  | .word v, .word w, h, k => by
    simp only [Stage.tail, Stage.weight, pcmp, cmp_words h.1 k.1, cmpOne_self, nrest]
    by_cases e : cmpI (weighL v) (weighL w) = 0
    · rw [if_pos e, if_pos trivial, e]
    · rw [if_neg e]
theorem stage_small {d : List Int} (hd : Digs d) (hl : d.length ≤ 18) (x : Stage) (h : x.good) (hw : ∀ w, x = .word w → w.length ≤ 18) : ∀ z ∈ x.tail d, Small z := by
  cases x with
  | bare => intro z hz; simp [Stage.tail] at hz
  | word w =>
    intro z hz
    simp only [Stage.tail, List.mem_cons, List.not_mem_nil, or_false] at hz
    rcases hz with rfl | rfl
    · exact str_small h.1.asc (hw w rfl)
    · exact str_small hd.asc hl

/-- A text whose components are those of a version's numbers and a stage. -/
structure At (s : ByteArray) (d : List Int) (x : Stage) (v : ByteArray) : Prop where
  cs : comps (bytesOf v) = Ps (bytesOf s) ++ x.tail d
  asc : Asc (bytesOf v)
  size : v.size ≤ 100000
  small : ∀ z ∈ x.tail d, Small z
  good : x.good
theorem At.cmp {s : ByteArray} {d : List Int} (hs : Core (bytesOf s)) (hd : Digs d) {x y : Stage} {v w : ByteArray} (h : At s d x v) (k : At s d y w) :
    Ev (fun q => impl_PackagistCompareText.f q v w) (cmpI x.weight y.weight, true) := by
  have g1 := comps_goods h.asc (by rw [← B_size]; exact h.size)
  have g2 := comps_goods k.asc (by rw [← B_size]; exact k.size)
  have hf : Fits (comps (bytesOf v)) (comps (bytesOf w)) := ⟨g1, g2, .inr ⟨by
    rw [h.cs]
    intro z hz
    rcases List.mem_append.1 hz with hz | hz
    · exact ps_small hs z hz
    · exact h.small z hz, by
    rw [k.cs]
    intro z hz
    rcases List.mem_append.1 hz with hz | hz
    · exact ps_small hs z hz
    · exact k.small z hz⟩⟩
  refine Ev.eq (compare_ev v w h.size k.size h.asc k.asc hf) ?_
  rw [h.cs, k.cs, pcmp_same, stage_cmp hd x y h.good k.good]
theorem at_bare {s : ByteArray} (hs : Core (bytesOf s)) (hsz : s.size ≤ 1200) (d : List Int) : At s d .bare s :=
  ⟨by rw [comps_core hs]; simp [Stage.tail], hs.asc, by omega, by intro z hz; simp [Stage.tail] at hz, trivial⟩
theorem at_word {s t m : ByteArray} (hs : Core (bytesOf s)) (hsz : s.size ≤ 1200) {d : List Int} (hd : Digs d) (ht : bytesOf t = d) (htl : t.size ≤ 5) {w : List Int} (hw : Word w) (h4 : weighL w ≠ 4) (hm : bytesOf m = 45 :: w) (hml : m.size ≤ 10) : At s d (.word w) ((s ++ m) ++ t) := by
  have e : bytesOf ((s ++ m) ++ t) = bytesOf s ++ 45 :: (w ++ d) := by rw [B_append, B_append, hm, ht, List.append_assoc]; rfl
  have hwl : w.length ≤ 18 := by have := congrArg List.length hm; rw [← B_size, List.length_cons] at this; omega
  have hdl : d.length ≤ 18 := by rw [← ht, ← B_size]; omega
  refine ⟨by rw [e, comps_tail hs (.inl rfl), tl_word hw hd]; rfl, ?_, by rw [ByteArray.size_append, ByteArray.size_append]; omega, ?_, ⟨hw, h4⟩⟩
  · rw [e]
    exact Asc.append hs.asc (Asc.mk_cons (by decide) (Asc.append hw.asc hd.asc))
  · exact stage_small hd hdl _ ⟨hw, h4⟩ (fun v hv => by cases hv; exact hwl)
theorem at_turn {s t m : ByteArray} (hs : Core (bytesOf s)) (hsz : s.size ≤ 1200) {d : List Int} (hd : Digs d) (ht : bytesOf t = d) (htl : t.size ≤ 5) {w : List Int} (hw : Word w) (h4 : weighL w ≠ 4) (hm : bytesOf m = w) (hml : m.size ≤ 10) : At s d (.word w) ((s ++ m) ++ t) := by
  have e : bytesOf ((s ++ m) ++ t) = bytesOf s ++ (w ++ d) := by rw [B_append, B_append, hm, ht, List.append_assoc]
  have hwl : w.length ≤ 18 := by rw [← hm, ← B_size]; omega
  have hdl : d.length ≤ 18 := by rw [← ht, ← B_size]; omega
  refine ⟨?_, ?_, by rw [ByteArray.size_append, ByteArray.size_append]; omega, ?_, ⟨hw, h4⟩⟩
  · rw [e]
    cases w with
    | nil => exact absurd rfl hw.1
    | cons y w2 =>
      have hy := hw.2 y List.mem_cons_self
      rw [List.cons_append, comps_turn hs hy.1 hy.2.1 hy.2.2.1, ← List.cons_append, tl_word hw hd]
      rfl
  · rw [e]
    exact Asc.append hs.asc (Asc.append hw.asc hd.asc)
  · exact stage_small hd hdl _ ⟨hw, h4⟩ (fun v hv => by cases hv; exact hwl)
theorem at_wordpt {s t m : ByteArray} (hs : Core (bytesOf s)) (hsz : s.size ≤ 1200) {d : List Int} (hd : Digs d) (ht : bytesOf t = d) (htl : t.size ≤ 5) {w : List Int} (hw : Word w) (h4 : weighL w ≠ 4) (hm : bytesOf m = 45 :: (w ++ [46])) (hml : m.size ≤ 10) : At s d (.word w) ((s ++ m) ++ t) := by
  have e : bytesOf ((s ++ m) ++ t) = bytesOf s ++ 45 :: (w ++ 46 :: d) := by rw [B_append, B_append, hm, ht, List.append_assoc]; simp
  have hwl : w.length ≤ 18 := by have := congrArg List.length hm; rw [← B_size] at this; simp at this; omega
  have hdl : d.length ≤ 18 := by rw [← ht, ← B_size]; omega
  refine ⟨by rw [e, comps_tail hs (.inl rfl), tl_word_pt hw hd]; rfl, ?_, by rw [ByteArray.size_append, ByteArray.size_append]; omega, ?_, ⟨hw, h4⟩⟩
  · rw [e]
    exact Asc.append hs.asc (Asc.mk_cons (by decide) (Asc.append hw.asc (Asc.mk_cons (by decide) hd.asc)))
  · exact stage_small hd hdl _ ⟨hw, h4⟩ (fun v hv => by cases hv; exact hwl)
def stages : List Stage := [.word [100, 101, 118], .word [97, 108, 112, 104, 97], .word [98, 101, 116, 97], .word [82, 67], .bare, .word [112, 108]]
theorem stage_weight : ∀ i : Nat, i < 6 → (stages.getD i .bare).weight = (i : Int) := by decide
theorem want_int (i j : Nat) (hi : i < 6) (hj : j < 6) : mx (-1) (mn 1 (wrap64 ((i : Int) - (j : Int)))) = cmpI (i : Int) (j : Int) := by
  rw [w64 (by omega) (by omega)]
  unfold mx mn cmpI
  repeat' split
  all_goals omega
theorem stages_inner (s t : ByteArray) (y : List ByteArray) (hy : y.length = 6) (R : Nat → Prop) (i : Nat) (hi : i < 6)
    (hall : ∀ j : Nat, j < 6 → Ev (fun q => impl_PackagistCompareText.f q (rdOf ByteArray.empty y (i : Int)) (rdOf ByteArray.empty y (j : Int))) (cmpI (i : Int) (j : Int), true))
    (hnext : Ev (fun k => laws_FnPackagistStages.l0 k s t y 6 ((i + 1 : Nat) : Int)) true) :
    ∀ (n j : Nat), 6 - j = n → j ≤ 6 → Ev (fun k => laws_FnPackagistStages.l1 k s t y (i : Int) 6 (i : Int) 6 (j : Int)) true := by
  intro n
  induction n with
  | zero =>
    intro j hn hj
    refine Ev.succ ?_
    simp only [laws_FnPackagistStages.l1]
    refine Ev.neg (fun _ => by omega) ?_
    rw [w64 (by omega) (by omega)]
    exact hnext
  | succ n ih =>
    intro j hn hj
    refine Ev.succ ?_
    simp only [laws_FnPackagistStages.l1, hy]
    refine Ev.pos (fun _ => by omega) ?_
    refine Ev.pos (fun _ => by omega) ?_
    refine Ev.pos (fun _ => by omega) ?_
    refine Ev.pos (fun _ => by omega) ?_
    refine Ev.pos (fun _ => by omega) ?_
    refine Ev.bind (hall j (by omega)) ?_
    refine Ev.pos (fun _ => by first | rfl | trivial) ?_
    refine Ev.pos (fun _ => (want_int i j hi (by omega)).symm) ?_
    rw [w64 (by omega) (by omega)]
    exact ih (j + 1) (by omega) (by omega)
theorem stages_outer (s t : ByteArray) (y : List ByteArray) (hy : y.length = 6)
    (hall : ∀ i j : Nat, i < 6 → j < 6 → Ev (fun q => impl_PackagistCompareText.f q (rdOf ByteArray.empty y (i : Int)) (rdOf ByteArray.empty y (j : Int))) (cmpI (i : Int) (j : Int), true))
    (hend : Ev (fun k => laws_FnPackagistStages.l0 k s t y 6 6) true) :
    ∀ (n i : Nat), 6 - i = n → i ≤ 6 → Ev (fun k => laws_FnPackagistStages.l0 k s t y 6 (i : Int)) true := by
  intro n
  induction n with
  | zero =>
    intro i hn hi
    have e : (i : Int) = 6 := by omega
    rw [e]
    exact hend
  | succ n ih =>
    intro i hn hi
    have h := stages_inner s t y hy (fun _ => True) i (by omega) (fun j hj => hall i j (by omega) hj) (ih (i + 1) (by omega) (by omega)) _ 0 rfl (by omega)
    refine Ev.succ ?_
    simp only [laws_FnPackagistStages.l0]
    refine Ev.pos (fun _ => by omega) ?_
    rw [hy]
    exact h
theorem FnPackagistStages : laws_FnPackagistStages.Pure := by
  intro s a hs ha
  refine Ev.rounds (r := true) (g := fun k => laws_FnPackagistStages.f k s a) ?_
  obtain ⟨n, t, rfl, hn, ht, htb, htl⟩ := decimal_ev ha
  simp only [laws_FnPackagistStages.f]
  by_cases hbig : (s.size : Int) > 2147483647
  · refine Ev.pos (fun _ => by first | omega | trivial | assumption) ?_
    exact Ev.now _
  · refine Ev.neg (fun _ => by first | omega | assumption | nofun) ?_
    have yes : Ev (fun k => laws_FnPackagistStages.j0 k s n true) true := by
      refine Ev.succ ?_
      simp only [laws_FnPackagistStages.j0]
      refine Ev.pos (fun _ => by first | omega | trivial | assumption) ?_
      exact Ev.now _
    refine Ev.bind (short_one s) ?_
    by_cases hsh : s.size ≤ 1200
    · refine Ev.pos (fun _ => decide_eq_true hsh) ?_
      obtain ⟨q, hq, hcore⟩ := numbered_ev s (by omega)
      refine Ev.bind hq ?_
      cases q with
      | false => exact yes
      | true =>
        have hc := hcore rfl
        have hd := decD n
        have A0 := at_word (m := (⟨#[45, 100, 101, 118]⟩ : ByteArray)) hc hsh hd htb htl (w := [100, 101, 118]) (by decide) (by decide) rfl (by decide)
        have A1 := at_word (m := (⟨#[45, 97, 108, 112, 104, 97]⟩ : ByteArray)) hc hsh hd htb htl (w := [97, 108, 112, 104, 97]) (by decide) (by decide) rfl (by decide)
        have A2 := at_word (m := (⟨#[45, 98, 101, 116, 97]⟩ : ByteArray)) hc hsh hd htb htl (w := [98, 101, 116, 97]) (by decide) (by decide) rfl (by decide)
        have A3 := at_word (m := (⟨#[45, 82, 67]⟩ : ByteArray)) hc hsh hd htb htl (w := [82, 67]) (by decide) (by decide) rfl (by decide)
        have A4 := at_bare hc hsh (decL n)
        have A5 := at_word (m := (⟨#[45, 112, 108]⟩ : ByteArray)) hc hsh hd htb htl (w := [112, 108]) (by decide) (by decide) rfl (by decide)
        have B0 := at_turn (m := (⟨#[97]⟩ : ByteArray)) hc hsh hd htb htl (w := [97]) (by decide) (by decide) rfl (by decide)
        have B1 := at_wordpt (m := (⟨#[45, 97, 108, 112, 104, 97, 46]⟩ : ByteArray)) hc hsh hd htb htl (w := [97, 108, 112, 104, 97]) (by decide) (by decide) rfl (by decide)
        have szs : ∀ m : ByteArray, (s ++ m).size = s.size + m.size := fun m => ByteArray.size_append
        have hall : ∀ i j : Nat, i < 6 → j < 6 → Ev (fun q => impl_PackagistCompareText.f q (rdOf ByteArray.empty [(s ++ (⟨#[45, 100, 101, 118]⟩ : ByteArray)) ++ t, (s ++ (⟨#[45, 97, 108, 112, 104, 97]⟩ : ByteArray)) ++ t, (s ++ (⟨#[45, 98, 101, 116, 97]⟩ : ByteArray)) ++ t, (s ++ (⟨#[45, 82, 67]⟩ : ByteArray)) ++ t, s, (s ++ (⟨#[45, 112, 108]⟩ : ByteArray)) ++ t] (i : Int)) (rdOf ByteArray.empty [(s ++ (⟨#[45, 100, 101, 118]⟩ : ByteArray)) ++ t, (s ++ (⟨#[45, 97, 108, 112, 104, 97]⟩ : ByteArray)) ++ t, (s ++ (⟨#[45, 98, 101, 116, 97]⟩ : ByteArray)) ++ t, (s ++ (⟨#[45, 82, 67]⟩ : ByteArray)) ++ t, s, (s ++ (⟨#[45, 112, 108]⟩ : ByteArray)) ++ t] (j : Int))) (cmpI (i : Int) (j : Int), true) := by
          intro i j hi hj
          have one : ∀ i : Nat, i < 6 → At s (decL n) (stages.getD i .bare) (rdOf ByteArray.empty [(s ++ (⟨#[45, 100, 101, 118]⟩ : ByteArray)) ++ t, (s ++ (⟨#[45, 97, 108, 112, 104, 97]⟩ : ByteArray)) ++ t, (s ++ (⟨#[45, 98, 101, 116, 97]⟩ : ByteArray)) ++ t, (s ++ (⟨#[45, 82, 67]⟩ : ByteArray)) ++ t, s, (s ++ (⟨#[45, 112, 108]⟩ : ByteArray)) ++ t] (i : Int)) := by
            intro i hi
            rcases (by omega : i = 0 ∨ i = 1 ∨ i = 2 ∨ i = 3 ∨ i = 4 ∨ i = 5) with rfl | rfl | rfl | rfl | rfl | rfl
            · exact A0
            · exact A1
            · exact A2
            · exact A3
            · exact A4
            · exact A5
          have h := (one i hi).cmp hc hd (one j hj)
          rw [stage_weight i hi, stage_weight j hj] at h
          exact h
        have e2 : bytesOf (s ++ (⟨#[46, 48]⟩ : ByteArray)) = bytesOf s ++ 46 :: [48] := by rw [B_append]; rfl
        have hd0 : Digs [48] := ⟨by simp, by decide⟩
        have more : Ev (fun q => impl_PackagistCompareText.f q (s ++ (⟨#[46, 48]⟩ : ByteArray)) s) (1, true) := by
          have a1 : Asc (bytesOf (s ++ (⟨#[46, 48]⟩ : ByteArray))) := by rw [e2]; exact Asc.append hc.asc (Asc.mk_cons (by decide) hd0.asc)
          have sz1 : (s ++ (⟨#[46, 48]⟩ : ByteArray)).size ≤ 100000 := by rw [szs]; have : (⟨#[46, 48]⟩ : ByteArray).size = 2 := rfl; omega
          have c1 : comps (bytesOf (s ++ (⟨#[46, 48]⟩ : ByteArray))) = Ps (bytesOf s) ++ [strOfNums [48]] := by rw [e2, comps_tail hc (.inr rfl), tl_digs hd0]
          have c2 := comps_core hc
          have hf : Fits (comps (bytesOf (s ++ (⟨#[46, 48]⟩ : ByteArray)))) (comps (bytesOf s)) := ⟨comps_goods a1 (by rw [← B_size]; exact sz1), comps_goods hc.asc (by rw [← B_size]; omega), .inr ⟨by
            rw [c1]
            intro z hz
            rcases List.mem_append.1 hz with hz | hz
            · exact ps_small hc z hz
            · have e : z = strOfNums [48] := by simpa using hz
              rw [e]; exact str_small hd0.asc (by decide), by rw [c2]; exact ps_small hc⟩⟩
          refine Ev.eq (compare_ev _ s sz1 (by omega) a1 hc.asc hf) ?_
          rw [c1, c2]
          have h := pcmp_same (Ps (bytesOf s)) [strOfNums [48]] []
          rw [List.append_nil] at h
          rw [h]
          simp only [pcmp, prest, if_pos (digs_all hd0)]
        have hend : Ev (fun k => laws_FnPackagistStages.l0 k s t [(s ++ (⟨#[45, 100, 101, 118]⟩ : ByteArray)) ++ t, (s ++ (⟨#[45, 97, 108, 112, 104, 97]⟩ : ByteArray)) ++ t, (s ++ (⟨#[45, 98, 101, 116, 97]⟩ : ByteArray)) ++ t, (s ++ (⟨#[45, 82, 67]⟩ : ByteArray)) ++ t, s, (s ++ (⟨#[45, 112, 108]⟩ : ByteArray)) ++ t] 6 6) true := by
          refine Ev.succ ?_
          simp only [laws_FnPackagistStages.l0]
          refine Ev.neg (fun _ => by omega) ?_
          refine Ev.pos (fun _ => by omega) ?_
          refine Ev.pos (fun _ => by rw [szs]; have : (⟨#[97]⟩ : ByteArray).size = 1 := rfl; omega) ?_
          refine Ev.pos (fun _ => by omega) ?_
          refine Ev.pos (fun _ => by rw [szs]; have : (⟨#[45, 97, 108, 112, 104, 97, 46]⟩ : ByteArray).size = 7 := rfl; omega) ?_
          refine Ev.bind (B0.cmp hc hd B1) ?_
          refine Ev.pos (fun _ => by omega) ?_
          refine Ev.bind more ?_
          refine Ev.pos (fun _ => by first | rfl | trivial) ?_
          refine Ev.pos (fun _ => by first | rfl | trivial) ?_
          refine Ev.pos (fun _ => by decide) ?_
          exact Ev.eq (Ev.now _) (by decide)
        have main := stages_outer s t _ (by rfl) hall hend _ 0 rfl (by omega)
        refine Ev.succ ?_
        simp only [laws_FnPackagistStages.j0, Bool.not_true]
        refine Ev.neg (fun _ => by first | omega | assumption | nofun) ?_
        refine Ev.bind ht ?_
        refine Ev.pos (fun _ => by omega) ?_
        refine Ev.pos (fun _ => by rw [szs]; have : (⟨#[45, 100, 101, 118]⟩ : ByteArray).size = 4 := rfl; omega) ?_
        refine Ev.pos (fun _ => by omega) ?_
        refine Ev.pos (fun _ => by rw [szs]; have : (⟨#[45, 97, 108, 112, 104, 97]⟩ : ByteArray).size = 6 := rfl; omega) ?_
        refine Ev.pos (fun _ => by omega) ?_
        refine Ev.pos (fun _ => by rw [szs]; have : (⟨#[45, 98, 101, 116, 97]⟩ : ByteArray).size = 5 := rfl; omega) ?_
        refine Ev.pos (fun _ => by omega) ?_
        refine Ev.pos (fun _ => by rw [szs]; have : (⟨#[45, 82, 67]⟩ : ByteArray).size = 3 := rfl; omega) ?_
        refine Ev.pos (fun _ => by rw [szs]; have : (⟨#[45, 112, 108]⟩ : ByteArray).size = 3 := rfl; omega) ?_
        simp only [Option.bind_some]
        exact main
    · refine Ev.neg (fun _ => by simpa using hsh) ?_
      exact yes
end Go.Proofs.YtdjkekgfeadmoaaDoor.V
