/- Plain laws of Packagist's comparison: the components of a text, how two lists of components compare, told of lists of numbers. -/
import Derived.Test.YtdjkekgfeadmoaaGreatDoorV3
namespace Go.Proofs.YtdjkekgfeadmoaaGreatDoor.V
open Go.RowKit Go.Proofs.YtdjkekgfeadmoaaGreatDoor.Q Go.Proofs.YtdjkekgfeadmoaaGreatDoorH Go.Proofs.YtdjkekgfeadmoaaGreatDoorB Go.Proofs.YtdjkekgfeadmoaaGreatDoorG Go.Proofs.YtdjkekgfeadmoaaGreatDoorW.PrintWords Go.Proofs.YtdjkekgfeadmoaaGreatDoorW.PrintLast
set_option linter.unusedVariables false
set_option linter.unusedSimpArgs false

/-! ### Cutting at points -/
theorem splitP_mem (p : Int → Bool) : ∀ (l m : List Int), m ∈ splitP p l → ∀ c ∈ m, c ∈ l
  | [], m, h, c, hc => by
    have e : m = [] := by simpa [splitP] using h
    rw [e] at hc
    simp at hc
  | x :: l, m, h, c, hc => by
    simp only [splitP] at h
    split at h
    · rcases List.mem_cons.1 h with e | h
      · rw [e] at hc; simp at hc
      · exact List.mem_cons_of_mem _ (splitP_mem p l m h c hc)
    · cases hs : splitP p l with
      | nil => exact absurd hs (splitP_ne p l)
      | cons a L =>
        rw [hs] at h
        simp only [glue] at h
        rcases List.mem_cons.1 h with e | h
        · rw [e] at hc
          rcases List.mem_append.1 hc with h2 | h2
          · have e2 : c = x := by simpa using h2
            rw [e2]; exact List.mem_cons_self
          · exact List.mem_cons_of_mem _ (splitP_mem p l a (by rw [hs]; exact List.mem_cons_self) c h2)
        · exact List.mem_cons_of_mem _ (splitP_mem p l m (by rw [hs]; exact List.mem_cons_of_mem _ h) c hc)
theorem splitP_pt (a b : List Int) : splitP isPt (a ++ 46 :: b) = splitP isPt a ++ splitP isPt b := by
  induction a with
  | nil => rfl
  | cons c a ih =>
    simp only [List.cons_append, splitP]
    split
    · rw [ih]; rfl
    · rw [ih]
      cases hs : splitP isPt a with
      | nil => exact absurd hs (splitP_ne _ a)
      | cons x L => rfl
theorem splitP_one {l : List Int} (h : ∀ c ∈ l, c ≠ 46) : splitP isPt l = [l] := by
  induction l with
  | nil => rfl
  | cons c l ih =>
    simp only [splitP]
    rw [if_neg (by have := h c List.mem_cons_self; simp [isPt, this]), ih (fun x hx => h x (List.mem_cons_of_mem _ hx))]
    rfl

/-! ### Points between digits and others -/
theorem dotsT_pt46 (b : List Int) : dotsT 46 b = dots b := by
  cases b with
  | nil => rfl
  | cons y r =>
    simp only [dotsT, dots]
    rw [if_neg (by simp)]
theorem dotsT_at (b : List Int) : ∀ (a : List Int) (x : Int), dotsT x (a ++ 46 :: b) = dotsT x a ++ 46 :: dots b
  | [], x => by
    simp only [List.nil_append, dotsT]
    rw [if_neg (by simp), dotsT_pt46]
  | y :: a, x => by
    simp only [List.cons_append, dotsT]
    rw [dotsT_at b a y]
    split <;> simp
theorem dots_at (a b : List Int) : dots (a ++ 46 :: b) = dots a ++ 46 :: dots b := by
  cases a with
  | nil => show 46 :: dotsT 46 b = 46 :: dots b; rw [dotsT_pt46]
  | cons x a => show x :: dotsT x (a ++ 46 :: b) = x :: (dotsT x a ++ 46 :: dots b); rw [dotsT_at]
theorem dotsT_same (q : Bool) : ∀ (l : List Int) (x : Int), (isD x = q ∨ x = 46) → (∀ c ∈ l, isD c = q ∨ c = 46) → dotsT x l = l
  | [], _, _, _ => rfl
  | y :: l, x, hx, h => by
    have hy := h y List.mem_cons_self
    simp only [dotsT]
    rw [if_neg (by rintro ⟨h1, h2, h3⟩; rcases hx with hx | hx <;> rcases hy with hy | hy <;> simp_all), dotsT_same q l y hy (fun c hc => h c (List.mem_cons_of_mem _ hc))]
/-- Digits and points alone, or none of the digits: nothing is put between. -/
theorem dots_same (q : Bool) {l : List Int} (h : ∀ c ∈ l, isD c = q ∨ c = 46) : dots l = l := by
  cases l with
  | nil => rfl
  | cons x l =>
    simp only [dots]
    rw [dotsT_same q l x (h x List.mem_cons_self) (fun c hc => h c (List.mem_cons_of_mem _ hc))]
theorem dotsT_turn (b : List Int) (y : Int) (hy : y ≠ 46) : ∀ (a : List Int) (x : Int), (∀ c ∈ x :: a, isD c = !isD y ∧ c ≠ 46) → dotsT x (a ++ y :: b) = a ++ 46 :: dots (y :: b)
  | [], x, h => by
    have hx := h x List.mem_cons_self
    simp only [List.nil_append, dotsT, dots]
    rw [if_pos ⟨hy, hx.2, by rw [hx.1]; cases isD y <;> decide⟩]
  | z :: a, x, h => by
    have hx := h x List.mem_cons_self
    have hz := h z (by simp)
    simp only [List.cons_append, dotsT]
    rw [if_neg (by rintro ⟨_, _, h3⟩; rw [hx.1, hz.1] at h3; exact h3 rfl), dotsT_turn b y hy a z (fun c hc => h c (List.mem_cons_of_mem _ hc))]
/-- Where digits and others meet. -/
theorem dots_turn {a : List Int} (b : List Int) {y : Int} (ha : a ≠ []) (hy : y ≠ 46) (h : ∀ c ∈ a, isD c = !isD y ∧ c ≠ 46) : dots (a ++ y :: b) = a ++ 46 :: dots (y :: b) := by
  cases a with
  | nil => exact absurd rfl ha
  | cons x a =>
    simp only [List.cons_append]
    show x :: dotsT x (a ++ y :: b) = _
    rw [dotsT_turn b y hy a x h]

/-! ### The components of a text -/
def comps (l : List Int) : List ByteArray := (splitP isPt (canon l)).map strOfNums
theorem comps_of {r : List ByteArray} {l : List Int} (h : r.map bytesOf = splitP isPt (canon l)) : r = comps l := by
  unfold comps
  rw [← h, List.map_map]
  have e : (strOfNums ∘ bytesOf) = id := by funext s; exact str_B s
  rw [e, List.map_id]
theorem comps_ev (s : ByteArray) (hs : s.size ≤ 100000) (ha : Asc (bytesOf s)) : Ev (fun k => semantic_ParsePackagistVersion.f k s) (s, comps (bytesOf s)) := by
  obtain ⟨c, hc, _, hcb⟩ := canonical_ev2 s hs ha
  have hcs : c.size ≤ 2 * s.size := by rw [B_size, hcb, B_size]; exact canon_length _
  obtain ⟨r, hr, h1⟩ := split_ev c (by omega)
  rw [hcb] at h1
  rw [← comps_of h1]
  simp only [semantic_ParsePackagistVersion.f]
  exact Ev.bind hc (Ev.bind hr (Ev.now _))
theorem compare_ev (s t : ByteArray) (hs : s.size ≤ 100000) (ht : t.size ≤ 100000) (ha : Asc (bytesOf s)) (hb : Asc (bytesOf t)) (hf : Fits (comps (bytesOf s)) (comps (bytesOf t))) :
    Ev (fun k => impl_PackagistCompareText.f k s t) (pcmp (comps (bytesOf s)) (comps (bytesOf t)), true) := by
  simp only [impl_PackagistCompareText.f, semantic_PackagistVersion_CompareStr.f, semantic_PackagistVersion_compare.f, semantic_comparePackagistComponents.f]
  refine Ev.bind (comps_ev s hs ha) (Ev.bind (a := (pcmp (comps (bytesOf s)) (comps (bytesOf t)), none)) (Ev.bind (comps_ev t ht hb) ?_) ?_)
  · simp only [if_pos hf, Option.bind_some]
    exact Ev.now _
  · exact Ev.now _
theorem comps_mem {l : List Int} (ha : Asc l) {x : ByteArray} (hx : x ∈ comps l) : ∃ m, m ∈ splitP isPt (canon l) ∧ bytesOf x = m ∧ x = strOfNums m ∧ ∀ c ∈ m, c ∈ canon l := by
  obtain ⟨m, hm, rfl⟩ := List.mem_map.1 hx
  have hmem := splitP_mem isPt (canon l) m hm
  refine ⟨m, hm, B_str (fun c hc => ?_), rfl, hmem⟩
  have := canon_asc ha c (hmem c hc)
  omega
theorem splitP_size (p : Int → Bool) : ∀ (l m : List Int), m ∈ splitP p l → m.length ≤ l.length
  | [], m, h => by
    have e : m = [] := by simpa [splitP] using h
    rw [e]; simp
  | x :: l, m, h => by
    simp only [splitP] at h
    split at h
    · rcases List.mem_cons.1 h with e | h
      · rw [e]; simp
      · have := splitP_size p l m h; simp; omega
    · cases hs : splitP p l with
      | nil => exact absurd hs (splitP_ne p l)
      | cons a L =>
        rw [hs] at h
        simp only [glue] at h
        rcases List.mem_cons.1 h with e | h
        · have := splitP_size p l a (by rw [hs]; exact List.mem_cons_self)
          rw [e]; simp; omega
        · have := splitP_size p l m (by rw [hs]; exact List.mem_cons_of_mem _ h)
          simp; omega
theorem comps_goods {l : List Int} (ha : Asc l) (hl : l.length ≤ 100000) : Goods (comps l) := by
  have h1 := List.length_pos_iff.2 (splitP_ne isPt (canon l))
  have h2 := splitP_length isPt (canon l)
  have h3 := canon_length l
  have e : (comps l).length = (splitP isPt (canon l)).length := by unfold comps; simp
  refine ⟨by omega, by omega, fun x hx => ?_⟩
  obtain ⟨m, hm, hb, _, hmem⟩ := comps_mem ha hx
  have hsz := splitP_size isPt _ _ hm
  have hx0 : bt x 0 = m.getD 0 0 := by rw [bt_zero, hb]
  have hpt := canon_pt (strip 86 (strip 118 l))
  have ne : ∀ c ∈ m, c ≠ 45 ∧ c ≠ 43 := by
    intro c hc
    have h := hpt c (hmem c hc)
    constructor
    · rintro rfl; revert h; decide
    · rintro rfl; revert h; decide
  refine ⟨by rw [B_size, hb]; omega, ?_, ?_⟩
  · rw [hx0]
    cases m with
    | nil => decide
    | cons c m => exact (ne c List.mem_cons_self).1
  · rw [hx0]
    cases m with
    | nil => decide
    | cons c m => exact (ne c List.mem_cons_self).2

/-! ### How lists of components compare -/
theorem cmpOne_self (x : ByteArray) : cmpOne x x = 0 := by
  unfold cmpOne
  split
  · unfold cmpN; rw [if_neg (by omega), if_neg (by omega)]
  · unfold special cmpI; rw [if_neg (by omega), if_neg (by omega)]
theorem pcmp_same : ∀ (P A B : List ByteArray), pcmp (P ++ A) (P ++ B) = pcmp A B
  | [], _, _ => rfl
  | x :: P, A, B => by
    simp only [List.cons_append, pcmp]
    rw [if_pos (cmpOne_self x), pcmp_same P A B]
theorem pcmp_self (l : List ByteArray) : pcmp l l = 0 := by
  have h := pcmp_same l [] []
  simpa [pcmp, nrest] using h
theorem allDig_iff (s : ByteArray) : AllDig s ↔ bytesOf s ≠ [] ∧ ∀ c ∈ bytesOf s, isD c = true := by
  constructor
  · intro h
    refine ⟨fun e => ?_, fun c hc => ?_⟩
    · have := h.1; rw [B_size, e] at this; simp at this
    · obtain ⟨j, hj, rfl⟩ := List.mem_iff_getElem.1 hc
      have h2 := h.2 j (by rw [B_size]; exact hj)
      rw [bt_nat] at h2
      have e : (bytesOf s).getD j 0 = (bytesOf s)[j] := by simp [List.getD_eq_getElem?_getD, hj]
      rw [e] at h2
      exact decide_eq_true h2
  · rintro ⟨h0, h⟩
    refine ⟨by rw [B_size]; exact List.length_pos_iff.2 h0, fun j hj => ?_⟩
    have hj2 : j < (bytesOf s).length := by rw [← B_size]; exact hj
    rw [bt_nat]
    have e : (bytesOf s).getD j 0 = (bytesOf s)[j] := by simp [List.getD_eq_getElem?_getD, hj2]
    rw [e]
    exact of_decide_eq_true (h _ (List.getElem_mem hj2))
/-- The number that digits are. -/
def dvL (l : List Int) : Nat := l.foldl (fun a c => a * 10 + (c - 48).toNat) 0
theorem dvL_snoc (l : List Int) (c : Int) : dvL (l ++ [c]) = dvL l * 10 + (c - 48).toNat := by simp [dvL]
theorem dv_dvL (s : ByteArray) : dv s s.size = dvL (bytesOf s) := by
  have h : ∀ k, k ≤ s.size → dv s k = dvL ((bytesOf s).take k) := by
    intro k
    induction k with
    | zero => intro _; rfl
    | succ k ih =>
      intro hk
      have hk2 : k < (bytesOf s).length := by rw [← B_size]; omega
      rw [List.take_succ_eq_append_getElem hk2, dvL_snoc, ← ih (by omega)]
      have e : bt s k = (bytesOf s)[k] := by rw [bt_nat]; simp [List.getD_eq_getElem?_getD, hk2]
      simp only [dv, e]
  rw [h _ (Nat.le_refl _), List.take_of_length_le (by rw [B_size]; exact Nat.le_refl _)]
def preL (p l : List Int) : Bool := decide (l.take p.length = p)
def weighL (l : List Int) : Int :=
  if preL [82, 67] l then 3 else if preL [100, 101, 118] l then 0 else if preL [97] l then 1 else if preL [98] l then 2 else if preL [114, 99] l then 3 else if preL [35] l then 4 else if preL [112] l then 5 else 0
theorem preB_L (s p : ByteArray) : preB s p = preL (bytesOf p) (bytesOf s) := by
  unfold preB preL
  have hp : (bytesOf p).length = p.size := bytesOf_length p
  have e : ((s.extract 0 p.size).toList == p.toList) = decide ((bytesOf s).take p.size = bytesOf p) := by
    rw [Bool.eq_iff_iff, beq_iff_eq, toList_eq_iff, B_take, decide_eq_true_iff]
  rw [e, hp]
  by_cases h : p.size ≤ s.size
  · rw [decide_eq_true h, Bool.true_and]
  · rw [decide_eq_false h, Bool.false_and]
    symm
    apply decide_eq_false
    intro h2
    have := congrArg List.length h2
    rw [List.length_take, hp, bytesOf_length] at this
    omega
theorem weigh_L (s : ByteArray) : weigh s = weighL (bytesOf s) := by
  unfold weigh weighL
  simp only [preB_L]
  rfl
end Go.Proofs.YtdjkekgfeadmoaaGreatDoor.V
