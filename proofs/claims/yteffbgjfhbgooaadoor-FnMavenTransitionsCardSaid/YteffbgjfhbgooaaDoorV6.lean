/- The plain law of FnMavenTransitions: where a digit and another character meet. -/
import Derived.Test.YteffbgjfhbgooaaDoorMx
import Derived.Test.YteffbgjfhbgooaaDoorB
namespace Go.Proofs.YteffbgjfhbgooaaDoor.VM
open Go.RowKit Go.Proofs.YteffbgjfhbgooaaDoor.M Go.Proofs.YteffbgjfhbgooaaDoorH Go.Proofs.YteffbgjfhbgooaaDoorB Go.Proofs.YteffbgjfhbgooaaDoorW.PrintWords Go.Proofs.YteffbgjfhbgooaaDoorW.PrintLast
open Go.Proofs.YteffbgjfhbgooaaDoor.Z hiding semantic_mavenFindTransitions.f semantic_mavenFindTransitions.l0 semantic_mavenFindTransitions.l1
set_option linter.unusedVariables false
set_option linter.unusedSimpArgs false

theorem short_one (s : ByteArray) : Ev (fun k => laws_short.f k [s]) (decide (s.size ≤ 1200)) := by
  refine Ev.succ ?_
  simp only [laws_short.f, laws_short.l0, List.length_cons, List.length_nil]
  refine Ev.pos (fun _ => by omega) ?_
  refine Ev.pos (fun _ => by omega) ?_
  refine Ev.pos (fun _ => by omega) ?_
  have e : rdOf ByteArray.empty [s] 0 = s := rfl
  rw [e]
  by_cases h : s.size ≤ 1200
  · refine Ev.neg (fun _ => by omega) ?_
    refine Ev.succ ?_
    simp only [laws_short.l0]
    refine Ev.neg (fun _ => by unfold wrap64; omega) ?_
    exact Ev.eq (Ev.now _) (by simp [h])
  · refine Ev.pos (fun _ => by omega) ?_
    exact Ev.eq (Ev.now _) (by simp [h])
theorem ascii_from (s : ByteArray) (hs : s.size ≤ 2000000000) : ∀ (n i : Nat), s.size - i = n → i ≤ s.size →
    Ev (fun k => laws_ascii.l1 k s i [s] 1 0) (decide (∀ x ∈ (bytesOf s).drop i, x ≤ 127)) := by
  intro n
  induction n with
  | zero =>
    intro i hn hi
    refine Ev.succ ?_
    simp only [laws_ascii.l1]
    refine Ev.neg (fun _ => by omega) ?_
    refine Ev.succ ?_
    simp only [laws_ascii.l0]
    refine Ev.neg (fun _ => by unfold wrap64; omega) ?_
    refine Ev.eq (Ev.now _) ?_
    rw [List.drop_of_length_le (by rw [bytesOf_length]; omega)]
    simp
  | succ n ih =>
    intro i hn hi
    have hl : i < (bytesOf s).length := by rw [bytesOf_length]; omega
    refine Ev.succ ?_
    simp only [laws_ascii.l1]
    refine Ev.pos (fun _ => by omega) ?_
    refine Ev.pos (fun _ => by omega) ?_
    rw [bt_nat, drop_get _ _ hl]
    by_cases h : (bytesOf s).getD i 0 > 127
    · refine Ev.pos (fun _ => h) ?_
      refine Ev.eq (Ev.now _) ?_
      symm
      simp only [decide_eq_false_iff_not]
      intro hx
      have := hx _ List.mem_cons_self
      omega
    · refine Ev.neg (fun _ => h) ?_
      rw [w64 (by omega) (by omega)]
      refine Ev.eq (ih (i + 1) (by omega) (by omega)) ?_
      rw [decide_eq_decide]
      simp only [List.mem_cons, forall_eq_or_imp]
      exact ⟨fun hx => ⟨by omega, hx⟩, fun hx => hx.2⟩
theorem ascii_ev (s : ByteArray) (hs : s.size ≤ 2000000000) : Ev (fun k => laws_ascii.f k [s]) (decide (∀ x ∈ bytesOf s, x ≤ 127)) := by
  have h := ascii_from s hs _ 0 rfl (Nat.zero_le _)
  refine Ev.succ ?_
  simp only [laws_ascii.f, laws_ascii.l0, List.length_cons, List.length_nil]
  have e : rdOf ByteArray.empty [s] 0 = s := rfl
  rw [e]
  refine Ev.pos (fun _ => by first | omega | trivial | assumption) ?_
  refine Ev.pos (fun _ => by first | omega | trivial | assumption) ?_
  refine Ev.pos (fun _ => by first | omega | trivial | assumption) ?_
  simpa using h
theorem digits_from (s : ByteArray) (hs : s.size ≤ 2000000000) : ∀ (n i : Nat), s.size - i = n → i ≤ s.size →
    Ev (fun k => laws_digits.l0 k s i) (((bytesOf s).drop i).all isD && decide (bytesOf s ≠ [])) := by
  intro n
  induction n with
  | zero =>
    intro i hn hi
    refine Ev.succ ?_
    simp only [laws_digits.l0]
    refine Ev.neg (fun _ => by first | omega | assumption | nofun) ?_
    refine Ev.eq (Ev.now _) ?_
    rw [List.drop_of_length_le (by rw [bytesOf_length]; omega)]
    have e : (s.toList != ([] : List UInt8)) = decide (bytesOf s ≠ []) := by
      rw [bne_nil_hyb]
      have := toList_nil s
      by_cases h : s.toList = []
      · simp [h, this.1 h]
      · have h2 : bytesOf s ≠ [] := fun h2 => h (this.2 h2)
        simp [h, h2]
    simp [e]
  | succ n ih =>
    intro i hn hi
    have hl : i < (bytesOf s).length := by rw [bytesOf_length]; omega
    refine Ev.succ ?_
    simp only [laws_digits.l0, bt_nat]
    rw [drop_get _ _ hl]
    refine Ev.pos (fun _ => by first | omega | trivial | assumption) ?_
    refine Ev.pos (fun _ => by first | omega | trivial | assumption) ?_
    cases h : isD ((bytesOf s).getD i 0)
    · have h2 : ¬ (48 ≤ (bytesOf s).getD i 0 ∧ (bytesOf s).getD i 0 ≤ 57) := of_decide_eq_false h
      have e : (((bytesOf s).getD i 0 :: (bytesOf s).drop (i + 1)).all isD && decide (bytesOf s ≠ [])) = false := by
        rw [List.all_cons, h]; simp only [Bool.false_and, Bool.true_and]
      rw [e]
      by_cases h3 : (bytesOf s).getD i 0 < 48
      · refine Ev.pos (fun _ => by first | omega | trivial | assumption) ?_
        exact Ev.now _
      · refine Ev.neg (fun _ => by first | omega | assumption | nofun) ?_
        refine Ev.pos (fun _ => by first | omega | trivial | assumption) ?_
        exact Ev.now _
    · have h2 : 48 ≤ (bytesOf s).getD i 0 ∧ (bytesOf s).getD i 0 ≤ 57 := of_decide_eq_true h
      have e : (((bytesOf s).getD i 0 :: (bytesOf s).drop (i + 1)).all isD && decide (bytesOf s ≠ [])) = (((bytesOf s).drop (i + 1)).all isD && decide (bytesOf s ≠ [])) := by
        rw [List.all_cons, h]; simp only [Bool.false_and, Bool.true_and]
      rw [e]
      refine Ev.neg (fun _ => by first | omega | assumption | nofun) ?_
      refine Ev.neg (fun _ => by first | omega | assumption | nofun) ?_
      rw [w64 (by omega) (by omega)]
      exact ih (i + 1) (by omega) (by omega)
theorem digits_ev (s : ByteArray) (hs : s.size ≤ 2000000000) : Ev (fun k => laws_digits.f k s) ((bytesOf s).all isD && decide (bytesOf s ≠ [])) := by
  have h := digits_from s hs _ 0 rfl (Nat.zero_le _)
  simpa [laws_digits.f] using h


theorem decode_eq (s : ByteArray) (h0 : bytesOf s ≠ []) (ha : (bytesOf s).getD 0 0 < 128) : utf8_DecodeRuneInString.f s = some ((bytesOf s).getD 0 0, 1) := by
  have hpos : 0 < (bytesOf s).length := List.length_pos_iff.2 h0
  rw [bytesOf_length] at hpos
  have hr := bt_range s 0
  unfold utf8_DecodeRuneInString.f
  rw [if_neg (fun h => h0 ((toList_nil _).1 h)), if_pos (by omega), bt_zero, if_pos ha, w32 (by rw [bt_zero] at hr; omega) (by omega)]
theorem zzDigit_eq (c : Int) : semantic_zzDigit.f c = some (isD c) := by
  unfold semantic_zzDigit.f isD
  by_cases h : c ≥ 48
  · rw [if_pos h]; simp; omega
  · rw [if_neg h]; simp; omega
theorem isDigit_eq (c : Int) : spec_isDigit.f c = some (isD c) := by
  unfold spec_isDigit.f isD
  by_cases h : c ≥ 48
  · rw [if_pos h]; simp; omega
  · rw [if_neg h]; simp; omega

/-! ### Pairs and transitions, told of lists -/
/-- The pairs of a byte that is (b) a digit or is none, and one that is the other. -/
def Q (b : Bool) : Nat → List Int → List (List Int)
  | _, [] => []
  | _, [_] => []
  | i, c :: d :: r => if isD c = b ∧ isD d ≠ b then [(i : Int), (i : Int) + 2] :: Q b (i + 1) (d :: r) else Q b (i + 1) (d :: r)
/-- Where a digit and another byte meet. -/
def T : Nat → List Int → List Int
  | _, [] => []
  | _, [_] => []
  | i, c :: d :: r => if isD c ≠ isD d then ((i : Int) + 1) :: T (i + 1) (d :: r) else T (i + 1) (d :: r)
def fst1 (w : List Int) : Int := rd w 0 + 1
theorem Q_length (b : Bool) : ∀ (l : List Int) (i : Nat), (Q b i l).length ≤ l.length := by
  intro l
  induction l with
  | nil => intro i; simp [Q]
  | cons c r ih =>
    intro i
    cases r with
    | nil => simp [Q]
    | cons d r =>
      have := ih (i + 1)
      simp only [Q]
      split <;> simp only [List.length_cons] at * <;> omega
theorem T_length : ∀ (l : List Int) (i : Nat), (T i l).length ≤ l.length := by
  intro l
  induction l with
  | nil => intro i; simp [T]
  | cons c r ih =>
    intro i
    cases r with
    | nil => simp [T]
    | cons d r =>
      have := ih (i + 1)
      simp only [T]
      split <;> simp only [List.length_cons] at * <;> omega
theorem Q_mem (b : Bool) : ∀ (l : List Int) (i : Nat), ∀ w ∈ Q b i l, ∃ j : Nat, w = [(j : Int), (j : Int) + 2] ∧ j ≤ i + l.length := by
  intro l
  induction l with
  | nil => intro i w hw; cases hw
  | cons c r ih =>
    intro i
    cases r with
    | nil => intro w hw; cases hw
    | cons d r =>
      intro w hw
      simp only [Q] at hw
      split at hw
      · rcases List.mem_cons.1 hw with rfl | hw
        · exact ⟨i, rfl, by omega⟩
        · obtain ⟨j, h1, h2⟩ := ih (i + 1) w hw
          exact ⟨j, h1, by simp only [List.length_cons] at *; omega⟩
      · obtain ⟨j, h1, h2⟩ := ih (i + 1) w hw
        exact ⟨j, h1, by simp only [List.length_cons] at *; omega⟩
/-- Behind a pair that is taken the next can't begin at its second byte. -/
theorem Q_skip (b : Bool) (i : Nat) (d : Int) (r : List Int) (h : isD d ≠ b) : Q b i (d :: r) = Q b (i + 1) r := by
  cases r with
  | nil => simp [Q]
  | cons e r => simp [Q, h]
theorem T_perm : ∀ (l : List Int) (i : Nat), List.Perm ((Q false i l ++ Q true i l).map fst1) (T i l) := by
  intro l
  induction l with
  | nil => intro i; simp [Q, T]
  | cons c r ih =>
    intro i
    cases r with
    | nil => simp [Q, T]
    | cons d r =>
      have h := ih (i + 1)
      have e : fst1 [(i : Int), (i : Int) + 2] = (i : Int) + 1 := rfl
      simp only [Q, T]
      rcases hc : isD c <;> rcases hd : isD d
      · simpa using h
      · simp only [ne_eq, Bool.false_eq_true, not_false_eq_true, and_self, if_true, reduceCtorEq, false_and, if_false, List.cons_append, List.map_cons, e]
        exact h.cons _
      · simp only [ne_eq, Bool.false_eq_true, not_false_eq_true, and_self, if_true, reduceCtorEq, false_and, if_false, List.map_append, List.map_cons, e]
        rw [List.map_append] at h
        exact List.perm_middle.trans (h.cons _)
      · simpa using h
theorem T_lt : ∀ (l : List Int) (i : Nat), (∀ x ∈ T i l, (i : Int) < x ∧ x ≤ (i : Int) + l.length) ∧ List.Pairwise (fun x y => x < y) (T i l) := by
  intro l
  induction l with
  | nil => intro i; simp [T]
  | cons c r ih =>
    intro i
    cases r with
    | nil => simp [T]
    | cons d r =>
      obtain ⟨h1, h2⟩ := ih (i + 1)
      have h3 : ∀ x ∈ T (i + 1) (d :: r), (i : Int) < x ∧ x ≤ (i : Int) + ((c :: d :: r).length : Int) := fun x hx => by
        have := h1 x hx
        simp only [List.length_cons] at *
        omega
      simp only [T]
      split
      · refine ⟨fun x hx => ?_, List.pairwise_cons.2 ⟨fun x hx => by have := h1 x hx; omega, h2⟩⟩
        rcases List.mem_cons.1 hx with rfl | hx
        · simp only [List.length_cons]; omega
        · exact h3 x hx
      · exact ⟨h3, h2⟩
theorem T_last (l : List Int) : ∀ (i : Nat), T i (l ++ [49, 98]) ≠ [] := by
  induction l with
  | nil => intro i; simp [T, isD]
  | cons c r ih =>
    intro i
    have : ∃ d r2, r ++ [49, 98] = d :: r2 := by
      cases r with
      | nil => exact ⟨_, _, rfl⟩
      | cons d r => exact ⟨_, _, rfl⟩
    obtain ⟨d, r2, e⟩ := this
    have h := ih (i + 1)
    rw [List.cons_append, e]
    rw [e] at h
    simp only [T]
    split
    · simp
    · exact h
theorem sorted_T (l : List Int) : ((Q false 0 l ++ Q true 0 l).map fst1).mergeSort (fun x y => decide (x ≤ y)) = T 0 l := by
  refine List.Perm.eq_of_pairwise (le := fun x y : Int => x ≤ y) (fun a b _ _ h1 h2 => by omega) ?_ ?_ ((List.mergeSort_perm _ _).trans (T_perm l 0))
  · have h := List.pairwise_mergeSort (le := fun x y : Int => decide (x ≤ y)) (fun a b c h1 h2 => by simp only [decide_eq_true_eq] at *; omega) (fun a b => by simp only [Bool.or_eq_true, decide_eq_true_eq]; omega) ((Q false 0 l ++ Q true 0 l).map fst1)
    exact h.imp (fun h => of_decide_eq_true h)
  · exact (T_lt l 0).2.imp (fun h => by omega)

/-! ### The walked functions -/
theorem drop_two (l : List Int) (i : Nat) (h : i + 1 < l.length) : l.drop i = l.getD i 0 :: l.getD (i + 1) 0 :: l.drop (i + 2) := by
  rw [drop_get l i (by omega), drop_get l (i + 1) h]
theorem pairs_from (s : ByteArray) (b : Bool) (hs : s.size ≤ 1000000) (ha : ∀ x ∈ bytesOf s, 0 ≤ x ∧ x ≤ 127) : ∀ (n i : Nat) (out : List (List Int)), s.size - i ≤ n → i ≤ s.size → out.length ≤ i →
    Ev (fun k => semantic_zzPairs.l0 k s b out i) (out ++ Q b i ((bytesOf s).drop i)) := by
  intro n
  induction n with
  | zero =>
    intro i out hn hi ho
    refine Ev.succ ?_
    simp only [semantic_zzPairs.l0]
    refine Ev.neg (fun _ => by first | omega | assumption | nofun) ?_
    refine Ev.eq (Ev.now _) ?_
    rw [List.drop_of_length_le (by rw [bytesOf_length]; omega)]
    simp [Q]
  | succ n ih =>
    intro i out hn hi ho
    by_cases hlt : i < s.size
    · have hl : i < (bytesOf s).length := by rw [bytesOf_length]; omega
      have hget : ∀ j, j < (bytesOf s).length → 0 ≤ (bytesOf s).getD j 0 ∧ (bytesOf s).getD j 0 ≤ 127 := fun j hj => by
        refine ha _ ?_
        rw [List.getD_eq_getElem?_getD, List.getElem?_eq_getElem hj]
        exact List.getElem_mem hj
      have dec : ∀ j : Nat, j < s.size → utf8_DecodeRuneInString.f (s.extract j s.size) = some ((bytesOf s).getD j 0, 1) := by
        intro j hj
        have hb : bytesOf (s.extract j s.size) = (bytesOf s).drop j := B_drop s j
        have hd := drop_get (bytesOf s) j (by rw [bytesOf_length]; exact hj)
        have hh := hget j (by rw [bytesOf_length]; exact hj)
        rw [decode_eq _ (by rw [hb, hd]; simp) (by rw [hb, hd]; simp only [List.getD_cons_zero]; omega), hb, hd]
        rfl
      refine Ev.succ ?_
      simp only [semantic_zzPairs.l0, zzDigit_eq, Int.toNat_natCast]
      refine Ev.pos (fun _ => by first | omega | trivial | assumption) ?_
      refine Ev.pos (fun _ => by first | omega | trivial | assumption) ?_
      refine Ev.pos (fun _ => by first | omega | trivial | assumption) ?_
      refine Ev.bind0 (dec i hlt) ?_
      refine Ev.bind0 rfl ?_
      rw [w64 (by omega) (by omega)]
      have ei : ((i : Int) + 1) = ((i + 1 : Nat) : Int) := by omega
      rw [ei]
      simp only [bt_nat, Int.toNat_natCast]
      have skip : ∀ (h : (i + 1 = s.size) ∨ (i + 1 < s.size ∧ ¬ (isD ((bytesOf s).getD i 0) = b ∧ isD ((bytesOf s).getD (i + 1) 0) ≠ b))), Ev (fun k => semantic_zzPairs.l0 k s b out ((i + 1 : Nat) : Int)) (out ++ Q b i ((bytesOf s).drop i)) := by
        intro h
        refine Ev.eq (ih (i + 1) out (by omega) (by omega) (by omega)) ?_
        rcases h with h | ⟨h, h2⟩
        · rw [drop_get _ _ hl, List.drop_of_length_le (by rw [bytesOf_length]; omega)]
          simp [Q]
        · rw [drop_two (bytesOf s) i (by rw [bytesOf_length]; exact h)]
          simp only [Q]
          rw [if_neg h2, drop_get (bytesOf s) (i + 1) (by rw [bytesOf_length]; exact h)]
      by_cases h1 : isD ((bytesOf s).getD i 0) = b
      · refine Ev.neg (fun _ => by rw [h1]; simp) ?_
        by_cases h2 : i + 1 < s.size
        · refine Ev.neg (fun _ => by omega) ?_
          refine Ev.pos (fun _ => by first | omega | trivial | assumption) ?_
          refine Ev.pos (fun _ => by first | omega | trivial | assumption) ?_
          refine Ev.bind0 rfl ?_
          by_cases h3 : isD ((bytesOf s).getD (i + 1) 0) = b
          · refine Ev.pos (fun _ => by rw [h3]; simp) ?_
            exact skip (.inr ⟨h2, fun h => h.2 h3⟩)
          · refine Ev.neg (fun _ => by rw [beq_iff_eq]; exact h3) ?_
            refine Ev.pos (fun _ => by first | omega | trivial | assumption) ?_
            refine Ev.bind0 (dec (i + 1) h2) ?_
            refine Ev.pos (fun _ => by omega) ?_
            rw [w64 (by omega) (by omega)]
            have ei2 : (((i + 1 : Nat) : Int) + 1) = ((i + 2 : Nat) : Int) := by omega
            rw [ei2]
            refine Ev.eq (ih (i + 2) _ (by omega) (by omega) (by simp; omega)) ?_
            rw [drop_two (bytesOf s) i (by rw [bytesOf_length]; exact h2)]
            simp only [Q]
            rw [if_pos ⟨h1, h3⟩, Q_skip _ _ _ _ h3, List.append_assoc]
            have ei3 : ((i + 2 : Nat) : Int) = (i : Int) + 2 := by omega
            rw [ei3]
            rfl
        · refine Ev.pos (fun _ => by omega) ?_
          exact skip (.inl (by omega))
      · refine Ev.pos (fun _ => by rw [bne_iff_ne]; exact h1) ?_
        by_cases h2 : i + 1 < s.size
        · exact skip (.inr ⟨h2, fun h => h1 h.1⟩)
        · exact skip (.inl (by omega))
    · refine Ev.succ ?_
      simp only [semantic_zzPairs.l0]
      refine Ev.neg (fun _ => by first | omega | assumption | nofun) ?_
      refine Ev.eq (Ev.now _) ?_
      rw [List.drop_of_length_le (by rw [bytesOf_length]; omega)]
      simp [Q]
theorem pairs_ev (s : ByteArray) (b : Bool) (hs : s.size ≤ 1000000) (ha : ∀ x ∈ bytesOf s, 0 ≤ x ∧ x ≤ 127) : Ev (fun k => semantic_zzPairs.f k s b) (Q b 0 (bytesOf s)) := by
  have h := pairs_from s b hs ha _ 0 [] (Nat.le_refl _) (Nat.zero_le _) (Nat.le_refl _)
  simpa [semantic_zzPairs.f] using h

theorem rd_L1_get {l : List (List Int)} {i : Nat} (h : i < l.length) : rd_L1 l i = l[i] := by
  simp [rd_L1, List.getD_eq_getElem?_getD, h]
theorem drop_L1 {l : List (List Int)} {i : Nat} (h : i < l.length) : l.drop i = rd_L1 l i :: l.drop (i + 1) := by
  rw [List.drop_eq_getElem_cons h, rd_L1_get h]
theorem second_from (l : List (List Int)) (hl : l.length ≤ 1000000) (hm : ∀ w ∈ l, ∃ j : Nat, w = [(j : Int), (j : Int) + 2] ∧ j ≤ 2000000) : ∀ (n i : Nat) (out : List Int), l.length - i = n → i ≤ l.length → out.length ≤ 1000000 + i →
    Ev (fun k => Go.Proofs.YteffbgjfhbgooaaDoorH.semantic_mavenFindTransitions.l1 k out l l.length i) ((out ++ (l.drop i).map fst1).mergeSort fun x y => decide (x ≤ y)) := by
  intro n
  induction n with
  | zero =>
    intro i out hn hi ho
    refine Ev.succ ?_
    simp only [Go.Proofs.YteffbgjfhbgooaaDoorH.semantic_mavenFindTransitions.l1]
    refine Ev.neg (fun _ => by first | omega | assumption | nofun) ?_
    refine Ev.pos (fun _ => by first | omega | trivial | assumption) ?_
    refine Ev.eq (Ev.now _) ?_
    rw [List.drop_of_length_le (by omega)]
    simp
  | succ n ih =>
    intro i out hn hi ho
    have hil : i < l.length := by omega
    obtain ⟨j, hj, hjb⟩ := hm (rd_L1 l i) (by rw [rd_L1_get hil]; exact List.getElem_mem hil)
    refine Ev.succ ?_
    simp only [Go.Proofs.YteffbgjfhbgooaaDoorH.semantic_mavenFindTransitions.l1]
    refine Ev.pos (fun _ => by first | omega | trivial | assumption) ?_
    refine Ev.pos (fun _ => by first | omega | trivial | assumption) ?_
    refine Ev.pos (fun _ => by first | omega | trivial | assumption) ?_
    refine Ev.pos (fun _ => by rw [hj]; simp) ?_
    refine Ev.pos (fun _ => by first | omega | trivial | assumption) ?_
    have e : rd (rd_L1 l i) 0 = (j : Int) := by rw [hj]; rfl
    rw [e, w64 (by omega) (by omega), w64 (by omega) (by omega)]
    refine Ev.eq (ih (i + 1) _ (by omega) (by omega) (by simp; omega)) ?_
    rw [drop_L1 hil, List.map_cons, hj]
    have e2 : fst1 [(j : Int), (j : Int) + 2] = (j : Int) + 1 := rfl
    rw [e2, List.append_assoc]
    rfl
theorem first_from (s : ByteArray) (hs : s.size ≤ 100000) (ha : ∀ x ∈ bytesOf s, 0 ≤ x ∧ x ≤ 127) (l : List (List Int)) (hl : l.length ≤ 500000) (hm : ∀ w ∈ l, ∃ j : Nat, w = [(j : Int), (j : Int) + 2] ∧ j ≤ 2000000) : ∀ (n i : Nat) (out : List Int), l.length - i = n → i ≤ l.length → out.length ≤ i →
    Ev (fun k => Go.Proofs.YteffbgjfhbgooaaDoorH.semantic_mavenFindTransitions.l0 k s out l l.length i) ((out ++ (l.drop i).map fst1 ++ (Q true 0 (bytesOf s)).map fst1).mergeSort fun x y => decide (x ≤ y)) := by
  intro n
  induction n with
  | zero =>
    intro i out hn hi ho
    have hql := Q_length true (bytesOf s) 0
    rw [bytesOf_length] at hql
    have h := second_from (Q true 0 (bytesOf s)) (by omega) (fun w hw => by
      obtain ⟨j, h1, h2⟩ := Q_mem _ _ _ w hw
      rw [bytesOf_length] at h2
      exact ⟨j, h1, by omega⟩) _ 0 out rfl (Nat.zero_le _) (by omega)
    refine Ev.succ ?_
    simp only [Go.Proofs.YteffbgjfhbgooaaDoorH.semantic_mavenFindTransitions.l0]
    refine Ev.neg (fun _ => by first | omega | assumption | nofun) ?_
    refine Ev.bind (pairs_ev s true (by omega) ha) ?_
    refine Ev.eq h ?_
    rw [List.drop_of_length_le (l := l) (by omega)]
    simp
  | succ n ih =>
    intro i out hn hi ho
    have hil : i < l.length := by omega
    obtain ⟨j, hj, hjb⟩ := hm (rd_L1 l i) (by rw [rd_L1_get hil]; exact List.getElem_mem hil)
    refine Ev.succ ?_
    simp only [Go.Proofs.YteffbgjfhbgooaaDoorH.semantic_mavenFindTransitions.l0]
    refine Ev.pos (fun _ => by first | omega | trivial | assumption) ?_
    refine Ev.pos (fun _ => by first | omega | trivial | assumption) ?_
    refine Ev.pos (fun _ => by first | omega | trivial | assumption) ?_
    refine Ev.pos (fun _ => by rw [hj]; simp) ?_
    refine Ev.pos (fun _ => by first | omega | trivial | assumption) ?_
    have e : rd (rd_L1 l i) 0 = (j : Int) := by rw [hj]; rfl
    rw [e, w64 (by omega) (by omega), w64 (by omega) (by omega)]
    refine Ev.eq (ih (i + 1) _ (by omega) (by omega) (by simp; omega)) ?_
    rw [drop_L1 hil, List.map_cons, hj]
    have e2 : fst1 [(j : Int), (j : Int) + 2] = (j : Int) + 1 := rfl
    rw [e2]
    simp
/-- What the program answers. -/
theorem impl_ev (s : ByteArray) (hs : s.size ≤ 100000) (ha : ∀ x ∈ bytesOf s, 0 ≤ x ∧ x ≤ 127) : Ev (fun k => impl_MavenTransitions.f k s) (T 0 (bytesOf s)) := by
  simp only [impl_MavenTransitions.f, semantic_ZZMavenTransitions.f, Go.Proofs.YteffbgjfhbgooaaDoorH.semantic_mavenFindTransitions.f]
  have hql := Q_length false (bytesOf s) 0
  rw [bytesOf_length] at hql
  have h := first_from s hs ha (Q false 0 (bytesOf s)) (by omega) (fun w hw => by
      obtain ⟨j, h1, h2⟩ := Q_mem _ _ _ w hw
      rw [bytesOf_length] at h2
      exact ⟨j, h1, by omega⟩) _ 0 [] rfl (Nat.zero_le _) (Nat.le_refl _)
  have e : (([] : List Int) ++ ((Q false 0 (bytesOf s)).drop 0).map fst1 ++ (Q true 0 (bytesOf s)).map fst1).mergeSort (fun x y => decide (x ≤ y)) = T 0 (bytesOf s) := by
    rw [← sorted_T (bytesOf s)]
    simp
  rw [e] at h
  exact Ev.bind (Ev.bind (Ev.bind (pairs_ev s false (by omega) ha) h) (Ev.now _)) (Ev.now _)

theorem T_step (l : List Int) (i : Nat) (h : i + 1 < l.length) : T i (l.drop i) = (if isD (l.getD i 0) ≠ isD (l.getD (i + 1) 0) then [((i : Int) + 1)] else []) ++ T (i + 1) (l.drop (i + 1)) := by
  rw [drop_two l i h, drop_get l (i + 1) h]
  simp only [T]
  split <;> simp
theorem T_end (l : List Int) (i : Nat) (h : l.length ≤ i + 1) : T i (l.drop i) = [] := by
  rcases Nat.lt_or_ge i l.length with h1 | h1
  · rw [drop_get _ _ h1, List.drop_of_length_le (by omega)]; rfl
  · rw [List.drop_of_length_le h1]; rfl
theorem spec_from (s : ByteArray) (hs : s.size ≤ 1000000) : ∀ (n i : Nat) (out : List Int), s.size - i = n → out.length ≤ i →
    Ev (fun k => spec_MavenTransitions.l0 k s out ((i + 1 : Nat) : Int)) (out ++ T i ((bytesOf s).drop i)) := by
  intro n
  induction n with
  | zero =>
    intro i out hn ho
    refine Ev.succ ?_
    simp only [spec_MavenTransitions.l0]
    refine Ev.neg (fun _ => by first | omega | assumption | nofun) ?_
    refine Ev.eq (Ev.now _) ?_
    rw [T_end _ _ (by rw [bytesOf_length]; omega)]
    simp
  | succ n ih =>
    intro i out hn ho
    by_cases hlt : i + 1 < s.size
    · refine Ev.succ ?_
      have e1 : wrap64 (((i + 1 : Nat) : Int) - 1) = (i : Int) := by unfold wrap64; omega
      have e2 : wrap64 (((i + 1 : Nat) : Int) + 1) = ((i + 1 + 1 : Nat) : Int) := by unfold wrap64; omega
      have hT := T_step (bytesOf s) i (by rw [bytesOf_length]; exact hlt)
      simp only [spec_MavenTransitions.l0, isDigit_eq, Option.bind_some, e1, e2, bt_nat]
      refine Ev.pos (fun _ => by first | omega | trivial | assumption) ?_
      refine Ev.pos (fun _ => by first | omega | trivial | assumption) ?_
      refine Ev.pos (fun _ => by first | omega | trivial | assumption) ?_
      refine Ev.pos (fun _ => by first | omega | trivial | assumption) ?_
      by_cases h : isD ((bytesOf s).getD i 0) = isD ((bytesOf s).getD (i + 1) 0)
      · refine Ev.neg (fun _ => by rw [h]; simp) ?_
        refine Ev.eq (ih (i + 1) out (by omega) (by omega)) ?_
        rw [hT, if_neg (fun h2 => h2 h)]
        rfl
      · refine Ev.pos (fun _ => by simpa [bne_iff_ne] using fun h2 => h h2.symm) ?_
        refine Ev.pos (fun _ => by first | omega | trivial | assumption) ?_
        refine Ev.eq (ih (i + 1) _ (by omega) (by simp; omega)) ?_
        rw [hT, if_pos h, List.append_assoc]
        have e3 : ((i + 1 : Nat) : Int) = (i : Int) + 1 := by omega
        rw [e3]
    · refine Ev.succ ?_
      simp only [spec_MavenTransitions.l0]
      refine Ev.neg (fun _ => by first | omega | assumption | nofun) ?_
      refine Ev.eq (Ev.now _) ?_
      rw [T_end _ _ (by rw [bytesOf_length]; omega)]
      simp
theorem spec_ev (s : ByteArray) (hs : s.size ≤ 1000000) : Ev (fun k => spec_MavenTransitions.f k s) (T 0 (bytesOf s)) := by
  have h := spec_from s hs _ 0 [] rfl (Nat.le_refl _)
  simpa [spec_MavenTransitions.f] using h
theorem one_digit (s : ByteArray) (hs : s.size ≤ 1000000) (i : Nat) (hi : i < s.size) : Ev (fun k => laws_digits.f k (s.extract i (i + 1))) (isD ((bytesOf s).getD i 0)) := by
  have hb : bytesOf (s.extract i (i + 1)) = [(bytesOf s).getD i 0] := by
    rw [B_extract, drop_get _ _ (by rw [bytesOf_length]; exact hi)]
    have : i + 1 - i = 1 := by omega
    rw [this]
    simp
  have hz : (s.extract i (i + 1)).size = 1 := by rw [B_size, hb]; rfl
  refine Ev.eq (digits_ev _ (by omega)) ?_
  rw [hb]
  simp
/-- The law's last round: both lists are one list, ascending. -/
theorem last_from (l : List Int) (hl : l.length ≤ 1000000) (hp : List.Pairwise (fun x y => x < y) l) : ∀ (n i : Nat), l.length - i = n → i ≤ l.length → Ev (fun k => laws_FnMavenTransitions.l1 k l l l.length i) true := by
  intro n
  induction n with
  | zero =>
    intro i hn hi
    refine Ev.succ ?_
    simp only [laws_FnMavenTransitions.l1]
    refine Ev.neg (fun _ => by first | omega | assumption | nofun) ?_
    exact Ev.now _
  | succ n ih =>
    intro i hn hi
    have hil : i < l.length := by omega
    have hr := ih (i + 1) (by omega) (by omega)
    refine Ev.succ ?_
    simp only [laws_FnMavenTransitions.l1]
    refine Ev.pos (fun _ => by first | omega | trivial | assumption) ?_
    refine Ev.pos (fun _ => by first | omega | trivial | assumption) ?_
    refine Ev.pos (fun _ => by first | omega | trivial | assumption) ?_
    refine Ev.pos (fun _ => by first | omega | trivial | assumption) ?_
    refine Ev.pos (fun _ => by first | omega | trivial | assumption) ?_
    have e2 : wrap64 ((i : Int) + 1) = ((i + 1 : Nat) : Int) := by unfold wrap64; omega
    rw [e2]
    by_cases h0 : i = 0
    · refine Ev.neg (fun _ => by omega) ?_
      exact hr
    · refine Ev.pos (fun _ => by omega) ?_
      obtain ⟨j, rfl⟩ : ∃ j, i = j + 1 := ⟨i - 1, by omega⟩
      have e1 : wrap64 (((j + 1 : Nat) : Int) - 1) = (j : Int) := by unfold wrap64; omega
      rw [e1]
      refine Ev.pos (fun _ => by first | omega | trivial | assumption) ?_
      refine Ev.pos (fun _ => by first | omega | trivial | assumption) ?_
      have hlt : rd l (j : Int) < rd l ((j + 1 : Nat) : Int) := by
        have h := List.pairwise_iff_getElem.1 hp j (j + 1) (by omega) hil (by omega)
        simpa [rd, List.getD_eq_getElem?_getD, hil, show j < l.length by omega] using h
      refine Ev.neg (fun _ => by omega) ?_
      exact hr
theorem law_from (s : ByteArray) (hs : s.size ≤ 1200) (ha : ∀ x ∈ bytesOf s, 0 ≤ x ∧ x ≤ 127) : ∀ (n i : Nat) (out : List Int), s.size - i = n → out.length ≤ i → out ++ T i ((bytesOf s).drop i) = T 0 (bytesOf s) →
    Ev (fun k => laws_FnMavenTransitions.l0 k s out ((i + 1 : Nat) : Int)) true := by
  have fin : ∀ i : Nat, s.size ≤ i + 1 → Ev (fun k => laws_FnMavenTransitions.l0 k s (T 0 (bytesOf s)) ((i + 1 : Nat) : Int)) true := by
    intro i hi
    have hT := T_length (bytesOf s) 0
    rw [bytesOf_length] at hT
    have hbig : bytesOf ((⟨#[97]⟩ : ByteArray) ++ s ++ (⟨#[49, 98]⟩ : ByteArray)) = (97 :: bytesOf s) ++ [49, 98] := by rw [B_append, B_append]; rfl
    have hsz : ((⟨#[97]⟩ : ByteArray) ++ s ++ (⟨#[49, 98]⟩ : ByteArray)).size = s.size + 3 := by rw [B_size, hbig, List.length_append, List.length_cons, bytesOf_length]; rfl
    have hsz1 : ((⟨#[97]⟩ : ByteArray) ++ s).size = s.size + 1 := by
      have e : bytesOf ((⟨#[97]⟩ : ByteArray) ++ s) = 97 :: bytesOf s := by rw [B_append]; rfl
      rw [B_size, e, List.length_cons, bytesOf_length]
    have hab : ∀ x ∈ bytesOf ((⟨#[97]⟩ : ByteArray) ++ s ++ (⟨#[49, 98]⟩ : ByteArray)), 0 ≤ x ∧ x ≤ 127 := by
      rw [hbig]
      intro x hx
      rcases List.mem_append.1 hx with hx | hx
      · rcases List.mem_cons.1 hx with rfl | hx
        · omega
        · exact ha x hx
      · simp only [List.mem_cons, List.not_mem_nil, or_false] at hx
        omega
    have hne : T 0 (bytesOf ((⟨#[97]⟩ : ByteArray) ++ s ++ (⟨#[49, 98]⟩ : ByteArray))) ≠ [] := by rw [hbig]; exact T_last _ _
    refine Ev.succ ?_
    simp only [laws_FnMavenTransitions.l0]
    refine Ev.neg (fun _ => by first | omega | assumption | nofun) ?_
    refine Ev.bind (impl_ev s (by omega) ha) ?_
    refine Ev.pos (fun _ => by first | omega | trivial | assumption) ?_
    refine Ev.pos (fun _ => by first | omega | trivial | assumption) ?_
    refine Ev.bind (impl_ev _ (by omega) hab) ?_
    refine Ev.bind (spec_ev s (by omega)) ?_
    refine Ev.pos (fun _ => by first | omega | trivial | assumption) ?_
    refine Ev.pos (fun _ => by first | omega | trivial | assumption) ?_
    have e : (((T 0 (bytesOf ((⟨#[97]⟩ : ByteArray) ++ s ++ (⟨#[49, 98]⟩ : ByteArray)))).length : Int) == 0) = false := by
      rw [beq_eq_false_iff_ne]
      have := List.length_pos_iff.2 hne
      omega
    rw [e]
    refine Ev.succ ?_
    simp only [laws_FnMavenTransitions.j2]
    refine Ev.neg (fun _ => by first | omega | assumption | nofun) ?_
    exact last_from _ (by omega) (T_lt _ _).2 _ 0 rfl (Nat.zero_le _)
  intro n
  induction n with
  | zero =>
    intro i out hn ho hT
    rw [T_end _ _ (by rw [bytesOf_length]; omega), List.append_nil] at hT
    rw [hT]
    exact fin i (by omega)
  | succ n ih =>
    intro i out hn ho hT
    by_cases hlt : i + 1 < s.size
    · refine Ev.succ ?_
      have e1 : wrap64 (((i + 1 : Nat) : Int) - 1) = (i : Int) := by unfold wrap64; omega
      have e2 : wrap64 (((i + 1 : Nat) : Int) + 1) = ((i + 1 + 1 : Nat) : Int) := by unfold wrap64; omega
      have hS := T_step (bytesOf s) i (by rw [bytesOf_length]; exact hlt)
      simp only [laws_FnMavenTransitions.l0, e1, e2, Int.toNat_natCast]
      refine Ev.pos (fun _ => by first | omega | trivial | assumption) ?_
      refine Ev.pos (fun _ => by first | omega | trivial | assumption) ?_
      refine Ev.pos (fun _ => by first | omega | trivial | assumption) ?_
      refine Ev.pos (fun _ => by first | omega | trivial | assumption) ?_
      refine Ev.bind (one_digit s (by omega) i (by omega)) ?_
      refine Ev.pos (fun _ => by first | omega | trivial | assumption) ?_
      refine Ev.pos (fun _ => by first | omega | trivial | assumption) ?_
      refine Ev.pos (fun _ => by first | omega | trivial | assumption) ?_
      refine Ev.bind (one_digit s (by omega) (i + 1) hlt) ?_
      by_cases h : isD ((bytesOf s).getD i 0) = isD ((bytesOf s).getD (i + 1) 0)
      · refine Ev.neg (fun _ => by rw [h]; simp) ?_
        refine ih (i + 1) out (by omega) (by omega) ?_
        rw [hS, if_neg (fun h2 => h2 h)] at hT
        exact hT
      · refine Ev.pos (fun _ => by simpa [bne_iff_ne] using h) ?_
        refine Ev.pos (fun _ => by first | omega | trivial | assumption) ?_
        refine ih (i + 1) _ (by omega) (by simp; omega) ?_
        rw [hS, if_pos h] at hT
        have e3 : ((i + 1 : Nat) : Int) = (i : Int) + 1 := by omega
        rw [e3, List.append_assoc]
        exact hT
    · rw [T_end _ _ (by rw [bytesOf_length]; omega), List.append_nil] at hT
      rw [hT]
      exact fin i (by omega)
theorem FnMavenTransitions : laws_FnMavenTransitions.Pure := by
  intro s hs
  refine Ev.rounds (r := true) (g := fun k => laws_FnMavenTransitions.f k s) ?_
  simp only [laws_FnMavenTransitions.f]
  have yes : Ev (fun k => laws_FnMavenTransitions.j0 k s true) true := by
    refine Ev.succ ?_
    simp only [laws_FnMavenTransitions.j0]
    refine Ev.pos (fun _ => by first | omega | trivial | assumption) ?_
    exact Ev.now _
  by_cases hbig : (s.size : Int) > 2147483647
  · refine Ev.pos (fun _ => by first | omega | trivial | assumption) ?_
    exact Ev.now _
  · refine Ev.neg (fun _ => by first | omega | assumption | nofun) ?_
    refine Ev.bind (short_one s) ?_
    by_cases hsh : s.size ≤ 1200
    · refine Ev.pos (fun _ => decide_eq_true hsh) ?_
      refine Ev.bind (ascii_ev s (by omega)) ?_
      by_cases ha : ∀ x ∈ bytesOf s, x ≤ 127
      · rw [decide_eq_true ha]
        refine Ev.succ ?_
        simp only [laws_FnMavenTransitions.j0, Bool.not_true]
        refine Ev.neg (fun _ => by first | omega | assumption | nofun) ?_
        have h := law_from s hsh (fun x hx => ⟨(B_range s x hx).1, ha x hx⟩) _ 0 [] rfl (Nat.le_refl _) rfl
        simpa using h
      · rw [decide_eq_false ha]
        exact yes
    · refine Ev.neg (fun _ => by simpa using hsh) ?_
      exact yes
end Go.Proofs.YteffbgjfhbgooaaDoor.VM
