/- The plain law FnPackagistPoints. -/
import Derived.Test.YtdjkekgfeadmoaaDoorY2
import Derived.Test.YtdjkekgfeadmoaaDoorTx2
namespace Go.Proofs.YtdjkekgfeadmoaaDoor.VT
open Go.RowKit Go.Proofs.YtdjkekgfeadmoaaDoor.Q Go.Proofs.YtdjkekgfeadmoaaDoor.T Go.Proofs.YtdjkekgfeadmoaaDoor.V Go.Proofs.YtdjkekgfeadmoaaDoorH Go.Proofs.YtdjkekgfeadmoaaDoorB Go.Proofs.YtdjkekgfeadmoaaDoorG Go.Proofs.YtdjkekgfeadmoaaDoorW.PrintWords Go.Proofs.YtdjkekgfeadmoaaDoorW.PrintLast
set_option linter.unusedVariables false
set_option linter.unusedSimpArgs false

theorem letter_iff (c : Int) : (isL c || isU c) = true ↔ (97 ≤ c ∧ c ≤ 122) ∨ (65 ≤ c ∧ c ≤ 90) := by
  unfold isL isU
  rw [Bool.or_eq_true, decide_eq_true_iff, decide_eq_true_iff]
theorem words_from (s : ByteArray) (hs : s.size ≤ 2000000000) : ∀ (n i : Nat), s.size - i = n → i ≤ s.size →
    Ev (fun k => Go.Proofs.YtdjkekgfeadmoaaDoor.T.laws_words.l0 k s i) (decide (bytesOf s ≠ [] ∧ ∀ c ∈ (bytesOf s).drop i, (isL c || isU c) = true)) := by
  intro n
  induction n with
  | zero =>
    intro i hn hi
    refine Ev.succ ?_
    simp only [Go.Proofs.YtdjkekgfeadmoaaDoor.T.laws_words.l0]
    refine Ev.neg (fun _ => by omega) ?_
    refine Ev.eq (Ev.now _) ?_
    rw [List.drop_of_length_le (by rw [bytesOf_length]; omega), Bool.eq_iff_iff, bne_iff_ne, decide_eq_true_iff, ne_eq, toList_nil]
    simp
  | succ n ih =>
    intro i hn hi
    have hl : i < (bytesOf s).length := by rw [bytesOf_length]; omega
    refine Ev.succ ?_
    simp only [Go.Proofs.YtdjkekgfeadmoaaDoor.T.laws_words.l0]
    refine Ev.pos (fun _ => by omega) ?_
    refine Ev.pos (fun _ => by omega) ?_
    have hdr := drop_get _ _ hl
    rw [bt_nat, w64 (by omega) (by omega)]
    have hno : ¬ ((97 ≤ (bytesOf s).getD i 0 ∧ (bytesOf s).getD i 0 ≤ 122) ∨ (65 ≤ (bytesOf s).getD i 0 ∧ (bytesOf s).getD i 0 ≤ 90)) → false = decide (bytesOf s ≠ [] ∧ ∀ c ∈ (bytesOf s).drop i, (isL c || isU c) = true) := by
      intro h
      symm
      apply decide_eq_false
      rintro ⟨_, hx⟩
      exact h ((letter_iff _).1 (hx _ (by rw [hdr]; exact List.mem_cons_self)))
    have hyes : ((97 ≤ (bytesOf s).getD i 0 ∧ (bytesOf s).getD i 0 ≤ 122) ∨ (65 ≤ (bytesOf s).getD i 0 ∧ (bytesOf s).getD i 0 ≤ 90)) → Ev (fun k => Go.Proofs.YtdjkekgfeadmoaaDoor.T.laws_words.l0 k s ((i : Int) + 1)) (decide (bytesOf s ≠ [] ∧ ∀ c ∈ (bytesOf s).drop i, (isL c || isU c) = true)) := by
      intro h
      refine Ev.eq (ih (i + 1) (by omega) (by omega)) (decide_eq_decide.2 ?_)
      rw [hdr]
      simp only [List.mem_cons, forall_eq_or_imp]
      exact ⟨fun hx => ⟨hx.1, (letter_iff _).2 h, hx.2⟩, fun hx => ⟨hx.1, hx.2.2⟩⟩
    by_cases h1 : (bytesOf s).getD i 0 ≥ 97
    · refine Ev.pos (fun _ => h1) ?_
      by_cases h2 : (bytesOf s).getD i 0 ≤ 122
      · refine Ev.pos (fun _ => h2) ?_
        exact hyes (.inl ⟨h1, h2⟩)
      · refine Ev.neg (fun _ => h2) ?_
        refine Ev.pos (fun _ => by omega) ?_
        refine Ev.neg (fun _ => by omega) ?_
        exact Ev.eq (Ev.now _) (hno (by omega))
    · refine Ev.neg (fun _ => h1) ?_
      by_cases h2 : (bytesOf s).getD i 0 ≥ 65
      · refine Ev.pos (fun _ => h2) ?_
        by_cases h3 : (bytesOf s).getD i 0 ≤ 90
        · refine Ev.pos (fun _ => h3) ?_
          exact hyes (.inr ⟨h2, h3⟩)
        · refine Ev.neg (fun _ => h3) ?_
          exact Ev.eq (Ev.now _) (hno (by omega))
      · refine Ev.neg (fun _ => h2) ?_
        exact Ev.eq (Ev.now _) (hno (by omega))
theorem words_ev (s : ByteArray) (hs : s.size ≤ 2000000000) : Ev (fun k => Go.Proofs.YtdjkekgfeadmoaaDoor.T.laws_words.f k s) (decide (bytesOf s ≠ [] ∧ ∀ c ∈ bytesOf s, (isL c || isU c) = true)) := by
  have h := words_from s hs _ 0 rfl (Nat.zero_le _)
  simpa [Go.Proofs.YtdjkekgfeadmoaaDoor.T.laws_words.f] using h
theorem dotsT_meet (b : Int) (B : List Int) (hb : b ≠ 46) : ∀ (A : List Int) (x a : Int), (x :: A).getLast? = some a → a ≠ 46 → isD b ≠ isD a → dotsT x (A ++ b :: B) = dotsT x A ++ 46 :: dots (b :: B)
  | [], x, a, h, ha, hd => by
    have e : x = a := by simpa using h
    subst e
    simp only [List.nil_append, dotsT]
    rw [if_pos ⟨hb, ha, hd⟩]
    rfl
  | y :: A, x, a, h, ha, hd => by
    have h2 : (y :: A).getLast? = some a := by simpa using h
    simp only [List.cons_append, dotsT]
    rw [dotsT_meet b B hb A y a h2 ha hd]
    split <;> simp
theorem dots_meet {A : List Int} {a b : Int} (B : List Int) (h : A.getLast? = some a) (ha : a ≠ 46) (hb : b ≠ 46) (hd : isD b ≠ isD a) : dots (A ++ b :: B) = dots A ++ 46 :: dots (b :: B) := by
  cases A with
  | nil => simp at h
  | cons x A =>
    show x :: dotsT x (A ++ b :: B) = (x :: dotsT x A) ++ 46 :: dots (b :: B)
    rw [dotsT_meet b B hb A x a h ha hd]
    rfl
def plainC (c : Int) : Bool := isD c || (isL c || isU c)
theorem plain_pt {c : Int} (h : plainC c = true) : ptI c = c ∧ c ≠ 46 := by
  unfold plainC at h
  rw [Bool.or_eq_true, letter_iff] at h
  have h2 : (48 ≤ c ∧ c ≤ 57) ∨ (97 ≤ c ∧ c ≤ 122) ∨ (65 ≤ c ∧ c ≤ 90) := by
    rcases h with h | h
    · exact .inl (of_decide_eq_true h)
    · exact .inr h
  unfold ptI
  rw [if_neg (by omega)]
  exact ⟨rfl, by omega⟩
/-- A point more where a digit and a letter meet. -/
theorem canon_point {l : List Int} {i : Nat} (h0 : 0 < i) (hi : i < l.length) (h1 : l.getD 0 0 ≠ 118) (h2 : l.getD 0 0 ≠ 86) (ha : plainC (l.getD (i - 1) 0) = true) (hb : plainC (l.getD i 0) = true) (hd : isD (l.getD (i - 1) 0) ≠ isD (l.getD i 0)) :
    canon (l.take i ++ 46 :: l.drop i) = canon l := by
  obtain ⟨a1, a2⟩ := plain_pt ha
  obtain ⟨b1, b2⟩ := plain_pt hb
  have hne : l.take i ≠ [] := by
    intro e
    have h3 : (l.take i).length = 0 := by rw [e]; rfl
    rw [List.length_take] at h3
    omega
  have hg : (l.take i ++ 46 :: l.drop i).getD 0 0 = l.getD 0 0 := by
    cases l with
    | nil => simp at hi
    | cons x l =>
      obtain ⟨j, rfl⟩ : ∃ j, i = j + 1 := ⟨i - 1, by omega⟩
      rfl
  have hs : canon l = dots (l.map ptI) := by
    unfold canon
    rw [strip_ne (c := 118) h1, strip_ne h2]
  have ht : canon (l.take i ++ 46 :: l.drop i) = dots ((l.take i).map ptI ++ 46 :: (l.drop i).map ptI) := by
    unfold canon
    rw [strip_ne (c := 118) (by rw [hg]; exact h1), strip_ne (by rw [hg]; exact h2), List.map_append, List.map_cons]
    rfl
  rw [ht, hs, dots_at]
  have e : l.map ptI = (l.take i).map ptI ++ l.getD i 0 :: (l.drop (i + 1)).map ptI := by
    have h3 := List.take_append_drop i l
    rw [drop_get l i hi] at h3
    have h4 := congrArg (List.map ptI) h3.symm
    rw [List.map_append, List.map_cons, b1] at h4
    exact h4
  have hl : ((l.take i).map ptI).getLast? = some (l.getD (i - 1) 0) := by
    obtain ⟨j, hj1⟩ : ∃ j, i = j + 1 := ⟨i - 1, by omega⟩
    have hj : j < l.length := by omega
    have e2 : l.getD (i - 1) 0 = l[j] := by
      have e3 : i - 1 = j := by omega
      rw [e3]
      simp [List.getD_eq_getElem?_getD, hj]
    have e4 : (l.take i).map ptI = (l.take j).map ptI ++ [ptI l[j]] := by rw [hj1, List.take_succ_eq_append_getElem hj, List.map_append]; rfl
    rw [e2] at a1
    rw [e4, List.getLast?_concat, e2, a1]
  rw [e, dots_meet _ hl a2 b2 (fun h => hd h.symm)]
  rw [drop_get l i hi, List.map_cons, b1]
theorem one_seg (s : ByteArray) (i : Nat) (hi : i < s.size) : bytesOf (s.extract i (i + 1)) = [(bytesOf s).getD i 0] := by
  have hl : i < (bytesOf s).length := by rw [bytesOf_length]; exact hi
  rw [B_extract, drop_get _ _ hl]
  simp
theorem dig_one (s : ByteArray) (hs : s.size ≤ 2000) (i : Nat) (hi : i < s.size) : Ev (fun k => laws_digits.f k (s.extract i (i + 1))) (isD ((bytesOf s).getD i 0)) := by
  refine Ev.eq (digits_ev _ (by rw [ByteArray.size_extract]; omega)) ?_
  rw [one_seg s i hi]
  simp
theorem word_one (s : ByteArray) (hs : s.size ≤ 2000) (i : Nat) (hi : i < s.size) : Ev (fun k => laws_words.f k (s.extract i (i + 1))) (isL ((bytesOf s).getD i 0) || isU ((bytesOf s).getD i 0)) := by
  refine Ev.eq (words_ev _ (by rw [ByteArray.size_extract]; omega)) ?_
  rw [one_seg s i hi]
  simp
theorem points_end (s : ByteArray) (hs : s.size ≤ 1200) (ha : Asc (bytesOf s)) (i : Nat) (h0 : 0 < i) (hi : i < s.size) (h1 : (bytesOf s).getD 0 0 ≠ 118) (h2 : (bytesOf s).getD 0 0 ≠ 86)
    (pa : plainC ((bytesOf s).getD (i - 1) 0) = true) (pb : plainC ((bytesOf s).getD i 0) = true) (hd : isD ((bytesOf s).getD (i - 1) 0) ≠ isD ((bytesOf s).getD i 0)) :
    Ev (fun k => laws_FnPackagistPoints.j1 k s (i : Int) false) true := by
  have ht : bytesOf (((s.extract 0 i) ++ (⟨#[46]⟩ : ByteArray)) ++ (s.extract i s.size)) = (bytesOf s).take i ++ 46 :: (bytesOf s).drop i := by
    rw [B_append, B_append, B_take, B_drop, List.append_assoc]
    rfl
  have hl : i < (bytesOf s).length := by rw [bytesOf_length]; exact hi
  have hcn := canon_point h0 hl h1 h2 pa pb hd
  have hta : Asc ((bytesOf s).take i ++ 46 :: (bytesOf s).drop i) := Asc.append (fun c hc => ha c (List.mem_of_mem_take hc)) (Asc.mk_cons (by decide) (ha.drop i))
  have s1 : (s.extract 0 i).size = i := by rw [ByteArray.size_extract]; omega
  have s2 : (s.extract i s.size).size = s.size - i := by rw [ByteArray.size_extract]; omega
  have s3 : ((s.extract 0 i) ++ (⟨#[46]⟩ : ByteArray)).size = i + 1 := by rw [ByteArray.size_append, s1]; rfl
  have s4 : (((s.extract 0 i) ++ (⟨#[46]⟩ : ByteArray)) ++ (s.extract i s.size)).size ≤ 1201 := by rw [ByteArray.size_append, s3, s2]; omega
  rw [← ht] at hta hcn
  obtain ⟨x, hx, hxb⟩ := canonical_ev s (by omega) ha
  obtain ⟨y, hy, hyb⟩ := canonical_ev (((s.extract 0 i) ++ (⟨#[46]⟩ : ByteArray)) ++ (s.extract i s.size)) (by omega) hta
  have exy : x = y := B_inj (by rw [hxb, hyb, hcn])
  subst exy
  have hcs : comps (bytesOf (((s.extract 0 i) ++ (⟨#[46]⟩ : ByteArray)) ++ (s.extract i s.size))) = comps (bytesOf s) := by
    unfold comps
    rw [hcn]
  have g1 := comps_goods ha (by rw [← B_size]; omega)
  have hf : Fits (comps (bytesOf s)) (comps (bytesOf (((s.extract 0 i) ++ (⟨#[46]⟩ : ByteArray)) ++ (s.extract i s.size)))) := by rw [hcs]; exact ⟨g1, g1, .inl rfl⟩
  have hcmp := compare_ev s _ (by omega) (by omega) ha hta hf
  rw [hcs, pcmp_self] at hcmp
  have hne : x.toList ≠ [] := by
    rw [ne_eq, toList_nil, hxb]
    intro e
    have h3 : dots ((bytesOf s).map ptI) = [] := by
      unfold canon at e
      rw [strip_ne (c := 118) h1, strip_ne h2] at e
      exact e
    cases hbs : bytesOf s with
    | nil => rw [hbs] at hl; simp at hl
    | cons c l => rw [hbs] at h3; simp [dots] at h3
  refine Ev.succ ?_
  simp only [laws_FnPackagistPoints.j1, Int.toNat_natCast]
  refine Ev.neg (fun _ => by simp) ?_
  refine Ev.pos (fun _ => by omega) ?_
  refine Ev.pos (fun _ => by omega) ?_
  refine Ev.pos (fun _ => by rw [s1]; omega) ?_
  refine Ev.pos (fun _ => by rw [s3, s2]; omega) ?_
  refine Ev.bind hx (Ev.bind hcmp ?_)
  refine Ev.neg (fun _ => hne) ?_
  refine Ev.bind hy ?_
  refine Ev.pos (fun _ => by first | rfl | trivial) ?_
  refine Ev.pos (fun _ => by first | rfl | trivial) ?_
  exact Ev.eq (Ev.now _) (by decide)
theorem points_yes (s : ByteArray) (i : Int) : Ev (fun k => laws_FnPackagistPoints.j1 k s i true) true := by
  refine Ev.succ ?_
  simp only [laws_FnPackagistPoints.j1]
  refine Ev.pos (fun _ => by first | rfl | trivial) ?_
  exact Ev.now _
theorem points_at (s : ByteArray) (hs : s.size ≤ 1200) (ha : Asc (bytesOf s)) (hne : 0 < s.size) (a : Nat) (hau : a ≤ 65535) (h1 : (bytesOf s).getD 0 0 ≠ 118) (h2 : (bytesOf s).getD 0 0 ≠ 86) :
    Ev (fun k => laws_FnPackagistPoints.j0 k s (a : Int) false) true := by
  obtain ⟨i, hi⟩ : ∃ i, i = a % s.size := ⟨_, rfl⟩
  have hil : i < s.size := by rw [hi]; exact Nat.mod_lt _ hne
  have et : Int.tmod (wrap64 (a : Int)) (s.size : Int) = (i : Int) := by
    rw [w64 (by omega) (by omega), Int.tmod_eq_emod_of_nonneg (by omega), hi]
    exact (Int.natCast_emod a s.size).symm
  refine Ev.succ ?_
  simp only [laws_FnPackagistPoints.j0, et]
  refine Ev.neg (fun _ => by simp) ?_
  refine Ev.neg (fun _ => by omega) ?_
  by_cases hi0 : i = 0
  · refine Ev.pos (fun _ => by omega) ?_
    exact points_yes s _
  · refine Ev.neg (fun _ => by omega) ?_
    obtain ⟨j, rfl⟩ : ∃ j, i = j + 1 := ⟨i - 1, by omega⟩
    have w1 : wrap64 (((j + 1 : Nat) : Int) - 1) = (j : Int) := by rw [w64 (by omega) (by omega)]; omega
    have w2 : wrap64 (((j + 1 : Nat) : Int) + 1) = ((j + 1 + 1 : Nat) : Int) := by rw [w64 (by omega) (by omega)]; omega
    rw [w1, w2]
    simp only [Int.toNat_natCast]
    have da := dig_one s (by omega) j (by omega)
    have db := dig_one s (by omega) (j + 1) hil
    have wa := word_one s (by omega) j (by omega)
    have wb := word_one s (by omega) (j + 1) hil
    have hend := points_end s hs ha (j + 1) (by omega) hil h1 h2
    simp only [Nat.add_sub_cancel] at hend
    have pc : ∀ c, plainC c = (isD c || (isL c || isU c)) := fun c => rfl
    simp only [pc] at hend
    generalize isD ((bytesOf s).getD j 0) = dA at da hend
    generalize isD ((bytesOf s).getD (j + 1) 0) = dB at db hend
    generalize (isL ((bytesOf s).getD j 0) || isU ((bytesOf s).getD j 0)) = wA at wa hend
    generalize (isL ((bytesOf s).getD (j + 1) 0) || isU ((bytesOf s).getD (j + 1) 0)) = wB at wb hend
    refine Ev.pos (fun _ => by omega) ?_
    refine Ev.pos (fun _ => by omega) ?_
    refine Ev.pos (fun _ => by omega) ?_
    refine Ev.bind da ?_
    refine Ev.pos (fun _ => by omega) ?_
    refine Ev.pos (fun _ => by omega) ?_
    refine Ev.pos (fun _ => by omega) ?_
    refine Ev.bind db ?_
    by_cases hdd : dA = dB
    · refine Ev.pos (fun _ => by rw [hdd]; simp) ?_
      exact points_yes s _
    · refine Ev.neg (fun _ => by simpa using hdd) ?_
      refine Ev.bind wb ?_
      cases wB with
      | true =>
        refine Ev.pos (fun _ => by first | rfl | trivial) ?_
        refine Ev.bind wa ?_
        cases wA with
        | true =>
          refine Ev.pos (fun _ => by first | rfl | trivial) ?_
          exact hend (by simp) (by simp) hdd
        | false =>
          refine Ev.neg (fun _ => by simp) ?_
          refine Ev.bind da ?_
          cases dA with
          | true => exact hend (by simp) (by simp) hdd
          | false => exact points_yes s _
      | false =>
        refine Ev.neg (fun _ => by simp) ?_
        refine Ev.bind db ?_
        cases dB with
        | true =>
          refine Ev.pos (fun _ => by first | rfl | trivial) ?_
          refine Ev.bind wa ?_
          cases wA with
          | true =>
            refine Ev.pos (fun _ => by first | rfl | trivial) ?_
            exact hend (by simp) (by simp) hdd
          | false =>
            refine Ev.neg (fun _ => by simp) ?_
            refine Ev.bind da ?_
            cases dA with
            | true => exact absurd rfl hdd
            | false => exact points_yes s _
        | false =>
          refine Ev.neg (fun _ => by simp) ?_
          exact points_yes s _
theorem FnPackagistPoints : laws_FnPackagistPoints.Pure := by
  intro s a hs ha
  refine Ev.rounds (r := true) (g := fun k => laws_FnPackagistPoints.f k s a) ?_
  have hw : 0 ≤ a ∧ a ≤ 65535 := by
    simp [Lit.wf, IntKind.min, IntKind.max, IntKind.signed, IntKind.bits] at ha
    omega
  obtain ⟨n, rfl⟩ : ∃ n : Nat, a = (n : Int) := ⟨a.toNat, by omega⟩
  have yes : Ev (fun k => laws_FnPackagistPoints.j0 k s (n : Int) true) true := by
    refine Ev.succ ?_
    simp only [laws_FnPackagistPoints.j0]
    refine Ev.pos (fun _ => by first | rfl | trivial) ?_
    exact Ev.now _
  simp only [laws_FnPackagistPoints.f]
  by_cases hbig : (s.size : Int) > 2147483647
  · refine Ev.pos (fun _ => by first | omega | trivial | assumption) ?_
    exact Ev.now _
  · refine Ev.neg (fun _ => by first | omega | assumption | nofun) ?_
    refine Ev.bind (short_one s) ?_
    by_cases hsh : s.size ≤ 1200
    · refine Ev.pos (fun _ => decide_eq_true hsh) ?_
      refine Ev.bind (a := decide (∀ x ∈ bytesOf s, x ≤ 127)) ?_ ?_
      · simp only [spec_PackagistTextKnown.f]
        exact Ev.bind (ascii_ev s (by omega)) (Ev.now _)
      · by_cases hasc : ∀ x ∈ bytesOf s, x ≤ 127
        · refine Ev.pos (fun _ => decide_eq_true hasc) ?_
          have hA := Asc.of hasc
          by_cases h0 : s.toList = []
          · refine Ev.pos (fun _ => h0) ?_
            exact yes
          · refine Ev.neg (fun _ => h0) ?_
            have hpos : 0 < s.size := by
              rw [toList_nil] at h0
              rw [B_size]
              exact List.length_pos_iff.2 h0
            refine Ev.pos (fun _ => by omega) ?_
            rw [bt_zero]
            by_cases h1 : (bytesOf s).getD 0 0 = 118
            · refine Ev.pos (fun _ => h1) ?_
              exact yes
            · refine Ev.neg (fun _ => h1) ?_
              by_cases h2 : (bytesOf s).getD 0 0 = 86
              · rw [show ((bytesOf s).getD 0 0 == 86) = true by simpa using h2]
                exact yes
              · rw [show ((bytesOf s).getD 0 0 == 86) = false by simpa using h2]
                exact points_at s hsh hA hpos n (by omega) h1 h2
        · refine Ev.neg (fun _ => by simpa using hasc) ?_
          exact yes
    · refine Ev.neg (fun _ => by simpa using hsh) ?_
      exact yes
end Go.Proofs.YtdjkekgfeadmoaaDoor.VT
