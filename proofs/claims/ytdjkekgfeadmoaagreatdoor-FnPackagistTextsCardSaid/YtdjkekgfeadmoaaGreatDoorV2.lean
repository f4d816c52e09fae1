/- The plain laws of Packagist's canonical form and components: the printed functions, and the laws. -/
import Derived.Test.YtdjkekgfeadmoaaGreatDoorV
namespace Go.Proofs.YtdjkekgfeadmoaaGreatDoor.V
open Go.RowKit Go.Proofs.YtdjkekgfeadmoaaGreatDoor.Q Go.Proofs.YtdjkekgfeadmoaaGreatDoorH Go.Proofs.YtdjkekgfeadmoaaGreatDoorB Go.Proofs.YtdjkekgfeadmoaaGreatDoorW.PrintWords Go.Proofs.YtdjkekgfeadmoaaGreatDoorW.PrintLast
set_option linter.unusedVariables false
set_option linter.unusedSimpArgs false

theorem decode_eq (s : ByteArray) (h0 : bytesOf s ≠ []) (ha : (bytesOf s).getD 0 0 < 128) : utf8_DecodeRuneInString.f s = some ((bytesOf s).getD 0 0, 1) := by
  have hpos : 0 < (bytesOf s).length := List.length_pos_iff.2 h0
  rw [bytesOf_length] at hpos
  have hr := bt_range s 0
  unfold utf8_DecodeRuneInString.f
  rw [if_neg (fun h => h0 ((toList_nil _).1 h)), if_pos (by omega), bt_zero, if_pos ha, w32 (by rw [bt_zero] at hr; omega) (by omega)]
theorem bne_dec (a b : Bool) : (a != b) = !(a == b) := by cases a <;> cases b <;> rfl

theorem parted_from (s : ByteArray) (b : Bool) (hs : s.size ≤ 1000000) (ha : Asc (bytesOf s)) : ∀ (n i : Nat) (out : List Int), s.size - i ≤ n → i ≤ s.size → out.length ≤ 2 * i →
    Ev (fun k => semantic_zzParted.l0 k s b out i) (strOfNums (out ++ part b ((bytesOf s).drop i))) := by
  intro n
  induction n with
  | zero =>
    intro i out hn hi ho
    refine Ev.succ ?_
    simp only [semantic_zzParted.l0]
    refine Ev.neg (fun _ => by first | omega | assumption | nofun) ?_
    rw [List.drop_of_length_le (by rw [bytesOf_length]; omega)]
    refine Ev.eq (Ev.now _) ?_
    simp [part]
  | succ n ih =>
    intro i out hn hi ho
    by_cases hlt : i < s.size
    · have hl : i < (bytesOf s).length := by rw [bytesOf_length]; omega
      have hc := ha.get hl
      have hg := drop_get _ _ hl
      have hdec := decode_eq (s.extract i s.size) (by rw [B_drop, hg]; simp) (by rw [B_drop, hg]; show (bytesOf s).getD i 0 < 128; omega)
      rw [B_drop, hg] at hdec
      have hdec2 : utf8_DecodeRuneInString.f (s.extract i s.size) = some ((bytesOf s).getD i 0, 1) := hdec
      have hone : bytesOf (s.extract i (i + 1)) = [(bytesOf s).getD i 0] := by rw [B_extract, hg]; simp
      have hone1 : (s.extract i (i + 1)).size = 1 := by rw [B_size, hone]; rfl
      have next := ih (i + 1) (out ++ [(bytesOf s).getD i 0]) (by omega) (by omega) (by simp; omega)
      rw [List.append_assoc] at next
      refine Ev.succ ?_
      simp only [semantic_zzParted.l0, bt_nat, zzDigit_eq, Option.bind_some, Int.toNat_natCast]
      rw [hdec2]
      simp only [Option.bind_some]
      rw [w64 (i := (i : Int) + 1) (by omega) (by omega)]
      have e1 : ((i : Int) + 1).toNat = i + 1 := by omega
      rw [e1, hone, hone1]
      have hbt : bt s ((i : Int) + 1) = (bytesOf s).getD (i + 1) 0 := bt_nat s (i + 1)
      rw [hbt]
      refine Ev.pos (fun _ => by first | omega | trivial | assumption) ?_
      refine Ev.pos (fun _ => by first | omega | trivial | assumption) ?_
      refine Ev.pos (fun _ => by first | omega | trivial | assumption) ?_
      by_cases h46 : (bytesOf s).getD i 0 = 46
      · have e : part b ((bytesOf s).drop i) = [(bytesOf s).getD i 0] ++ part b ((bytesOf s).drop (i + 1)) := by
          rw [hg]
          cases (bytesOf s).drop (i + 1) with
          | nil => rfl
          | cons y r => simp only [part]; rw [if_neg (fun h => h.1 h46)]; rfl
        rw [e]
        refine Ev.pos (fun _ => by first | omega | trivial | assumption) ?_
        refine Ev.pos (fun _ => by first | omega | trivial | assumption) ?_
        refine Ev.pos (fun _ => by first | omega | trivial | assumption) ?_
        refine Ev.pos (fun _ => by first | omega | trivial | assumption) ?_
        exact next
      · refine Ev.neg (fun _ => by first | omega | assumption | nofun) ?_
        cases hd : (isD ((bytesOf s).getD i 0) != b)
        · have hd2 : isD ((bytesOf s).getD i 0) = b := by simpa using hd
          refine Ev.neg (fun _ => by first | omega | assumption | nofun) ?_
          by_cases hge : ((i : Int) + 1) ≥ s.size
          · have e : part b ((bytesOf s).drop i) = [(bytesOf s).getD i 0] ++ part b ((bytesOf s).drop (i + 1)) := by
              rw [hg, List.drop_of_length_le (by rw [bytesOf_length]; omega)]
              rfl
            rw [e]
            refine Ev.pos (fun _ => by first | omega | trivial | assumption) ?_
            refine Ev.pos (fun _ => by first | omega | trivial | assumption) ?_
            refine Ev.pos (fun _ => by first | omega | trivial | assumption) ?_
            refine Ev.pos (fun _ => by first | omega | trivial | assumption) ?_
            exact next
          · have hl1 : i + 1 < (bytesOf s).length := by rw [bytesOf_length]; omega
            have hg1 := drop_get _ _ hl1
            have hc1 := ha.get hl1
            refine Ev.neg (fun _ => by first | omega | assumption | nofun) ?_
            refine Ev.pos (fun _ => by first | omega | trivial | assumption) ?_
            refine Ev.pos (fun _ => by first | omega | trivial | assumption) ?_
            by_cases h46b : (bytesOf s).getD (i + 1) 0 = 46
            · have e : part b ((bytesOf s).drop i) = [(bytesOf s).getD i 0] ++ part b ((bytesOf s).drop (i + 1)) := by
                rw [hg, hg1]
                simp only [part]
                rw [if_neg (fun h => h.2.2.1 h46b)]
                rfl
              rw [e]
              refine Ev.pos (fun _ => by first | omega | trivial | assumption) ?_
              refine Ev.pos (fun _ => by first | omega | trivial | assumption) ?_
              refine Ev.pos (fun _ => by first | omega | trivial | assumption) ?_
              refine Ev.pos (fun _ => by first | omega | trivial | assumption) ?_
              exact next
            · refine Ev.neg (fun _ => by first | omega | assumption | nofun) ?_
              cases hd3 : (isD ((bytesOf s).getD (i + 1) 0) == b)
              · have hd4 : isD ((bytesOf s).getD (i + 1) 0) ≠ b := by simpa using hd3
                have e : part b ((bytesOf s).drop i) = [(bytesOf s).getD i 0] ++ [46] ++ [(bytesOf s).getD (i + 1) 0] ++ part b ((bytesOf s).drop (i + 2)) := by
                  rw [hg, hg1]
                  simp only [part]
                  rw [if_pos ⟨h46, hd2, h46b, hd4⟩]
                  rfl
                have hdec1 := decode_eq (s.extract (i + 1) s.size) (by rw [B_drop, hg1]; simp) (by rw [B_drop, hg1]; show (bytesOf s).getD (i + 1) 0 < 128; omega)
                rw [B_drop, hg1] at hdec1
                have hdec3 : utf8_DecodeRuneInString.f (s.extract (i + 1) s.size) = some ((bytesOf s).getD (i + 1) 0, 1) := hdec1
                have htwo : bytesOf (s.extract (i + 1) (i + 2)) = [(bytesOf s).getD (i + 1) 0] := by rw [B_extract, hg1]; simp
                have htwo1 : (s.extract (i + 1) (i + 2)).size = 1 := by rw [B_size, htwo]; rfl
                have next2 := ih (i + 2) (out ++ [(bytesOf s).getD i 0] ++ [46] ++ [(bytesOf s).getD (i + 1) 0]) (by omega) (by omega) (by simp; omega)
                rw [e]
                refine Ev.neg (fun _ => by first | omega | assumption | nofun) ?_
                refine Ev.pos (fun _ => by first | omega | trivial | assumption) ?_
                rw [hdec3]
                simp only [Option.bind_some]
                rw [w64 (i := (i : Int) + 1 + 1) (by omega) (by omega)]
                have e2 : ((i : Int) + 1 + 1).toNat = i + 2 := by omega
                rw [e2, htwo, htwo1]
                have next3 : Ev (fun k => semantic_zzParted.l0 k s b (out ++ [(bytesOf s).getD i 0] ++ [46] ++ [(bytesOf s).getD (i + 1) 0]) ((i : Int) + 1 + 1)) (strOfNums (out ++ ([(bytesOf s).getD i 0] ++ [46] ++ [(bytesOf s).getD (i + 1) 0] ++ part b ((bytesOf s).drop (i + 2))))) := by
                  have e3 : (((i + 2 : Nat) : Int)) = (i : Int) + 1 + 1 := by omega
                  rw [e3] at next2
                  simpa [List.append_assoc] using next2
                simp only [List.length_append, List.length_cons, List.length_nil]
                refine Ev.pos (fun _ => by first | omega | trivial | assumption) ?_
                refine Ev.pos (fun _ => by first | omega | trivial | assumption) ?_
                refine Ev.pos (fun _ => by first | omega | trivial | assumption) ?_
                refine Ev.pos (fun _ => by first | omega | trivial | assumption) ?_
                refine Ev.pos (fun _ => by first | omega | trivial | assumption) ?_
                refine Ev.pos (fun _ => by first | omega | trivial | assumption) ?_
                exact next3
              · have hd4 : isD ((bytesOf s).getD (i + 1) 0) = b := by simpa using hd3
                have e : part b ((bytesOf s).drop i) = [(bytesOf s).getD i 0] ++ part b ((bytesOf s).drop (i + 1)) := by
                  rw [hg, hg1]
                  simp only [part]
                  rw [if_neg (fun h => h.2.2.2 hd4)]
                  rfl
                rw [e]
                refine Ev.pos (fun _ => by first | omega | trivial | assumption) ?_
                refine Ev.pos (fun _ => by first | omega | trivial | assumption) ?_
                refine Ev.pos (fun _ => by first | omega | trivial | assumption) ?_
                refine Ev.pos (fun _ => by first | omega | trivial | assumption) ?_
                exact next
        · have hd2 : isD ((bytesOf s).getD i 0) ≠ b := by simpa using hd
          have e : part b ((bytesOf s).drop i) = [(bytesOf s).getD i 0] ++ part b ((bytesOf s).drop (i + 1)) := by
            rw [hg]
            cases (bytesOf s).drop (i + 1) with
            | nil => rfl
            | cons y r => simp only [part]; rw [if_neg (fun h => hd2 h.2.1)]; rfl
          rw [e]
          refine Ev.pos (fun _ => by first | omega | trivial | assumption) ?_
          refine Ev.pos (fun _ => by first | omega | trivial | assumption) ?_
          refine Ev.pos (fun _ => by first | omega | trivial | assumption) ?_
          refine Ev.pos (fun _ => by first | omega | trivial | assumption) ?_
          exact next
    · refine Ev.succ ?_
      simp only [semantic_zzParted.l0]
      refine Ev.neg (fun _ => by first | omega | assumption | nofun) ?_
      rw [List.drop_of_length_le (by rw [bytesOf_length]; omega)]
      refine Ev.eq (Ev.now _) ?_
      simp [part]

theorem parted_ev (s : ByteArray) (b : Bool) (hs : s.size ≤ 1000000) (ha : Asc (bytesOf s)) : ∃ r, Ev (fun k => semantic_zzParted.f k s b) r ∧ bytesOf r = part b (bytesOf s) := by
  have h := parted_from s b hs ha s.size 0 [] (by omega) (by omega) (by simp)
  refine ⟨_, h, ?_⟩
  rw [List.drop_zero, List.nil_append]
  exact (part_asc ha).str

theorem hasPrefix_one (x : ByteArray) (c : UInt8) (hx : x.size ≤ 2000000000) : stringslite_HasPrefix.f x (⟨#[c]⟩ : ByteArray) = some (decide (bytesOf x ≠ [] ∧ (bytesOf x).getD 0 0 = (c.toNat : Int))) := by
  have e1 : ((⟨#[c]⟩ : ByteArray).size : Int) = 1 := rfl
  have hb : bytesOf (⟨#[c]⟩ : ByteArray) = [(c.toNat : Int)] := rfl
  unfold stringslite_HasPrefix.f
  rw [e1]
  by_cases h0 : bytesOf x = []
  · have : x.size = 0 := (size_nil x).2 h0
    rw [if_neg (by omega)]
    simp [h0]
  · have hpos : 0 < x.size := by rw [B_size]; exact List.length_pos_iff.2 h0
    rw [if_pos (by omega), if_pos (by omega), if_pos (by omega)]
    simp only [Option.some.injEq]
    rw [Bool.eq_iff_iff, beq_iff_eq, toList_eq_iff, decide_eq_true_iff, B_take, hb]
    obtain ⟨d, l, hcl⟩ := List.exists_cons_of_ne_nil h0
    rw [hcl]
    simp
theorem trimPrefix_one (x : ByteArray) (c : UInt8) (hc : c.toNat ≠ 0) (hx : x.size ≤ 2000000000) : ∃ r, strings_TrimPrefix.f x (⟨#[c]⟩ : ByteArray) = some r ∧ bytesOf r = strip (c.toNat : Int) (bytesOf x) := by
  unfold strings_TrimPrefix.f stringslite_TrimPrefix.f
  rw [hasPrefix_one x c hx]
  have e1 : ((⟨#[c]⟩ : ByteArray).size : Int) = 1 := rfl
  simp only [Option.bind_some]
  rw [e1]
  by_cases h : bytesOf x ≠ [] ∧ (bytesOf x).getD 0 0 = (c.toNat : Int)
  · have hpos : 0 < x.size := by rw [B_size]; exact List.length_pos_iff.2 h.1
    rw [if_pos (by rw [decide_eq_true h]), if_pos (by omega), if_pos (by omega)]
    refine ⟨_, rfl, ?_⟩
    have e2 : ((1 : Int)).toNat = 1 := rfl
    rw [e2, B_drop]
    unfold strip
    rw [if_pos h.2]
  · rw [if_neg (by rw [decide_eq_false h]; exact Bool.false_ne_true)]
    refine ⟨_, rfl, ?_⟩
    refine (strip_ne ?_).symm
    intro hh
    apply h
    refine ⟨fun h0 => ?_, hh⟩
    rw [h0] at hh
    have : (([] : List Int).getD 0 0) = 0 := rfl
    omega

theorem canonical_ev (s : ByteArray) (hs : s.size ≤ 100000) (ha : Asc (bytesOf s)) : ∃ r, Ev (fun k => semantic_canonicalizePackagistVersion.f k s) r ∧ bytesOf r = canon (bytesOf s) := by
  obtain ⟨r1, h1, b1⟩ := trimPrefix_one s 118 (by decide) (by omega)
  have s1 : r1.size ≤ s.size := by rw [B_size, b1, B_size]; exact strip_length _ _
  obtain ⟨r2, h2, b2⟩ := trimPrefix_one r1 86 (by decide) (by omega)
  have s2 : r2.size ≤ r1.size := by rw [B_size, b2, B_size]; exact strip_length _ _
  have a2 : Asc (bytesOf r2) := by rw [b2, b1]; exact strip_asc (strip_asc ha)
  have a3 := map_pt_asc a2
  have b3 : bytesOf (strOfNums ((bytesOf r2).map ptI)) = (bytesOf r2).map ptI := a3.str
  have s3 : (strOfNums ((bytesOf r2).map ptI)).size = r2.size := by rw [B_size, b3, List.length_map, bytesOf_length]
  obtain ⟨r4, h4, b4⟩ := parted_ev (strOfNums ((bytesOf r2).map ptI)) false (by omega) (by rw [b3]; exact a3)
  have a4 : Asc (bytesOf r4) := by rw [b4, b3]; exact part_asc a3
  have s4 : r4.size ≤ 2 * r2.size := by rw [B_size, b4, b3]; refine Nat.le_trans (part_length _ _) ?_; rw [List.length_map, bytesOf_length]; exact Nat.le_refl _
  obtain ⟨r5, h5, b5⟩ := parted_ev r4 true (by omega) a4
  refine ⟨r5, ?_, ?_⟩
  · simp only [semantic_canonicalizePackagistVersion.f]
    refine Ev.bind0 h1 (Ev.bind0 h2 ?_)
    refine Ev.bind0 (a := strOfNums ((bytesOf r2).map ptI)) ?_ (Ev.bind h4 (Ev.bind h5 (Ev.now _)))
    unfold semantic_zzPointed.f
    rw [if_pos (by omega)]
  · rw [b5, b4, b3, part_part, b2, b1]
    rfl
theorem canonical_ev2 (s : ByteArray) (hs : s.size ≤ 100000) (ha : Asc (bytesOf s)) : ∃ r, Ev (fun k => semantic_canonicalizePackagistVersion.f k s) r ∧ True ∧ bytesOf r = canon (bytesOf s) := by
  obtain ⟨r, h, hb⟩ := canonical_ev s hs ha
  exact ⟨r, h, trivial, hb⟩
theorem canon_length (l : List Int) : (canon l).length ≤ 2 * l.length := by
  unfold canon
  have h1 : ∀ (m : List Int) (x : Int), (dotsT x m).length ≤ 2 * m.length := by
    intro m
    induction m with
    | nil => intro x; exact Nat.le_refl _
    | cons y r ih => intro x; have := ih y; simp only [dotsT]; split <;> simp only [List.length_cons] <;> omega
  have h2 : ∀ m : List Int, (dots m).length ≤ 2 * m.length := by
    intro m
    cases m with
    | nil => exact Nat.le_refl _
    | cons x r => have := h1 r x; simp only [dots, List.length_cons]; omega
  have h3 := strip_length 118 l
  have h4 := strip_length 86 (strip 118 l)
  refine Nat.le_trans (h2 _) ?_
  rw [List.length_map]
  omega

/-! ### The reference's canonical form -/
theorem spec_char (s : ByteArray) (out : List Int) (i : Nat) (hi : i < s.size) (r : ByteArray) (h : Ev (fun k => spec_PackagistCanonical.j6 k s out i (ptI ((bytesOf s).getD i 0))) r) : Ev (fun k => spec_PackagistCanonical.l0 k s out i) r := by
  have h5 : ∀ b : Bool, b = decide ((bytesOf s).getD i 0 = 45 ∨ (bytesOf s).getD i 0 = 95 ∨ (bytesOf s).getD i 0 = 43) → Ev (fun k => spec_PackagistCanonical.j5 k s out i ((bytesOf s).getD i 0) b) r := by
    intro b hb
    refine Ev.succ ?_
    simp only [spec_PackagistCanonical.j5]
    by_cases hp : (bytesOf s).getD i 0 = 45 ∨ (bytesOf s).getD i 0 = 95 ∨ (bytesOf s).getD i 0 = 43
    · rw [decide_eq_true hp] at hb
      subst hb
      refine Ev.pos (fun _ => by first | omega | trivial | assumption) ?_
      unfold ptI at h
      rw [if_pos hp] at h
      exact h
    · rw [decide_eq_false hp] at hb
      subst hb
      refine Ev.neg (fun _ => by first | omega | assumption | nofun) ?_
      unfold ptI at h
      rw [if_neg hp] at h
      exact h
  refine Ev.succ ?_
  simp only [spec_PackagistCanonical.l0, bt_nat]
  refine Ev.pos (fun _ => by first | omega | trivial | assumption) ?_
  refine Ev.pos (fun _ => by first | omega | trivial | assumption) ?_
  by_cases h1 : (bytesOf s).getD i 0 = 45
  · refine Ev.pos (fun _ => by first | omega | trivial | assumption) ?_
    exact h5 true (by rw [decide_eq_true (.inl h1)])
  · refine Ev.neg (fun _ => by first | omega | assumption | nofun) ?_
    by_cases h2 : (bytesOf s).getD i 0 = 95
    · refine Ev.pos (fun _ => by first | omega | trivial | assumption) ?_
      exact h5 true (by rw [decide_eq_true (.inr (.inl h2))])
    · refine Ev.neg (fun _ => by first | omega | assumption | nofun) ?_
      refine h5 _ ?_
      rw [Bool.eq_iff_iff, beq_iff_eq, decide_eq_true_iff]
      omega
theorem spec_from (s : ByteArray) (hs : s.size ≤ 1000000) : ∀ (n i : Nat) (o : List Int) (p : Int), s.size - i = n → i ≤ s.size → o.length ≤ 2 * i →
    Ev (fun k => spec_PackagistCanonical.l0 k s (o ++ [p]) i) (strOfNums (o ++ [p] ++ dotsT p (((bytesOf s).drop i).map ptI))) := by
  intro n
  induction n with
  | zero =>
    intro i o p hn hi ho
    refine Ev.succ ?_
    simp only [spec_PackagistCanonical.l0]
    refine Ev.neg (fun _ => by first | omega | assumption | nofun) ?_
    rw [List.drop_of_length_le (by rw [bytesOf_length]; omega)]
    refine Ev.eq (Ev.now _) ?_
    simp [dotsT]
  | succ n ih =>
    intro i o p hn hi ho
    have hl : i < (bytesOf s).length := by rw [bytesOf_length]; omega
    have hg := drop_get _ _ hl
    refine spec_char s _ i (by omega) _ ?_
    rw [hg, List.map_cons]
    generalize ptI ((bytesOf s).getD i 0) = c
    have hlen : (o ++ [p]).length = o.length + 1 := by simp
    have hw : wrap64 (((o ++ [p]).length : Int) - 1) = (o.length : Nat) := by rw [hlen, w64 (by omega) (by omega)]; omega
    have hrd : rd (o ++ [p]) (o.length : Nat) = p := by simp [rd, List.getD_eq_getElem?_getD]
    have next : ∀ q : Int, q = c → Ev (fun k => spec_PackagistCanonical.l0 k s (o ++ [p] ++ [c]) ((i : Int) + 1)) (strOfNums (o ++ [p] ++ (c :: dotsT c (((bytesOf s).drop (i + 1)).map ptI)))) := by
      intro q _
      have h := ih (i + 1) (o ++ [p]) c (by omega) (by omega) (by rw [hlen]; omega)
      have e : (((i + 1 : Nat) : Int)) = (i : Int) + 1 := by omega
      rw [e] at h
      simpa [List.append_assoc] using h
    refine Ev.succ ?_
    simp only [spec_PackagistCanonical.j6, isDigit_eq, Option.bind_some]
    rw [hw, hrd, w64 (i := (i : Int) + 1) (by omega) (by omega)]
    refine Ev.pos (fun _ => by first | omega | trivial | assumption) ?_
    refine Ev.pos (fun _ => by first | omega | trivial | assumption) ?_
    refine Ev.pos (fun _ => by first | omega | trivial | assumption) ?_
    simp only [dotsT]
    by_cases h46 : c = 46
    · rw [if_neg (fun h => h.1 h46)]
      refine Ev.pos (fun _ => by first | omega | trivial | assumption) ?_
      refine Ev.pos (fun _ => by first | omega | trivial | assumption) ?_
      exact next c rfl
    · refine Ev.neg (fun _ => by first | omega | assumption | nofun) ?_
      by_cases hp46 : p = 46
      · rw [if_neg (fun h => h.2.1 hp46)]
        refine Ev.pos (fun _ => by first | omega | trivial | assumption) ?_
        refine Ev.pos (fun _ => by first | omega | trivial | assumption) ?_
        exact next c rfl
      · refine Ev.neg (fun _ => by first | omega | assumption | nofun) ?_
        cases hd : (isD c != isD p)
        · have hd2 : isD c = isD p := by simpa using hd
          rw [if_neg (fun h => h.2.2 hd2)]
          refine Ev.neg (fun _ => by first | omega | assumption | nofun) ?_
          refine Ev.pos (fun _ => by first | omega | trivial | assumption) ?_
          exact next c rfl
        · have hd2 : isD c ≠ isD p := by simpa using hd
          rw [if_pos ⟨h46, hp46, hd2⟩]
          refine Ev.pos (fun _ => by first | omega | trivial | assumption) ?_
          refine Ev.pos (fun _ => by first | omega | trivial | assumption) ?_
          refine Ev.bind0 rfl ?_
          refine Ev.pos (fun _ => by simp; omega) ?_
          have h := ih (i + 1) (o ++ [p] ++ [46]) c (by omega) (by omega) (by simp; omega)
          have e : (((i + 1 : Nat) : Int)) = (i : Int) + 1 := by omega
          rw [e] at h
          simpa [List.append_assoc] using h
theorem spec_first (s : ByteArray) (hs : s.size ≤ 1000000) : Ev (fun k => spec_PackagistCanonical.l0 k s ([] : List Int) 0) (strOfNums (dots ((bytesOf s).map ptI))) := by
  by_cases h0 : s.size = 0
  · refine Ev.succ ?_
    simp only [spec_PackagistCanonical.l0]
    refine Ev.neg (fun _ => by first | omega | assumption | nofun) ?_
    rw [(size_nil s).1 h0]
    exact Ev.now _
  · have hl : 0 < (bytesOf s).length := by rw [bytesOf_length]; omega
    have hg := drop_get _ _ hl
    rw [List.drop_zero] at hg
    refine spec_char s _ 0 (by omega) _ ?_
    have h := spec_from s hs _ 1 [] (ptI ((bytesOf s).getD 0 0)) rfl (by omega) (by simp)
    have e2 : (bytesOf s).map ptI = ptI ((bytesOf s).getD 0 0) :: ((bytesOf s).drop (0 + 1)).map ptI := by
      conv => lhs; rw [hg]
      rfl
    rw [e2]
    refine Ev.succ ?_
    simp only [spec_PackagistCanonical.j6]
    refine Ev.neg (fun _ => by simp) ?_
    refine Ev.pos (fun _ => by simp) ?_
    have e1 : wrap64 (0 + 1) = ((1 : Nat) : Int) := by rw [w64 (by omega) (by omega)]; rfl
    rw [show wrap64 ((((0 : Nat) : Int)) + 1) = ((1 : Nat) : Int) from e1]
    exact h
theorem spec_canonical_ev (s : ByteArray) (hs : s.size ≤ 100000) (ha : Asc (bytesOf s)) : ∃ r, Ev (fun k => spec_PackagistCanonical.f k s) r ∧ bytesOf r = canon (bytesOf s) := by
  have h1 : ∀ (t : ByteArray), t.size ≤ 100000 → bytesOf t = strip 118 (bytesOf s) → Ev (fun k => spec_PackagistCanonical.j1 k t) (strOfNums (canon (bytesOf s))) := by
    intro t ht hb
    have h3 : ∀ (u : ByteArray), u.size ≤ 100000 → bytesOf u = strip 86 (strip 118 (bytesOf s)) → Ev (fun k => spec_PackagistCanonical.j3 k u) (strOfNums (canon (bytesOf s))) := by
      intro u hu hub
      refine Ev.succ ?_
      simp only [spec_PackagistCanonical.j3]
      have := spec_first u (by omega)
      rw [hub] at this
      exact this
    have h2 : ∀ b : Bool, b = decide ((bytesOf t).getD 0 0 = 86) → Ev (fun k => spec_PackagistCanonical.j2 k t b) (strOfNums (canon (bytesOf s))) := by
      intro b hbb
      refine Ev.succ ?_
      simp only [spec_PackagistCanonical.j2]
      by_cases h : (bytesOf t).getD 0 0 = 86
      · rw [decide_eq_true h] at hbb
        subst hbb
        have hpos : 0 < t.size := by
          rw [B_size]
          refine List.length_pos_iff.2 (fun h0 => ?_)
          rw [h0] at h
          cases h
        refine Ev.pos (fun _ => by first | omega | trivial | assumption) ?_
        refine Ev.pos (fun _ => by first | omega | trivial | assumption) ?_
        refine h3 _ (by rw [B_size, B_drop, List.length_drop, bytesOf_length]; omega) ?_
        rw [B_drop, ← hb]
        unfold strip
        rw [if_pos h]
      · rw [decide_eq_false h] at hbb
        subst hbb
        refine Ev.neg (fun _ => by first | omega | assumption | nofun) ?_
        refine h3 _ ht ?_
        rw [← hb]
        exact (strip_ne h).symm
    refine Ev.succ ?_
    simp only [spec_PackagistCanonical.j1]
    by_cases h0 : bytesOf t = []
    · refine Ev.pos (fun _ => (toList_nil t).2 h0) ?_
      exact h2 false (by rw [h0]; rfl)
    · have hpos : 0 < t.size := by rw [B_size]; exact List.length_pos_iff.2 h0
      refine Ev.neg (fun _ h => h0 ((toList_nil t).1 h)) ?_
      refine Ev.pos (fun _ => by first | omega | trivial | assumption) ?_
      rw [bt_zero]
      exact h2 _ (by rw [Bool.eq_iff_iff, beq_iff_eq, decide_eq_true_iff])
  have h0 : ∀ b : Bool, b = decide ((bytesOf s).getD 0 0 = 118) → Ev (fun k => spec_PackagistCanonical.j0 k s b) (strOfNums (canon (bytesOf s))) := by
    intro b hbb
    refine Ev.succ ?_
    simp only [spec_PackagistCanonical.j0]
    by_cases h : (bytesOf s).getD 0 0 = 118
    · rw [decide_eq_true h] at hbb
      subst hbb
      have hpos : 0 < s.size := by
        rw [B_size]
        refine List.length_pos_iff.2 (fun h0 => ?_)
        rw [h0] at h
        cases h
      refine Ev.pos (fun _ => by first | omega | trivial | assumption) ?_
      refine Ev.pos (fun _ => by first | omega | trivial | assumption) ?_
      refine h1 _ (by rw [B_size, B_drop, List.length_drop, bytesOf_length]; omega) ?_
      rw [B_drop]
      unfold strip
      rw [if_pos h]
    · rw [decide_eq_false h] at hbb
      subst hbb
      refine Ev.neg (fun _ => by first | omega | assumption | nofun) ?_
      refine h1 _ hs ?_
      exact (strip_ne h).symm
  refine ⟨strOfNums (canon (bytesOf s)), ?_, (canon_asc ha).str⟩
  simp only [spec_PackagistCanonical.f]
  by_cases hn : bytesOf s = []
  · refine Ev.pos (fun _ => (toList_nil s).2 hn) ?_
    exact h0 false (by rw [hn]; rfl)
  · have hpos : 0 < s.size := by rw [B_size]; exact List.length_pos_iff.2 hn
    refine Ev.neg (fun _ h => hn ((toList_nil s).1 h)) ?_
    refine Ev.pos (fun _ => by first | omega | trivial | assumption) ?_
    rw [bt_zero]
    exact h0 _ (by rw [Bool.eq_iff_iff, beq_iff_eq, decide_eq_true_iff])

end Go.Proofs.YtdjkekgfeadmoaaGreatDoor.V
