/- The plain law FnPackagistMarks. -/
import Derived.Test.YtdjkekgfeadmoaaDoorY3
import Derived.Test.YtdjkekgfeadmoaaDoorVT
import Derived.Test.YtdjkekgfeadmoaaDoorQx7
namespace Go.Proofs.YtdjkekgfeadmoaaDoor.V
open Go.RowKit Go.Proofs.YtdjkekgfeadmoaaDoor.Q Go.Proofs.YtdjkekgfeadmoaaDoorH Go.Proofs.YtdjkekgfeadmoaaDoorB Go.Proofs.YtdjkekgfeadmoaaDoorG Go.Proofs.YtdjkekgfeadmoaaDoorW.PrintWords Go.Proofs.YtdjkekgfeadmoaaDoorW.PrintLast
set_option linter.unusedVariables false
set_option linter.unusedSimpArgs false

theorem letter_iff (c : Int) : (isL c || isU c) = true ↔ (97 ≤ c ∧ c ≤ 122) ∨ (65 ≤ c ∧ c ≤ 90) := by
  unfold isL isU
  rw [Bool.or_eq_true, decide_eq_true_iff, decide_eq_true_iff]
theorem words_from (s : ByteArray) (hs : s.size ≤ 2000000000) : ∀ (n i : Nat), s.size - i = n → i ≤ s.size →
    Ev (fun k => laws_words.l0 k s i) (decide (bytesOf s ≠ [] ∧ ∀ c ∈ (bytesOf s).drop i, (isL c || isU c) = true)) := by
  intro n
  induction n with
  | zero =>
    intro i hn hi
    refine Ev.succ ?_
    simp only [laws_words.l0]
    refine Ev.neg (fun _ => by omega) ?_
    refine Ev.eq (Ev.now _) ?_
    rw [List.drop_of_length_le (by rw [bytesOf_length]; omega), Bool.eq_iff_iff, bne_iff_ne, decide_eq_true_iff, ne_eq, toList_nil]
    simp
  | succ n ih =>
    intro i hn hi
    have hl : i < (bytesOf s).length := by rw [bytesOf_length]; omega
    refine Ev.succ ?_
    simp only [laws_words.l0]
    refine Ev.pos (fun _ => by omega) ?_
    refine Ev.pos (fun _ => by omega) ?_
    have hdr := drop_get _ _ hl
    rw [bt_nat, w64 (by omega) (by omega)]
    have hno : ¬ ((97 ≤ (bytesOf s).getD i 0 ∧ (bytesOf s).getD i 0 ≤ 122) ∨ (65 ≤ (bytesOf s).getD i 0 ∧ (bytesOf s).getD i 0 ≤ 90)) → false = decide (bytesOf s ≠ [] ∧ ∀ c ∈ (bytesOf s).drop i, (isL c || isU c) = true) := by
      intro h
      symm
      apply decide_eq_false
      rintro ⟨_, hx⟩
      exact h ((letter_iff _).1 (hx _ (by rw [hdr]; exact List.mem_cons_self)))
    have hyes : ((97 ≤ (bytesOf s).getD i 0 ∧ (bytesOf s).getD i 0 ≤ 122) ∨ (65 ≤ (bytesOf s).getD i 0 ∧ (bytesOf s).getD i 0 ≤ 90)) → Ev (fun k => laws_words.l0 k s ((i : Int) + 1)) (decide (bytesOf s ≠ [] ∧ ∀ c ∈ (bytesOf s).drop i, (isL c || isU c) = true)) := by
      intro h
      refine Ev.eq (ih (i + 1) (by omega) (by omega)) (decide_eq_decide.2 ?_)
      rw [hdr]
      simp only [List.mem_cons, forall_eq_or_imp]
      exact ⟨fun hx => ⟨hx.1, (letter_iff _).2 h, hx.2⟩, fun hx => ⟨hx.1, hx.2.2⟩⟩
    by_cases h1 : (bytesOf s).getD i 0 ≥ 97
    · refine Ev.pos (fun _ => h1) ?_
      by_cases h2 : (bytesOf s).getD i 0 ≤ 122
      · refine Ev.pos (fun _ => h2) ?_
        exact hyes (.inl ⟨h1, h2⟩)
      · refine Ev.neg (fun _ => h2) ?_
        refine Ev.pos (fun _ => by omega) ?_
        refine Ev.neg (fun _ => by omega) ?_
        exact Ev.eq (Ev.now _) (hno (by omega))
    · refine Ev.neg (fun _ => h1) ?_
      by_cases h2 : (bytesOf s).getD i 0 ≥ 65
      · refine Ev.pos (fun _ => h2) ?_
        by_cases h3 : (bytesOf s).getD i 0 ≤ 90
        · refine Ev.pos (fun _ => h3) ?_
          exact hyes (.inr ⟨h2, h3⟩)
        · refine Ev.neg (fun _ => h3) ?_
          exact Ev.eq (Ev.now _) (hno (by omega))
      · refine Ev.neg (fun _ => h2) ?_
        exact Ev.eq (Ev.now _) (hno (by omega))
theorem words_ev (s : ByteArray) (hs : s.size ≤ 2000000000) : Ev (fun k => laws_words.f k s) (decide (bytesOf s ≠ [] ∧ ∀ c ∈ bytesOf s, (isL c || isU c) = true)) := by
  have h := words_from s hs _ 0 rfl (Nat.zero_le _)
  simpa [laws_words.f] using h
theorem isDigit_eq (c : Int) : spec_isDigit.f c = some (isD c) := by
  unfold spec_isDigit.f isD
  by_cases h : c ≥ 48
  · rw [if_pos h]; simp; omega
  · rw [if_neg h]; simp; omega
theorem parse_ev (s : ByteArray) (hs : s.size ≤ 100000) (ha : Asc (bytesOf s)) : Ev (fun k => impl_PackagistParse.f k s) (comps (bytesOf s)) := by
  have g := (comps_goods ha (by rw [← B_size]; exact hs)).2.1
  simp only [impl_PackagistParse.f, semantic_ZZPackagistTold.f, Option.bind_some]
  refine Ev.bind (comps_ev s hs ha) ?_
  refine Ev.pos (fun _ => by simp; omega) ?_
  exact Ev.eq (Ev.now _) (by simp)

/-! ### Words and numbers -/
def isW_ (c : Int) : Bool := isL c || isU c
/-- Letters alone, or digits alone, one at least. -/
def Elem (m : List Int) : Prop := m ≠ [] ∧ ((∀ c ∈ m, isW_ c = true) ∨ ∀ c ∈ m, isD c = true)
theorem isW_spec {c : Int} (h : isW_ c = true) : ptI c = c ∧ c ≠ 46 ∧ isD c = false ∧ 0 ≤ c ∧ c ≤ 127 ∧ c ≠ 45 ∧ c ≠ 43 := by
  have h2 := (letter_iff c).1 h
  unfold ptI isD
  rw [if_neg (by omega)]
  exact ⟨rfl, by omega, decide_eq_false (by omega), by omega, by omega, by omega, by omega⟩
theorem isD_spec {c : Int} (h : isD c = true) : ptI c = c ∧ c ≠ 46 ∧ 0 ≤ c ∧ c ≤ 127 ∧ c ≠ 45 ∧ c ≠ 43 := by
  have h2 := of_decide_eq_true h
  exact ⟨ptI_dig h, by omega, by omega, by omega, by omega, by omega⟩
theorem Elem.char {m : List Int} (h : Elem m) : ∀ c ∈ m, ptI c = c ∧ c ≠ 46 ∧ 0 ≤ c ∧ c ≤ 127 ∧ c ≠ 45 ∧ c ≠ 43 := by
  intro c hc
  rcases h.2 with h2 | h2
  · have := isW_spec (h2 c hc); exact ⟨this.1, this.2.1, this.2.2.2.1, this.2.2.2.2.1, this.2.2.2.2.2⟩
  · exact isD_spec (h2 c hc)
theorem Elem.map {m : List Int} (h : Elem m) : m.map ptI = m := map_ptI_id (fun c hc => (h.char c hc).1)
theorem Elem.asc {m : List Int} (h : Elem m) : Asc m := fun c hc => ⟨(h.char c hc).2.2.1, (h.char c hc).2.2.2.1⟩
theorem Elem.dots {m : List Int} (h : Elem m) : dots m = m := by
  rcases h.2 with h2 | h2
  · exact dots_same false (fun c hc => .inl (isW_spec (h2 c hc)).2.2.1)
  · exact dots_same true (fun c hc => .inl (h2 c hc))
theorem Elem.one {m : List Int} (h : Elem m) : splitP isPt m = [m] := splitP_one (fun c hc => (h.char c hc).2.1)
/-- Words with marks between. -/
inductive Jn : List (List Int) → List Int → Prop where
  | one (m : List Int) : Elem m → Jn [m] m
  | more (L : List (List Int)) (l m : List Int) (mk : Int) : Jn L l → Elem m → ptI mk = 46 → 0 ≤ mk → mk ≤ 127 → Jn (L ++ [m]) (l ++ mk :: m)
theorem Jn.split {L : List (List Int)} {l : List Int} (h : Jn L l) : splitP isPt (dots (l.map ptI)) = L := by
  induction h with
  | one m hm => rw [hm.map, hm.dots, hm.one]
  | more L l m mk _ hm hp _ _ ih => rw [List.map_append, List.map_cons, hp, hm.map, dots_at, hm.dots, splitP_pt, ih, hm.one]
theorem Jn.asc {L : List (List Int)} {l : List Int} (h : Jn L l) : Asc l := by
  induction h with
  | one m hm => exact hm.asc
  | more L l m mk _ hm _ h0 h1 ih => exact Asc.append ih (Asc.mk_cons ⟨h0, h1⟩ hm.asc)
theorem Jn.ne {L : List (List Int)} {l : List Int} (h : Jn L l) : l ≠ [] ∧ L ≠ [] := by
  cases h with
  | one m hm => exact ⟨hm.1, by simp⟩
  | more L l m mk _ hm _ _ _ => exact ⟨by simp, by simp⟩
theorem Jn.head {L : List (List Int)} {l : List Int} (h : Jn L l) : l.getD 0 0 = (L.getD 0 []).getD 0 0 := by
  induction h with
  | one m hm => rfl
  | more L l m mk h2 hm _ _ _ ih =>
    rw [getD_app h2.ne.1, ih]
    cases L with
    | nil => exact absurd rfl h2.ne.2
    | cons x L => rfl
theorem Jn.comps {L : List ByteArray} {l : List Int} (h : Jn (L.map bytesOf) l) (h1 : l.getD 0 0 ≠ 118) (h2 : l.getD 0 0 ≠ 86) : comps l = L := by
  unfold V.comps canon
  rw [strip_ne (c := 118) h1, strip_ne h2, h.split, List.map_map]
  have e : (strOfNums ∘ bytesOf) = id := by funext s; exact str_B s
  rw [e, List.map_id]
theorem Jn.compsV {L : List ByteArray} {l : List Int} (h : Jn (L.map bytesOf) l) (h2 : l.getD 0 0 ≠ 86) : V.comps (118 :: l) = L := by
  unfold V.comps canon
  rw [strip_cons, strip_ne h2, h.split, List.map_map]
  have e : (strOfNums ∘ bytesOf) = id := by funext s; exact str_B s
  rw [e, List.map_id]

/-! ### The guards -/
theorem short_from (l : List ByteArray) (hl : l.length ≤ 2147483647) : ∀ (n i : Nat), l.length - i = n → i ≤ l.length →
    ∃ b, Ev (fun k => laws_short.l0 k l l (l.length : Int) (i : Int)) b ∧ (b = true → l.length ≤ 60 ∧ ∀ j, i ≤ j → j < l.length → (rdOf ByteArray.empty l (j : Int)).size ≤ 1200) := by
  intro n
  induction n with
  | zero =>
    intro i hn hi
    refine ⟨decide ((l.length : Int) ≤ 60), Ev.succ ?_, fun h => ⟨by have := of_decide_eq_true h; omega, fun j h1 h2 => by omega⟩⟩
    simp only [laws_short.l0]
    refine Ev.neg (fun _ => by omega) ?_
    exact Ev.now _
  | succ n ih =>
    intro i hn hi
    by_cases h : ((rdOf ByteArray.empty l (i : Int)).size : Int) > 1200
    · refine ⟨false, Ev.succ ?_, fun h => by cases h⟩
      simp only [laws_short.l0]
      refine Ev.pos (fun _ => by omega) ?_
      refine Ev.pos (fun _ => by omega) ?_
      refine Ev.pos (fun _ => by omega) ?_
      refine Ev.pos (fun _ => h) ?_
      exact Ev.now _
    · obtain ⟨b, hb, hok⟩ := ih (i + 1) (by omega) (by omega)
      refine ⟨b, Ev.succ ?_, fun hbt => ⟨(hok hbt).1, fun j h1 h2 => ?_⟩⟩
      · simp only [laws_short.l0]
        refine Ev.pos (fun _ => by omega) ?_
        refine Ev.pos (fun _ => by omega) ?_
        refine Ev.pos (fun _ => by omega) ?_
        refine Ev.neg (fun _ => h) ?_
        rw [w64 (by omega) (by omega)]
        exact hb
      · by_cases e : j = i
        · rw [e]; omega
        · exact (hok hbt).2 j (by omega) h2
theorem fits_from (l : List ByteArray) (hl : l.length ≤ 2147483647) : ∀ (n i : Nat), l.length - i = n → i ≤ l.length →
    ∃ b, Ev (fun k => laws_zzFits2.l0 k l (l.length : Int) (i : Int)) b := by
  intro n
  induction n with
  | zero =>
    intro i hn hi
    refine ⟨true, Ev.succ ?_⟩
    simp only [laws_zzFits2.l0]
    refine Ev.neg (fun _ => by omega) ?_
    exact Ev.now _
  | succ n ih =>
    intro i hn hi
    by_cases h : ((rdOf ByteArray.empty l (i : Int)).size : Int) > 2147483647
    · refine ⟨false, Ev.succ ?_⟩
      simp only [laws_zzFits2.l0]
      refine Ev.pos (fun _ => by omega) ?_
      refine Ev.pos (fun _ => by omega) ?_
      refine Ev.pos (fun _ => by omega) ?_
      refine Ev.pos (fun _ => h) ?_
      exact Ev.now _
    · obtain ⟨b, hb⟩ := ih (i + 1) (by omega) (by omega)
      refine ⟨b, Ev.succ ?_⟩
      simp only [laws_zzFits2.l0]
      refine Ev.pos (fun _ => by omega) ?_
      refine Ev.pos (fun _ => by omega) ?_
      refine Ev.pos (fun _ => by omega) ?_
      refine Ev.neg (fun _ => h) ?_
      rw [w64 (by omega) (by omega)]
      exact hb
theorem allDigits_from (s : ByteArray) (hs : s.size ≤ 2000000000) : ∀ (n i : Nat), s.size - i = n → i ≤ s.size → ∃ b, Ev (fun k => spec_allDigits.l0 k s (i : Int)) b := by
  intro n
  induction n with
  | zero =>
    intro i hn hi
    refine ⟨decide ((s.size : Int) > 0), Ev.succ ?_⟩
    simp only [spec_allDigits.l0]
    refine Ev.neg (fun _ => by omega) ?_
    exact Ev.now _
  | succ n ih =>
    intro i hn hi
    cases hd : isD (bt s (i : Int)) with
    | false =>
      refine ⟨false, Ev.succ ?_⟩
      simp only [spec_allDigits.l0, isDigit_eq, Option.bind_some, hd]
      refine Ev.pos (fun _ => by omega) ?_
      refine Ev.pos (fun _ => by omega) ?_
      refine Ev.neg (fun _ => by simp) ?_
      exact Ev.now _
    | true =>
      obtain ⟨b, hb⟩ := ih (i + 1) (by omega) (by omega)
      refine ⟨b, Ev.succ ?_⟩
      simp only [spec_allDigits.l0, isDigit_eq, Option.bind_some, hd]
      refine Ev.pos (fun _ => by omega) ?_
      refine Ev.pos (fun _ => by omega) ?_
      refine Ev.pos (fun _ => by first | rfl | trivial) ?_
      rw [w64 (by omega) (by omega)]
      exact hb
theorem known_from (l : List ByteArray) (hl : l.length ≤ 60) (he : ∀ j, j < l.length → Elem (bytesOf (rdOf ByteArray.empty l (j : Int))) ∧ (rdOf ByteArray.empty l (j : Int)).size ≤ 1200) : ∀ (n i : Nat), l.length - i = n → i ≤ l.length →
    ∃ b, Ev (fun k => spec_PackagistKnown.l0 k l (i : Int)) b := by
  intro n
  induction n with
  | zero =>
    intro i hn hi
    refine ⟨true, Ev.succ ?_⟩
    simp only [spec_PackagistKnown.l0]
    refine Ev.neg (fun _ => by omega) ?_
    exact Ev.now _
  | succ n ih =>
    intro i hn hi
    obtain ⟨b, hb⟩ := ih (i + 1) (by omega) (by omega)
    obtain ⟨hel, hsz⟩ := he i (by omega)
    obtain ⟨q, hq⟩ := allDigits_from (rdOf ByteArray.empty l (i : Int)) (by omega) _ 0 rfl (by omega)
    have hne : ∀ c, c = bt (rdOf ByteArray.empty l (i : Int)) 0 → c ≠ 45 ∧ c ≠ 43 := by
      intro c hc
      rw [bt_zero] at hc
      cases hm : bytesOf (rdOf ByteArray.empty l (i : Int)) with
      | nil => exact absurd hm hel.1
      | cons x m =>
        rw [hm] at hc
        have := hel.char x (by rw [hm]; exact List.mem_cons_self)
        have e : c = x := hc
        rw [e]
        exact this.2.2.2.2
    obtain ⟨n1, n2⟩ := hne _ rfl
    have hnext : Ev (fun k => spec_PackagistKnown.l0 k l (wrap64 ((i : Int) + 1))) b := by rw [w64 (by omega) (by omega)]; exact hb
    have rest : ∀ (f : Nat → Option Bool), Ev f b → True := fun _ _ => trivial
    cases q with
    | true =>
      by_cases h18 : ((rdOf ByteArray.empty l (i : Int)).size : Int) > 18
      · refine ⟨false, Ev.succ ?_⟩
        simp only [spec_PackagistKnown.l0]
        refine Ev.pos (fun _ => by omega) ?_
        refine Ev.pos (fun _ => by omega) ?_
        refine Ev.bind hq ?_
        refine Ev.pos (fun _ => by first | rfl | trivial) ?_
        refine Ev.pos (fun _ => h18) ?_
        exact Ev.now _
      · refine ⟨b, Ev.succ ?_⟩
        simp only [spec_PackagistKnown.l0]
        refine Ev.pos (fun _ => by omega) ?_
        refine Ev.pos (fun _ => by omega) ?_
        refine Ev.bind hq ?_
        refine Ev.pos (fun _ => by first | rfl | trivial) ?_
        refine Ev.neg (fun _ => h18) ?_
        by_cases h1 : ((rdOf ByteArray.empty l (i : Int)).size : Int) > 1
        · refine Ev.pos (fun _ => h1) ?_
          refine Ev.pos (fun _ => by omega) ?_
          refine Ev.neg (fun _ => n1) ?_
          refine Ev.neg (fun _ => n2) ?_
          exact hnext
        · refine Ev.neg (fun _ => h1) ?_
          exact hnext
    | false =>
      refine ⟨b, Ev.succ ?_⟩
      simp only [spec_PackagistKnown.l0]
      refine Ev.pos (fun _ => by omega) ?_
      refine Ev.pos (fun _ => by omega) ?_
      refine Ev.bind hq ?_
      refine Ev.neg (fun _ => by simp) ?_
      by_cases h1 : ((rdOf ByteArray.empty l (i : Int)).size : Int) > 1
      · refine Ev.pos (fun _ => h1) ?_
        refine Ev.pos (fun _ => by omega) ?_
        refine Ev.neg (fun _ => n1) ?_
        refine Ev.neg (fun _ => n2) ?_
        exact hnext
      · refine Ev.neg (fun _ => h1) ?_
        exact hnext

/-! ### The law -/
/-- What the two texts hold behind i words. -/
def Held (l : List ByteArray) (i : Nat) (s : ByteArray) : Prop := (i = 0 ∧ s.size = 0) ∨ (0 < i ∧ Jn ((l.take i).map bytesOf) (bytesOf s))
theorem take_succ_rd (l : List ByteArray) (i : Nat) (h : i < l.length) : l.take (i + 1) = l.take i ++ [rdOf ByteArray.empty l (i : Int)] := by
  rw [List.take_succ_eq_append_getElem h]
  simp [rdOf, List.getD_eq_getElem?_getD, h]
theorem held_first {l : List ByteArray} (h : 0 < l.length) (he : Elem (bytesOf (rdOf ByteArray.empty l ((0 : Nat) : Int)))) {s : ByteArray} (hs : s.size = 0) : Held l 1 (s ++ rdOf ByteArray.empty l ((0 : Nat) : Int)) := by
  have e : bytesOf s = [] := (size_nil s).1 hs
  refine .inr ⟨by omega, ?_⟩
  rw [take_succ_rd l 0 h, B_append, e]
  exact Jn.one _ he
theorem held_next {l : List ByteArray} {i : Nat} (h0 : 0 < i) (h : i < l.length) (he : Elem (bytesOf (rdOf ByteArray.empty l (i : Int)))) {s m : ByteArray} {mk : Int} (hs : Held l i s) (hm : bytesOf m = [mk]) (hp : ptI mk = 46) (hr : 0 ≤ mk ∧ mk ≤ 127) : Held l (i + 1) ((s ++ m) ++ rdOf ByteArray.empty l (i : Int)) := by
  rcases hs with hs | hs
  · omega
  · refine .inr ⟨by omega, ?_⟩
    rw [take_succ_rd l i h, B_append, B_append, hm, List.map_append, List.append_assoc]
    exact Jn.more _ _ _ mk hs.2 he hp hr.1 hr.2
theorem marks_from (l : List ByteArray) (mk : List Int) (hl0 : 0 < l.length) (hl : l.length ≤ 60) (hmk : mk.length ≤ 2147483647) (hmw : ∀ x ∈ mk, (Lit.int .u8 x).wf = true) (hsz : ∀ j, j < l.length → (rdOf ByteArray.empty l (j : Int)).size ≤ 1200) :
    ∀ (n i : Nat) (s t : ByteArray), l.length - i = n → i ≤ l.length → Held l i s → Held l i t → s.size ≤ 1201 * i → t.size ≤ 1201 * i → (∀ j, j < i → Elem (bytesOf (rdOf ByteArray.empty l (j : Int)))) →
      (0 < i → (bytesOf (rdOf ByteArray.empty l ((0 : Nat) : Int))).getD 0 0 ≠ 118 ∧ (bytesOf (rdOf ByteArray.empty l ((0 : Nat) : Int))).getD 0 0 ≠ 86) →
      Ev (fun k => laws_FnPackagistMarks.l0 k l mk s t l (l.length : Int) (i : Int)) true := by
  intro n
  induction n with
  | zero =>
    intro i s t hn hi hs ht hss hts hel hv
    have hi2 : i = l.length := by omega
    have hi0 : 0 < i := by omega
    obtain ⟨v1, v2⟩ := hv hi0
    have js : Jn (l.map bytesOf) (bytesOf s) := by
      rcases hs with h | h
      · omega
      · have := h.2; rw [hi2, List.take_length] at this; exact this
    have jt : Jn (l.map bytesOf) (bytesOf t) := by
      rcases ht with h | h
      · omega
      · have := h.2; rw [hi2, List.take_length] at this; exact this
    have hh : ((l.map bytesOf).getD 0 []) = bytesOf (rdOf ByteArray.empty l ((0 : Nat) : Int)) := (rdOf_B l 0).symm
    have s1 : (bytesOf s).getD 0 0 ≠ 118 := by rw [js.head, hh]; exact v1
    have s2 : (bytesOf s).getD 0 0 ≠ 86 := by rw [js.head, hh]; exact v2
    have t1 : (bytesOf t).getD 0 0 ≠ 118 := by rw [jt.head, hh]; exact v1
    have t2 : (bytesOf t).getD 0 0 ≠ 86 := by rw [jt.head, hh]; exact v2
    have cs := js.comps s1 s2
    have ct := jt.comps t1 t2
    have ev : bytesOf ((⟨#[118]⟩ : ByteArray) ++ t) = 118 :: bytesOf t := by rw [B_append]; rfl
    have cv : comps (bytesOf ((⟨#[118]⟩ : ByteArray) ++ t)) = l := by rw [ev]; exact jt.compsV t2
    have av : Asc (bytesOf ((⟨#[118]⟩ : ByteArray) ++ t)) := by rw [ev]; exact Asc.mk_cons (by decide) jt.asc
    have szv : ((⟨#[118]⟩ : ByteArray) ++ t).size = 1 + t.size := by rw [ByteArray.size_append]; rfl
    have gl := comps_goods js.asc (by rw [← B_size]; omega)
    rw [cs] at gl
    have hf : Fits l l := ⟨gl, gl, .inl rfl⟩
    have c1 := compare_ev s t (by omega) (by omega) js.asc jt.asc (by rw [cs, ct]; exact hf)
    have c2 := compare_ev ((⟨#[118]⟩ : ByteArray) ++ t) s (by omega) (by omega) av js.asc (by rw [cs, cv]; exact hf)
    rw [cs, ct, pcmp_self] at c1
    rw [cs, cv, pcmp_self] at c2
    have c3 := parse_ev t (by omega) jt.asc
    rw [ct] at c3
    obtain ⟨q, hq⟩ := known_from l hl (fun j hj => ⟨hel j (by omega), hsz j hj⟩) _ 0 rfl (by omega)
    refine Ev.succ ?_
    simp only [laws_FnPackagistMarks.l0]
    refine Ev.neg (fun _ => by omega) ?_
    refine Ev.bind hq ?_
    cases q with
    | false =>
      refine Ev.neg (fun _ => by simp) ?_
      exact Ev.now _
    | true =>
      refine Ev.pos (fun _ => by first | rfl | trivial) ?_
      refine Ev.bind c1 ?_
      refine Ev.pos (fun _ => by omega) ?_
      refine Ev.bind c2 ?_
      refine Ev.pos (fun _ => by first | rfl | trivial) ?_
      refine Ev.pos (fun _ => by first | rfl | trivial) ?_
      refine Ev.pos (fun _ => by first | rfl | trivial) ?_
      refine Ev.pos (fun _ => by first | rfl | trivial) ?_
      refine Ev.bind c3 (Ev.bind (texts_ev l (by omega)) ?_)
      exact Ev.now _
  | succ n ih =>
    intro i s t hn hi hs ht hss hts hel hv
    have hlt : i < l.length := by omega
    obtain ⟨w, hw⟩ : ∃ w, w = rdOf ByteArray.empty l (i : Int) := ⟨_, rfl⟩
    have hwz : w.size ≤ 1200 := by rw [hw]; exact hsz i hlt
    have stop : Ev (fun k => laws_FnPackagistMarks.j3 k l mk s t (i : Int) w l (l.length : Int) (i : Int) true) true := by
      refine Ev.succ ?_
      simp only [laws_FnPackagistMarks.j3]
      refine Ev.pos (fun _ => by first | rfl | trivial) ?_
      exact Ev.now _
    have goon : Elem (bytesOf w) → (i = 0 → (bytesOf w).getD 0 0 ≠ 118 ∧ (bytesOf w).getD 0 0 ≠ 86) → Ev (fun k => laws_FnPackagistMarks.j3 k l mk s t (i : Int) w l (l.length : Int) (i : Int) false) true := by
      intro he hfirst
      have hel2 : ∀ j, j < i + 1 → Elem (bytesOf (rdOf ByteArray.empty l (j : Int))) := by
        intro j hj
        by_cases e : j = i
        · rw [e, ← hw]; exact he
        · exact hel j (by omega)
      have hv2 : 0 < i + 1 → (bytesOf (rdOf ByteArray.empty l ((0 : Nat) : Int))).getD 0 0 ≠ 118 ∧ (bytesOf (rdOf ByteArray.empty l ((0 : Nat) : Int))).getD 0 0 ≠ 86 := by
        intro _
        by_cases e : i = 0
        · subst e; rw [← hw]; exact hfirst rfl
        · exact hv (by omega)
      refine Ev.succ ?_
      simp only [laws_FnPackagistMarks.j3]
      refine Ev.neg (fun _ => by simp) ?_
      by_cases h0 : i = 0
      · subst h0
        have hs0 : s.size = 0 := by rcases hs with h | h <;> omega
        have ht0 : t.size = 0 := by rcases ht with h | h <;> omega
        refine Ev.neg (fun _ => by omega) ?_
        refine Ev.pos (fun _ => by omega) ?_
        refine Ev.pos (fun _ => by omega) ?_
        rw [w64 (by omega) (by omega)]
        have k1 := held_first (l := l) hl0 (by rw [← hw]; exact he) hs0
        have k2 := held_first (l := l) hl0 (by rw [← hw]; exact he) ht0
        rw [← hw] at k1 k2
        exact ih 1 (s ++ w) (t ++ w) (by omega) (by omega) k1 k2 (by rw [ByteArray.size_append]; omega) (by rw [ByteArray.size_append]; omega) hel2 hv2
      · refine Ev.pos (fun _ => by omega) ?_
        have p46 : ptI 46 = 46 := by decide
        have z46 : (⟨#[46]⟩ : ByteArray).size = 1 := rfl
        have b46 : bytesOf (⟨#[46]⟩ : ByteArray) = [46] := rfl
        have k1 := held_next (m := (⟨#[46]⟩ : ByteArray)) (by omega) hlt (by rw [← hw]; exact he) hs b46 p46 (by decide)
        rw [← hw] at k1
        have step : ∀ (m : ByteArray) (c : Int), bytesOf m = [c] → ptI c = 46 → 0 ≤ c ∧ c ≤ 127 → Ev (fun k => laws_FnPackagistMarks.l0 k l mk ((s ++ (⟨#[46]⟩ : ByteArray)) ++ w) ((t ++ m) ++ w) l (l.length : Int) ((i : Int) + 1)) true := by
          intro m c hm hp hr
          have mz : m.size = 1 := by rw [B_size, hm]; rfl
          have k2 := held_next (m := m) (by omega) hlt (by rw [← hw]; exact he) ht hm hp hr
          rw [← hw] at k2
          exact ih (i + 1) _ _ (by omega) (by omega) k1 k2 (by rw [ByteArray.size_append, ByteArray.size_append]; omega) (by rw [ByteArray.size_append, ByteArray.size_append]; omega) hel2 hv2
        rw [w64 (by omega) (by omega)]
        by_cases hm : (i : Int) < (mk.length : Int)
        · refine Ev.pos (fun _ => hm) ?_
          have hmi : i < mk.length := by omega
          have hx := hmw (rd mk (i : Int)) (by
            have e : rd mk (i : Int) = mk[i] := by simp [rd, List.getD_eq_getElem?_getD, hmi]
            rw [e]
            exact List.getElem_mem hmi)
          have hx2 : 0 ≤ rd mk (i : Int) ∧ rd mk (i : Int) ≤ 255 := by
            simp [Lit.wf, IntKind.min, IntKind.max, IntKind.signed, IntKind.bits] at hx
            omega
          have ht4 : Int.tmod (rd mk (i : Int)) 4 = (rd mk (i : Int)) % 4 := Int.tmod_eq_emod_of_nonneg hx2.1
          rw [ht4]
          obtain ⟨j, hj4, hj⟩ : ∃ j : Nat, j < 4 ∧ (rd mk (i : Int)) % 4 = (j : Int) := ⟨((rd mk (i : Int)) % 4).toNat, by omega, by omega⟩
          rw [hj]
          simp only [Option.bind_some]
          have main : ∀ (y : List ByteArray) (m : ByteArray) (c : Int), y.length = 4 → rdOf ByteArray.empty y (j : Int) = m → bytesOf m = [c] → ptI c = 46 → 0 ≤ c ∧ c ≤ 127 →
              Ev (fun k => if 0 ≤ (i : Int) then (if 0 ≤ (j : Int) then (if (j : Int) < (y.length : Int) then (if s.size + 1 ≤ 9223372036854775807 then (if t.size + (rdOf ByteArray.empty y (j : Int)).size ≤ 9223372036854775807 then (if (s ++ (⟨#[46]⟩ : ByteArray)).size + w.size ≤ 9223372036854775807 then (if (t ++ (rdOf ByteArray.empty y (j : Int))).size + w.size ≤ 9223372036854775807 then (laws_FnPackagistMarks.l0 k l mk ((s ++ (⟨#[46]⟩ : ByteArray)) ++ w) ((t ++ (rdOf ByteArray.empty y (j : Int))) ++ w) l (l.length : Int) ((i : Int) + 1)) else (none)) else (none)) else (none)) else (none)) else (none)) else (none)) else (none)) true := by
            intro y m c hy hm1 hm2 hp hr
            have mz : m.size = 1 := by rw [B_size, hm2]; rfl
            rw [hm1]
            refine Ev.pos (fun _ => by omega) ?_
            refine Ev.pos (fun _ => by omega) ?_
            refine Ev.pos (fun _ => by omega) ?_
            refine Ev.pos (fun _ => by omega) ?_
            refine Ev.pos (fun _ => by omega) ?_
            refine Ev.pos (fun _ => by rw [ByteArray.size_append]; omega) ?_
            refine Ev.pos (fun _ => by rw [ByteArray.size_append]; omega) ?_
            exact step m c hm2 hp hr
          rcases (by omega : j = 0 ∨ j = 1 ∨ j = 2 ∨ j = 3) with rfl | rfl | rfl | rfl
          · exact main _ (⟨#[46]⟩ : ByteArray) 46 rfl rfl rfl (by decide) (by decide)
          · exact main _ (⟨#[45]⟩ : ByteArray) 45 rfl rfl rfl (by decide) (by decide)
          · exact main _ (⟨#[95]⟩ : ByteArray) 95 rfl rfl rfl (by decide) (by decide)
          · exact main _ (⟨#[43]⟩ : ByteArray) 43 rfl rfl rfl (by decide) (by decide)
        · refine Ev.neg (fun _ => hm) ?_
          refine Ev.pos (fun _ => by omega) ?_
          refine Ev.pos (fun _ => by omega) ?_
          refine Ev.pos (fun _ => by rw [ByteArray.size_append]; omega) ?_
          refine Ev.pos (fun _ => by rw [ByteArray.size_append]; omega) ?_
          exact step (⟨#[46]⟩ : ByteArray) 46 rfl (by decide) (by decide)
    refine Ev.succ ?_
    simp only [laws_FnPackagistMarks.l0]
    refine Ev.pos (fun _ => by omega) ?_
    refine Ev.pos (fun _ => by omega) ?_
    refine Ev.pos (fun _ => by omega) ?_
    rw [← hw, bt_zero]
    have fin : Elem (bytesOf w) → Ev (fun k => if (i : Int) = 0 then (if 0 < (w.size : Int) then (if (bytesOf w).getD 0 0 = 118 then (laws_FnPackagistMarks.j3 k l mk s t (i : Int) w l (l.length : Int) (i : Int) true) else (laws_FnPackagistMarks.j3 k l mk s t (i : Int) w l (l.length : Int) (i : Int) ((bytesOf w).getD 0 0 == 86))) else (none)) else (laws_FnPackagistMarks.j3 k l mk s t (i : Int) w l (l.length : Int) (i : Int) false)) true := by
      intro he
      have hpos : 0 < w.size := by rw [B_size]; exact List.length_pos_iff.2 he.1
      by_cases h0 : i = 0
      · refine Ev.pos (fun _ => by omega) ?_
        refine Ev.pos (fun _ => by omega) ?_
        by_cases h1 : (bytesOf w).getD 0 0 = 118
        · refine Ev.pos (fun _ => h1) ?_
          exact stop
        · refine Ev.neg (fun _ => h1) ?_
          by_cases h2 : (bytesOf w).getD 0 0 = 86
          · rw [show ((bytesOf w).getD 0 0 == 86) = true by simpa using h2]
            exact stop
          · rw [show ((bytesOf w).getD 0 0 == 86) = false by simpa using h2]
            exact goon he (fun _ => ⟨h1, h2⟩)
      · refine Ev.neg (fun _ => by omega) ?_
        exact goon he (fun h => absurd h h0)
    refine Ev.bind (words_ev w (by omega)) ?_
    by_cases hwd : bytesOf w ≠ [] ∧ ∀ c ∈ bytesOf w, (isL c || isU c) = true
    · refine Ev.pos (fun _ => decide_eq_true hwd) ?_
      exact fin ⟨hwd.1, .inl hwd.2⟩
    · refine Ev.neg (fun _ => by simpa using hwd) ?_
      refine Ev.bind (digits_ev w (by omega)) ?_
      by_cases hdg : bytesOf w ≠ [] ∧ ∀ c ∈ bytesOf w, isD c = true
      · refine Ev.pos (fun _ => decide_eq_true hdg) ?_
        exact fin ⟨hdg.1, .inr hdg.2⟩
      · refine Ev.neg (fun _ => by simpa using hdg) ?_
        exact stop
theorem FnPackagistMarks : laws_FnPackagistMarks.Pure := by
  intro l mk hl hmk hmk2 hmw
  refine Ev.rounds (r := true) (g := fun k => laws_FnPackagistMarks.f k l mk) ?_
  have y0 : Ev (fun k => laws_FnPackagistMarks.j0 k l mk true) true := by
    refine Ev.succ ?_
    simp only [laws_FnPackagistMarks.j0]
    refine Ev.pos (fun _ => by first | rfl | trivial) ?_
    exact Ev.now _
  have y1 : Ev (fun k => laws_FnPackagistMarks.j1 k l mk true) true := by
    refine Ev.succ ?_
    simp only [laws_FnPackagistMarks.j1]
    refine Ev.pos (fun _ => by first | rfl | trivial) ?_
    exact Ev.now _
  simp only [laws_FnPackagistMarks.f, laws_zzFits2.f]
  by_cases hbig : (l.length : Int) > 2147483647
  · refine Ev.bind (a := false) ?_ ?_
    · refine Ev.pos (fun _ => hbig) ?_
      exact Ev.now _
    · refine Ev.neg (fun _ => by simp) ?_
      exact y0
  · obtain ⟨q, hq⟩ := fits_from l (by omega) _ 0 rfl (by omega)
    refine Ev.bind (a := q) ?_ ?_
    · refine Ev.neg (fun _ => hbig) ?_
      exact hq
    · cases q with
      | false =>
        refine Ev.neg (fun _ => by simp) ?_
        exact y0
      | true =>
        refine Ev.pos (fun _ => by first | rfl | trivial) ?_
        by_cases hmb : (mk.length : Int) > 2147483647
        · rw [decide_eq_true hmb]
          exact y0
        · rw [decide_eq_false hmb]
          refine Ev.succ ?_
          simp only [laws_FnPackagistMarks.j0]
          refine Ev.neg (fun _ => by simp) ?_
          by_cases hl0 : (l.length : Int) = 0
          · refine Ev.pos (fun _ => hl0) ?_
            exact y1
          · refine Ev.neg (fun _ => hl0) ?_
            obtain ⟨b, hb, hok⟩ := short_from l (by omega) _ 0 rfl (by omega)
            refine Ev.bind (a := b) (by simp only [laws_short.f]; exact hb) ?_
            cases b with
            | false => exact y1
            | true =>
              obtain ⟨h60, hsz⟩ := hok rfl
              refine Ev.succ ?_
              simp only [laws_FnPackagistMarks.j1, Bool.not_true]
              refine Ev.neg (fun _ => by simp) ?_
              have e0 : (⟨#[]⟩ : ByteArray).size = 0 := rfl
              exact marks_from l mk (by omega) h60 (by omega) hmw (fun j hj => hsz j (by omega) hj) _ 0 _ _ rfl (by omega) (.inl ⟨rfl, rfl⟩) (.inl ⟨rfl, rfl⟩) (by omega) (by omega) (fun j hj => by omega) (fun h => by omega)
end Go.Proofs.YtdjkekgfeadmoaaDoor.V
