/- The plain law of FnPyPILocalJoined: words with marks between are cut into these words, in small letters. -/
import Derived.Test.YteffbgjfhbgooaaDoorV4
namespace Go.Proofs.YteffbgjfhbgooaaDoor.VR
open Go.RowKit Go.Proofs.YteffbgjfhbgooaaDoor.R Go.Proofs.YteffbgjfhbgooaaDoorH Go.Proofs.YteffbgjfhbgooaaDoorB Go.Proofs.YteffbgjfhbgooaaDoorW.PrintWords Go.Proofs.YteffbgjfhbgooaaDoorW.PrintLast
set_option linter.unusedVariables false
set_option linter.unusedSimpArgs false

def isW (c : Int) : Bool := decide (97 ≤ c ∧ c ≤ 122 ∨ 65 ≤ c ∧ c ≤ 90)
theorem words_from (s : ByteArray) (hs : s.size ≤ 2000000000) : ∀ (n i : Nat), s.size - i = n → i ≤ s.size →
    Ev (fun k => laws_words.l0 k s i) (((bytesOf s).drop i).all isW && decide (bytesOf s ≠ [])) := by
  intro n
  induction n with
  | zero =>
    intro i hn hi
    refine Ev.succ ?_
    simp only [laws_words.l0]
    refine Ev.neg (fun _ => by first | omega | assumption | nofun) ?_
    refine Ev.eq (Ev.now _) ?_
    rw [List.drop_of_length_le (by rw [bytesOf_length]; omega)]
    have e : (s.toList != ([] : List UInt8)) = decide (bytesOf s ≠ []) := by
      rw [bne_nil_hyb]
      have := toList_nil s
      by_cases h : s.toList = []
      · simp [h, this.1 h]
      · have h2 : bytesOf s ≠ [] := fun h2 => h (this.2 h2)
        simp [h, h2]
    simp [e]
  | succ n ih =>
    intro i hn hi
    have hl : i < (bytesOf s).length := by rw [bytesOf_length]; omega
    have hne : bytesOf s ≠ [] := fun h => by rw [h] at hl; simp at hl
    refine Ev.succ ?_
    simp only [laws_words.l0, bt_nat]
    rw [drop_get _ _ hl]
    refine Ev.pos (fun _ => by first | omega | trivial | assumption) ?_
    refine Ev.pos (fun _ => by first | omega | trivial | assumption) ?_
    cases h : isW ((bytesOf s).getD i 0)
    · have h2 : ¬ (97 ≤ (bytesOf s).getD i 0 ∧ (bytesOf s).getD i 0 ≤ 122 ∨ 65 ≤ (bytesOf s).getD i 0 ∧ (bytesOf s).getD i 0 ≤ 90) := of_decide_eq_false h
      have e : (((bytesOf s).getD i 0 :: (bytesOf s).drop (i + 1)).all isW && decide (bytesOf s ≠ [])) = false := by
        rw [List.all_cons, h]; simp only [Bool.false_and, Bool.true_and]
      rw [e]
      by_cases h3 : (bytesOf s).getD i 0 ≥ 97
      · refine Ev.pos (fun _ => by first | omega | trivial | assumption) ?_
        refine Ev.neg (fun _ => by first | omega | assumption | nofun) ?_
        refine Ev.pos (fun _ => by first | omega | trivial | assumption) ?_
        refine Ev.neg (fun _ => by first | omega | assumption | nofun) ?_
        exact Ev.now _
      · refine Ev.neg (fun _ => by first | omega | assumption | nofun) ?_
        by_cases h4 : (bytesOf s).getD i 0 ≥ 65
        · refine Ev.pos (fun _ => by first | omega | trivial | assumption) ?_
          refine Ev.neg (fun _ => by first | omega | assumption | nofun) ?_
          exact Ev.now _
        · refine Ev.neg (fun _ => by first | omega | assumption | nofun) ?_
          exact Ev.now _
    · have h2 : 97 ≤ (bytesOf s).getD i 0 ∧ (bytesOf s).getD i 0 ≤ 122 ∨ 65 ≤ (bytesOf s).getD i 0 ∧ (bytesOf s).getD i 0 ≤ 90 := of_decide_eq_true h
      have e : (((bytesOf s).getD i 0 :: (bytesOf s).drop (i + 1)).all isW && decide (bytesOf s ≠ [])) = (((bytesOf s).drop (i + 1)).all isW && decide (bytesOf s ≠ [])) := by
        rw [List.all_cons, h]; simp only [Bool.false_and, Bool.true_and]
      rw [e]
      have hr := ih (i + 1) (by omega) (by omega)
      rw [w64 (by omega) (by omega)]
      rcases h2 with h2 | h2
      · refine Ev.pos (fun _ => by first | omega | trivial | assumption) ?_
        refine Ev.pos (fun _ => by first | omega | trivial | assumption) ?_
        exact hr
      · refine Ev.neg (fun _ => by first | omega | assumption | nofun) ?_
        refine Ev.pos (fun _ => by first | omega | trivial | assumption) ?_
        refine Ev.pos (fun _ => by first | omega | trivial | assumption) ?_
        exact hr
theorem words_ev (s : ByteArray) (hs : s.size ≤ 2000000000) : Ev (fun k => laws_words.f k s) ((bytesOf s).all isW && decide (bytesOf s ≠ [])) := by
  have h := words_from s hs _ 0 rfl (Nat.zero_le _)
  simpa [laws_words.f] using h
theorem digits_from (s : ByteArray) (hs : s.size ≤ 2000000000) : ∀ (n i : Nat), s.size - i = n → i ≤ s.size →
    Ev (fun k => laws_digits.l0 k s i) (((bytesOf s).drop i).all isD && decide (bytesOf s ≠ [])) := by
  intro n
  induction n with
  | zero =>
    intro i hn hi
    refine Ev.succ ?_
    simp only [laws_digits.l0]
    refine Ev.neg (fun _ => by first | omega | assumption | nofun) ?_
    refine Ev.eq (Ev.now _) ?_
    rw [List.drop_of_length_le (by rw [bytesOf_length]; omega)]
    have e : (s.toList != ([] : List UInt8)) = decide (bytesOf s ≠ []) := by
      rw [bne_nil_hyb]
      have := toList_nil s
      by_cases h : s.toList = []
      · simp [h, this.1 h]
      · have h2 : bytesOf s ≠ [] := fun h2 => h (this.2 h2)
        simp [h, h2]
    simp [e]
  | succ n ih =>
    intro i hn hi
    have hl : i < (bytesOf s).length := by rw [bytesOf_length]; omega
    refine Ev.succ ?_
    simp only [laws_digits.l0, bt_nat]
    rw [drop_get _ _ hl]
    refine Ev.pos (fun _ => by first | omega | trivial | assumption) ?_
    refine Ev.pos (fun _ => by first | omega | trivial | assumption) ?_
    cases h : isD ((bytesOf s).getD i 0)
    · have h2 : ¬ (48 ≤ (bytesOf s).getD i 0 ∧ (bytesOf s).getD i 0 ≤ 57) := of_decide_eq_false h
      have e : (((bytesOf s).getD i 0 :: (bytesOf s).drop (i + 1)).all isD && decide (bytesOf s ≠ [])) = false := by
        rw [List.all_cons, h]; simp only [Bool.false_and, Bool.true_and]
      rw [e]
      by_cases h3 : (bytesOf s).getD i 0 < 48
      · refine Ev.pos (fun _ => by first | omega | trivial | assumption) ?_
        exact Ev.now _
      · refine Ev.neg (fun _ => by first | omega | assumption | nofun) ?_
        refine Ev.pos (fun _ => by first | omega | trivial | assumption) ?_
        exact Ev.now _
    · have h2 : 48 ≤ (bytesOf s).getD i 0 ∧ (bytesOf s).getD i 0 ≤ 57 := of_decide_eq_true h
      have e : (((bytesOf s).getD i 0 :: (bytesOf s).drop (i + 1)).all isD && decide (bytesOf s ≠ [])) = (((bytesOf s).drop (i + 1)).all isD && decide (bytesOf s ≠ [])) := by
        rw [List.all_cons, h]; simp only [Bool.false_and, Bool.true_and]
      rw [e]
      refine Ev.neg (fun _ => by first | omega | assumption | nofun) ?_
      refine Ev.neg (fun _ => by first | omega | assumption | nofun) ?_
      rw [w64 (by omega) (by omega)]
      exact ih (i + 1) (by omega) (by omega)
theorem digits_ev (s : ByteArray) (hs : s.size ≤ 2000000000) : Ev (fun k => laws_digits.f k s) ((bytesOf s).all isD && decide (bytesOf s ≠ [])) := by
  have h := digits_from s hs _ 0 rfl (Nat.zero_le _)
  simpa [laws_digits.f] using h

/-- The law's own bounds on words: as many as 60, each of at most 1200 bytes. -/
theorem short_from (l : List ByteArray) (hl : l.length ≤ 2147483647) : ∀ (n i : Nat), l.length - i = n → i ≤ l.length →
    Ev (fun k => laws_short.l0 k l l l.length i) (decide (∀ w ∈ l.drop i, w.size ≤ 1200) && decide (l.length ≤ 60)) := by
  intro n
  induction n with
  | zero =>
    intro i hn hi
    refine Ev.succ ?_
    simp only [laws_short.l0]
    refine Ev.neg (fun _ => by first | omega | assumption | nofun) ?_
    refine Ev.eq (Ev.now _) ?_
    rw [List.drop_of_length_le (by omega)]
    have e : decide ((l.length : Int) ≤ 60) = decide (l.length ≤ 60) := by rw [decide_eq_decide]; omega
    simp [e]
  | succ n ih =>
    intro i hn hi
    have hil : i < l.length := by omega
    refine Ev.succ ?_
    simp only [laws_short.l0]
    rw [drop_rd hil]
    refine Ev.pos (fun _ => by first | omega | trivial | assumption) ?_
    refine Ev.pos (fun _ => by first | omega | trivial | assumption) ?_
    refine Ev.pos (fun _ => by first | omega | trivial | assumption) ?_
    by_cases h : (rdOf ByteArray.empty l i).size ≤ 1200
    · refine Ev.neg (fun _ => by first | omega | assumption | nofun) ?_
      rw [w64 (by omega) (by omega)]
      refine Ev.eq (ih (i + 1) (by omega) (by omega)) ?_
      simp [h]
    · refine Ev.pos (fun _ => by first | omega | trivial | assumption) ?_
      refine Ev.eq (Ev.now _) ?_
      symm
      rw [Bool.and_eq_false_iff]
      left
      rw [decide_eq_false_iff_not]
      exact fun hx => h (hx _ List.mem_cons_self)
theorem short_ev (l : List ByteArray) (hl : l.length ≤ 2147483647) : Ev (fun k => laws_short.f k l) (decide (∀ w ∈ l, w.size ≤ 1200) && decide (l.length ≤ 60)) := by
  have h := short_from l hl _ 0 rfl (Nat.zero_le _)
  simpa [laws_short.f] using h
theorem fits_from (l : List ByteArray) (hl : l.length ≤ 2147483647) : ∀ (n i : Nat), l.length - i = n → i ≤ l.length →
    ∃ b, Ev (fun k => laws_zzFits2.l0 k l l.length i) b := by
  intro n
  induction n with
  | zero =>
    intro i hn hi
    refine ⟨true, Ev.succ ?_⟩
    simp only [laws_zzFits2.l0]
    refine Ev.neg (fun _ => by first | omega | assumption | nofun) ?_
    exact Ev.now _
  | succ n ih =>
    intro i hn hi
    obtain ⟨b, hb⟩ := ih (i + 1) (by omega) (by omega)
    by_cases h : ((rdOf ByteArray.empty l i).size : Int) > 2147483647
    · refine ⟨false, Ev.succ ?_⟩
      simp only [laws_zzFits2.l0]
      refine Ev.pos (fun _ => by first | omega | trivial | assumption) ?_
      refine Ev.pos (fun _ => by first | omega | trivial | assumption) ?_
      refine Ev.pos (fun _ => by first | omega | trivial | assumption) ?_
      refine Ev.pos (fun _ => by first | omega | trivial | assumption) ?_
      exact Ev.now _
    · refine ⟨b, Ev.succ ?_⟩
      simp only [laws_zzFits2.l0]
      refine Ev.pos (fun _ => by first | omega | trivial | assumption) ?_
      refine Ev.pos (fun _ => by first | omega | trivial | assumption) ?_
      refine Ev.pos (fun _ => by first | omega | trivial | assumption) ?_
      refine Ev.neg (fun _ => by first | omega | assumption | nofun) ?_
      rw [w64 (by omega) (by omega)]
      exact hb
theorem fits_ev (l : List ByteArray) : ∃ b, Ev (fun k => laws_zzFits2.f k l) b ∧ (b = true → l.length ≤ 2147483647) := by
  by_cases h : (l.length : Int) > 2147483647
  · refine ⟨false, ?_, nofun⟩
    simp only [laws_zzFits2.f]
    refine Ev.pos (fun _ => by first | omega | trivial | assumption) ?_
    exact Ev.now _
  · obtain ⟨b, hb⟩ := fits_from l (by omega) _ 0 rfl (Nat.zero_le _)
    refine ⟨b, ?_, fun _ => by omega⟩
    simp only [laws_zzFits2.f]
    refine Ev.neg (fun _ => by first | omega | assumption | nofun) ?_
    exact hb

/-- A word: letters alone, or digits alone. -/
def Word (l : List Int) : Prop := ((∀ x ∈ l, isW x = true) ∨ (∀ x ∈ l, isD x = true)) ∧ l ≠ []
theorem Word.no_mark {l : List Int} (h : Word l) : ∀ x ∈ l, isMk x = false := by
  intro x hx
  rcases h.1 with h | h
  · have := h x hx
    simp only [isW, decide_eq_true_eq] at this
    simp only [isMk, decide_eq_false_iff_not]
    omega
  · have := h x hx
    simp only [isD, decide_eq_true_eq] at this
    simp only [isMk, decide_eq_false_iff_not]
    omega
theorem Word.ascii {l : List Int} (h : Word l) : ∀ x ∈ l, 0 ≤ x ∧ x ≤ 127 := by
  intro x hx
  rcases h.1 with h | h
  · have := h x hx
    simp only [isW, decide_eq_true_eq] at this
    omega
  · have := h x hx
    simp only [isD, decide_eq_true_eq] at this
    omega
theorem splitP_no {p : Int → Bool} : ∀ {l : List Int}, (∀ x ∈ l, p x = false) → splitP p l = [l] := by
  intro l
  induction l with
  | nil => intro _; rfl
  | cons c r ih =>
    intro h
    simp only [splitP]
    rw [if_neg (by simp [h c List.mem_cons_self]), ih (fun x hx => h x (List.mem_cons_of_mem _ hx))]
    rfl
theorem splitP_snoc {p : Int → Bool} {m : Int} {w : List Int} (hm : p m = true) (hw : ∀ x ∈ w, p x = false) : ∀ l : List Int, splitP p (l ++ m :: w) = splitP p l ++ [w] := by
  intro l
  induction l with
  | nil =>
    simp only [List.nil_append, splitP]
    rw [if_pos hm, splitP_no hw]
    rfl
  | cons c r ih =>
    simp only [List.cons_append, splitP, ih]
    split
    · rfl
    · cases hL : splitP p r with
      | nil => exact absurd hL (splitP_ne p r)
      | cons y L => rfl

/-- The text so far: of i words; what it is cut into. -/
structure Sofar (l : List ByteArray) (i : Nat) (t : ByteArray) (o : List ByteArray) : Prop where
  size : t.size ≤ 1201 * i
  none : i = 0 → bytesOf t = []
  cut : 0 < i → splitP isMk (bytesOf t) = (l.take i).map bytesOf
  ascii : ∀ x ∈ bytesOf t, x ≤ 127
  len : o.length = i
  out : o.map bytesOf = ((l.take i).map bytesOf).map (List.map low)
theorem take_rd {l : List ByteArray} {i : Nat} (h : i < l.length) : l.take (i + 1) = l.take i ++ [rdOf ByteArray.empty l i] := by
  rw [List.take_succ_eq_append_getElem h]
  simp [rdOf, List.getD_eq_getElem?_getD, h]
theorem Sofar.step {l : List ByteArray} {i : Nat} {t : ByteArray} {o : List ByteArray} (h : Sofar l i t o) (hi : i < l.length) (hz : (rdOf ByteArray.empty l i).size ≤ 1200) (hw : Word (bytesOf (rdOf ByteArray.empty l i)))
    {m : List Int} {t1 u : ByteArray} (hm0 : i = 0 → m = []) (hm1 : 0 < i → ∃ c, m = [c] ∧ isMk c = true) (ht : bytesOf t1 = bytesOf t ++ m ++ bytesOf (rdOf ByteArray.empty l i)) (hu : bytesOf u = (bytesOf (rdOf ByteArray.empty l i)).map low) :
    Sofar l (i + 1) t1 (o ++ [u]) := by
  have hml : m.length ≤ 1 := by
    rcases Nat.eq_zero_or_pos i with h0 | h0
    · rw [hm0 h0]; simp
    · obtain ⟨c, rfl, _⟩ := hm1 h0; simp
  refine ⟨?_, nofun, fun _ => ?_, ?_, by simp [h.len], ?_⟩
  · rw [B_size, ht, List.length_append, List.length_append, bytesOf_length, bytesOf_length]
    have := h.size
    omega
  · rw [ht, take_rd hi, List.map_append]
    rcases Nat.eq_zero_or_pos i with h0 | h0
    · rw [hm0 h0, h.none h0]
      subst h0
      simp only [List.nil_append, List.take_zero, List.map_nil, List.map_cons]
      exact splitP_no hw.no_mark
    · obtain ⟨c, rfl, hc⟩ := hm1 h0
      rw [List.append_assoc, List.singleton_append, splitP_snoc hc hw.no_mark, h.cut h0]
      simp
  · rw [ht]
    intro x hx
    rcases List.mem_append.1 hx with hx | hx
    · rcases List.mem_append.1 hx with hx | hx
      · exact h.ascii x hx
      · rcases Nat.eq_zero_or_pos i with h0 | h0
        · rw [hm0 h0] at hx; cases hx
        · obtain ⟨c, rfl, hc⟩ := hm1 h0
          rw [List.mem_singleton.1 hx]
          simp only [isMk, decide_eq_true_eq] at hc
          omega
    · exact (hw.ascii x hx).2
  · rw [take_rd hi, List.map_append, h.out, List.map_append, List.map_append]
    simp [hu]

theorem lows_ev (x1 : List Int) (t : ByteArray) (o : List ByteArray) (w : ByteArray) (l : List ByteArray) (n0 i : Int) (b : Bool) (hw : w.size ≤ 1200) (ha : ∀ x ∈ bytesOf w, 0 ≤ x ∧ x ≤ 127) (ho : o.length ≤ 1000)
    (next : ∀ u, bytesOf u = (bytesOf w).map low → Ev (fun k => laws_FnPyPILocalJoined.l0 k x1 t (o ++ [u]) l n0 (wrap64 (i + 1))) b) :
    ∀ (n j : Nat) (u : ByteArray), w.size - j = n → j ≤ w.size → bytesOf u = ((bytesOf w).take j).map low → Ev (fun k => laws_FnPyPILocalJoined.l1 k x1 t o w u j l n0 i) b := by
  intro n
  induction n with
  | zero =>
    intro j u hn hj hu
    have hj2 : j = w.size := by omega
    refine Ev.succ ?_
    simp only [laws_FnPyPILocalJoined.l1]
    refine Ev.neg (fun _ => by first | omega | assumption | nofun) ?_
    refine Ev.pos (fun _ => by first | omega | trivial | assumption) ?_
    refine next u ?_
    rw [hu, List.take_of_length_le (by rw [bytesOf_length]; omega)]
  | succ n ih =>
    intro j u hn hj hu
    have hl : j < (bytesOf w).length := by rw [bytesOf_length]; omega
    have hmem : (bytesOf w).getD j 0 ∈ bytesOf w := by
      rw [List.getD_eq_getElem?_getD, List.getElem?_eq_getElem hl]
      exact List.getElem_mem hl
    have hc := ha _ hmem
    have hus : u.size = j := by
      rw [B_size, hu, List.length_map, List.length_take]; omega
    have htk : (bytesOf w).take (j + 1) = (bytesOf w).take j ++ [(bytesOf w).getD j 0] := by
      rw [List.take_succ_eq_append_getElem hl]
      simp [List.getD_eq_getElem?_getD, hl]
    have go : ∀ d : Int, d = low ((bytesOf w).getD j 0) → (Utf8.encode d).size = 1 ∧ Ev (fun k => laws_FnPyPILocalJoined.l1 k x1 t o w (u ++ Utf8.encode d) (wrap64 (j + 1)) l n0 i) b := by
      intro d hd
      have hdr := low_le hc
      rw [← hd] at hdr
      have he := B_encode hdr.1 (show d < 128 by omega)
      refine ⟨by rw [B_size, he]; rfl, ?_⟩
      rw [w64 (by omega) (by omega)]
      refine ih (j + 1) _ (by omega) (by omega) ?_
      rw [B_append, he, hu, htk, List.map_append, hd]
      rfl
    refine Ev.succ ?_
    simp only [laws_FnPyPILocalJoined.l1, bt_nat]
    refine Ev.pos (fun _ => by first | omega | trivial | assumption) ?_
    refine Ev.pos (fun _ => by first | omega | trivial | assumption) ?_
    by_cases h1 : (bytesOf w).getD j 0 ≥ 65
    · by_cases h2 : (bytesOf w).getD j 0 ≤ 90
      · obtain ⟨h3, h4⟩ := go (((bytesOf w).getD j 0 + 32) % 256) (by unfold low; rw [if_pos ⟨h1, h2⟩]; omega)
        refine Ev.pos (fun _ => by first | omega | trivial | assumption) ?_
        refine Ev.pos (fun _ => by first | omega | trivial | assumption) ?_
        refine Ev.pos (fun _ => by first | omega | trivial | assumption) ?_
        exact h4
      · obtain ⟨h3, h4⟩ := go (wrap32 ((bytesOf w).getD j 0)) (by unfold low; rw [if_neg (by omega), w32 (by omega) (by omega)])
        refine Ev.pos (fun _ => by first | omega | trivial | assumption) ?_
        refine Ev.neg (fun _ => by first | omega | assumption | nofun) ?_
        refine Ev.pos (fun _ => by first | omega | trivial | assumption) ?_
        exact h4
    · obtain ⟨h3, h4⟩ := go (wrap32 ((bytesOf w).getD j 0)) (by unfold low; rw [if_neg (by omega), w32 (by omega) (by omega)])
      refine Ev.neg (fun _ => by first | omega | assumption | nofun) ?_
      refine Ev.pos (fun _ => by first | omega | trivial | assumption) ?_
      exact h4

theorem joined_from (x1 : List Int) (hx1 : x1.length ≤ 2147483647) (hx2 : ∀ x ∈ x1, 0 ≤ x ∧ x ≤ 255) (l : List ByteArray) (h0 : 0 < l.length) (h60 : l.length ≤ 60) (hz : ∀ w ∈ l, w.size ≤ 1200) :
    ∀ (n i : Nat) (t : ByteArray) (o : List ByteArray), l.length - i = n → i ≤ l.length → Sofar l i t o →
    Ev (fun k => laws_FnPyPILocalJoined.l0 k x1 t o l l.length i) true := by
  intro n
  induction n with
  | zero =>
    intro i t o hn hi hso
    have hi2 : i = l.length := by omega
    have hsz := hso.size
    obtain ⟨r, hr, hrb⟩ := local_ev t (by omega) hso.ascii
    rw [hso.cut (by omega), hi2, List.take_length] at hrb
    have hob := hso.out
    rw [hi2, List.take_length] at hob
    obtain rfl : r = o := map_B_inj (hrb.trans hob.symm)
    have hol := hso.len
    refine Ev.succ ?_
    simp only [laws_FnPyPILocalJoined.l0]
    refine Ev.neg (fun _ => by first | omega | assumption | nofun) ?_
    exact Ev.bind hr (Ev.bind (texts_ev r (by omega)) (Ev.now _))
  | succ n ih =>
    intro i t o hn hi hso
    have hil : i < l.length := by omega
    have hsz := hso.size
    have hwz := hz _ (rdOf_mem hil)
    have hol := hso.len
    have tr : ∀ (w : ByteArray), Ev (fun k => laws_FnPyPILocalJoined.j3 k x1 t o i w l l.length i true) true := by
      intro w
      refine Ev.succ ?_
      simp only [laws_FnPyPILocalJoined.j3]
      refine Ev.pos (fun _ => by first | omega | trivial | assumption) ?_
      exact Ev.now _
    have ok : Word (bytesOf (rdOf ByteArray.empty l i)) → Ev (fun k => laws_FnPyPILocalJoined.j3 k x1 t o i (rdOf ByteArray.empty l i) l l.length i false) true := by
      intro hw
      have fin : ∀ (m : List Int) (t1 : ByteArray), (i = 0 → m = []) → (0 < i → ∃ c, m = [c] ∧ isMk c = true) → bytesOf t1 = bytesOf t ++ m → Ev (fun k => laws_FnPyPILocalJoined.j4 k x1 t1 o (rdOf ByteArray.empty l i) l l.length i) true := by
        intro m t1 hm0 hm1 ht1
        have hml : m.length ≤ 1 := by
          rcases Nat.eq_zero_or_pos i with h0 | h0
          · rw [hm0 h0]; simp
          · obtain ⟨c, rfl, _⟩ := hm1 h0; simp
        have ht1s : t1.size ≤ t.size + 1 := by rw [B_size, ht1, List.length_append, bytesOf_length]; omega
        refine Ev.succ ?_
        simp only [laws_FnPyPILocalJoined.j4]
        refine Ev.pos (fun _ => by first | omega | trivial | assumption) ?_
        have hlow := lows_ev x1 (t1 ++ rdOf ByteArray.empty l i) o (rdOf ByteArray.empty l i) l l.length i true hwz hw.ascii (by omega) (fun u hu => by
          rw [w64 (by omega) (by omega)]
          exact ih (i + 1) _ _ (by omega) (by omega) (hso.step hil hwz hw hm0 hm1 (by rw [B_append, ht1]) hu)) _ 0 (⟨#[]⟩ : ByteArray) rfl (Nat.zero_le _) rfl
        exact hlow
      refine Ev.succ ?_
      simp only [laws_FnPyPILocalJoined.j3]
      refine Ev.neg (fun _ => by first | omega | assumption | nofun) ?_
      by_cases hi0 : i = 0
      · refine Ev.neg (fun _ => by omega) ?_
        exact fin [] t (fun _ => rfl) (fun h => by omega) (by simp)
      · refine Ev.pos (fun _ => by omega) ?_
        by_cases him : i < x1.length
        · refine Ev.pos (fun _ => by omega) ?_
          have hm : rd x1 i ∈ x1 := by
            simp only [rd, Int.toNat_natCast, List.getD_eq_getElem?_getD, List.getElem?_eq_getElem him, Option.getD_some]
            exact List.getElem_mem him
          have hmr := hx2 _ hm
          have ht : Int.tmod (rd x1 i) 3 = (rd x1 i) % 3 := Int.tmod_eq_emod_of_nonneg hmr.1
          rw [ht]
          refine Ev.bind0 rfl ?_
          have he : ∀ d : Int, d = 0 ∨ d = 1 ∨ d = 2 → ∃ c, bytesOf (rdOf ByteArray.empty [(⟨#[46]⟩ : ByteArray), ⟨#[95]⟩, ⟨#[45]⟩] d) = [c] ∧ isMk c = true := by
            intro d hd
            rcases hd with rfl | rfl | rfl
            · exact ⟨46, rfl, rfl⟩
            · exact ⟨95, rfl, rfl⟩
            · exact ⟨45, rfl, rfl⟩
          obtain ⟨c, hc1, hc2⟩ := he (rd x1 i % 3) (by omega)
          have hs1 : (rdOf ByteArray.empty [(⟨#[46]⟩ : ByteArray), ⟨#[95]⟩, ⟨#[45]⟩] (rd x1 i % 3)).size = 1 := by rw [B_size, hc1]; rfl
          refine Ev.pos (fun _ => by omega) ?_
          refine Ev.pos (fun _ => by omega) ?_
          refine Ev.pos (fun _ => by simp only [List.length_cons, List.length_nil]; omega) ?_
          refine Ev.pos (fun _ => by omega) ?_
          exact fin [c] _ (fun h => absurd h hi0) (fun _ => ⟨c, rfl, hc2⟩) (by rw [B_append, hc1])
        · refine Ev.neg (fun _ => by omega) ?_
          refine Ev.pos (fun _ => by omega) ?_
          exact fin [46] _ (fun h => absurd h hi0) (fun _ => ⟨46, rfl, rfl⟩) (by rw [B_append]; rfl)
    have hwd := words_ev (rdOf ByteArray.empty l i) (by omega)
    have hdd := digits_ev (rdOf ByteArray.empty l i) (by omega)
    refine Ev.succ ?_
    simp only [laws_FnPyPILocalJoined.l0]
    refine Ev.pos (fun _ => by first | omega | trivial | assumption) ?_
    refine Ev.pos (fun _ => by first | omega | trivial | assumption) ?_
    refine Ev.pos (fun _ => by first | omega | trivial | assumption) ?_
    refine Ev.bind hwd ?_
    by_cases hn0 : bytesOf (rdOf ByteArray.empty l i) = []
    · refine Ev.neg (fun _ => by simp [hn0]) ?_
      refine Ev.bind hdd ?_
      have e : (!((bytesOf (rdOf ByteArray.empty l i)).all isD && decide (bytesOf (rdOf ByteArray.empty l i) ≠ []))) = true := by simp [hn0]
      rw [e]
      exact tr _
    · by_cases hA : (bytesOf (rdOf ByteArray.empty l i)).all isW = true
      · refine Ev.pos (fun _ => by rw [Bool.and_eq_true]; exact ⟨hA, decide_eq_true hn0⟩) ?_
        exact ok ⟨.inl (List.all_eq_true.1 hA), hn0⟩
      · refine Ev.neg (fun _ => by rw [Bool.eq_false_iff.2 hA]; simp) ?_
        refine Ev.bind hdd ?_
        by_cases hD : (bytesOf (rdOf ByteArray.empty l i)).all isD = true
        · have e : (!((bytesOf (rdOf ByteArray.empty l i)).all isD && decide (bytesOf (rdOf ByteArray.empty l i) ≠ []))) = false := by
            rw [hD, decide_eq_true hn0]; rfl
          rw [e]
          exact ok ⟨.inr (List.all_eq_true.1 hD), hn0⟩
        · have e : (!((bytesOf (rdOf ByteArray.empty l i)).all isD && decide (bytesOf (rdOf ByteArray.empty l i) ≠ []))) = true := by
            rw [Bool.eq_false_iff.2 hD]; rfl
          rw [e]
          exact tr _

theorem u8_range {x : Int} (h : (Lit.int .u8 x).wf = true) : 0 ≤ x ∧ x ≤ 255 := by
  simp [Lit.wf, IntKind.min, IntKind.max, IntKind.signed, IntKind.bits] at h
  omega
theorem FnPyPILocalJoined : laws_FnPyPILocalJoined.Pure := by
  intro l x1 hl hx1 _ hwf
  refine Ev.rounds (r := true) (g := fun k => laws_FnPyPILocalJoined.f k l x1) ?_
  simp only [laws_FnPyPILocalJoined.f]
  have yes : Ev (fun k => laws_FnPyPILocalJoined.j0 k l x1 true) true := by
    refine Ev.succ ?_
    simp only [laws_FnPyPILocalJoined.j0]
    refine Ev.pos (fun _ => by first | omega | trivial | assumption) ?_
    exact Ev.now _
  have yes1 : Ev (fun k => laws_FnPyPILocalJoined.j1 k l x1 true) true := by
    refine Ev.succ ?_
    simp only [laws_FnPyPILocalJoined.j1]
    refine Ev.pos (fun _ => by first | omega | trivial | assumption) ?_
    exact Ev.now _
  obtain ⟨b, hb, hbl⟩ := fits_ev l
  refine Ev.bind hb ?_
  cases b
  · refine Ev.neg (fun _ => by first | omega | assumption | nofun) ?_
    exact yes
  · refine Ev.pos (fun _ => by first | omega | trivial | assumption) ?_
    have hl2 := hbl rfl
    by_cases hm : (x1.length : Int) > 2147483647
    · rw [decide_eq_true hm]
      exact yes
    · rw [decide_eq_false hm]
      refine Ev.succ ?_
      simp only [laws_FnPyPILocalJoined.j0]
      refine Ev.neg (fun _ => by first | omega | assumption | nofun) ?_
      by_cases h0 : (l.length : Int) = 0
      · refine Ev.pos (fun _ => by first | omega | trivial | assumption) ?_
        exact yes1
      · refine Ev.neg (fun _ => by first | omega | assumption | nofun) ?_
        refine Ev.bind (short_ev l hl2) ?_
        have hx2 : ∀ x ∈ x1, 0 ≤ x ∧ x ≤ 255 := fun x hx => u8_range (hwf x hx)
        by_cases hz : ∀ w ∈ l, w.size ≤ 1200
        · by_cases h60 : l.length ≤ 60
          · rw [decide_eq_true hz, decide_eq_true h60]
            refine Ev.succ ?_
            simp only [laws_FnPyPILocalJoined.j1, Bool.and_true, Bool.not_true]
            refine Ev.neg (fun _ => by first | omega | assumption | nofun) ?_
            exact joined_from x1 (by omega) hx2 l (by omega) h60 hz _ 0 (⟨#[]⟩ : ByteArray) [] rfl (Nat.zero_le _) ⟨Nat.zero_le _, fun _ => rfl, fun h => absurd h (Nat.lt_irrefl _), (by intro x hx; cases hx), rfl, rfl⟩
          · rw [decide_eq_false h60, Bool.and_false]
            exact yes1
        · rw [decide_eq_false hz, Bool.false_and]
          exact yes1
end Go.Proofs.YteffbgjfhbgooaaDoor.VR
