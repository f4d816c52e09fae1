/- The plain laws of Packagist's canonical form and components: what the printed functions answer, told of lists of numbers. -/
import Derived.Test.YtdjkekgfeadmoaaGreatDoorQx
import Derived.Test.YtdjkekgfeadmoaaGreatDoorB
namespace Go.Proofs.YtdjkekgfeadmoaaGreatDoor.V
open Go.RowKit Go.Proofs.YtdjkekgfeadmoaaGreatDoor.Q Go.Proofs.YtdjkekgfeadmoaaGreatDoorH Go.Proofs.YtdjkekgfeadmoaaGreatDoorB Go.Proofs.YtdjkekgfeadmoaaGreatDoorW.PrintWords Go.Proofs.YtdjkekgfeadmoaaGreatDoorW.PrintLast
set_option linter.unusedVariables false
set_option linter.unusedSimpArgs false

theorem short_one (s : ByteArray) : Ev (fun k => laws_short.f k [s]) (decide (s.size ≤ 1200)) := by
  refine Ev.succ ?_
  simp only [laws_short.f, laws_short.l0, List.length_cons, List.length_nil]
  refine Ev.pos (fun _ => by omega) ?_
  refine Ev.pos (fun _ => by omega) ?_
  refine Ev.pos (fun _ => by omega) ?_
  have e : rdOf ByteArray.empty [s] 0 = s := rfl
  rw [e]
  by_cases h : s.size ≤ 1200
  · refine Ev.neg (fun _ => by omega) ?_
    refine Ev.succ ?_
    simp only [laws_short.l0]
    refine Ev.neg (fun _ => by unfold wrap64; omega) ?_
    exact Ev.eq (Ev.now _) (by simp [h])
  · refine Ev.pos (fun _ => by omega) ?_
    exact Ev.eq (Ev.now _) (by simp [h])

theorem ascii_from (s : ByteArray) (hs : s.size ≤ 2000000000) : ∀ (n i : Nat), s.size - i = n → i ≤ s.size →
    Ev (fun k => spec_Ascii.l0 k s i) (decide (∀ x ∈ (bytesOf s).drop i, x ≤ 127)) := by
  intro n
  induction n with
  | zero =>
    intro i hn hi
    refine Ev.succ ?_
    simp only [spec_Ascii.l0]
    refine Ev.neg (fun _ => by omega) ?_
    refine Ev.eq (Ev.now _) ?_
    rw [List.drop_of_length_le (by rw [bytesOf_length]; omega)]
    simp
  | succ n ih =>
    intro i hn hi
    have hl : i < (bytesOf s).length := by rw [bytesOf_length]; omega
    refine Ev.succ ?_
    simp only [spec_Ascii.l0]
    refine Ev.pos (fun _ => by omega) ?_
    refine Ev.pos (fun _ => by omega) ?_
    rw [bt_nat, drop_get _ _ hl]
    by_cases h : (bytesOf s).getD i 0 > 127
    · refine Ev.pos (fun _ => h) ?_
      refine Ev.eq (Ev.now _) ?_
      symm
      simp only [decide_eq_false_iff_not]
      intro hx
      have := hx _ List.mem_cons_self
      omega
    · refine Ev.neg (fun _ => h) ?_
      rw [w64 (by omega) (by omega)]
      refine Ev.eq (ih (i + 1) (by omega) (by omega)) ?_
      rw [decide_eq_decide]
      simp only [List.mem_cons, forall_eq_or_imp]
      exact ⟨fun hx => ⟨by omega, hx⟩, fun hx => hx.2⟩
theorem ascii_ev (s : ByteArray) (hs : s.size ≤ 2000000000) : Ev (fun k => spec_Ascii.f k s) (decide (∀ x ∈ bytesOf s, x ≤ 127)) := by
  have h := ascii_from s hs _ 0 rfl (Nat.zero_le _)
  simpa [spec_Ascii.f] using h

theorem zzDigit_eq (c : Int) : semantic_zzDigit.f c = some (isD c) := by
  unfold semantic_zzDigit.f isD
  by_cases h : c ≥ 48
  · rw [if_pos h]; simp; omega
  · rw [if_neg h]; simp; omega
theorem isDigit_eq (c : Int) : spec_isDigit.f c = some (isD c) := by
  unfold spec_isDigit.f isD
  by_cases h : c ≥ 48
  · rw [if_pos h]; simp; omega
  · rw [if_neg h]; simp; omega

/-! ### Lists of bytes below 128 -/
def Asc (l : List Int) : Prop := ∀ x ∈ l, 0 ≤ x ∧ x ≤ 127
theorem Asc.str {l : List Int} (h : Asc l) : bytesOf (strOfNums l) = l := B_str (fun x hx => ⟨(h x hx).1, by have := (h x hx).2; omega⟩)
theorem Asc.get {l : List Int} (h : Asc l) {i : Nat} (hi : i < l.length) : 0 ≤ l.getD i 0 ∧ l.getD i 0 ≤ 127 := by
  refine h _ ?_
  rw [List.getD_eq_getElem?_getD, List.getElem?_eq_getElem hi]
  exact List.getElem_mem hi
theorem Asc.of {s : ByteArray} (h : ∀ x ∈ bytesOf s, x ≤ 127) : Asc (bytesOf s) := fun x hx => ⟨(B_range s x hx).1, h x hx⟩
theorem Asc.drop {l : List Int} (h : Asc l) (i : Nat) : Asc (l.drop i) := fun x hx => h x (List.mem_of_mem_drop hx)
theorem Asc.append {l m : List Int} (h : Asc l) (k : Asc m) : Asc (l ++ m) := fun x hx => (List.mem_append.1 hx).elim (h x) (k x)
theorem Asc.cons {c : Int} {l : List Int} (h : Asc (c :: l)) : (0 ≤ c ∧ c ≤ 127) ∧ Asc l := ⟨h c List.mem_cons_self, fun x hx => h x (List.mem_cons_of_mem _ hx)⟩
theorem Asc.mk_cons {c : Int} {l : List Int} (h : 0 ≤ c ∧ c ≤ 127) (k : Asc l) : Asc (c :: l) := fun x hx => (List.mem_cons.1 hx).elim (fun e => e ▸ h) (k x)

/-! ### The canonical form -/
def strip (c : Int) (l : List Int) : List Int := if l.getD 0 0 = c then l.drop 1 else l
def part (b : Bool) : List Int → List Int
  | [] => []
  | [x] => [x]
  | x :: y :: r => if x ≠ 46 ∧ isD x = b ∧ y ≠ 46 ∧ isD y ≠ b then x :: 46 :: y :: part b r else x :: part b (y :: r)
def insT (b : Bool) (x : Int) : List Int → List Int
  | [] => []
  | y :: r => if x ≠ 46 ∧ isD x = b ∧ y ≠ 46 ∧ isD y ≠ b then 46 :: y :: insT b y r else y :: insT b y r
def dotsT (x : Int) : List Int → List Int
  | [] => []
  | y :: r => if y ≠ 46 ∧ x ≠ 46 ∧ isD y ≠ isD x then 46 :: y :: dotsT y r else y :: dotsT y r
def dots : List Int → List Int
  | [] => []
  | x :: r => x :: dotsT x r
theorem part_ins (b : Bool) : ∀ (n : Nat) (x : Int) (l : List Int), l.length ≤ n → part b (x :: l) = x :: insT b x l := by
  intro n
  induction n using Nat.strongRecOn with
  | _ n ih =>
    intro x l hl
    cases l with
    | nil => rfl
    | cons y r =>
      simp only [List.length_cons] at hl
      simp only [part, insT]
      by_cases h : x ≠ 46 ∧ isD x = b ∧ y ≠ 46 ∧ isD y ≠ b
      · rw [if_pos h, if_pos h]
        cases r with
        | nil => rfl
        | cons z r' =>
          simp only [List.length_cons] at hl
          rw [ih (n - 1) (by omega) z r' (by omega)]
          simp only [insT]
          rw [if_neg (fun k => h.2.2.2 k.2.1)]
      · rw [if_neg h, if_neg h, ih (n - 1) (by omega) y r (by omega)]
theorem ins_dots : ∀ (l : List Int) (x : Int), insT true x (insT false x l) = dotsT x l := by
  intro l
  induction l with
  | nil => intro x; rfl
  | cons y r ih =>
    intro x
    simp only [insT, dotsT]
    by_cases h : x ≠ 46 ∧ isD x = false ∧ y ≠ 46 ∧ isD y ≠ false
    · rw [if_pos h]
      simp only [insT]
      rw [if_neg (by rintro ⟨_, _, h, _⟩; exact h rfl), if_neg (by rintro ⟨h, _⟩; exact h rfl), if_pos (by
        refine ⟨h.2.2.1, h.1, ?_⟩
        rw [h.2.1]; exact h.2.2.2), ih]
    · rw [if_neg h]
      simp only [insT]
      by_cases k : x ≠ 46 ∧ isD x = true ∧ y ≠ 46 ∧ isD y ≠ true
      · rw [if_pos k, if_pos (by
          refine ⟨k.2.2.1, k.1, ?_⟩
          rw [k.2.1]; exact k.2.2.2), ih]
      · rw [if_neg k, if_neg ?_, ih]
        rintro ⟨h1, h2, h3⟩
        cases hx : isD x
        · exact h ⟨h2, hx, h1, fun e => h3 (e.trans hx.symm)⟩
        · exact k ⟨h2, hx, h1, fun e => h3 (e.trans hx.symm)⟩
theorem part_part (l : List Int) : part true (part false l) = dots l := by
  cases l with
  | nil => rfl
  | cons x r =>
    rw [part_ins false _ x r (Nat.le_refl _), part_ins true _ x _ (Nat.le_refl _), ins_dots]
    rfl
theorem dotsT_idem : ∀ (l : List Int) (x : Int), dotsT x (dotsT x l) = dotsT x l := by
  intro l
  induction l with
  | nil => intro x; rfl
  | cons y r ih =>
    intro x
    simp only [dotsT]
    by_cases h : y ≠ 46 ∧ x ≠ 46 ∧ isD y ≠ isD x
    · rw [if_pos h]
      simp only [dotsT]
      rw [if_neg (by rintro ⟨h, _⟩; exact h rfl), if_neg (by rintro ⟨_, h, _⟩; exact h rfl), ih]
    · rw [if_neg h]
      simp only [dotsT]
      rw [if_neg h, ih]
theorem dots_idem (l : List Int) : dots (dots l) = dots l := by
  cases l with
  | nil => rfl
  | cons x r =>
    simp only [dots]
    rw [dotsT_idem]
theorem dotsT_asc : ∀ (l : List Int) (x : Int), Asc l → Asc (dotsT x l) := by
  intro l
  induction l with
  | nil => intro x h; exact h
  | cons y r ih =>
    intro x h
    obtain ⟨h1, h2⟩ := h.cons
    simp only [dotsT]
    split
    · exact Asc.mk_cons (by omega) (Asc.mk_cons h1 (ih y h2))
    · exact Asc.mk_cons h1 (ih y h2)
theorem dots_asc {l : List Int} (h : Asc l) : Asc (dots l) := by
  cases l with
  | nil => exact h
  | cons x r => exact Asc.mk_cons h.cons.1 (dotsT_asc r x h.cons.2)
theorem insT_asc (b : Bool) : ∀ (l : List Int) (x : Int), Asc l → Asc (insT b x l) := by
  intro l
  induction l with
  | nil => intro x h; exact h
  | cons y r ih =>
    intro x h
    obtain ⟨h1, h2⟩ := h.cons
    simp only [insT]
    split
    · exact Asc.mk_cons (by omega) (Asc.mk_cons h1 (ih y h2))
    · exact Asc.mk_cons h1 (ih y h2)
theorem part_asc {b : Bool} {l : List Int} (h : Asc l) : Asc (part b l) := by
  cases l with
  | nil => exact h
  | cons x r =>
    rw [part_ins b _ x r (Nat.le_refl _)]
    exact Asc.mk_cons h.cons.1 (insT_asc b r x h.cons.2)
theorem insT_length (b : Bool) : ∀ (l : List Int) (x : Int), (insT b x l).length ≤ 2 * l.length := by
  intro l
  induction l with
  | nil => intro x; exact Nat.le_refl _
  | cons y r ih =>
    intro x
    have := ih y
    simp only [insT]
    split <;> simp only [List.length_cons] <;> omega
theorem part_length (b : Bool) (l : List Int) : (part b l).length ≤ 2 * l.length := by
  cases l with
  | nil => exact Nat.le_refl _
  | cons x r =>
    rw [part_ins b _ x r (Nat.le_refl _)]
    have := insT_length b r x
    simp only [List.length_cons]
    omega
theorem dotsT_pt : ∀ (l : List Int) (x : Int), (∀ c ∈ l, ptI c = c) → ∀ c ∈ dotsT x l, ptI c = c := by
  intro l
  induction l with
  | nil => intro x h c hc; cases hc
  | cons y r ih =>
    intro x h
    have h1 := h y List.mem_cons_self
    have h2 := ih y (fun c hc => h c (List.mem_cons_of_mem _ hc))
    simp only [dotsT]
    split
    · intro c hc
      rcases List.mem_cons.1 hc with rfl | hc
      · rfl
      · rcases List.mem_cons.1 hc with rfl | hc
        · exact h1
        · exact h2 c hc
    · intro c hc
      rcases List.mem_cons.1 hc with rfl | hc
      · exact h1
      · exact h2 c hc
theorem ptI_idem (c : Int) : ptI (ptI c) = ptI c := by
  unfold ptI
  by_cases h : c = 45 ∨ c = 95 ∨ c = 43
  · rw [if_pos h]; decide
  · rw [if_neg h, if_neg h]
def canon (l : List Int) : List Int := dots ((strip 86 (strip 118 l)).map ptI)
theorem map_ptI_id {l : List Int} (h : ∀ c ∈ l, ptI c = c) : l.map ptI = l := by
  induction l with
  | nil => rfl
  | cons x r ih => rw [List.map_cons, h x List.mem_cons_self, ih (fun c hc => h c (List.mem_cons_of_mem _ hc))]
theorem canon_pt (l : List Int) : ∀ c ∈ dots (l.map ptI), ptI c = c := by
  cases l with
  | nil => intro c hc; cases hc
  | cons x r =>
    intro c hc
    rcases List.mem_cons.1 hc with rfl | hc
    · exact ptI_idem x
    · refine dotsT_pt _ _ (fun c hc => ?_) c hc
      obtain ⟨d, _, rfl⟩ := List.mem_map.1 hc
      exact ptI_idem d
theorem strip_ne {c : Int} {l : List Int} (h : l.getD 0 0 ≠ c) : strip c l = l := by unfold strip; rw [if_neg h]
theorem strip_cons (c : Int) (l : List Int) : strip c (c :: l) = l := by unfold strip; rw [if_pos (show (c :: l).getD 0 0 = c from rfl)]; rfl
theorem strip_asc {c : Int} {l : List Int} (h : Asc l) : Asc (strip c l) := by
  unfold strip
  split
  · exact h.drop 1
  · exact h
theorem strip_length (c : Int) (l : List Int) : (strip c l).length ≤ l.length := by
  unfold strip
  split
  · rw [List.length_drop]; omega
  · exact Nat.le_refl _
theorem map_pt_asc {l : List Int} (h : Asc l) : Asc (l.map ptI) := by
  intro x hx
  obtain ⟨d, hd, rfl⟩ := List.mem_map.1 hx
  have := h d hd
  unfold ptI
  split <;> omega
theorem canon_asc {l : List Int} (h : Asc l) : Asc (canon l) := dots_asc (map_pt_asc (strip_asc (strip_asc h)))
theorem dots_head (l : List Int) : (dots l).getD 0 0 = l.getD 0 0 := by cases l <;> rfl
/-- A canonical form that begins with neither v nor V is its own. -/
theorem canon_fix (l : List Int) (h1 : (canon l).getD 0 0 ≠ 118) (h2 : (canon l).getD 0 0 ≠ 86) : canon (canon l) = canon l := by
  have e : strip 86 (strip 118 (canon l)) = canon l := by rw [strip_ne h1, strip_ne h2]
  have : canon (canon l) = dots ((canon l).map ptI) := by
    show dots ((strip 86 (strip 118 (canon l))).map ptI) = _
    rw [e]
  rw [this]
  unfold canon
  rw [map_ptI_id (canon_pt _), dots_idem]

end Go.Proofs.YtdjkekgfeadmoaaGreatDoor.V
