/- The plain laws of FnPyPIParts and FnPyPILegacyEnd: the parts of a text that PEP 440 does not know, folded into their list. -/
import Derived.Test.YteffbgjfhbgooaaV
namespace Go.Proofs.Yteffbgjfhbgooaa.V
open Go.RowKit Go.Proofs.Yteffbgjfhbgooaa.Q Go.Proofs.YteffbgjfhbgooaaH Go.Proofs.YteffbgjfhbgooaaB Go.Proofs.YteffbgjfhbgooaaW.PrintWords Go.Proofs.YteffbgjfhbgooaaW.PrintLast
set_option linter.unusedVariables false
set_option linter.unusedSimpArgs false

def fm : List Int := [42, 102, 105, 110, 97, 108, 45]
def zz : List Int := [48, 48, 48, 48, 48, 48, 48, 48]
def fin : List Int := [42, 102, 105, 110, 97, 108]
def pop (x : List Int) : Nat → List (List Int) → List (List Int)
  | 0, l => l
  | n + 1, l => if l.getD (l.length - 1) [] = x then pop x n (l.take (l.length - 1)) else l
theorem pop_length (x : List Int) : ∀ (n : Nat) (l : List (List Int)), (pop x n l).length ≤ l.length := by
  intro n
  induction n with
  | zero => intro l; exact Nat.le_refl _
  | succ n ih =>
    intro l
    simp only [pop]
    split
    · exact Nat.le_trans (ih _) (by rw [List.length_take]; omega)
    · exact Nat.le_refl _
theorem pop_mem (x : List Int) : ∀ (n : Nat) (l : List (List Int)), ∀ t ∈ pop x n l, t ∈ l := by
  intro n
  induction n with
  | zero => intro l t ht; exact ht
  | succ n ih =>
    intro l t ht
    simp only [pop] at ht
    split at ht
    · exact List.mem_of_mem_take (ih _ t ht)
    · exact ht
def step (out : List (List Int)) (t : List Int) : List (List Int) :=
  if (norm t).getD 0 0 = 42 then
    pop zz (if lt_ (norm t) fin = true then pop fm out.length out else out).length (if lt_ (norm t) fin = true then pop fm out.length out else out) ++ [norm t]
  else out ++ [norm t]
theorem step_length (out : List (List Int)) (t : List Int) : (step out t).length ≤ out.length + 1 := by
  unfold step
  have h1 := pop_length fm out.length out
  split
  · rw [List.length_append]
    have h2 := pop_length zz (if lt_ (norm t) fin = true then pop fm out.length out else out).length (if lt_ (norm t) fin = true then pop fm out.length out else out)
    have h3 : (if lt_ (norm t) fin = true then pop fm out.length out else out).length ≤ out.length := by split <;> omega
    simp only [List.length_cons, List.length_nil]
    omega
  · simp

/-! ### The code's loops -/
theorem impl_l2 (x5 : ByteArray) (x11 : List ByteArray) (x12 x13 : Int) (h13 : 0 ≤ x13) (hb : x13 ≤ 2000000000) : ∀ (n : Nat) (x2 : List ByteArray), x2.length = n → n ≤ 2000000000 →
    ∃ y, y.map bytesOf = pop zz n (x2.map bytesOf) ∧ ∀ r, Ev (fun k => semantic_parsePyPIVersionParts.l0 k (y ++ [x5]) x11 x12 (x13 + 1)) r → Ev (fun k => semantic_parsePyPIVersionParts.l2 k x2 x5 x11 x12 x13) r := by
  intro n
  induction n with
  | zero =>
    intro x2 h2 hn
    refine ⟨x2, rfl, fun r hr => Ev.succ ?_⟩
    simp only [semantic_parsePyPIVersionParts.l2]
    rw [w64 (i := x13 + 1) (by omega) (by omega)]
    (repeat (first | refine Ev.pos (fun _ => by first | omega | trivial | assumption) ?_ | refine Ev.neg (fun _ => by first | omega | assumption | nofun) ?_))
    exact hr
  | succ n ih =>
    intro x2 h2 hn
    have hw : wrap64 ((x2.length : Int) - 1) = (n : Nat) := by rw [w64 (by omega) (by omega)]; omega
    have hlen : (x2.map bytesOf).length = n + 1 := by rw [List.length_map]; exact h2
    by_cases hz : (x2.map bytesOf).getD n [] = zz
    · obtain ⟨y, hy, hc⟩ := ih (x2.take n) (by rw [List.length_take]; omega) (by omega)
      refine ⟨y, ?_, fun r hr => Ev.succ ?_⟩
      · simp only [pop]
        rw [hlen, Nat.add_sub_cancel, if_pos hz, hy, List.map_take]
      · simp only [semantic_parsePyPIVersionParts.l2]
        rw [hw]
        have ht : (rdOf ByteArray.empty x2 (n : Nat)).toList = ([48, 48, 48, 48, 48, 48, 48, 48] : List UInt8) := (toList_lit _ _).2 (by rw [rdOf_B]; exact hz)
        refine Ev.pos (fun _ => by first | omega | trivial | assumption) ?_
        refine Ev.pos (fun _ => by first | omega | trivial | assumption) ?_
        refine Ev.pos (fun _ => by first | omega | trivial | assumption) ?_
        refine Ev.pos (fun _ => by first | omega | trivial | assumption) ?_
        refine Ev.pos (fun _ => by first | omega | trivial | assumption) ?_
        exact hc r hr
    · refine ⟨x2, ?_, fun r hr => Ev.succ ?_⟩
      · simp only [pop]
        rw [hlen, Nat.add_sub_cancel, if_neg hz]
      · simp only [semantic_parsePyPIVersionParts.l2]
        rw [hw, w64 (i := x13 + 1) (by omega) (by omega)]
        have ht : ¬ (rdOf ByteArray.empty x2 (n : Nat)).toList = ([48, 48, 48, 48, 48, 48, 48, 48] : List UInt8) := fun h => hz (by rw [← rdOf_B]; exact (toList_lit _ _).1 h)
        refine Ev.pos (fun _ => by first | omega | trivial | assumption) ?_
        refine Ev.pos (fun _ => by first | omega | trivial | assumption) ?_
        refine Ev.pos (fun _ => by first | omega | trivial | assumption) ?_
        refine Ev.neg (fun _ => by first | omega | assumption | nofun) ?_
        refine Ev.pos (fun _ => by first | omega | trivial | assumption) ?_
        exact hr
theorem impl_l1 (x5 : ByteArray) (x11 : List ByteArray) (x12 x13 : Int) (h13 : 0 ≤ x13) (hb : x13 ≤ 2000000000) : ∀ (n : Nat) (x2 : List ByteArray), x2.length = n → n ≤ 2000000000 →
    ∃ y, y.map bytesOf = pop fm n (x2.map bytesOf) ∧ ∀ r, Ev (fun k => semantic_parsePyPIVersionParts.j3 k y x5 x11 x12 x13) r → Ev (fun k => semantic_parsePyPIVersionParts.l1 k x2 x5 x11 x12 x13) r := by
  intro n
  induction n with
  | zero =>
    intro x2 h2 hn
    refine ⟨x2, rfl, fun r hr => Ev.succ ?_⟩
    simp only [semantic_parsePyPIVersionParts.l1]
    (repeat (first | refine Ev.pos (fun _ => by first | omega | trivial | assumption) ?_ | refine Ev.neg (fun _ => by first | omega | assumption | nofun) ?_))
    exact hr
  | succ n ih =>
    intro x2 h2 hn
    have hw : wrap64 ((x2.length : Int) - 1) = (n : Nat) := by rw [w64 (by omega) (by omega)]; omega
    have hlen : (x2.map bytesOf).length = n + 1 := by rw [List.length_map]; exact h2
    by_cases hz : (x2.map bytesOf).getD n [] = fm
    · obtain ⟨y, hy, hc⟩ := ih (x2.take n) (by rw [List.length_take]; omega) (by omega)
      refine ⟨y, ?_, fun r hr => Ev.succ ?_⟩
      · simp only [pop]
        rw [hlen, Nat.add_sub_cancel, if_pos hz, hy, List.map_take]
      · simp only [semantic_parsePyPIVersionParts.l1]
        rw [hw]
        have ht : (rdOf ByteArray.empty x2 (n : Nat)).toList = ([42, 102, 105, 110, 97, 108, 45] : List UInt8) := (toList_lit _ _).2 (by rw [rdOf_B]; exact hz)
        refine Ev.pos (fun _ => by first | omega | trivial | assumption) ?_
        refine Ev.pos (fun _ => by first | omega | trivial | assumption) ?_
        refine Ev.pos (fun _ => by first | omega | trivial | assumption) ?_
        refine Ev.pos (fun _ => by first | omega | trivial | assumption) ?_
        refine Ev.pos (fun _ => by first | omega | trivial | assumption) ?_
        exact hc r hr
    · refine ⟨x2, ?_, fun r hr => Ev.succ ?_⟩
      · simp only [pop]
        rw [hlen, Nat.add_sub_cancel, if_neg hz]
      · simp only [semantic_parsePyPIVersionParts.l1]
        rw [hw]
        have ht : ¬ (rdOf ByteArray.empty x2 (n : Nat)).toList = ([42, 102, 105, 110, 97, 108, 45] : List UInt8) := fun h => hz (by rw [← rdOf_B]; exact (toList_lit _ _).1 h)
        refine Ev.pos (fun _ => by first | omega | trivial | assumption) ?_
        refine Ev.pos (fun _ => by first | omega | trivial | assumption) ?_
        refine Ev.pos (fun _ => by first | omega | trivial | assumption) ?_
        refine Ev.neg (fun _ => by first | omega | assumption | nofun) ?_
        exact hr
theorem hasPrefix_star (x : ByteArray) (hx : x.size ≤ 2000000000) (h0 : bytesOf x ≠ []) : strings_HasPrefix.f x (⟨#[42]⟩ : ByteArray) = some (decide ((bytesOf x).getD 0 0 = 42)) := by
  have hpos : 0 < (bytesOf x).length := List.length_pos_iff.2 h0
  have hpos2 := hpos
  rw [bytesOf_length] at hpos2
  have e1 : ((⟨#[42]⟩ : ByteArray).size : Int) = 1 := rfl
  unfold strings_HasPrefix.f stringslite_HasPrefix.f
  rw [e1, if_pos (by omega), if_pos (by omega), if_pos (by omega)]
  simp only [Option.bind_some, Option.some.injEq]
  rw [Bool.eq_iff_iff, beq_iff_eq, toList_eq_iff, decide_eq_true_iff, B_take]
  have : bytesOf (⟨#[42]⟩ : ByteArray) = [42] := rfl
  rw [this]
  obtain ⟨c, l, hcl⟩ := List.exists_cons_of_ne_nil h0
  rw [hcl]
  simp

theorem norm_ne (t : List Int) (h : t ≠ []) : norm t ≠ [] := by
  unfold norm
  have hp : ∀ n (l : List Int), l ≠ [] → pad n l ≠ [] := by
    intro n
    induction n with
    | zero => intro l hl; exact hl
    | succ n ih => intro l hl; exact ih _ (by simp)
  split
  · simp
  · split
    · simp
    · split
      · simp
      · split
        · exact hp _ _ h
        · simp
theorem pad_length : ∀ (n : Nat) (l : List Int), (pad n l).length = n + l.length := by
  intro n
  induction n with
  | zero => intro l; simp [pad]
  | succ n ih => intro l; simp only [pad]; rw [ih]; simp; omega
theorem norm_length (t : List Int) : (norm t).length ≤ t.length + 8 := by
  unfold norm
  split
  · simp
  · split
    · simp
    · split
      · simp
      · split
        · rw [pad_length]; omega
        · simp

theorem impl_step (x11 : List ByteArray) (i : Nat) (hi : i ≤ 1000000000) (hlt : i < x11.length) (x2 : List ByteArray) (h2 : x2.length ≤ 1000000000) (ht : Tok ((x11.map bytesOf).getD i [])) (hs : ((x11.map bytesOf).getD i []).length ≤ 1000000000) :
    ∃ y, y.map bytesOf = (if (x11.map bytesOf).getD i [] = [46] then x2.map bytesOf else step (x2.map bytesOf) ((x11.map bytesOf).getD i [])) ∧
      ∀ r, Ev (fun k => semantic_parsePyPIVersionParts.l0 k y x11 x11.length ((i + 1 : Nat) : Int)) r → Ev (fun k => semantic_parsePyPIVersionParts.l0 k x2 x11 x11.length i) r := by
  have hrd := rdOf_B x11 i
  generalize hx : rdOf ByteArray.empty x11 (i : Nat) = x at hrd
  rw [← hrd] at ht hs ⊢
  have hxs : x.size ≤ 1000000000 := by rw [B_size]; exact hs
  have hne : bytesOf x ≠ [] := by rcases ht with h | h | h | h <;> (first | (rw [h]; decide) | exact h.1)
  have start : ∀ (y : List ByteArray) r, (bytesOf x = [46] → Ev (fun k => semantic_parsePyPIVersionParts.j1 k x2 x x11 x11.length i true) r) → (bytesOf x ≠ [46] → Ev (fun k => semantic_parsePyPIVersionParts.j1 k x2 x x11 x11.length i false) r) → Ev (fun k => semantic_parsePyPIVersionParts.l0 k x2 x11 x11.length i) r := by
    intro y r h1 h3
    refine Ev.succ ?_
    simp only [semantic_parsePyPIVersionParts.l0]
    refine Ev.pos (fun _ => by first | omega | trivial | assumption) ?_
    refine Ev.pos (fun _ => by first | omega | trivial | assumption) ?_
    refine Ev.pos (fun _ => by first | omega | trivial | assumption) ?_
    rw [hx]
    refine Ev.neg (fun _ h => hne ((toList_nil _).1 h)) ?_
    by_cases h46 : bytesOf x = [46]
    · have : (x.toList == ([46] : List UInt8)) = true := by rw [beq_iff_eq]; exact (toList_lit _ _).2 h46
      rw [this]
      exact h1 h46
    · have : (x.toList == ([46] : List UInt8)) = false := by rw [beq_eq_false_iff_ne]; exact fun h => h46 ((toList_lit _ _).1 h)
      rw [this]
      exact h3 h46
  by_cases h46 : bytesOf x = [46]
  · rw [if_pos h46]
    refine ⟨x2, rfl, fun r hr => start x2 r (fun _ => Ev.succ ?_) (fun h => absurd h46 h)⟩
    simp only [semantic_parsePyPIVersionParts.j1]
    refine Ev.pos (fun _ => by first | omega | trivial | assumption) ?_
    rw [w64 (by omega) (by omega)]
    exact hr
  · rw [if_neg h46]
    obtain ⟨p, hp, hpb⟩ := norm_ev x (by omega) hne
    have hpne : bytesOf p ≠ [] := by rw [hpb]; exact norm_ne _ hne
    have hps : p.size ≤ 2000000000 := by rw [B_size, hpb]; have := norm_length (bytesOf x); omega
    have hpre := hasPrefix_star p hps hpne
    rw [hpb] at hpre
    by_cases hstar : (norm (bytesOf x)).getD 0 0 = 42
    · rw [decide_eq_true hstar] at hpre
      by_cases hlt2 : lt_ (norm (bytesOf x)) fin = true
      · obtain ⟨y1, hy1, hc1⟩ := impl_l1 p x11 x11.length i (by omega) (by omega) x2.length x2 rfl (by omega)
        have hl1 : y1.length ≤ x2.length := by
          have := congrArg List.length hy1
          rw [List.length_map] at this
          rw [this]
          exact Nat.le_trans (pop_length _ _ _) (by rw [List.length_map]; exact Nat.le_refl _)
        obtain ⟨y, hy, hc⟩ := impl_l2 p x11 x11.length i (by omega) (by omega) y1.length y1 rfl (by omega)
        refine ⟨y ++ [p], ?_, fun r hr => start x2 r (fun h => absurd h h46) (fun _ => Ev.succ ?_)⟩
        · rw [List.map_append, hy, hy1]
          unfold step
          rw [if_pos hstar, if_pos hlt2]
          have : y1.length = (pop fm (x2.map bytesOf).length (x2.map bytesOf)).length := by rw [← List.length_map (f := bytesOf), hy1, List.length_map]
          rw [this]
          simp [hpb]
        · simp only [semantic_parsePyPIVersionParts.j1]
          refine Ev.neg (fun _ => by first | omega | assumption | nofun) ?_
          refine Ev.bind hp ?_
          refine Ev.bind0 hpre ?_
          refine Ev.pos (fun _ => by first | omega | trivial | assumption) ?_
          refine Ev.bind0 (a := Lib.compareBytes p.data.toList ([42, 102, 105, 110, 97, 108] : List UInt8)) rfl ?_
          have hcmp : Lib.compareBytes p.data.toList ([42, 102, 105, 110, 97, 108] : List UInt8) < 0 := by
            have := compare_B p ⟨#[42, 102, 105, 110, 97, 108]⟩
            rw [this, cmp_lt, hpb]
            exact hlt2
          refine Ev.pos (fun _ => by first | omega | trivial | assumption) ?_
          refine hc1 r (Ev.succ ?_)
          simp only [semantic_parsePyPIVersionParts.j3]
          exact hc r hr
      · obtain ⟨y, hy, hc⟩ := impl_l2 p x11 x11.length i (by omega) (by omega) x2.length x2 rfl (by omega)
        refine ⟨y ++ [p], ?_, fun r hr => start x2 r (fun h => absurd h h46) (fun _ => Ev.succ ?_)⟩
        · rw [List.map_append, hy]
          unfold step
          rw [if_pos hstar, if_neg hlt2]
          simp [hpb]
        · simp only [semantic_parsePyPIVersionParts.j1]
          refine Ev.neg (fun _ => by first | omega | assumption | nofun) ?_
          refine Ev.bind hp ?_
          refine Ev.bind0 hpre ?_
          refine Ev.pos (fun _ => by first | omega | trivial | assumption) ?_
          refine Ev.bind0 (a := Lib.compareBytes p.data.toList ([42, 102, 105, 110, 97, 108] : List UInt8)) rfl ?_
          have hcmp : ¬ Lib.compareBytes p.data.toList ([42, 102, 105, 110, 97, 108] : List UInt8) < 0 := by
            have := compare_B p ⟨#[42, 102, 105, 110, 97, 108]⟩
            rw [this, cmp_lt, hpb]
            exact hlt2
          refine Ev.neg (fun _ => by first | omega | assumption | nofun) ?_
          refine Ev.succ ?_
          simp only [semantic_parsePyPIVersionParts.j3]
          exact hc r hr
    · rw [decide_eq_false hstar] at hpre
      refine ⟨x2 ++ [p], ?_, fun r hr => start x2 r (fun h => absurd h h46) (fun _ => Ev.succ ?_)⟩
      · rw [List.map_append]
        unfold step
        rw [if_neg hstar]
        simp [hpb]
      · simp only [semantic_parsePyPIVersionParts.j1]
        refine Ev.neg (fun _ => by first | omega | assumption | nofun) ?_
        refine Ev.bind hp ?_
        refine Ev.bind0 hpre ?_
        refine Ev.neg (fun _ => by first | omega | assumption | nofun) ?_
        refine Ev.pos (fun _ => by first | omega | trivial | assumption) ?_
        rw [w64 (by omega) (by omega)]
        exact hr

def steps (out : List (List Int)) (ts : List (List Int)) : List (List Int) := (ts.filter (fun t => decide (t ≠ [46]))).foldl step out
theorem impl_from (x11 : List ByteArray) (hb : x11.length ≤ 400000000) (ht : ∀ t ∈ x11.map bytesOf, Tok t ∧ t.length ≤ 1000000000) : ∀ (n i : Nat) (x2 : List ByteArray), x11.length - i = n → i ≤ x11.length → x2.length ≤ i →
    ∃ r, Ev (fun k => semantic_parsePyPIVersionParts.l0 k x2 x11 x11.length i) r ∧ r.map bytesOf = steps (x2.map bytesOf) ((x11.map bytesOf).drop i) ∧ r.length ≤ x11.length := by
  intro n
  induction n with
  | zero =>
    intro i x2 hn hi h2
    refine ⟨x2, Ev.succ ?_, ?_, by omega⟩
    · simp only [semantic_parsePyPIVersionParts.l0]
      (repeat (first | refine Ev.pos (fun _ => by first | omega | trivial | assumption) ?_ | refine Ev.neg (fun _ => by first | omega | assumption | nofun) ?_))
      exact Ev.now _
    · rw [List.drop_of_length_le (by rw [List.length_map]; omega)]
      rfl
  | succ n ih =>
    intro i x2 hn hi h2
    have hl : i < (x11.map bytesOf).length := by rw [List.length_map]; omega
    have hmem : (x11.map bytesOf).getD i [] ∈ x11.map bytesOf := by
      rw [List.getD_eq_getElem?_getD, List.getElem?_eq_getElem hl]
      exact List.getElem_mem hl
    obtain ⟨y, hy, hc⟩ := impl_step x11 i (by omega) (by omega) x2 (by omega) (ht _ hmem).1 (ht _ hmem).2
    have hyl : y.length ≤ i + 1 := by
      have := congrArg List.length hy
      rw [List.length_map] at this
      rw [this]
      split
      · rw [List.length_map]; omega
      · exact Nat.le_trans (step_length _ _) (by rw [List.length_map]; omega)
    obtain ⟨r, hr, h1, h3⟩ := ih (i + 1) y (by omega) (by omega) hyl
    refine ⟨r, hc r hr, ?_, h3⟩
    rw [h1, hy, drop_get_list _ _ hl]
    unfold steps
    by_cases h46 : (x11.map bytesOf).getD i [] = [46]
    · rw [if_pos h46, h46]
      simp
    · rw [if_neg h46, List.filter_cons, if_pos (by simpa using h46)]
      rfl

def final_ : List Int := [102, 105, 110, 97, 108]
def parts (l : List Int) : List (List Int) := steps [] (toks l.length l ++ [final_])
theorem parts_ev (s : ByteArray) (hs : s.size ≤ 100000000) :
    ∃ r, Ev (fun k => impl_PyPIParts.f k s) r ∧ r.map bytesOf = parts (bytesOf s) ∧ r.length ≤ s.size + 1 := by
  obtain ⟨t, ht, h1, h2⟩ := legacy_ev s (by omega)
  have hmap : (t ++ [(⟨#[102, 105, 110, 97, 108]⟩ : ByteArray)]).map bytesOf = toks s.size (bytesOf s) ++ [final_] := by
    rw [List.map_append, h1]; rfl
  have hall : ∀ u ∈ (t ++ [(⟨#[102, 105, 110, 97, 108]⟩ : ByteArray)]).map bytesOf, Tok u ∧ u.length ≤ 1000000000 := by
    rw [hmap]
    intro u hu
    rcases List.mem_append.1 hu with hu | hu
    · have := toks_tok _ _ u hu
      exact ⟨this.1, by have := this.2; rw [bytesOf_length] at this; omega⟩
    · rw [List.mem_singleton.1 hu]
      exact ⟨.inr (.inr (.inr ⟨by decide, by decide⟩)), by decide⟩
  have hlen : (t ++ [(⟨#[102, 105, 110, 97, 108]⟩ : ByteArray)]).length = t.length + 1 := by simp
  obtain ⟨r, hr, h3, h4⟩ := impl_from _ (by rw [hlen]; omega) hall _ 0 [] rfl (by omega) (by simp)
  have hp : Ev (fun k => semantic_parsePyPIVersionParts.f k s) r := by
    simp only [semantic_parsePyPIVersionParts.f]
    refine Ev.bind ht ?_
    refine Ev.pos (fun _ => by first | omega | trivial | assumption) ?_
    exact hr
  refine ⟨r, ?_, ?_, by omega⟩
  · simp only [impl_PyPIParts.f, semantic_ZZPyPIParts.f]
    refine Ev.bind (Ev.bind hp (Ev.now _)) ?_
    refine Ev.pos (fun _ => by simp; omega) ?_
    exact Ev.eq (Ev.now _) (by simp)
  · rw [h3, hmap]
    unfold parts
    rw [bytesOf_length]
    rfl

/-! ### The reference's loops -/
theorem spec_l2 (x4 : List ByteArray) (x5 : Int) (h5 : 0 ≤ x5) (hb : x5 ≤ 2000000000) (x6 : ByteArray) (hx : bytesOf x6 ≠ []) (hs : x6.size ≤ 2000000000) : ∀ (n : Nat) (x3 : List ByteArray), x3.length = n → n ≤ 2000000000 →
    ∃ y, y.map bytesOf = (if (bytesOf x6).getD 0 0 = 42 then pop zz n (x3.map bytesOf) else x3.map bytesOf) ∧ ∀ r, Ev (fun k => spec_PyPIParts.l0 k (y ++ [x6]) x4 (x5 + 1)) r → Ev (fun k => spec_PyPIParts.l2 k x3 x4 x5 x6) r := by
  have hpos : 0 < x6.size := by rw [B_size]; exact List.length_pos_iff.2 hx
  intro n
  induction n with
  | zero =>
    intro x3 h3 hn
    refine ⟨x3, by split <;> rfl, fun r hr => Ev.succ ?_⟩
    simp only [spec_PyPIParts.l2, bt_zero]
    rw [w64 (i := x5 + 1) (by omega) (by omega)]
    by_cases hstar : (bytesOf x6).getD 0 0 = 42
    · (repeat (first | refine Ev.pos (fun _ => by first | omega | trivial | assumption) ?_ | refine Ev.neg (fun _ => by first | omega | assumption | nofun) ?_))
      exact hr
    · (repeat (first | refine Ev.pos (fun _ => by first | omega | trivial | assumption) ?_ | refine Ev.neg (fun _ => by first | omega | assumption | nofun) ?_))
      exact hr
  | succ n ih =>
    intro x3 h3 hn
    have hw : wrap64 ((x3.length : Int) - 1) = (n : Nat) := by rw [w64 (by omega) (by omega)]; omega
    have hlen : (x3.map bytesOf).length = n + 1 := by rw [List.length_map]; exact h3
    by_cases hstar : (bytesOf x6).getD 0 0 = 42
    · simp only [if_pos hstar] at ih
      rw [if_pos hstar]
      by_cases hz : (x3.map bytesOf).getD n [] = zz
      · obtain ⟨y, hy, hc⟩ := ih (x3.take n) (by rw [List.length_take]; omega) (by omega)
        refine ⟨y, ?_, fun r hr => Ev.succ ?_⟩
        · simp only [pop]
          rw [hlen, Nat.add_sub_cancel, if_pos hz, hy, List.map_take]
        · simp only [spec_PyPIParts.l2, bt_zero]
          rw [hw]
          have ht : (rdOf ByteArray.empty x3 (n : Nat)).toList = ([48, 48, 48, 48, 48, 48, 48, 48] : List UInt8) := (toList_lit _ _).2 (by rw [rdOf_B]; exact hz)
          refine Ev.pos (fun _ => by first | omega | trivial | assumption) ?_
          refine Ev.pos (fun _ => by first | omega | trivial | assumption) ?_
          refine Ev.pos (fun _ => by first | omega | trivial | assumption) ?_
          refine Ev.pos (fun _ => by first | omega | trivial | assumption) ?_
          refine Ev.pos (fun _ => by first | omega | trivial | assumption) ?_
          refine Ev.pos (fun _ => by first | omega | trivial | assumption) ?_
          refine Ev.pos (fun _ => by first | omega | trivial | assumption) ?_
          exact hc r hr
      · refine ⟨x3, ?_, fun r hr => Ev.succ ?_⟩
        · simp only [pop]
          rw [hlen, Nat.add_sub_cancel, if_neg hz]
        · simp only [spec_PyPIParts.l2, bt_zero]
          rw [hw, w64 (i := x5 + 1) (by omega) (by omega)]
          have ht : ¬ (rdOf ByteArray.empty x3 (n : Nat)).toList = ([48, 48, 48, 48, 48, 48, 48, 48] : List UInt8) := fun h => hz (by rw [← rdOf_B]; exact (toList_lit _ _).1 h)
          refine Ev.pos (fun _ => by first | omega | trivial | assumption) ?_
          refine Ev.pos (fun _ => by first | omega | trivial | assumption) ?_
          refine Ev.pos (fun _ => by first | omega | trivial | assumption) ?_
          refine Ev.pos (fun _ => by first | omega | trivial | assumption) ?_
          refine Ev.pos (fun _ => by first | omega | trivial | assumption) ?_
          refine Ev.neg (fun _ => by first | omega | assumption | nofun) ?_
          refine Ev.pos (fun _ => by first | omega | trivial | assumption) ?_
          exact hr
    · rw [if_neg hstar]
      refine ⟨x3, rfl, fun r hr => Ev.succ ?_⟩
      simp only [spec_PyPIParts.l2, bt_zero]
      rw [w64 (i := x5 + 1) (by omega) (by omega)]
      (repeat (first | refine Ev.pos (fun _ => by first | omega | trivial | assumption) ?_ | refine Ev.neg (fun _ => by first | omega | assumption | nofun) ?_))
      exact hr
theorem spec_l1 (x4 : List ByteArray) (x5 : Int) (h5 : 0 ≤ x5) (hb : x5 ≤ 2000000000) (x6 : ByteArray) (hx : bytesOf x6 ≠ []) (hs : x6.size ≤ 2000000000) : ∀ (n : Nat) (x3 : List ByteArray), x3.length = n → n ≤ 2000000000 →
    ∃ y, y.map bytesOf = (if (bytesOf x6).getD 0 0 = 42 then (if lt_ (bytesOf x6) fin = true then pop fm n (x3.map bytesOf) else x3.map bytesOf) else x3.map bytesOf) ∧ ∀ r, Ev (fun k => spec_PyPIParts.j2 k y x4 x5 x6) r → Ev (fun k => spec_PyPIParts.l1 k x3 x4 x5 x6) r := by
  have hpos : 0 < x6.size := by rw [B_size]; exact List.length_pos_iff.2 hx
  have hlt := bytesLess_B x6 ⟨#[42, 102, 105, 110, 97, 108]⟩
  have hlt2 : Op.bytesLess x6.toList ([42, 102, 105, 110, 97, 108] : List UInt8) = lt_ (bytesOf x6) fin := by
    have e : (⟨#[42, 102, 105, 110, 97, 108]⟩ : ByteArray).toList = [42, 102, 105, 110, 97, 108] := by rw [B_toList]
    rw [e] at hlt
    exact hlt
  intro n
  induction n with
  | zero =>
    intro x3 h3 hn
    refine ⟨x3, by split <;> (try split) <;> rfl, fun r hr => Ev.succ ?_⟩
    simp only [spec_PyPIParts.l1, bt_zero, hlt2]
    by_cases hstar : (bytesOf x6).getD 0 0 = 42
    · by_cases hl : lt_ (bytesOf x6) fin = true
      · (repeat (first | refine Ev.pos (fun _ => by first | omega | trivial | assumption) ?_ | refine Ev.neg (fun _ => by first | omega | assumption | nofun) ?_))
        exact hr
      · (repeat (first | refine Ev.pos (fun _ => by first | omega | trivial | assumption) ?_ | refine Ev.neg (fun _ => by first | omega | assumption | nofun) ?_))
        exact hr
    · (repeat (first | refine Ev.pos (fun _ => by first | omega | trivial | assumption) ?_ | refine Ev.neg (fun _ => by first | omega | assumption | nofun) ?_))
      exact hr
  | succ n ih =>
    intro x3 h3 hn
    have hw : wrap64 ((x3.length : Int) - 1) = (n : Nat) := by rw [w64 (by omega) (by omega)]; omega
    have hlen : (x3.map bytesOf).length = n + 1 := by rw [List.length_map]; exact h3
    by_cases hstar : (bytesOf x6).getD 0 0 = 42
    · by_cases hl : lt_ (bytesOf x6) fin = true
      · simp only [if_pos hstar, if_pos hl] at ih
        rw [if_pos hstar, if_pos hl]
        by_cases hz : (x3.map bytesOf).getD n [] = fm
        · obtain ⟨y, hy, hc⟩ := ih (x3.take n) (by rw [List.length_take]; omega) (by omega)
          refine ⟨y, ?_, fun r hr => Ev.succ ?_⟩
          · simp only [pop]
            rw [hlen, Nat.add_sub_cancel, if_pos hz, hy, List.map_take]
          · simp only [spec_PyPIParts.l1, bt_zero, hlt2]
            rw [hw]
            have ht : (rdOf ByteArray.empty x3 (n : Nat)).toList = ([42, 102, 105, 110, 97, 108, 45] : List UInt8) := (toList_lit _ _).2 (by rw [rdOf_B]; exact hz)
            refine Ev.pos (fun _ => by first | omega | trivial | assumption) ?_
            refine Ev.pos (fun _ => by first | omega | trivial | assumption) ?_
            refine Ev.pos (fun _ => by first | omega | trivial | assumption) ?_
            refine Ev.pos (fun _ => by first | omega | trivial | assumption) ?_
            refine Ev.pos (fun _ => by first | omega | trivial | assumption) ?_
            refine Ev.pos (fun _ => by first | omega | trivial | assumption) ?_
            refine Ev.pos (fun _ => by first | omega | trivial | assumption) ?_
            refine Ev.pos (fun _ => by first | omega | trivial | assumption) ?_
            exact hc r hr
        · refine ⟨x3, ?_, fun r hr => Ev.succ ?_⟩
          · simp only [pop]
            rw [hlen, Nat.add_sub_cancel, if_neg hz]
          · simp only [spec_PyPIParts.l1, bt_zero, hlt2]
            rw [hw]
            have ht : ¬ (rdOf ByteArray.empty x3 (n : Nat)).toList = ([42, 102, 105, 110, 97, 108, 45] : List UInt8) := fun h => hz (by rw [← rdOf_B]; exact (toList_lit _ _).1 h)
            refine Ev.pos (fun _ => by first | omega | trivial | assumption) ?_
            refine Ev.pos (fun _ => by first | omega | trivial | assumption) ?_
            refine Ev.pos (fun _ => by first | omega | trivial | assumption) ?_
            refine Ev.pos (fun _ => by first | omega | trivial | assumption) ?_
            refine Ev.pos (fun _ => by first | omega | trivial | assumption) ?_
            refine Ev.pos (fun _ => by first | omega | trivial | assumption) ?_
            refine Ev.neg (fun _ => by first | omega | assumption | nofun) ?_
            exact hr
      · rw [if_pos hstar, if_neg hl]
        refine ⟨x3, rfl, fun r hr => Ev.succ ?_⟩
        simp only [spec_PyPIParts.l1, bt_zero, hlt2]
        refine Ev.pos (fun _ => by first | omega | trivial | assumption) ?_
        refine Ev.pos (fun _ => by first | omega | trivial | assumption) ?_
        refine Ev.neg (fun _ => by first | omega | assumption | nofun) ?_
        exact hr
    · rw [if_neg hstar]
      refine ⟨x3, rfl, fun r hr => Ev.succ ?_⟩
      simp only [spec_PyPIParts.l1, bt_zero, hlt2]
      refine Ev.pos (fun _ => by first | omega | trivial | assumption) ?_
      refine Ev.neg (fun _ => by first | omega | assumption | nofun) ?_
      exact hr

theorem spec_step (x4 : List ByteArray) (i : Nat) (hi : i ≤ 1000000000) (hlt : i < x4.length) (x3 : List ByteArray) (h3 : x3.length ≤ 1000000000) (ht : Tok ((x4.map bytesOf).getD i [])) (hs : ((x4.map bytesOf).getD i []).length ≤ 1000000000) :
    ∃ y, y.map bytesOf = step (x3.map bytesOf) ((x4.map bytesOf).getD i []) ∧ ∀ r, Ev (fun k => spec_PyPIParts.l0 k y x4 ((i + 1 : Nat) : Int)) r → Ev (fun k => spec_PyPIParts.l0 k x3 x4 i) r := by
  have hrd := rdOf_B x4 i
  generalize hx : rdOf ByteArray.empty x4 (i : Nat) = x at hrd
  rw [← hrd] at ht hs ⊢
  have hxs : x.size ≤ 1000000000 := by rw [B_size]; exact hs
  have hne : bytesOf x ≠ [] := by rcases ht with h | h | h | h <;> (first | (rw [h]; decide) | exact h.1)
  obtain ⟨p, hp, hpb⟩ := part_ev x (by omega) ht
  have hpne : bytesOf p ≠ [] := by rw [hpb]; exact norm_ne _ hne
  have hps : p.size ≤ 2000000000 := by rw [B_size, hpb]; have := norm_length (bytesOf x); omega
  obtain ⟨y1, hy1, hc1⟩ := spec_l1 x4 i (by omega) (by omega) p hpne hps x3.length x3 rfl (by omega)
  have hl1 : y1.length ≤ x3.length := by
    have := congrArg List.length hy1
    rw [List.length_map] at this
    rw [this]
    split
    · split
      · exact Nat.le_trans (pop_length _ _ _) (by rw [List.length_map]; exact Nat.le_refl _)
      · rw [List.length_map]; exact Nat.le_refl _
    · rw [List.length_map]; exact Nat.le_refl _
  obtain ⟨y, hy, hc⟩ := spec_l2 x4 i (by omega) (by omega) p hpne hps y1.length y1 rfl (by omega)
  refine ⟨y ++ [p], ?_, fun r hr => Ev.succ ?_⟩
  · rw [List.map_append, hy, hy1]
    have hyl : y1.length = (y1.map bytesOf).length := by rw [List.length_map]
    rw [hyl, hy1, hpb]
    unfold step
    by_cases hstar : (norm (bytesOf x)).getD 0 0 = 42
    · simp only [if_pos hstar]
      simp [hpb]
    · simp only [if_neg hstar]
      simp [hpb]
  · simp only [spec_PyPIParts.l0]
    refine Ev.pos (fun _ => by first | omega | trivial | assumption) ?_
    refine Ev.pos (fun _ => by first | omega | trivial | assumption) ?_
    rw [hx]
    refine Ev.bind hp (hc1 r (Ev.succ ?_))
    simp only [spec_PyPIParts.j2]
    exact hc r hr
theorem spec_from (x4 : List ByteArray) (hb : x4.length ≤ 400000000) (ht : ∀ t ∈ x4.map bytesOf, Tok t ∧ t.length ≤ 1000000000) : ∀ (n i : Nat) (x3 : List ByteArray), x4.length - i = n → i ≤ x4.length → x3.length ≤ i →
    ∃ r, Ev (fun k => spec_PyPIParts.l0 k x3 x4 i) r ∧ r.map bytesOf = ((x4.map bytesOf).drop i).foldl step (x3.map bytesOf) := by
  intro n
  induction n with
  | zero =>
    intro i x3 hn hi h3
    refine ⟨x3, Ev.succ ?_, ?_⟩
    · simp only [spec_PyPIParts.l0]
      (repeat (first | refine Ev.pos (fun _ => by first | omega | trivial | assumption) ?_ | refine Ev.neg (fun _ => by first | omega | assumption | nofun) ?_))
      exact Ev.now _
    · rw [List.drop_of_length_le (by rw [List.length_map]; omega)]
      rfl
  | succ n ih =>
    intro i x3 hn hi h3
    have hl : i < (x4.map bytesOf).length := by rw [List.length_map]; omega
    have hmem : (x4.map bytesOf).getD i [] ∈ x4.map bytesOf := by
      rw [List.getD_eq_getElem?_getD, List.getElem?_eq_getElem hl]
      exact List.getElem_mem hl
    obtain ⟨y, hy, hc⟩ := spec_step x4 i (by omega) (by omega) x3 (by omega) (ht _ hmem).1 (ht _ hmem).2
    have hyl : y.length ≤ i + 1 := by
      have := congrArg List.length hy
      rw [List.length_map] at this
      rw [this]
      exact Nat.le_trans (step_length _ _) (by rw [List.length_map]; omega)
    obtain ⟨r, hr, h1⟩ := ih (i + 1) y (by omega) (by omega) hyl
    refine ⟨r, hc r hr, ?_⟩
    rw [h1, hy, drop_get_list _ _ hl]
    rfl
theorem filter_final (ts : List (List Int)) : (ts ++ [final_]).filter (fun t => decide (t ≠ [46])) = ts.filter (fun t => decide (t ≠ [46])) ++ [final_] := by
  rw [List.filter_append]
  rfl
theorem specParts_ev (s : ByteArray) (hs : s.size ≤ 100000000) :
    ∃ r, Ev (fun k => spec_PyPIParts.f k s) r ∧ r.map bytesOf = parts (bytesOf s) := by
  obtain ⟨t, ht, h1, h2⟩ := runs_ev s (by omega)
  have hmap : (t ++ [(⟨#[102, 105, 110, 97, 108]⟩ : ByteArray)]).map bytesOf = (toks s.size (bytesOf s) ++ [final_]).filter (fun t => decide (t ≠ [46])) := by
    rw [List.map_append, h1, runs_toks, filter_final]; rfl
  have hall : ∀ u ∈ (t ++ [(⟨#[102, 105, 110, 97, 108]⟩ : ByteArray)]).map bytesOf, Tok u ∧ u.length ≤ 1000000000 := by
    rw [hmap]
    intro u hu
    have hu := (List.mem_filter.1 hu).1
    rcases List.mem_append.1 hu with hu | hu
    · have := toks_tok _ _ u hu
      exact ⟨this.1, by have := this.2; rw [bytesOf_length] at this; omega⟩
    · rw [List.mem_singleton.1 hu]
      exact ⟨.inr (.inr (.inr ⟨by decide, by decide⟩)), by decide⟩
  have hlen : (t ++ [(⟨#[102, 105, 110, 97, 108]⟩ : ByteArray)]).length = t.length + 1 := by simp
  obtain ⟨r, hr, h3⟩ := spec_from _ (by rw [hlen]; omega) hall _ 0 [] rfl (by omega) (by simp)
  refine ⟨r, ?_, ?_⟩
  · simp only [spec_PyPIParts.f]
    refine Ev.bind ht ?_
    refine Ev.pos (fun _ => by first | omega | trivial | assumption) ?_
    exact hr
  · rw [h3, hmap]
    unfold parts steps
    rw [bytesOf_length]
    rfl

theorem texts_refl (l : List ByteArray) (hb : l.length ≤ 2000000000) : ∀ (n i : Nat), l.length - i = n → i ≤ l.length → Ev (fun k => laws_texts.l0 k l l l.length i) true := by
  intro n
  induction n with
  | zero =>
    intro i hn hi
    refine Ev.succ ?_
    simp only [laws_texts.l0]
    (repeat (first | refine Ev.pos (fun _ => by first | omega | trivial | assumption) ?_ | refine Ev.neg (fun _ => by first | omega | assumption | nofun) ?_))
    exact Ev.now _
  | succ n ih =>
    intro i hn hi
    refine Ev.succ ?_
    simp only [laws_texts.l0]
    (repeat (first | refine Ev.pos (fun _ => by first | omega | trivial | assumption) ?_ | refine Ev.neg (fun _ => by first | omega | assumption | nofun) ?_))
    rw [w64 (by omega) (by omega)]
    exact ih (i + 1) (by omega) (by omega)
theorem texts_ev (l : List ByteArray) (hb : l.length ≤ 2000000000) : Ev (fun k => laws_texts.f k l l) true := by
  simp only [laws_texts.f]
  refine Ev.pos (fun _ => by first | omega | trivial | assumption) ?_
  exact texts_refl l hb _ 0 rfl (Nat.zero_le _)

theorem FnPyPIParts : laws_FnPyPIParts.Pure := by
  intro s hs
  refine Ev.rounds (r := true) (g := fun k => laws_FnPyPIParts.f k s) ?_
  simp only [laws_FnPyPIParts.f]
  by_cases hbig : (s.size : Int) > 2147483647
  · refine Ev.pos (fun _ => by first | omega | trivial | assumption) ?_
    exact Ev.now _
  · refine Ev.neg (fun _ => by first | omega | assumption | nofun) ?_
    refine Ev.bind (short_one s) ?_
    have yes : Ev (fun k => laws_FnPyPIParts.j0 k s true) true := by
      refine Ev.succ ?_
      simp only [laws_FnPyPIParts.j0]
      refine Ev.pos (fun _ => by first | omega | trivial | assumption) ?_
      exact Ev.now _
    by_cases hsh : s.size ≤ 1200
    · refine Ev.pos (fun _ => decide_eq_true hsh) ?_
      simp only [spec_PyPITextKnown.f]
      refine Ev.bind (Ev.bind (ascii_ev s (by omega)) (Ev.now _)) ?_
      by_cases ha : ∀ x ∈ bytesOf s, x ≤ 127
      · rw [decide_eq_true ha]
        refine Ev.succ ?_
        simp only [laws_FnPyPIParts.j0, Bool.not_true]
        obtain ⟨r, hr, h1, h2⟩ := parts_ev s (by omega)
        obtain ⟨r', hr', h1'⟩ := specParts_ev s (by omega)
        obtain rfl : r = r' := map_B_inj (h1.trans h1'.symm)
        refine Ev.neg (fun _ => by first | omega | assumption | nofun) ?_
        refine Ev.bind hr ?_
        have hpos : 0 < r.length := by
          have := congrArg List.length h1
          rw [List.length_map] at this
          rw [this]
          unfold parts steps
          rw [filter_final, List.foldl_append]
          simp only [List.foldl_cons, List.foldl_nil]
          unfold step
          split <;> simp
        refine Ev.pos (fun _ => by first | omega | trivial | assumption) ?_
        refine Ev.bind hr' ?_
        exact Ev.bind (texts_ev r (by omega)) (Ev.now _)
      · rw [decide_eq_false ha]
        exact yes
    · refine Ev.neg (fun _ => by simpa using hsh) ?_
      exact yes

/-! ### How the parts end, and how numbers among them are filled up -/
theorem small_from (s : ByteArray) (hs : s.size ≤ 2000000000) (ha : ∀ x ∈ bytesOf s, x ≤ 127) : ∀ (n i : Nat) (out : ByteArray), s.size - i = n → i ≤ s.size → out.size = i →
    ∃ r, Ev (fun k => laws_small.l0 k s out i) r ∧ bytesOf r = bytesOf out ++ ((bytesOf s).drop i).map low := by
  intro n
  induction n with
  | zero =>
    intro i out hn hi ho
    refine ⟨out, Ev.succ ?_, ?_⟩
    · simp only [laws_small.l0]
      (repeat (first | refine Ev.pos (fun _ => by first | omega | trivial | assumption) ?_ | refine Ev.neg (fun _ => by first | omega | assumption | nofun) ?_))
      exact Ev.now _
    · rw [List.drop_of_length_le (by rw [bytesOf_length]; omega)]
      simp
  | succ n ih =>
    intro i out hn hi ho
    have hl : i < (bytesOf s).length := by rw [bytesOf_length]; omega
    have hmem : (bytesOf s).getD i 0 ∈ bytesOf s := by
      rw [List.getD_eq_getElem?_getD, List.getElem?_eq_getElem hl]
      exact List.getElem_mem hl
    have hr := B_range s _ hmem
    have h127 := ha _ hmem
    have henc : ∀ c : Int, 0 ≤ c → c < 128 → (Utf8.encode c).size = 1 := fun c h0 h1 => by rw [B_size, B_encode h0 h1]; rfl
    have happ : ∀ c : Int, 0 ≤ c → c < 128 → (out ++ Utf8.encode c).size = i + 1 := fun c h0 h1 => by
      rw [B_size, B_append, List.length_append, B_encode h0 h1, bytesOf_length, ho]; rfl
    obtain ⟨c, hc⟩ : ∃ c, c = (bytesOf s).getD i 0 := ⟨_, rfl⟩
    have hlow0 : 0 ≤ low c ∧ low c < 128 := by unfold low; split <;> omega
    obtain ⟨r, hr2, hb⟩ := ih (i + 1) (out ++ Utf8.encode (low c)) (by omega) (by omega) (happ _ hlow0.1 hlow0.2)
    refine ⟨r, Ev.succ ?_, ?_⟩
    · simp only [laws_small.l0, bt_nat]
      rw [← hc]
      by_cases h : 65 ≤ c ∧ c ≤ 90
      · have e : low c = c + 32 := by unfold low; rw [if_pos h]
        rw [e] at hr2
        have e2 : (c + 32) % 256 = c + 32 := by omega
        have h1 := henc (c + 32) (by omega) (by omega)
        rw [e2]
        refine Ev.pos (fun _ => by first | omega | trivial | assumption) ?_
        refine Ev.pos (fun _ => by first | omega | trivial | assumption) ?_
        refine Ev.pos (fun _ => by first | omega | trivial | assumption) ?_
        refine Ev.pos (fun _ => by first | omega | trivial | assumption) ?_
        refine Ev.pos (fun _ => by first | omega | trivial | assumption) ?_
        rw [w64 (by omega) (by omega)]
        exact hr2
      · have e : low c = c := by unfold low; rw [if_neg h]
        rw [e] at hr2
        have h1 := henc c (by omega) (by omega)
        rw [w32 (by omega) (by omega), w64 (by omega) (by omega)]
        refine Ev.pos (fun _ => by first | omega | trivial | assumption) ?_
        refine Ev.pos (fun _ => by first | omega | trivial | assumption) ?_
        by_cases h65 : c ≥ 65
        · refine Ev.pos (fun _ => by first | omega | trivial | assumption) ?_
          refine Ev.neg (fun _ => by first | omega | assumption | nofun) ?_
          refine Ev.pos (fun _ => by first | omega | trivial | assumption) ?_
          exact hr2
        · refine Ev.neg (fun _ => by first | omega | assumption | nofun) ?_
          refine Ev.pos (fun _ => by first | omega | trivial | assumption) ?_
          exact hr2
    · rw [hb, B_append, B_encode hlow0.1 hlow0.2, drop_get _ _ hl, hc]
      simp
theorem small_ev (s : ByteArray) (hs : s.size ≤ 2000000000) (ha : ∀ x ∈ bytesOf s, x ≤ 127) : ∃ r, Ev (fun k => laws_small.f k s) r ∧ bytesOf r = (bytesOf s).map low := by
  obtain ⟨r, h, hb⟩ := small_from s hs ha _ 0 ⟨#[]⟩ rfl (Nat.zero_le _) rfl
  exact ⟨r, h, by simpa [B_mk] using hb⟩
theorem lawDigits_from (s : ByteArray) (hs : s.size ≤ 2000000000) : ∀ (n i : Nat), s.size - i = n → i ≤ s.size →
    Ev (fun k => laws_digits.l0 k s i) (decide (∀ x ∈ (bytesOf s).drop i, isD x = true) && decide (0 < s.size)) := by
  intro n
  induction n with
  | zero =>
    intro i hn hi
    refine Ev.succ ?_
    simp only [laws_digits.l0]
    (repeat (first | refine Ev.pos (fun _ => by first | omega | trivial | assumption) ?_ | refine Ev.neg (fun _ => by first | omega | assumption | nofun) ?_))
    refine Ev.eq (Ev.now _) ?_
    rw [List.drop_of_length_le (by rw [bytesOf_length]; omega)]
    by_cases h0 : s.size = 0
    · have : s.toList = [] := (toList_nil s).2 ((size_nil s).1 h0)
      rw [this, h0]; rfl
    · have : s.toList ≠ [] := fun h => h0 ((size_nil s).2 ((toList_nil s).1 h))
      rw [bne_iff_ne.2 this]
      simp; omega
  | succ n ih =>
    intro i hn hi
    have hl : i < (bytesOf s).length := by rw [bytesOf_length]; omega
    refine Ev.succ ?_
    simp only [laws_digits.l0, bt_nat]
    rw [drop_get _ _ hl]
    cases h : isD ((bytesOf s).getD i 0)
    · have h2 := h
      simp only [isD, decide_eq_false_iff_not] at h2
      by_cases h48 : (bytesOf s).getD i 0 < 48
      · (repeat (first | refine Ev.pos (fun _ => by first | omega | trivial | assumption) ?_ | refine Ev.neg (fun _ => by first | omega | assumption | nofun) ?_))
        refine Ev.eq (Ev.now _) ?_
        simp only [List.mem_cons, forall_eq_or_imp, h, Bool.false_eq_true, false_and, decide_false, Bool.false_and]
      · (repeat (first | refine Ev.pos (fun _ => by first | omega | trivial | assumption) ?_ | refine Ev.neg (fun _ => by first | omega | assumption | nofun) ?_))
        refine Ev.eq (Ev.now _) ?_
        simp only [List.mem_cons, forall_eq_or_imp, h, Bool.false_eq_true, false_and, decide_false, Bool.false_and]
    · have h2 := h
      simp only [isD, decide_eq_true_eq] at h2
      (repeat (first | refine Ev.pos (fun _ => by first | omega | trivial | assumption) ?_ | refine Ev.neg (fun _ => by first | omega | assumption | nofun) ?_))
      rw [w64 (by omega) (by omega)]
      refine Ev.eq (ih (i + 1) (by omega) (by omega)) ?_
      simp only [List.mem_cons, forall_eq_or_imp, h, true_and]
theorem lawDigits_ev (s : ByteArray) (hs : s.size ≤ 2000000000) : Ev (fun k => laws_digits.f k s) (decide (∀ x ∈ bytesOf s, isD x = true) && decide (0 < s.size)) := by
  have h := lawDigits_from s hs _ 0 rfl (Nat.zero_le _)
  simpa [laws_digits.f] using h

def Good (m : Nat) (w : List Int) : Prop := w ≠ [] ∧ w.length ≤ m + 8 ∧ (w.getD 0 0 = 42 ∨ ((∀ x ∈ w, isD x = true) ∧ 8 ≤ w.length ∧ (8 < w.length → 9 ≤ m)))
theorem pad_all : ∀ (n : Nat) (l : List Int), (∀ x ∈ l, isD x = true) → ∀ x ∈ pad n l, isD x = true := by
  intro n
  induction n with
  | zero => intro l h; exact h
  | succ n ih =>
    intro l h
    refine ih _ (fun x hx => ?_)
    rcases List.mem_cons.1 hx with rfl | hx
    · rfl
    · exact h x hx
theorem norm_good (m : Nat) (t : List Int) (ht : Tok t) (hm : t.length ≤ m) : Good m (norm t) := by
  have hne : t ≠ [] := by rcases ht with h | h | h | h <;> (first | (rw [h]; decide) | exact h.1)
  have hpos : 0 < t.length := List.length_pos_iff.2 hne
  refine ⟨norm_ne t hne, Nat.le_trans (norm_length t) (by omega), ?_⟩
  unfold norm
  split
  · left; rfl
  · split
    · left; rfl
    · split
      · left; rfl
      · split
        · rename_i hd
          right
          have hall : ∀ x ∈ t, isD x = true := by
            rcases ht with h | h | h | h
            · rw [h] at hd; cases hd
            · rw [h] at hd; cases hd
            · exact h.2
            · exfalso
              have hmem : t.getD 0 0 ∈ t := by
                rw [List.getD_eq_getElem?_getD, List.getElem?_eq_getElem hpos]
                exact List.getElem_mem hpos
              have h1 := h.2 _ hmem
              simp only [isL, decide_eq_true_eq] at h1
              simp only [isD, decide_eq_true_eq] at hd
              omega
          refine ⟨pad_all _ _ hall, by rw [pad_length]; omega, fun h => ?_⟩
          rw [pad_length] at h
          omega
        · left; rfl
theorem step_good (m : Nat) (out : List (List Int)) (t : List Int) (ho : ∀ w ∈ out, Good m w) (ht : Good m (norm t)) : ∀ w ∈ step out t, Good m w := by
  intro w hw
  unfold step at hw
  split at hw
  · rcases List.mem_append.1 hw with hw | hw
    · have h1 := pop_mem _ _ _ _ hw
      split at h1
      · exact ho _ (pop_mem _ _ _ _ h1)
      · exact ho _ h1
    · rw [List.mem_singleton.1 hw]; exact ht
  · rcases List.mem_append.1 hw with hw | hw
    · exact ho _ hw
    · rw [List.mem_singleton.1 hw]; exact ht
theorem foldl_good (m : Nat) : ∀ (ts out : List (List Int)), (∀ w ∈ out, Good m w) → (∀ t ∈ ts, Good m (norm t)) → ∀ w ∈ ts.foldl step out, Good m w := by
  intro ts
  induction ts with
  | nil => intro out ho _; exact ho
  | cons t ts ih =>
    intro out ho ht
    exact ih _ (step_good m out t ho (ht t List.mem_cons_self)) (fun u hu => ht u (List.mem_cons_of_mem _ hu))
theorem parts_last (l : List Int) : ∃ a, parts l = a ++ [fin] := by
  unfold parts steps
  rw [filter_final, List.foldl_append]
  simp only [List.foldl_cons, List.foldl_nil]
  unfold step
  have e : norm final_ = fin := by decide
  rw [e]
  split
  · exact ⟨_, rfl⟩
  · exact ⟨_, rfl⟩
theorem parts_good (l : List Int) (m : Nat) (hm : l.length ≤ m) : ∀ w ∈ parts l, Good m w := by
  unfold parts steps
  rw [filter_final, List.foldl_append]
  simp only [List.foldl_cons, List.foldl_nil]
  refine step_good m _ _ (foldl_good m _ _ (fun w hw => by cases hw) (fun t ht => ?_)) ?_
  · have h := toks_tok _ _ t (List.mem_filter.1 ht).1
    exact norm_good m t h.1 (by omega)
  · have e : norm final_ = fin := by decide
    rw [e]
    exact ⟨by decide, by simp only [fin, List.length_cons, List.length_nil]; omega, .inl rfl⟩

theorem end_from (s : ByteArray) (l : List ByteArray) (hl : l.length ≤ 2000000000) (hm : s.size ≤ 2000) (hg : ∀ w ∈ l.map bytesOf, Good s.size w) : ∀ (n i : Nat), l.length - i = n → i ≤ l.length → Ev (fun k => laws_FnPyPILegacyEnd.l0 k s l l.length i) true := by
  intro n
  induction n with
  | zero =>
    intro i hn hi
    refine Ev.succ ?_
    simp only [laws_FnPyPILegacyEnd.l0]
    (repeat (first | refine Ev.pos (fun _ => by first | omega | trivial | assumption) ?_ | refine Ev.neg (fun _ => by first | omega | assumption | nofun) ?_))
    exact Ev.now _
  | succ n ih =>
    intro i hn hi
    have hi2 : i < (l.map bytesOf).length := by rw [List.length_map]; omega
    have hmem : (l.map bytesOf).getD i [] ∈ l.map bytesOf := by
      rw [List.getD_eq_getElem?_getD, List.getElem?_eq_getElem hi2]
      exact List.getElem_mem hi2
    have h := hg _ hmem
    rw [← rdOf_B] at h
    have next := ih (i + 1) (by omega) (by omega)
    refine Ev.succ ?_
    simp only [laws_FnPyPILegacyEnd.l0]
    rw [w64 (i := (i : Int) + 1) (by omega) (by omega)]
    generalize rdOf ByteArray.empty l (i : Nat) = w at h
    obtain ⟨hne, hlen, h⟩ := h
    have hpos : 0 < (bytesOf w).length := List.length_pos_iff.2 hne
    rw [bytesOf_length] at hpos hlen h
    have hd := lawDigits_ev w (by omega)
    refine Ev.pos (fun _ => by first | omega | trivial | assumption) ?_
    refine Ev.pos (fun _ => by first | omega | trivial | assumption) ?_
    refine Ev.pos (fun _ => by first | omega | trivial | assumption) ?_
    refine Ev.neg (fun _ h0 => hne ((toList_nil _).1 h0)) ?_
    rw [bt_zero]
    refine Ev.pos (fun _ => by first | omega | trivial | assumption) ?_
    by_cases h42 : (bytesOf w).getD 0 0 = 42
    · refine Ev.pos (fun _ => by first | omega | trivial | assumption) ?_
      by_cases h8 : (w.size : Int) > 8
      · refine Ev.pos (fun _ => by first | omega | trivial | assumption) ?_
        refine Ev.bind hd ?_
        have : ¬ ∀ x ∈ bytesOf w, isD x = true := by
          intro hx
          have hmem : (bytesOf w).getD 0 0 ∈ bytesOf w := by
            rw [List.getD_eq_getElem?_getD, List.getElem?_eq_getElem (by rw [bytesOf_length]; exact hpos)]
            exact List.getElem_mem _
          have := hx _ hmem
          rw [h42] at this
          cases this
        rw [decide_eq_false this]
        refine Ev.neg (fun _ => by simp) ?_
        exact next
      · refine Ev.neg (fun _ => by first | omega | assumption | nofun) ?_
        exact next
    · rcases h with h | ⟨hall, h8, h9⟩
      · exact absurd h h42
      · refine Ev.neg (fun _ => by first | omega | assumption | nofun) ?_
        refine Ev.bind hd ?_
        rw [decide_eq_true hall, decide_eq_true hpos]
        refine Ev.pos (fun _ => by first | omega | trivial | assumption) ?_
        refine Ev.neg (fun _ => by first | omega | assumption | nofun) ?_
        by_cases hgt : (w.size : Int) > 8
        · refine Ev.pos (fun _ => by first | omega | trivial | assumption) ?_
          by_cases h48 : (bytesOf w).getD 0 0 = 48
          · refine Ev.pos (fun _ => by first | omega | trivial | assumption) ?_
            have := h9 (by omega)
            refine Ev.neg (fun _ => by first | omega | assumption | nofun) ?_
            exact next
          · refine Ev.neg (fun _ => by first | omega | assumption | nofun) ?_
            exact next
        · refine Ev.neg (fun _ => by first | omega | assumption | nofun) ?_
          exact next

theorem FnPyPILegacyEnd : laws_FnPyPILegacyEnd.Pure := by
  intro s hs
  refine Ev.rounds (r := true) (g := fun k => laws_FnPyPILegacyEnd.f k s) ?_
  simp only [laws_FnPyPILegacyEnd.f]
  by_cases hbig : (s.size : Int) > 2147483647
  · refine Ev.pos (fun _ => by first | omega | trivial | assumption) ?_
    exact Ev.now _
  · refine Ev.neg (fun _ => by first | omega | assumption | nofun) ?_
    refine Ev.bind (short_one s) ?_
    have yes : Ev (fun k => laws_FnPyPILegacyEnd.j0 k s true) true := by
      refine Ev.succ ?_
      simp only [laws_FnPyPILegacyEnd.j0]
      refine Ev.pos (fun _ => by first | omega | trivial | assumption) ?_
      exact Ev.now _
    by_cases hsh : s.size ≤ 1200
    · refine Ev.pos (fun _ => decide_eq_true hsh) ?_
      simp only [spec_PyPITextKnown.f]
      refine Ev.bind (Ev.bind (ascii_ev s (by omega)) (Ev.now _)) ?_
      by_cases ha : ∀ x ∈ bytesOf s, x ≤ 127
      · rw [decide_eq_true ha]
        refine Ev.succ ?_
        simp only [laws_FnPyPILegacyEnd.j0, Bool.not_true]
        obtain ⟨t, ht, hb⟩ := small_ev s (by omega) ha
        have hts : t.size = s.size := by rw [B_size, hb, List.length_map, bytesOf_length]
        obtain ⟨r, hr, h1, h2⟩ := parts_ev t (by omega)
        have hgood : ∀ w ∈ r.map bytesOf, Good s.size w := by
          rw [h1]
          exact parts_good _ _ (by rw [bytesOf_length]; omega)
        obtain ⟨a, hlast⟩ := parts_last (bytesOf t)
        rw [← h1] at hlast
        have hrl : r.length = a.length + 1 := by
          have := congrArg List.length hlast
          simpa using this
        have hw : wrap64 ((r.length : Int) - 1) = (a.length : Nat) := by rw [w64 (by omega) (by omega)]; omega
        have hf : (rdOf ByteArray.empty r (a.length : Nat)).toList = ([42, 102, 105, 110, 97, 108] : List UInt8) := by
          refine (toList_lit _ _).2 ?_
          rw [rdOf_B, hlast]
          simp [fin, List.getD_eq_getElem?_getD]
        refine Ev.neg (fun _ => by first | omega | assumption | nofun) ?_
        refine Ev.bind ht (Ev.bind hr ?_)
        rw [hw, hf]
        refine Ev.neg (fun _ => by first | omega | assumption | nofun) ?_
        refine Ev.pos (fun _ => by first | omega | trivial | assumption) ?_
        refine Ev.pos (fun _ => by first | omega | trivial | assumption) ?_
        refine Ev.succ ?_
        simp only [laws_FnPyPILegacyEnd.j1]
        refine Ev.neg (fun _ => by simp) ?_
        exact end_from s r (by omega) (by omega) hgood _ 0 rfl (Nat.zero_le _)
      · rw [decide_eq_false ha]
        exact yes
    · refine Ev.neg (fun _ => by simpa using hsh) ?_
      exact yes

end Go.Proofs.Yteffbgjfhbgooaa.V
