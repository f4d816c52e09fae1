/- The plain laws FnPackagistNumbers and FnPackagistStages. -/
import Derived.Test.YtdjkekgfeadmoaaDoorY2
namespace Go.Proofs.YtdjkekgfeadmoaaDoor.V
open Go.RowKit Go.Proofs.YtdjkekgfeadmoaaDoor.Q Go.Proofs.YtdjkekgfeadmoaaDoorH Go.Proofs.YtdjkekgfeadmoaaDoorB Go.Proofs.YtdjkekgfeadmoaaDoorG Go.Proofs.YtdjkekgfeadmoaaDoorW.PrintWords Go.Proofs.YtdjkekgfeadmoaaDoorW.PrintLast
set_option linter.unusedVariables false
set_option linter.unusedSimpArgs false

theorem splitP_cover (p : Int → Bool) : ∀ (l : List Int) (c : Int), c ∈ l → p c = true ∨ ∃ m ∈ splitP p l, c ∈ m
  | [], c, h => by simp at h
  | x :: l, c, h => by
    simp only [splitP]
    split
    · rename_i hx
      rcases List.mem_cons.1 h with e | h
      · rw [e]; exact .inl hx
      · rcases splitP_cover p l c h with h2 | ⟨m, hm, hc⟩
        · exact .inl h2
        · exact .inr ⟨m, List.mem_cons_of_mem _ hm, hc⟩
    · cases hs : splitP p l with
      | nil => exact absurd hs (splitP_ne p l)
      | cons a L =>
        simp only [glue]
        rcases List.mem_cons.1 h with e | h
        · exact .inr ⟨[x] ++ a, List.mem_cons_self, by rw [e]; simp⟩
        · rcases splitP_cover p l c h with h2 | ⟨m, hm, hc⟩
          · exact .inl h2
          · rw [hs] at hm
            rcases List.mem_cons.1 hm with e | hm
            · exact .inr ⟨[x] ++ a, List.mem_cons_self, by rw [e] at hc; simp [hc]⟩
            · exact .inr ⟨m, List.mem_cons_of_mem _ hm, hc⟩
theorem Core.chars {l : List Int} (h : Core l) : ∀ c ∈ l, isD c = true ∨ c = 46 := by
  intro c hc
  rcases splitP_cover isPt l c hc with h2 | ⟨m, hm, hcm⟩
  · exact .inr (by simpa [isPt] using h2)
  · exact .inl ((h m hm).2.1 c hcm)
theorem Core.asc {l : List Int} (h : Core l) : Asc l := by
  intro c hc
  rcases h.chars c hc with h2 | h2
  · have := of_decide_eq_true h2
    omega
  · omega
theorem Core.ne {l : List Int} (h : Core l) : l ≠ [] := by
  intro e
  subst e
  exact (h [] (by simp [splitP])).1 rfl
theorem Core.head {l : List Int} (h : Core l) : isD (l.getD 0 0) = true := by
  cases l with
  | nil => exact absurd rfl h.ne
  | cons x l =>
    show isD x = true
    rcases h.chars x List.mem_cons_self with h2 | h2
    · exact h2
    · subst h2
      exact absurd rfl (h [] (by simp [splitP, isPt])).1
theorem Core.last {l : List Int} (h : Core l) : ∃ a c, l = a ++ [c] ∧ isD c = true := by
  rcases List.eq_nil_or_concat l with e | ⟨a, c, e⟩
  · exact absurd e h.ne
  · have e2 : l = a ++ [c] := by simpa using e
    refine ⟨a, c, e2, ?_⟩
    rcases h.chars c (by rw [e2]; simp) with h2 | h2
    · exact h2
    · subst h2
      have h3 := splitP_pt a []
      rw [← e2] at h3
      exact absurd rfl (h [] (by rw [h3]; simp [splitP])).1
theorem ptI_dig {c : Int} (h : isD c = true) : ptI c = c := by
  have := of_decide_eq_true h
  unfold ptI
  rw [if_neg (by omega)]
theorem Core.map {l : List Int} (h : Core l) : l.map ptI = l := map_ptI_id (fun c hc => by
  rcases h.chars c hc with h2 | h2
  · exact ptI_dig h2
  · rw [h2]; decide)
theorem getD_app {l r : List Int} (h : l ≠ []) : (l ++ r).getD 0 0 = l.getD 0 0 := by
  cases l with
  | nil => exact absurd rfl h
  | cons x l => rfl
theorem canon_core {l : List Int} (h : Core l) (r : List Int) : canon (l ++ r) = dots (l ++ r.map ptI) := by
  have hh := of_decide_eq_true h.head
  have h0 : (l ++ r).getD 0 0 = l.getD 0 0 := getD_app h.ne
  unfold canon
  rw [strip_ne (c := 118) (by rw [h0]; omega), strip_ne (by rw [h0]; omega), List.map_append, h.map]
theorem dots_core {l : List Int} (h : Core l) : dots l = l := dots_same true h.chars
/-- What hangs behind a version's numbers. -/
def tl (x : List Int) : List ByteArray := (splitP isPt (dots (x.map ptI))).map strOfNums
def Ps (l : List Int) : List ByteArray := (splitP isPt l).map strOfNums
theorem comps_core {l : List Int} (h : Core l) : comps l = Ps l := by
  have e := canon_core h []
  rw [List.append_nil] at e
  unfold comps Ps
  rw [e, List.map_nil, List.append_nil, dots_core h]
theorem comps_tail {l : List Int} (h : Core l) {m : Int} (hm : m = 45 ∨ m = 46) (x : List Int) : comps (l ++ m :: x) = Ps l ++ tl x := by
  have e : ptI m = 46 := by rcases hm with rfl | rfl <;> decide
  unfold comps Ps tl
  rw [canon_core h, List.map_cons, e, dots_at, dots_core h, splitP_pt, List.map_append]
theorem comps_turn {l : List Int} (h : Core l) {y : Int} (hy : isD y = false) (hy2 : y ≠ 46) (hp : ptI y = y) (x : List Int) : comps (l ++ y :: x) = Ps l ++ tl (y :: x) := by
  obtain ⟨a, c, e, hc⟩ := h.last
  have hc2 : c ≠ 46 := by have := of_decide_eq_true hc; omega
  have e2 : dots (l ++ y :: x.map ptI) = l ++ 46 :: dots (y :: x.map ptI) := by
    have gen : ∀ (a : List Int) (z : Int), (∀ d ∈ z :: a, isD d = true ∨ d = 46) → ∀ c, isD c = true → dotsT z (a ++ c :: y :: x.map ptI) = a ++ c :: 46 :: dots (y :: x.map ptI) := by
      intro a
      induction a with
      | nil =>
        intro z hz c hc
        have h1 := of_decide_eq_true hc
        have hz2 := hz z List.mem_cons_self
        simp only [List.nil_append, dotsT]
        rw [if_neg (by rintro ⟨_, h4, h5⟩; rcases hz2 with hz2 | hz2
                       · rw [hz2, hc] at h5; exact h5 rfl
                       · exact h4 hz2), if_pos ⟨hy2, by omega, by rw [hc, hy]; decide⟩]
        rfl
      | cons d a ih =>
        intro z hz c hc
        have hz2 := hz z List.mem_cons_self
        have hd2 := hz d (by simp)
        simp only [List.cons_append, dotsT]
        rw [if_neg (by rintro ⟨h3, h4, h5⟩; rcases hz2 with hz2 | hz2
                       · rcases hd2 with hd2 | hd2
                         · rw [hz2, hd2] at h5; exact h5 rfl
                         · exact h3 hd2
                       · exact h4 hz2), ih d (fun e he => hz e (List.mem_cons_of_mem _ he)) c hc]
    rw [e]
    have hch := h.chars
    rw [e] at hch
    cases a with
    | nil =>
      have h1 := of_decide_eq_true hc
      show c :: dotsT c (y :: x.map ptI) = _
      simp only [dotsT]
      rw [if_pos ⟨hy2, by omega, by rw [hc, hy]; decide⟩]
      rfl
    | cons z a =>
      show z :: dotsT z ((a ++ [c]) ++ y :: x.map ptI) = _
      rw [List.append_assoc, List.singleton_append, gen a z (fun d hd => hch d (by
        rcases List.mem_cons.1 hd with e | hd
        · rw [e]; simp
        · simp [hd])) c hc]
      simp
  unfold comps Ps tl
  rw [canon_core h, List.map_cons, hp, e2, splitP_pt, List.map_append]
def Digs (d : List Int) : Prop := d ≠ [] ∧ ∀ c ∈ d, isD c = true
def Word (w : List Int) : Prop := w ≠ [] ∧ ∀ c ∈ w, isD c = false ∧ c ≠ 46 ∧ ptI c = c ∧ 0 ≤ c ∧ c ≤ 127
instance (w : List Int) : Decidable (Word w) := inferInstanceAs (Decidable (_ ∧ _))
theorem Digs.asc {d : List Int} (h : Digs d) : Asc d := fun c hc => by have := of_decide_eq_true (h.2 c hc); omega
theorem Digs.map {d : List Int} (h : Digs d) : d.map ptI = d := map_ptI_id (fun c hc => ptI_dig (h.2 c hc))
theorem Digs.pt {d : List Int} (h : Digs d) : ∀ c ∈ d, c ≠ 46 := fun c hc => by have := of_decide_eq_true (h.2 c hc); omega
theorem Word.asc {d : List Int} (h : Word d) : Asc d := fun c hc => (h.2 c hc).2.2.2
theorem Word.map {d : List Int} (h : Word d) : d.map ptI = d := map_ptI_id (fun c hc => (h.2 c hc).2.2.1)
theorem tl_digs {d : List Int} (h : Digs d) : tl d = [strOfNums d] := by
  unfold tl
  rw [h.map, dots_same true (fun c hc => .inl (h.2 c hc)), splitP_one h.pt]
  rfl
theorem tl_word {w d : List Int} (hw : Word w) (h : Digs d) : tl (w ++ d) = [strOfNums w, strOfNums d] := by
  obtain ⟨y, d2, rfl⟩ : ∃ y d2, d = y :: d2 := by cases d with
    | nil => exact absurd rfl h.1
    | cons y d2 => exact ⟨y, d2, rfl⟩
  have hy := h.2 y List.mem_cons_self
  unfold tl
  rw [List.map_append, hw.map, h.map, dots_turn d2 hw.1 (h.pt y List.mem_cons_self) (fun c hc => ⟨by rw [(hw.2 c hc).1, hy]; rfl, (hw.2 c hc).2.1⟩), dots_same true (fun c hc => .inl (h.2 c hc)), splitP_pt, splitP_one (fun c hc => (hw.2 c hc).2.1), splitP_one h.pt]
  rfl
/-- A word, a point, digits. -/
theorem tl_word_pt {w d : List Int} (hw : Word w) (h : Digs d) : tl (w ++ 46 :: d) = [strOfNums w, strOfNums d] := by
  unfold tl
  rw [List.map_append, List.map_cons, hw.map, h.map, show ptI 46 = 46 by decide, dots_at, dots_same false (fun c hc => .inl (hw.2 c hc).1), dots_same true (fun c hc => .inl (h.2 c hc)), splitP_pt, splitP_one (fun c hc => (hw.2 c hc).2.1), splitP_one h.pt]
  rfl
theorem digs_all {d : List Int} (h : Digs d) : AllDig (strOfNums d) := by
  rw [allDig_iff, h.asc.str]
  exact h
theorem word_not {w : List Int} (h : Word w) : ¬ AllDig (strOfNums w) := by
  rw [allDig_iff, h.asc.str]
  rintro ⟨h0, h1⟩
  cases w with
  | nil => exact h0 rfl
  | cons c w =>
    have h2 := h1 c List.mem_cons_self
    rw [(h.2 c List.mem_cons_self).1] at h2
    cases h2
theorem cmp_digs {d e : List Int} (hd : Digs d) (he : Digs e) : cmpOne (strOfNums d) (strOfNums e) = cmpN (dvL d) (dvL e) := by
  unfold cmpOne
  rw [if_pos (digs_all hd), if_pos (digs_all he), dv_dvL, dv_dvL, hd.asc.str, he.asc.str]
theorem cmp_words {v w : List Int} (hv : Word v) (hw : Word w) : cmpOne (strOfNums v) (strOfNums w) = cmpI (weighL v) (weighL w) := by
  unfold cmpOne special
  rw [if_neg (word_not hv), if_neg (word_not hw), weigh_L, weigh_L, hv.asc.str, hw.asc.str]
theorem pcmp_one (x y : ByteArray) : pcmp [x] [y] = cmpOne x y := by
  simp only [pcmp, nrest]
  split
  · rename_i h; rw [h]
  · rfl
theorem ps_small {l : List Int} (h : Core l) : ∀ x ∈ Ps l, Small x := by
  intro x hx _
  obtain ⟨m, hm, rfl⟩ := List.mem_map.1 hx
  have h2 := h m hm
  have ha : Asc m := fun c hc => by have := of_decide_eq_true (h2.2.1 c hc); omega
  rw [B_size, ha.str]
  have := h2.2.2
  omega
theorem str_small {d : List Int} (h : Asc d) (hl : d.length ≤ 18) : Small (strOfNums d) := fun _ => by rw [B_size, h.str]; exact hl
theorem decD (n : Nat) : Digs (decL n) := ⟨(decL_spec n).1, (decL_spec n).2.1⟩

/-- How many digits: cmpN and the law's own order. -/
theorem want_eq (n m : Nat) : laws_want.f (n : Int) (m : Int) = some (cmpN n m) := by
  unfold laws_want.f cmpN
  by_cases h1 : n < m
  · rw [if_pos (by omega), if_pos h1]
  · by_cases h2 : m < n
    · rw [if_neg (by omega), if_pos (by omega), if_neg h1, if_pos h2]
    · rw [if_neg (by omega), if_neg (by omega), if_neg h1, if_neg h2]
theorem num_pair {s w t u : ByteArray} {n m : Nat} (hs : Core (bytesOf s)) (hsz : s.size ≤ 1200) (ht : bytesOf t = decL n) (hu : bytesOf u = decL m) (htl : t.size ≤ 5) (hul : u.size ≤ 5)
    {mk : Int} (hmk : mk = 45 ∨ mk = 46) {x : List Int} (hw : bytesOf w = mk :: x) (hwl : w.size ≤ 10) (hx : x = [] ∨ Word x) :
    Ev (fun k => impl_PackagistCompareText.f k ((s ++ w) ++ t) ((s ++ w) ++ u)) (cmpN n m, true) := by
  have e : ∀ v : ByteArray, bytesOf ((s ++ w) ++ v) = bytesOf s ++ mk :: (x ++ bytesOf v) := fun v => by rw [B_append, B_append, hw, List.append_assoc]; rfl
  have hxa : Asc (mk :: x) := by
    refine Asc.mk_cons (by rcases hmk with rfl | rfl <;> decide) ?_
    rcases hx with rfl | hx
    · intro c hc; simp at hc
    · exact hx.asc
  have c1 : ∀ (v : ByteArray) (k : Nat), bytesOf v = decL k → comps (bytesOf ((s ++ w) ++ v)) = Ps (bytesOf s) ++ ((if x = [] then [] else [strOfNums x]) ++ [strOfNums (decL k)]) := by
    intro v k hv
    rw [e, comps_tail hs hmk, hv]
    rcases hx with rfl | hx
    · rw [List.nil_append, tl_digs (decD k), if_pos rfl]; rfl
    · rw [tl_word hx (decD k), if_neg hx.1]; rfl
  have asc1 : ∀ (v : ByteArray) (k : Nat), bytesOf v = decL k → Asc (bytesOf ((s ++ w) ++ v)) := by
    intro v k hv
    rw [B_append, B_append, hw, hv]
    exact Asc.append (Asc.append hs.asc hxa) (decD k).asc
  have sz : ∀ v : ByteArray, v.size ≤ 5 → ((s ++ w) ++ v).size ≤ 100000 := by intro v hv; rw [ByteArray.size_append, ByteArray.size_append]; omega
  have a1 := asc1 t n ht
  have a2 := asc1 u m hu
  have g1 := comps_goods a1 (by rw [← B_size]; exact sz t htl)
  have g2 := comps_goods a2 (by rw [← B_size]; exact sz u hul)
  have hf : Fits (comps (bytesOf ((s ++ w) ++ t))) (comps (bytesOf ((s ++ w) ++ u))) := ⟨g1, g2, .inl (by rw [c1 t n ht, c1 u m hu]; simp)⟩
  refine Ev.eq (compare_ev _ _ (sz t htl) (sz u hul) a1 a2 hf) ?_
  rw [c1 t n ht, c1 u m hu, ← List.append_assoc, ← List.append_assoc, pcmp_same, pcmp_one, cmp_digs (decD n) (decD m), (decL_spec n).2.2, (decL_spec m).2.2]
theorem FnPackagistNumbers : laws_FnPackagistNumbers.Pure := by
  intro s a b w hs ha hb hw
  refine Ev.rounds (r := true) (g := fun k => laws_FnPackagistNumbers.f k s a b w) ?_
  obtain ⟨n, t, rfl, hn, ht, htb, htl⟩ := decimal_ev ha
  obtain ⟨m, u, rfl, hm, hu, hub, hul⟩ := decimal_ev hb
  have hw2 : 0 ≤ w ∧ w ≤ 255 := by
    simp [Lit.wf, IntKind.min, IntKind.max, IntKind.signed, IntKind.bits] at hw
    omega
  simp only [laws_FnPackagistNumbers.f]
  by_cases hbig : (s.size : Int) > 2147483647
  · refine Ev.pos (fun _ => by first | omega | trivial | assumption) ?_
    exact Ev.now _
  · refine Ev.neg (fun _ => by first | omega | assumption | nofun) ?_
    have yes : Ev (fun k => laws_FnPackagistNumbers.j0 k s n m w true) true := by
      refine Ev.succ ?_
      simp only [laws_FnPackagistNumbers.j0]
      refine Ev.pos (fun _ => by first | omega | trivial | assumption) ?_
      exact Ev.now _
    refine Ev.bind (short_one s) ?_
    by_cases hsh : s.size ≤ 1200
    · refine Ev.pos (fun _ => decide_eq_true hsh) ?_
      obtain ⟨q, hq, hcore⟩ := numbered_ev s (by omega)
      refine Ev.bind hq ?_
      cases q with
      | false => exact yes
      | true =>
        have hc := hcore rfl
        refine Ev.succ ?_
        simp only [laws_FnPackagistNumbers.j0, Bool.not_true]
        refine Ev.neg (fun _ => by first | omega | assumption | nofun) ?_
        simp only [Option.bind_some]
        have hj : Int.tmod w 7 = w % 7 := Int.tmod_eq_emod_of_nonneg (by omega)
        rw [hj]
        obtain ⟨j, hj7, hjw⟩ : ∃ j : Nat, j < 7 ∧ w % 7 = (j : Int) := ⟨(w % 7).toNat, by omega, by omega⟩
        rw [hjw]
        have main : ∀ (y : List ByteArray) (v : ByteArray), y.length = 7 → rdOf ByteArray.empty y (j : Int) = v → (∃ mk x, (mk = 45 ∨ mk = 46) ∧ bytesOf v = mk :: x ∧ (x = [] ∨ Word x)) → v.size ≤ 10 →
            Ev (fun k => if 0 ≤ (j : Int) then (if (j : Int) < (y.length : Int) then (if s.size + (rdOf ByteArray.empty y (j : Int)).size ≤ 9223372036854775807 then ((laws_decimal.f k n).bind fun t183 => (if (s ++ (rdOf ByteArray.empty y (j : Int))).size + t183.size ≤ 9223372036854775807 then ((laws_decimal.f k m).bind fun t184 => (if (s ++ (rdOf ByteArray.empty y (j : Int))).size + t184.size ≤ 9223372036854775807 then ((impl_PackagistCompareText.f k ((s ++ (rdOf ByteArray.empty y (j : Int))) ++ t183) ((s ++ (rdOf ByteArray.empty y (j : Int))) ++ t184)).bind fun bt185 => (if bt185.2 = true then ((laws_want.f n m).bind fun t187 => (some (bt185.1 == t187))) else (some false))) else (none))) else (none))) else (none)) else (none)) else (none)) true := by
          intro y v hy hv hx hvl
          obtain ⟨mk, x, hmk, hvb, hx⟩ := hx
          rw [hv]
          refine Ev.pos (fun _ => by omega) ?_
          refine Ev.pos (fun _ => by omega) ?_
          refine Ev.pos (fun _ => by omega) ?_
          refine Ev.bind ht ?_
          refine Ev.pos (fun _ => by rw [ByteArray.size_append]; omega) ?_
          refine Ev.bind hu ?_
          refine Ev.pos (fun _ => by rw [ByteArray.size_append]; omega) ?_
          refine Ev.bind (num_pair hc hsh htb hub htl hul hmk hvb hvl hx) ?_
          simp only [want_eq, Option.bind_some]
          refine Ev.pos (fun _ => by first | rfl | trivial) ?_
          exact Ev.eq (Ev.now _) (by simp)
        rcases (by omega : j = 0 ∨ j = 1 ∨ j = 2 ∨ j = 3 ∨ j = 4 ∨ j = 5 ∨ j = 6) with rfl | rfl | rfl | rfl | rfl | rfl | rfl
        · exact main _ (⟨#[46]⟩ : ByteArray) rfl rfl ⟨46, [], .inr rfl, rfl, .inl rfl⟩ (by decide)
        · exact main _ (⟨#[45]⟩ : ByteArray) rfl rfl ⟨45, [], .inl rfl, rfl, .inl rfl⟩ (by decide)
        · exact main _ (⟨#[45, 100, 101, 118]⟩ : ByteArray) rfl rfl ⟨45, [100, 101, 118], .inl rfl, rfl, .inr (by decide)⟩ (by decide)
        · exact main _ (⟨#[45, 97]⟩ : ByteArray) rfl rfl ⟨45, [97], .inl rfl, rfl, .inr (by decide)⟩ (by decide)
        · exact main _ (⟨#[45, 98, 101, 116, 97]⟩ : ByteArray) rfl rfl ⟨45, [98, 101, 116, 97], .inl rfl, rfl, .inr (by decide)⟩ (by decide)
        · exact main _ (⟨#[45, 82, 67]⟩ : ByteArray) rfl rfl ⟨45, [82, 67], .inl rfl, rfl, .inr (by decide)⟩ (by decide)
        · exact main _ (⟨#[45, 112]⟩ : ByteArray) rfl rfl ⟨45, [112], .inl rfl, rfl, .inr (by decide)⟩ (by decide)
    · refine Ev.neg (fun _ => by simpa using hsh) ?_
      exact yes
end Go.Proofs.YtdjkekgfeadmoaaDoor.V
