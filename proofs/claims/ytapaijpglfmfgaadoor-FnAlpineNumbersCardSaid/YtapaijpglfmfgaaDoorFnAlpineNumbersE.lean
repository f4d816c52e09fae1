/- Proved here, for the row of the law FnAlpineNumbers: contracts of the Go functions that it reaches, each as its theorem 'calls' says, and the words and plain laws that they need (BF, BH, Qx22, BJ, PureFnAlpineNumbers, K19, WSized). -/
import Derived.Test.YtapaijpglfmfgaaDoorFnAlpineNumbersD
import Derived.Test.YtapaijpglfmfgaaDoorRows
import Derived.Stop.LaidErr
import Derived.Stop.Joined
import Derived.LaidSub
import Derived.MakeChecks
import Derived.SizedLaws
import Derived.ChangeSlices
section -- BF
namespace Go.Proofs.YtapaijpglfmfgaaDoor.V
open Go.RowKit Go.Proofs.YtapaijpglfmfgaaDoor.Q Go.Proofs.YtapaijpglfmfgaaDoorG Go.Proofs.YtapaijpglfmfgaaDoorP Go.Proofs.YtapaijpglfmfgaaDoorH Go.Proofs.YtapaijpglfmfgaaDoorB Go.Proofs.YtapaijpglfmfgaaDoorM Go.Proofs.YtapaijpglfmfgaaDoorW.PrintWords Go.Proofs.YtapaijpglfmfgaaDoorW.PrintLast
set_option linter.unusedVariables false
set_option linter.unusedSimpArgs false
def hd (l : List Int) : Int := l.getD 0 0
theorem hd_nil (b : List Int) : hd ([] ++ b) = hd b := rfl
structure Stop (l : List Int) : Prop where
 d : isD (hd l) = false
 p : hd l ≠ 46
 let_ : isL (hd l) = false
 u : hd l ≠ 95
 t : hd l ≠ 126
theorem Stop.x {l : List Int} (h : Stop l) : isX (hd l) = false := by
 have h1 := h.d
 have h2 := h.let_
 unfold isX
 rw [h1]
 unfold isL at h2
 have := of_decide_eq_false h2
 simp
 omega
theorem run_hd {p : Int → Bool} {a b : List Int} (h : ∀ c ∈ a, p c = true) (hb : p (hd b) = false) : run p (a ++ b) = a.length := run_stop_append h (.inr hb)
theorem numsP_join : ∀ (c : List (List Int)) (n : Nat) (X : List Int), c ≠ [] → (∀ d ∈ c, d ≠ [] ∧ ∀ x ∈ d, isD x = true) → isD (hd X) = false → hd X ≠ 46 → c.length ≤ n → numsP n (joinP c ++ X) = (c, X)
 | [], _, _, h, _, _, _, _ => absurd rfl h
 | _ :: _, 0, _, _, _, _, _, h => by simp at h
 | [d], n + 1, X, _, hc, h1, h2, _ => by
  obtain ⟨d0, d1⟩ := hc d List.mem_cons_self
  have e : joinP [d] ++ X = d ++ X := by simp [joinP]
  have hr : run isD (d ++ X) = d.length := run_hd d1 h1
  have hp : d.length ≠ 0 := by have := List.length_pos_iff.2 d0; omega
  rw [e]
  simp only [numsP]
  rw [hr, if_neg hp, List.drop_left, if_neg (show ¬ X.getD 0 0 = 46 from h2), List.take_left]
 | d :: d' :: r, n + 1, X, _, hc, h1, h2, hn => by
  obtain ⟨d0, d1⟩ := hc d List.mem_cons_self
  have e : joinP (d :: d' :: r) ++ X = d ++ (46 :: (joinP (d' :: r) ++ X)) := by simp [joinP]
  have hr : run isD (d ++ (46 :: (joinP (d' :: r) ++ X))) = d.length := run_hd d1 (show isD 46 = false by decide)
  have hp : d.length ≠ 0 := by have := List.length_pos_iff.2 d0; omega
  have ih := numsP_join (d' :: r) n X (by simp) (fun x hx => hc x (List.mem_cons_of_mem _ hx)) h1 h2 (by simpa using hn)
  rw [e]
  simp only [numsP]
  rw [hr, if_neg hp, List.drop_left, if_pos (show (46 :: (joinP (d' :: r) ++ X)).getD 0 0 = 46 from rfl), List.take_left, ← List.drop_drop, List.drop_left]
  show (d :: (numsP n (joinP (d' :: r) ++ X)).1, (numsP n (joinP (d' :: r) ++ X)).2) = _
  rw [ih]
theorem letterP_at {t Y : List Int} (h : (t = [] ∧ isL (hd Y) = false) ∨ ∃ x, t = [x] ∧ isL x = true) : letterP (t ++ Y) = (t, Y) := by
 unfold letterP
 rcases h with ⟨rfl, h⟩ | ⟨x, rfl, h⟩
 ·have h2 : isL (([] ++ Y).getD 0 0) = false := h
  rw [h2]
  rfl
 ·have h2 : isL (([x] ++ Y).getD 0 0) = true := h
  rw [h2]
  rfl
theorem wordAt_word {w y : List Int} (hw : w ∈ sufWords) (hy : hd y ≠ 114) : wordAt (95 :: (w ++ y)) = some w := by
 unfold wordAt
 rw [if_pos (show (95 :: (w ++ y)).getD 0 0 = 95 from rfl)]
 show sufWords.find? (fun w' => pre w' (w ++ y)) = some w
 simp only [sufWords, List.mem_cons, List.not_mem_nil, or_false] at hw
 rcases hw with rfl | rfl | rfl | rfl | rfl | rfl | rfl | rfl | rfl
 ·simp [sufWords, List.find?_cons, pre]
 ·simp [sufWords, List.find?_cons, pre]
 ·simp [sufWords, List.find?_cons, pre]
 ·simp [sufWords, List.find?_cons, pre]
 ·simp [sufWords, List.find?_cons, pre]
 ·simp [sufWords, List.find?_cons, pre]
 ·simp [sufWords, List.find?_cons, pre]
 ·simp [sufWords, List.find?_cons, pre]
 ·cases y with
  | nil => decide
  | cons a y =>
   have ha : a ≠ 114 := hy
   simp [sufWords, List.find?_cons, pre, ha]
theorem wordAt_no {Z : List Int} (h : hd Z ≠ 95) : wordAt Z = none := by unfold wordAt; rw [if_neg (show ¬ Z.getD 0 0 = 95 from h)]
theorem hd_joinS {s : List (List Int × List Int)} {Z : List Int} (h : s ≠ []) : hd (joinS s ++ Z) = 95 := by
 cases s with
 | nil => exact absurd rfl h
 | cons x s => rfl
theorem sufsP_join : ∀ (s : List (List Int × List Int)) (n : Nat) (Z : List Int), (∀ x ∈ s, x.1 ∈ sufWords ∧ ∀ c ∈ x.2, isD c = true) → hd Z ≠ 95 → hd Z ≠ 114 → isD (hd Z) = false → s.length ≤ n → sufsP n (joinS s ++ Z) = (s, Z)
  | [], n, Z, _, h1, _, _, _ => by
    show sufsP n Z = ([], Z)
    exact sufsP_none (wordAt_no h1) n
  | _ :: _, 0, _, _, _, _, _, h => by simp at h
  | (w, dg) :: s, n + 1, Z, hs, h1, h2, h3, hn => by
    obtain ⟨hw, hdg⟩ := hs _ List.mem_cons_self
    have ih := sufsP_join s n Z (fun x hx => hs x (List.mem_cons_of_mem _ hx)) h1 h2 h3 (by simpa using hn)
    obtain ⟨R, hR⟩ : ∃ R, R = joinS s ++ Z := ⟨_, rfl⟩
    have e : joinS ((w, dg) :: s) ++ Z = 95 :: (w ++ (dg ++ R)) := by rw [hR, joinS_cons]; simp
    have hRh : hd R = 95 ∨ hd R = hd Z := by
      rw [hR]
      by_cases h0 : s = []
      · right; rw [h0]; rfl
      · left; exact hd_joinS h0
    have hRd : isD (hd R) = false := by rcases hRh with e | e <;> rw [e]; · rfl
                                        · exact h3
    have hy : hd (dg ++ R) ≠ 114 := by
      cases dg with
      | nil => rcases hRh with e | e
               · rw [hd_nil, e]; decide
               · rw [hd_nil, e]; exact h2
      | cons a q =>
        have ha := hdg a List.mem_cons_self
        intro e
        have e2 : a = 114 := e
        rw [e2] at ha
        exact absurd ha (by decide)
    rw [e, sufsP_some (wordAt_word hw hy)]
    have ed : (95 :: (w ++ (dg ++ R))).drop (1 + w.length) = dg ++ R := by
      rw [Nat.add_comm, List.drop_succ_cons, List.drop_left]
    rw [ed, run_hd hdg hRd, List.take_left, List.drop_left, hR, ih]
theorem hashP_at {h E : List Int} (hh : (h = [] ∧ hd E ≠ 126) ∨ ∃ x, h = 126 :: x ∧ x ≠ [] ∧ (∀ c ∈ x, isX c = true) ∧ isX (hd E) = false) : hashP (h ++ E) = (h, E) := by
 unfold hashP
 rcases hh with ⟨rfl, h0⟩ | ⟨x, rfl, x0, hx, h0⟩
 ·rw [if_neg (fun e => h0 e.1)]
  rfl
 ·have e : (126 :: x ++ E).drop 1 = x ++ E := rfl
  rw [e, run_hd hx h0]
  have hp : x.length ≠ 0 := by have := List.length_pos_iff.2 x0; omega
  rw [if_pos ⟨rfl, hp⟩]
  have e1 : (126 :: x ++ E).take (1 + x.length) = 126 :: x := by
   rw [Nat.add_comm, List.cons_append, List.take_succ_cons, List.take_left]
  have e2 : (126 :: x ++ E).drop (1 + x.length) = E := by
   rw [Nat.add_comm, List.cons_append, List.drop_succ_cons, List.drop_left]
  rw [e1, e2]
theorem parse_join {c : List (List Int)} {t : List Int} {s : List (List Int × List Int)} {h E : List Int} (hc0 : c ≠ []) (hc : ∀ d ∈ c, d ≠ [] ∧ ∀ x ∈ d, isD x = true) (ht : t = [] ∨ ∃ x, t = [x] ∧ isL x = true)
    (hs : ∀ x ∈ s, x.1 ∈ sufWords ∧ ∀ c ∈ x.2, isD c = true) (hh : h = [] ∨ ∃ x, h = 126 :: x ∧ x ≠ [] ∧ ∀ c ∈ x, isX c = true) (hE : Stop E) :
    parseP (joinP c ++ (t ++ (joinS s ++ (h ++ E)))) = ⟨joinP c ++ (t ++ (joinS s ++ (h ++ E))), c, t, s, h, (buildP E).1, (buildP E).2.1, (buildP E).2.2⟩ ∧ rest3 (joinP c ++ (t ++ (joinS s ++ (h ++ E)))) = h ++ E := by
  -- heads
  have hZ : hd (h ++ E) = 126 ∨ hd (h ++ E) = hd E := by
    rcases hh with rfl | ⟨x, rfl, _, _⟩
    · right; rfl
    · left; rfl
  have hY : hd (joinS s ++ (h ++ E)) = 95 ∨ hd (joinS s ++ (h ++ E)) = hd (h ++ E) := by
    by_cases h0 : s = []
    · right; rw [h0]; rfl
    · left; exact hd_joinS h0
  have hZl : isL (hd (h ++ E)) = false := by rcases hZ with e | e <;> rw [e]; · rfl
                                             · exact hE.let_
  have hZd : isD (hd (h ++ E)) = false := by rcases hZ with e | e <;> rw [e]; · rfl
                                             · exact hE.d
  have hZu : hd (h ++ E) ≠ 95 := by rcases hZ with e | e <;> rw [e]; · decide
                                    · exact hE.u
  have hZp : hd (h ++ E) ≠ 46 := by rcases hZ with e | e <;> rw [e]; · decide
                                    · exact hE.p
  have hYl : isL (hd (joinS s ++ (h ++ E))) = false := by rcases hY with e | e <;> rw [e]; · rfl
                                                          · exact hZl
  have hYd : isD (hd (joinS s ++ (h ++ E))) = false := by rcases hY with e | e <;> rw [e]; · rfl
                                                          · exact hZd
  have hYp : hd (joinS s ++ (h ++ E)) ≠ 46 := by rcases hY with e | e <;> rw [e]; · decide
                                                 · exact hZp
  have hX : isD (hd (t ++ (joinS s ++ (h ++ E)))) = false ∧ hd (t ++ (joinS s ++ (h ++ E))) ≠ 46 := by
    rcases ht with rfl | ⟨x, rfl, hx⟩
    · exact ⟨hYd, hYp⟩
    · have e : hd ([x] ++ (joinS s ++ (h ++ E))) = x := rfl
      rw [e]
      unfold isL at hx
      have := of_decide_eq_true hx
      refine ⟨?_, by omega⟩
      unfold isD
      exact decide_eq_false (by omega)
  have hlenc : c.length ≤ (joinP c ++ (t ++ (joinS s ++ (h ++ E)))).length := by
    have : ∀ r : List (List Int), r.length ≤ (r.flatMap fun x => 46 :: x).length := by
      intro r
      induction r with
      | nil => exact Nat.le_refl _
      | cons a r ih => simp only [List.flatMap_cons, List.length_append, List.length_cons]; omega
    cases c with
    | nil => exact absurd rfl hc0
    | cons d r =>
      have h1 := this r
      have h2 := List.length_pos_iff.2 (hc d List.mem_cons_self).1
      simp only [joinP, List.length_append, List.length_cons]
      omega
  have e1 := numsP_join c _ (t ++ (joinS s ++ (h ++ E))) hc0 hc hX.1 hX.2 hlenc
  have e2 : letterP (t ++ (joinS s ++ (h ++ E))) = (t, joinS s ++ (h ++ E)) := letterP_at (by
    rcases ht with e | ⟨x, e, hx⟩
    · exact .inl ⟨e, hYl⟩
    · exact .inr ⟨x, e, hx⟩)
  have hlens : s.length ≤ (joinS s ++ (h ++ E)).length := by
    have : ∀ r : List (List Int × List Int), r.length ≤ (joinS r).length := by
      intro r
      induction r with
      | nil => exact Nat.le_refl _
      | cons a r ih => rw [joinS_cons]; simp only [List.length_append, List.length_cons]; omega
    have := this s
    rw [List.length_append]
    omega
  have e3 := sufsP_join s _ (h ++ E) hs hZu (fun e => by rw [e] at hZl; exact absurd hZl (by decide)) hZd hlens
  have e4 : hashP (h ++ E) = (h, E) := hashP_at (by
    rcases hh with e | ⟨x, e, x0, hx⟩
    · exact .inl ⟨e, hE.t⟩
    · exact .inr ⟨x, e, x0, hx, hE.x⟩)
  have r1 : rest1 (joinP c ++ (t ++ (joinS s ++ (h ++ E)))) = t ++ (joinS s ++ (h ++ E)) := by unfold rest1; rw [e1]
  have r2 : rest2 (joinP c ++ (t ++ (joinS s ++ (h ++ E)))) = joinS s ++ (h ++ E) := by unfold rest2; rw [r1, e2]
  have r3 : rest3 (joinP c ++ (t ++ (joinS s ++ (h ++ E)))) = h ++ E := by unfold rest3; rw [r2, e3]
  have r4 : rest4 (joinP c ++ (t ++ (joinS s ++ (h ++ E)))) = E := by unfold rest4; rw [r3, e4]
  refine ⟨?_, r3⟩
  unfold parseP
  rw [e1, r1, e2, r2, e3, r3, e4, r4]
theorem Stop.nil : Stop [] := ⟨by decide, by decide, by decide, by decide, by decide⟩
theorem Stop.cons {x : Int} {l : List Int} (h1 : isD x = false) (h2 : x ≠ 46) (h3 : isL x = false) (h4 : x ≠ 95) (h5 : x ≠ 126) : Stop (x :: l) := ⟨h1, h2, h3, h4, h5⟩
theorem stop_E (b : Bool) (n : Int) : Stop (tE b n) := by
 cases b
 ·exact Stop.nil
 ·exact Stop.cons (by decide) (by decide) (by decide) (by decide) (by decide)
theorem build_E (b : Bool) (n : Int) : buildP (tE b n) = (false, tB b n, []) := by
 cases b
 ·rfl
 ·have hr : run isD (dec n) = (dec n).length := run_all (dec_isD n)
  show buildP (45 :: 114 :: dec n) = (false, dec n, [])
  unfold buildP
  rw [if_neg (by simp), if_pos (show List.take 2 (45 :: 114 :: dec n) = [45, 114] from rfl)]
  show (false, (dec n).take (run isD (dec n)), (dec n).drop (run isD (dec n))) = _
  rw [hr, List.take_length, List.drop_length]
theorem tC_good (ns : List Int) : ∀ d ∈ tC ns, d ≠ [] ∧ ∀ x ∈ d, isD x = true := by
 intro d hd
 obtain ⟨x, _, rfl⟩ := List.mem_map.1 hd
 exact ⟨dec_ne x, dec_isD x⟩
theorem tC_ne {ns : List Int} (h : ns ≠ []) : tC ns ≠ [] := by
 intro e
 exact h (List.map_eq_nil_iff.1 e)
theorem tL_good {l : Int} (hl : 0 ≤ l) : tL l = [] ∨ ∃ x, tL l = [x] ∧ isL x = true := by
 unfold tL
 have hm : 0 ≤ Int.tmod l 27 ∧ Int.tmod l 27 < 27 := by rw [Int.tmod_eq_emod_of_nonneg hl]; omega
 split
 ·refine .inr ⟨_, rfl, ?_⟩
  unfold isL
  exact decide_eq_true (by omega)
 ·exact .inl rfl
theorem tS_good {ss sn : List Int} (hse : ∀ x ∈ ss, 0 ≤ x) : ∀ x ∈ tS ss sn, x.1 ∈ sufWords ∧ ∀ c ∈ x.2, isD c = true := by
 intro x hx
 unfold tS tSfrom at hx
 obtain ⟨p, hp, rfl⟩ := List.mem_map.1 hx
 have h1 : p.1 ∈ ss := by
  have := List.mem_map_of_mem (f := Prod.fst) hp
  rwa [List.zipIdx_map_fst] at this
 refine ⟨sW_mem _ (hse _ h1), fun c hc => ?_⟩
 simp only at hc
 split at hc
 ·exact dec_isD _ c hc
 ·simp at hc
def U8 (a : Int) : Prop := 0 ≤ a ∧ a ≤ 255
theorem u8_of {a : Int} (h : (Lit.int .u8 a).wf = true) : U8 a := by
 unfold U8
 simp [Lit.wf, IntKind.min, IntKind.max, IntKind.signed, IntKind.bits] at h
 omega
theorem joinP_len (c : List (List Int)) (h : ∀ d ∈ c, d.length ≤ 5) : (joinP c).length ≤ 6 * c.length := by
 have aux : ∀ r : List (List Int), (∀ d ∈ r, d.length ≤ 5) → (r.flatMap fun x => 46 :: x).length ≤ 6 * r.length := by
  intro r hr
  induction r with
  | nil => exact Nat.zero_le _
  | cons a r ih =>
   have h1 := hr a List.mem_cons_self
   have h2 := ih (fun d hd => hr d (List.mem_cons_of_mem _ hd))
   simp only [List.flatMap_cons, List.length_append, List.length_cons]
   omega
 cases c with
 | nil => exact Nat.zero_le _
 | cons d r =>
  have h1 := h d List.mem_cons_self
  have h2 := aux r (fun d hd => h d (List.mem_cons_of_mem _ hd))
  simp only [joinP, List.length_append, List.length_cons]
  omega
theorem joinS_len (s : List (List Int × List Int)) (h : ∀ x ∈ s, x.1.length ≤ 5 ∧ x.2.length ≤ 5) : (joinS s).length ≤ 11 * s.length := by
 induction s with
 | nil => exact Nat.zero_le _
 | cons a r ih =>
  have h1 := h a List.mem_cons_self
  have h2 := ih (fun d hd => h d (List.mem_cons_of_mem _ hd))
  rw [joinS_cons]
  simp only [List.length_append, List.length_cons]
  omega
theorem joinP_mem {c : List (List Int)} {x : Int} (h : x ∈ joinP c) : x = 46 ∨ ∃ d ∈ c, x ∈ d := by
 cases c with
 | nil => simp [joinP] at h
 | cons d r =>
  rcases List.mem_append.1 h with h | h
  ·exact .inr ⟨d, List.mem_cons_self, h⟩
  ·obtain ⟨e, he, hx⟩ := List.mem_flatMap.1 h
   rcases List.mem_cons.1 hx with e1 | e1
   ·exact .inl e1
   ·exact .inr ⟨e, List.mem_cons_of_mem _ he, e1⟩
theorem isD_asc {c : Int} (h : isD c = true) : 0 ≤ c ∧ c ≤ 127 := by
 unfold isD at h
 have := of_decide_eq_true h
 omega
theorem textL_good {ns ss sn h : List Int} {l n : Int} {b : Bool} (hk : tOk ns ss h) (hne : ∀ x ∈ ns, U16 x) (hl : 0 ≤ l) (hse : ∀ x ∈ ss, 0 ≤ x) (hsn : ∀ x ∈ sn, U16 x) (hn : U16 n) :
  (∀ c ∈ textL ns l ss sn h b n, 0 ≤ c ∧ c ≤ 127) ∧ (textL ns l ss sn h b n).length ≤ 3000 := by
 obtain ⟨k0, k1, k2, k3, k4⟩ := hk
 have hC := tC_good ns
 have hS := tS_good (sn := sn) hse
 have hS2 : ∀ x ∈ tS ss sn, x.1.length ≤ 5 ∧ x.2.length ≤ 5 := by
  intro x hx
  refine ⟨(sufWords_len (hS x hx).1).2, ?_⟩
  unfold tS tSfrom at hx
  obtain ⟨p, hp, rfl⟩ := List.mem_map.1 hx
  simp only
  split
  ·rename_i h0
   refine dec_len ?_
   by_cases hlt : p.2 < sn.length
   ·rw [List.getD_eq_getElem?_getD, List.getElem?_eq_getElem hlt]
    exact hsn _ (List.getElem_mem hlt)
   ·rw [List.getD_eq_getElem?_getD, List.getElem?_eq_none (by omega)] at h0
    exact absurd h0 (by decide)
  ·exact Nat.zero_le _
 constructor
 ·intro c hc
  unfold textL at hc
  rcases List.mem_append.1 hc with hc | hc
  ·rcases joinP_mem hc with e | ⟨d, hd, hx⟩
   ·omega
   ·exact isD_asc ((hC d hd).2 c hx)
  rcases List.mem_append.1 hc with hc | hc
  ·rcases tL_good hl with e | ⟨x, e, hx⟩
   ·rw [e] at hc; simp at hc
   ·rw [e] at hc
    have e2 : c = x := by simpa using hc
    rw [e2]
    unfold isL at hx
    have := of_decide_eq_true hx
    omega
  rcases List.mem_append.1 hc with hc | hc
  ·obtain ⟨x, hx, hc⟩ := List.mem_flatMap.1 hc
   obtain ⟨h1, h2⟩ := hS x hx
   rcases List.mem_cons.1 hc with e | hc
   ·omega
   rcases List.mem_append.1 hc with hc | hc
   ·have := sufWords_asc h1 c hc; omega
   ·exact isD_asc (h2 c hc)
  rcases List.mem_append.1 hc with hc | hc
  ·unfold tH at hc
   split at hc
   ·simp at hc
   ·rcases List.mem_cons.1 hc with e | hc
    ·omega
    ·have hX := k4 c hc
     have : (48 ≤ c ∧ c ≤ 57) ∨ (97 ≤ c ∧ c ≤ 102) := by simpa [isX, isD] using hX
     omega
  ·unfold tE at hc
   split at hc
   ·rcases List.mem_cons.1 hc with e | hc
    ·omega
    rcases List.mem_cons.1 hc with e | hc
    ·omega
    ·exact isD_asc (dec_isD n c hc)
   ·simp at hc
 ·have h1 := joinP_len (tC ns) (fun d hd => by
   obtain ⟨x, hx, rfl⟩ := List.mem_map.1 hd
   exact dec_len (hne x hx))
  have h2 := joinS_len (tS ss sn) hS2
  have e1 : (tC ns).length = ns.length := by simp [tC]
  have e2 : (tS ss sn).length = ss.length := by simp [tS, tSfrom]
  have h3 : (tL l).length ≤ 1 := by unfold tL; split <;> simp
  have h4 : (tH h).length ≤ 1 + h.length := by unfold tH; split <;> simp; omega
  have h5 : (tE b n).length ≤ 7 := by
   have := dec_len hn
   unfold tE
   split
   ·simp; omega
   ·simp
  unfold textL
  simp only [List.length_append]
  omega
end Go.Proofs.YtapaijpglfmfgaaDoor.V
end
section -- BH
namespace Go.Proofs.YtapaijpglfmfgaaDoor.V
open Go.RowKit Go.Proofs.YtapaijpglfmfgaaDoor.Q Go.Proofs.YtapaijpglfmfgaaDoorG Go.Proofs.YtapaijpglfmfgaaDoorP Go.Proofs.YtapaijpglfmfgaaDoorH Go.Proofs.YtapaijpglfmfgaaDoorB Go.Proofs.YtapaijpglfmfgaaDoorM Go.Proofs.YtapaijpglfmfgaaDoorW.PrintWords Go.Proofs.YtapaijpglfmfgaaDoorW.PrintLast
set_option linter.unusedVariables false
set_option linter.unusedSimpArgs false
theorem cmp_self : ∀ l : List Int, cmp_ l l = 0
 | [] => rfl
 | x :: l => by simp [cmp_, cmp_self l]
theorem strCmp_self (s : ByteArray) : strCmp s s = 0 := by
 show Lib.compareBytes s.data.toList s.data.toList = 0
 rw [compare_B, cmp_self]
theorem cmpN_self (n : Nat) : cmpN n n = 0 := by unfold cmpN; rw [if_neg (by omega), if_neg (by omega)]
theorem fromC_zero {d : Nat → Int} (h : ∀ k, d k = 0) : ∀ n k, fromC d n k = 0
 | 0, _ => rfl
 | n + 1, k => by simp only [fromC, h, if_pos, fromC_zero h n]
theorem comps_self (l : List Nm) : compsC l l = 0 := by
 unfold compsC
 refine fromC_zero (fun k => ?_) _ _
 unfold numD numC
 split
 ·exact strCmp_self _
 ·exact cmpN_self _
theorem letters_self (s : ByteArray) : lettersCmp s s = 0 := by
 unfold lettersCmp
 rw [if_neg (fun h => h.2 h.1), if_neg (fun h => h.1 h.2), strCmp_self]
theorem rem_self (s : ByteArray) : remCmp s s = 0 := by
 unfold remCmp
 rw [if_neg (fun h => h.2 h.1), if_neg (fun h => h.1 h.2)]
theorem apC_like {p q : PV} (hi : p.i = false) (hc : p.c = q.c) (hl : p.l = q.l) (hr : p.r = q.r) :
  apC (apOf p) (apOf q) = firstNe (sufsC ((p.s.map convS).map toSx) ((q.s.map convS).map toSx)) (cmpN (decL p.b) (decL q.b)) := by
 unfold apC apOf
 simp only [hi, hc, hl, hr, Bool.false_eq_true, false_and, if_false, comps_self, letters_self, rem_self]
 unfold firstNe
 simp only [if_pos]
 by_cases h : cmpN (decL p.b) (decL q.b) = 0
 ·simp [h]
 ·simp [h]
theorem toSx_at {w d : List Int} (h : ∀ c ∈ d, isD c = true) (hl : d.length ≤ 1000000) : toSx (convS (w, d)) = ⟨(wgt w : Int), 0, decL d⟩ := by
 unfold toSx convS
 simp only
 rw [(or0_good h hl).2.2]
theorem sufs_one (a b : Sx) : sufsC [a] [b] = sufC a.wt a.n b.wt b.n := by
 show (if sufD [a] [b] 0 = 0 then 0 else sufD [a] [b] 0) = _
 show (if sufC a.wt a.n b.wt b.n = 0 then 0 else sufC a.wt a.n b.wt b.n) = _
 split
 ·rename_i h; exact h.symm
 ·rfl
theorem sufs_nil : sufsC [] [] = 0 := rfl
theorem clear_no95 {l : List Int} (h : ∀ c ∈ l, c ≠ 95) : clearB l = true := by
 rw [clearB_iff]
 intro j
 refine wordAt_no ?_
 cases e : l.drop j with
 | nil => decide
 | cons x r =>
  have : x ∈ l := List.mem_of_mem_drop (i := j) (by rw [e]; exact List.mem_cons_self)
  exact h x this
end Go.Proofs.YtapaijpglfmfgaaDoor.V
end
section -- Qx22
namespace Go.Proofs.YtapaijpglfmfgaaDoor.Q
open Go.RowKit Go.Proofs.YtapaijpglfmfgaaDoorH Go.Proofs.YtapaijpglfmfgaaDoorG Go.Proofs.YtapaijpglfmfgaaDoorW.PrintWords Go.Proofs.YtapaijpglfmfgaaDoorW.PrintLast Go.Proofs.YtapaijpglfmfgaaDoorW.PrintMore Go.Proofs.YtapaijpglfmfgaaDoorC
attribute [local go_sem] max2_int min2_int max_two min_two max_three min_three max_four min_four
set_option linter.unusedVariables false
set_option linter.unusedSimpArgs false
def laws_FnAlpineNumbers.f (k : Nat) (l0 : List Int) (a1 : Int) (a2 : Int) (a3 : Int) (a4 : Int) (a5 : Int) : Option (Bool) := if (l0.length : Int) > 2147483647 then (some true) else ((laws_Package_text.f k l0 0 ([] : List Int) ([] : List Int) (⟨#[]⟩ : ByteArray) false 0).bind fun bt220 => (if bt220.2.2.2.2.2.2.2.2.2.2.2 = true then ((laws_suffixes.f).bind fun t237 => (if 0 ≤ (Int.tmod a1 9) then (if (Int.tmod a1 9) < (t237.length : Int) then (if 1 + (rdOf ByteArray.empty t237 (Int.tmod a1 9)).size ≤ 9223372036854775807 then (if bt220.1.size + ((⟨#[95]⟩ : ByteArray) ++ (rdOf ByteArray.empty t237 (Int.tmod a1 9))).size ≤ 9223372036854775807 then ((laws_decimal.f k a2).bind fun t241 => (if (bt220.1 ++ ((⟨#[95]⟩ : ByteArray) ++ (rdOf ByteArray.empty t237 (Int.tmod a1 9)))).size + t241.size ≤ 9223372036854775807 then ((laws_decimal.f k a3).bind fun t242 => (if (bt220.1 ++ ((⟨#[95]⟩ : ByteArray) ++ (rdOf ByteArray.empty t237 (Int.tmod a1 9)))).size + t242.size ≤ 9223372036854775807 then ((impl_AlpineCompareText.f ((bt220.1 ++ ((⟨#[95]⟩ : ByteArray) ++ (rdOf ByteArray.empty t237 (Int.tmod a1 9)))) ++ t241) ((bt220.1 ++ ((⟨#[95]⟩ : ByteArray) ++ (rdOf ByteArray.empty t237 (Int.tmod a1 9)))) ++ t242)).bind fun bt243 => (if bt220.1.size + 2 ≤ 9223372036854775807 then ((laws_decimal.f k a2).bind fun t245 => (if (bt220.1 ++ (⟨#[45, 114]⟩ : ByteArray)).size + t245.size ≤ 9223372036854775807 then ((laws_decimal.f k a3).bind fun t246 => (if (bt220.1 ++ (⟨#[45, 114]⟩ : ByteArray)).size + t246.size ≤ 9223372036854775807 then ((impl_AlpineCompareText.f ((bt220.1 ++ (⟨#[45, 114]⟩ : ByteArray)) ++ t245) ((bt220.1 ++ (⟨#[45, 114]⟩ : ByteArray)) ++ t246)).bind fun bt247 => (if bt220.1.size + (Utf8.encode ((97 + (Int.tmod a4 26)) % 256)).size ≤ 9223372036854775807 then (if bt220.1.size + (Utf8.encode ((97 + (Int.tmod a5 26)) % 256)).size ≤ 9223372036854775807 then ((impl_AlpineCompareText.f (bt220.1 ++ (Utf8.encode ((97 + (Int.tmod a4 26)) % 256))) (bt220.1 ++ (Utf8.encode ((97 + (Int.tmod a5 26)) % 256)))).bind fun bt249 => ((impl_AlpineCompareText.f bt220.1 (bt220.1 ++ (Utf8.encode ((97 + (Int.tmod a4 26)) % 256)))).bind fun bt251 => (if bt243.2 = true then (if bt247.2 = true then (if bt249.2 = true then (if bt251.2 = true then ((laws_want.f a2 a3).bind fun t253 => (if bt243.1 = t253 then ((laws_want.f a2 a3).bind fun t254 => (if bt247.1 = t254 then ((laws_want.f (IntKind.u16.wrap (Int.tmod a4 26)) (IntKind.u16.wrap (Int.tmod a5 26))).bind fun t255 => (if bt249.1 = t255 then (some (bt251.1 == (-1))) else (some false))) else (some false))) else (some false))) else (some false)) else (some false)) else (some false)) else (some false)))) else (none)) else (none))) else (none))) else (none))) else (none))) else (none))) else (none))) else (none)) else (none)) else (none)) else (none))) else (some true)))
set_option maxHeartbeats 8000000 in
set_option maxRecDepth 100000 in
theorem laws_FnAlpineNumbers.calls (k : Nat) (A0 : Option Addr) (c0 : Nat) (l0 : List Int) (a1 : Int) (a2 : Int) (a3 : Int) (a4 : Int) (a5 : Int) (r : Bool) (w : World) (hr0 : Kd.C (Kd.int .u16) w A0 l0.length l0) (hc0 : l0.length ≤ c0) (h : laws_FnAlpineNumbers.f k l0 a1 a2 a3 a4 a5 = some r) (hG : GL w) (hr : r = true) :
  Calls Tryd.prog 6 #[.slice A0 l0.length c0, .int .u8 a1, .int .u16 a2, .int .u16 a3, .int .u8 a4, .int .u8 a5] w fun e w' => e = .returned (.bool r) ∧ Below w.heap.size w w' := by
 have HT := Aside0.mk hr
 clear hr
 have HG := Aside0.mk hG
 clear hG
 have hu26 := Tryd.underlying26
 have hu33 := Tryd.underlying33
 have HR0 := Aside0.mk hr0
 have HC0 := Aside0.mk hc0
 clear hr0 hc0
 have HB := Aside0.mk (Below.refl w.heap.size w)
 have H : (if (l0.length : Int) > 2147483647 then (some true) else ((laws_Package_text.f k l0 0 ([] : List Int) ([] : List Int) (⟨#[]⟩ : ByteArray) false 0).bind fun bt220 => (if bt220.2.2.2.2.2.2.2.2.2.2.2 = true then ((laws_suffixes.f).bind fun t237 => (if 0 ≤ (Int.tmod a1 9) then (if (Int.tmod a1 9) < (t237.length : Int) then (if 1 + (rdOf ByteArray.empty t237 (Int.tmod a1 9)).size ≤ 9223372036854775807 then (if bt220.1.size + ((⟨#[95]⟩ : ByteArray) ++ (rdOf ByteArray.empty t237 (Int.tmod a1 9))).size ≤ 9223372036854775807 then ((laws_decimal.f k a2).bind fun t241 => (if (bt220.1 ++ ((⟨#[95]⟩ : ByteArray) ++ (rdOf ByteArray.empty t237 (Int.tmod a1 9)))).size + t241.size ≤ 9223372036854775807 then ((laws_decimal.f k a3).bind fun t242 => (if (bt220.1 ++ ((⟨#[95]⟩ : ByteArray) ++ (rdOf ByteArray.empty t237 (Int.tmod a1 9)))).size + t242.size ≤ 9223372036854775807 then ((impl_AlpineCompareText.f ((bt220.1 ++ ((⟨#[95]⟩ : ByteArray) ++ (rdOf ByteArray.empty t237 (Int.tmod a1 9)))) ++ t241) ((bt220.1 ++ ((⟨#[95]⟩ : ByteArray) ++ (rdOf ByteArray.empty t237 (Int.tmod a1 9)))) ++ t242)).bind fun bt243 => (if bt220.1.size + 2 ≤ 9223372036854775807 then ((laws_decimal.f k a2).bind fun t245 => (if (bt220.1 ++ (⟨#[45, 114]⟩ : ByteArray)).size + t245.size ≤ 9223372036854775807 then ((laws_decimal.f k a3).bind fun t246 => (if (bt220.1 ++ (⟨#[45, 114]⟩ : ByteArray)).size + t246.size ≤ 9223372036854775807 then ((impl_AlpineCompareText.f ((bt220.1 ++ (⟨#[45, 114]⟩ : ByteArray)) ++ t245) ((bt220.1 ++ (⟨#[45, 114]⟩ : ByteArray)) ++ t246)).bind fun bt247 => (if bt220.1.size + (Utf8.encode ((97 + (Int.tmod a4 26)) % 256)).size ≤ 9223372036854775807 then (if bt220.1.size + (Utf8.encode ((97 + (Int.tmod a5 26)) % 256)).size ≤ 9223372036854775807 then ((impl_AlpineCompareText.f (bt220.1 ++ (Utf8.encode ((97 + (Int.tmod a4 26)) % 256))) (bt220.1 ++ (Utf8.encode ((97 + (Int.tmod a5 26)) % 256)))).bind fun bt249 => ((impl_AlpineCompareText.f bt220.1 (bt220.1 ++ (Utf8.encode ((97 + (Int.tmod a4 26)) % 256)))).bind fun bt251 => (if bt243.2 = true then (if bt247.2 = true then (if bt249.2 = true then (if bt251.2 = true then ((laws_want.f a2 a3).bind fun t253 => (if bt243.1 = t253 then ((laws_want.f a2 a3).bind fun t254 => (if bt247.1 = t254 then ((laws_want.f (IntKind.u16.wrap (Int.tmod a4 26)) (IntKind.u16.wrap (Int.tmod a5 26))).bind fun t255 => (if bt249.1 = t255 then (some (bt251.1 == (-1))) else (some false))) else (some false))) else (some false))) else (some false)) else (some false)) else (some false)) else (some false)))) else (none)) else (none))) else (none))) else (none))) else (none))) else (none))) else (none))) else (none)) else (none)) else (none)) else (none))) else (some true)))) = some r := h
 clear h
 by_cases c7 : (l0.length : Int) > 2147483647
 ·rw [if_pos c7] at H
  have c7b0 : decide (2147483647 < (l0.length : Int)) = true := decide_eq_true c7
  have c7b1 : decide (2147483647 < l0.length) = true := decide_eq_true (by omega)
  clear c7
  obtain rfl := Option.some.inj H
  go_enter Tryd.func6, Tryd.ntmps6
  go_wp2
  go_ret
  exact ⟨by rfl, by (with_reducible exact HB.out)⟩
 ·rw [if_neg c7] at H
  have c7b0 : decide (2147483647 < (l0.length : Int)) = false := decide_eq_false c7
  have c7b1 : decide (2147483647 < l0.length) = false := decide_eq_false (by omega)
  clear c7
  replace H := Option.bind_eq_some_iff.mp H
  obtain ⟨⟨t220, t221, t222, t223, t224, t225, t226, t229, t232, t233, t234, t235⟩, A80, H⟩ := H
  replace H : (if t235 = true then ((laws_suffixes.f).bind fun t237 => (if 0 ≤ (Int.tmod a1 9) then (if (Int.tmod a1 9) < (t237.length : Int) then (if 1 + (rdOf ByteArray.empty t237 (Int.tmod a1 9)).size ≤ 9223372036854775807 then (if t220.size + ((⟨#[95]⟩ : ByteArray) ++ (rdOf ByteArray.empty t237 (Int.tmod a1 9))).size ≤ 9223372036854775807 then ((laws_decimal.f k a2).bind fun t241 => (if (t220 ++ ((⟨#[95]⟩ : ByteArray) ++ (rdOf ByteArray.empty t237 (Int.tmod a1 9)))).size + t241.size ≤ 9223372036854775807 then ((laws_decimal.f k a3).bind fun t242 => (if (t220 ++ ((⟨#[95]⟩ : ByteArray) ++ (rdOf ByteArray.empty t237 (Int.tmod a1 9)))).size + t242.size ≤ 9223372036854775807 then ((impl_AlpineCompareText.f ((t220 ++ ((⟨#[95]⟩ : ByteArray) ++ (rdOf ByteArray.empty t237 (Int.tmod a1 9)))) ++ t241) ((t220 ++ ((⟨#[95]⟩ : ByteArray) ++ (rdOf ByteArray.empty t237 (Int.tmod a1 9)))) ++ t242)).bind fun bt243 => (if t220.size + 2 ≤ 9223372036854775807 then ((laws_decimal.f k a2).bind fun t245 => (if (t220 ++ (⟨#[45, 114]⟩ : ByteArray)).size + t245.size ≤ 9223372036854775807 then ((laws_decimal.f k a3).bind fun t246 => (if (t220 ++ (⟨#[45, 114]⟩ : ByteArray)).size + t246.size ≤ 9223372036854775807 then ((impl_AlpineCompareText.f ((t220 ++ (⟨#[45, 114]⟩ : ByteArray)) ++ t245) ((t220 ++ (⟨#[45, 114]⟩ : ByteArray)) ++ t246)).bind fun bt247 => (if t220.size + (Utf8.encode ((97 + (Int.tmod a4 26)) % 256)).size ≤ 9223372036854775807 then (if t220.size + (Utf8.encode ((97 + (Int.tmod a5 26)) % 256)).size ≤ 9223372036854775807 then ((impl_AlpineCompareText.f (t220 ++ (Utf8.encode ((97 + (Int.tmod a4 26)) % 256))) (t220 ++ (Utf8.encode ((97 + (Int.tmod a5 26)) % 256)))).bind fun bt249 => ((impl_AlpineCompareText.f t220 (t220 ++ (Utf8.encode ((97 + (Int.tmod a4 26)) % 256)))).bind fun bt251 => (if bt243.2 = true then (if bt247.2 = true then (if bt249.2 = true then (if bt251.2 = true then ((laws_want.f a2 a3).bind fun t253 => (if bt243.1 = t253 then ((laws_want.f a2 a3).bind fun t254 => (if bt247.1 = t254 then ((laws_want.f (IntKind.u16.wrap (Int.tmod a4 26)) (IntKind.u16.wrap (Int.tmod a5 26))).bind fun t255 => (if bt249.1 = t255 then (some (bt251.1 == (-1))) else (some false))) else (some false))) else (some false))) else (some false)) else (some false)) else (some false)) else (some false)))) else (none)) else (none))) else (none))) else (none))) else (none))) else (none))) else (none))) else (none)) else (none)) else (none)) else (none))) else (some true)) = some r := H
  have A8 := Aside0.mk A80
  clear A80
  by_cases c9 : t235 = true
  ·subst c9
   have H1 : ((laws_suffixes.f).bind fun t237 => (if 0 ≤ (Int.tmod a1 9) then (if (Int.tmod a1 9) < (t237.length : Int) then (if 1 + (rdOf ByteArray.empty t237 (Int.tmod a1 9)).size ≤ 9223372036854775807 then (if t220.size + ((⟨#[95]⟩ : ByteArray) ++ (rdOf ByteArray.empty t237 (Int.tmod a1 9))).size ≤ 9223372036854775807 then ((laws_decimal.f k a2).bind fun t241 => (if (t220 ++ ((⟨#[95]⟩ : ByteArray) ++ (rdOf ByteArray.empty t237 (Int.tmod a1 9)))).size + t241.size ≤ 9223372036854775807 then ((laws_decimal.f k a3).bind fun t242 => (if (t220 ++ ((⟨#[95]⟩ : ByteArray) ++ (rdOf ByteArray.empty t237 (Int.tmod a1 9)))).size + t242.size ≤ 9223372036854775807 then ((impl_AlpineCompareText.f ((t220 ++ ((⟨#[95]⟩ : ByteArray) ++ (rdOf ByteArray.empty t237 (Int.tmod a1 9)))) ++ t241) ((t220 ++ ((⟨#[95]⟩ : ByteArray) ++ (rdOf ByteArray.empty t237 (Int.tmod a1 9)))) ++ t242)).bind fun bt243 => (if t220.size + 2 ≤ 9223372036854775807 then ((laws_decimal.f k a2).bind fun t245 => (if (t220 ++ (⟨#[45, 114]⟩ : ByteArray)).size + t245.size ≤ 9223372036854775807 then ((laws_decimal.f k a3).bind fun t246 => (if (t220 ++ (⟨#[45, 114]⟩ : ByteArray)).size + t246.size ≤ 9223372036854775807 then ((impl_AlpineCompareText.f ((t220 ++ (⟨#[45, 114]⟩ : ByteArray)) ++ t245) ((t220 ++ (⟨#[45, 114]⟩ : ByteArray)) ++ t246)).bind fun bt247 => (if t220.size + (Utf8.encode ((97 + (Int.tmod a4 26)) % 256)).size ≤ 9223372036854775807 then (if t220.size + (Utf8.encode ((97 + (Int.tmod a5 26)) % 256)).size ≤ 9223372036854775807 then ((impl_AlpineCompareText.f (t220 ++ (Utf8.encode ((97 + (Int.tmod a4 26)) % 256))) (t220 ++ (Utf8.encode ((97 + (Int.tmod a5 26)) % 256)))).bind fun bt249 => ((impl_AlpineCompareText.f t220 (t220 ++ (Utf8.encode ((97 + (Int.tmod a4 26)) % 256)))).bind fun bt251 => (if bt243.2 = true then (if bt247.2 = true then (if bt249.2 = true then (if bt251.2 = true then ((laws_want.f a2 a3).bind fun t253 => (if bt243.1 = t253 then ((laws_want.f a2 a3).bind fun t254 => (if bt247.1 = t254 then ((laws_want.f (IntKind.u16.wrap (Int.tmod a4 26)) (IntKind.u16.wrap (Int.tmod a5 26))).bind fun t255 => (if bt249.1 = t255 then (some (bt251.1 == (-1))) else (some false))) else (some false))) else (some false))) else (some false)) else (some false)) else (some false)) else (some false)))) else (none)) else (none))) else (none))) else (none))) else (none))) else (none))) else (none))) else (none)) else (none)) else (none)) else (none))) = some r := by rw [if_pos rfl] at H; exact H
   clear H
   have H := H1
   clear H1
   replace H := Option.bind_eq_some_iff.mp H
   obtain ⟨t237, A100, H⟩ := H
   replace H : (if 0 ≤ (Int.tmod a1 9) then (if (Int.tmod a1 9) < (t237.length : Int) then (if 1 + (rdOf ByteArray.empty t237 (Int.tmod a1 9)).size ≤ 9223372036854775807 then (if t220.size + ((⟨#[95]⟩ : ByteArray) ++ (rdOf ByteArray.empty t237 (Int.tmod a1 9))).size ≤ 9223372036854775807 then ((laws_decimal.f k a2).bind fun t241 => (if (t220 ++ ((⟨#[95]⟩ : ByteArray) ++ (rdOf ByteArray.empty t237 (Int.tmod a1 9)))).size + t241.size ≤ 9223372036854775807 then ((laws_decimal.f k a3).bind fun t242 => (if (t220 ++ ((⟨#[95]⟩ : ByteArray) ++ (rdOf ByteArray.empty t237 (Int.tmod a1 9)))).size + t242.size ≤ 9223372036854775807 then ((impl_AlpineCompareText.f ((t220 ++ ((⟨#[95]⟩ : ByteArray) ++ (rdOf ByteArray.empty t237 (Int.tmod a1 9)))) ++ t241) ((t220 ++ ((⟨#[95]⟩ : ByteArray) ++ (rdOf ByteArray.empty t237 (Int.tmod a1 9)))) ++ t242)).bind fun bt243 => (if t220.size + 2 ≤ 9223372036854775807 then ((laws_decimal.f k a2).bind fun t245 => (if (t220 ++ (⟨#[45, 114]⟩ : ByteArray)).size + t245.size ≤ 9223372036854775807 then ((laws_decimal.f k a3).bind fun t246 => (if (t220 ++ (⟨#[45, 114]⟩ : ByteArray)).size + t246.size ≤ 9223372036854775807 then ((impl_AlpineCompareText.f ((t220 ++ (⟨#[45, 114]⟩ : ByteArray)) ++ t245) ((t220 ++ (⟨#[45, 114]⟩ : ByteArray)) ++ t246)).bind fun bt247 => (if t220.size + (Utf8.encode ((97 + (Int.tmod a4 26)) % 256)).size ≤ 9223372036854775807 then (if t220.size + (Utf8.encode ((97 + (Int.tmod a5 26)) % 256)).size ≤ 9223372036854775807 then ((impl_AlpineCompareText.f (t220 ++ (Utf8.encode ((97 + (Int.tmod a4 26)) % 256))) (t220 ++ (Utf8.encode ((97 + (Int.tmod a5 26)) % 256)))).bind fun bt249 => ((impl_AlpineCompareText.f t220 (t220 ++ (Utf8.encode ((97 + (Int.tmod a4 26)) % 256)))).bind fun bt251 => (if bt243.2 = true then (if bt247.2 = true then (if bt249.2 = true then (if bt251.2 = true then ((laws_want.f a2 a3).bind fun t253 => (if bt243.1 = t253 then ((laws_want.f a2 a3).bind fun t254 => (if bt247.1 = t254 then ((laws_want.f (IntKind.u16.wrap (Int.tmod a4 26)) (IntKind.u16.wrap (Int.tmod a5 26))).bind fun t255 => (if bt249.1 = t255 then (some (bt251.1 == (-1))) else (some false))) else (some false))) else (some false))) else (some false)) else (some false)) else (some false)) else (some false)))) else (none)) else (none))) else (none))) else (none))) else (none))) else (none))) else (none))) else (none)) else (none)) else (none)) else (none)) = some r := H
   have A10 := Aside0.mk A100
   clear A100
   obtain ⟨ji11, hji11⟩ : ∃ j_ : Int, (Int.tmod a1 9) = j_ := ⟨_, rfl⟩
   replace H : (if 0 ≤ (ji11) then (if (ji11) < (t237.length : Int) then (if 1 + (rdOf ByteArray.empty t237 (ji11)).size ≤ 9223372036854775807 then (if t220.size + ((⟨#[95]⟩ : ByteArray) ++ (rdOf ByteArray.empty t237 (ji11))).size ≤ 9223372036854775807 then ((laws_decimal.f k a2).bind fun t241 => (if (t220 ++ ((⟨#[95]⟩ : ByteArray) ++ (rdOf ByteArray.empty t237 (ji11)))).size + t241.size ≤ 9223372036854775807 then ((laws_decimal.f k a3).bind fun t242 => (if (t220 ++ ((⟨#[95]⟩ : ByteArray) ++ (rdOf ByteArray.empty t237 (ji11)))).size + t242.size ≤ 9223372036854775807 then ((impl_AlpineCompareText.f ((t220 ++ ((⟨#[95]⟩ : ByteArray) ++ (rdOf ByteArray.empty t237 (ji11)))) ++ t241) ((t220 ++ ((⟨#[95]⟩ : ByteArray) ++ (rdOf ByteArray.empty t237 (ji11)))) ++ t242)).bind fun bt243 => (if t220.size + 2 ≤ 9223372036854775807 then ((laws_decimal.f k a2).bind fun t245 => (if (t220 ++ (⟨#[45, 114]⟩ : ByteArray)).size + t245.size ≤ 9223372036854775807 then ((laws_decimal.f k a3).bind fun t246 => (if (t220 ++ (⟨#[45, 114]⟩ : ByteArray)).size + t246.size ≤ 9223372036854775807 then ((impl_AlpineCompareText.f ((t220 ++ (⟨#[45, 114]⟩ : ByteArray)) ++ t245) ((t220 ++ (⟨#[45, 114]⟩ : ByteArray)) ++ t246)).bind fun bt247 => (if t220.size + (Utf8.encode ((97 + (Int.tmod a4 26)) % 256)).size ≤ 9223372036854775807 then (if t220.size + (Utf8.encode ((97 + (Int.tmod a5 26)) % 256)).size ≤ 9223372036854775807 then ((impl_AlpineCompareText.f (t220 ++ (Utf8.encode ((97 + (Int.tmod a4 26)) % 256))) (t220 ++ (Utf8.encode ((97 + (Int.tmod a5 26)) % 256)))).bind fun bt249 => ((impl_AlpineCompareText.f t220 (t220 ++ (Utf8.encode ((97 + (Int.tmod a4 26)) % 256)))).bind fun bt251 => (if bt243.2 = true then (if bt247.2 = true then (if bt249.2 = true then (if bt251.2 = true then ((laws_want.f a2 a3).bind fun t253 => (if bt243.1 = t253 then ((laws_want.f a2 a3).bind fun t254 => (if bt247.1 = t254 then ((laws_want.f (IntKind.u16.wrap (Int.tmod a4 26)) (IntKind.u16.wrap (Int.tmod a5 26))).bind fun t255 => (if bt249.1 = t255 then (some (bt251.1 == (-1))) else (some false))) else (some false))) else (some false))) else (some false)) else (some false)) else (some false)) else (some false)))) else (none)) else (none))) else (none))) else (none))) else (none))) else (none))) else (none))) else (none)) else (none)) else (none)) else (none)) = some r := by (rw [hji11] at H; exact H)
   (try rw [hji11] at A8)
   (try rw [hji11] at A10)
   by_cases c12 : 0 ≤ (ji11)
   ·rw [if_pos c12] at H
    have c12b0 : decide (0 ≤ (ji11)) = true := decide_eq_true c12
    clear c12
    by_cases c13 : (ji11) < (t237.length : Int)
    ·rw [if_pos c13] at H
     have c13b0 : decide ((ji11) < (t237.length : Int)) = true := decide_eq_true c13
     clear c13
     by_cases c14 : 1 + (rdOf ByteArray.empty t237 (ji11)).size ≤ 9223372036854775807
     ·rw [if_pos c14] at H
      have c14b0 := eq_true c14
      have c14b1 : decide (1 + (rdOf ByteArray.empty t237 (ji11)).size ≤ 9223372036854775807) = true := decide_eq_true c14
      try have c14b2 : (9223372036854775807 < 1 + (rdOf ByteArray.empty t237 (ji11)).size) = False := eq_false (Nat.not_lt.2 c14)
      by_cases c15 : t220.size + ((⟨#[95]⟩ : ByteArray) ++ (rdOf ByteArray.empty t237 (ji11))).size ≤ 9223372036854775807
      ·rw [if_pos c15] at H
       have c15b0 := eq_true c15
       have c15b1 : decide (t220.size + ((⟨#[95]⟩ : ByteArray) ++ (rdOf ByteArray.empty t237 (ji11))).size ≤ 9223372036854775807) = true := decide_eq_true c15
       try have c15b2 : (9223372036854775807 < t220.size + ((⟨#[95]⟩ : ByteArray) ++ (rdOf ByteArray.empty t237 (ji11))).size) = False := eq_false (Nat.not_lt.2 c15)
       try have c15b3 : (9223372036854775807 < t220.size + (1 + (rdOf ByteArray.empty t237 (ji11)).size)) = False := eq_false (by have h_ := c15; simp only [ByteArray.size_append] at h_; have e0_ : (⟨#[95]⟩ : ByteArray).size = 1 := rfl; omega)
       try have c15b4 : (t220.size + (1 + (rdOf ByteArray.empty t237 (ji11)).size) ≤ 9223372036854775807) = True := eq_true (by have h_ := c15; simp only [ByteArray.size_append] at h_; have e0_ : (⟨#[95]⟩ : ByteArray).size = 1 := rfl; omega)
       replace H := Option.bind_eq_some_iff.mp H
       obtain ⟨t241, A160, H⟩ := H
       replace H : (if (t220 ++ ((⟨#[95]⟩ : ByteArray) ++ (rdOf ByteArray.empty t237 (ji11)))).size + t241.size ≤ 9223372036854775807 then ((laws_decimal.f k a3).bind fun t242 => (if (t220 ++ ((⟨#[95]⟩ : ByteArray) ++ (rdOf ByteArray.empty t237 (ji11)))).size + t242.size ≤ 9223372036854775807 then ((impl_AlpineCompareText.f ((t220 ++ ((⟨#[95]⟩ : ByteArray) ++ (rdOf ByteArray.empty t237 (ji11)))) ++ t241) ((t220 ++ ((⟨#[95]⟩ : ByteArray) ++ (rdOf ByteArray.empty t237 (ji11)))) ++ t242)).bind fun bt243 => (if t220.size + 2 ≤ 9223372036854775807 then ((laws_decimal.f k a2).bind fun t245 => (if (t220 ++ (⟨#[45, 114]⟩ : ByteArray)).size + t245.size ≤ 9223372036854775807 then ((laws_decimal.f k a3).bind fun t246 => (if (t220 ++ (⟨#[45, 114]⟩ : ByteArray)).size + t246.size ≤ 9223372036854775807 then ((impl_AlpineCompareText.f ((t220 ++ (⟨#[45, 114]⟩ : ByteArray)) ++ t245) ((t220 ++ (⟨#[45, 114]⟩ : ByteArray)) ++ t246)).bind fun bt247 => (if t220.size + (Utf8.encode ((97 + (Int.tmod a4 26)) % 256)).size ≤ 9223372036854775807 then (if t220.size + (Utf8.encode ((97 + (Int.tmod a5 26)) % 256)).size ≤ 9223372036854775807 then ((impl_AlpineCompareText.f (t220 ++ (Utf8.encode ((97 + (Int.tmod a4 26)) % 256))) (t220 ++ (Utf8.encode ((97 + (Int.tmod a5 26)) % 256)))).bind fun bt249 => ((impl_AlpineCompareText.f t220 (t220 ++ (Utf8.encode ((97 + (Int.tmod a4 26)) % 256)))).bind fun bt251 => (if bt243.2 = true then (if bt247.2 = true then (if bt249.2 = true then (if bt251.2 = true then ((laws_want.f a2 a3).bind fun t253 => (if bt243.1 = t253 then ((laws_want.f a2 a3).bind fun t254 => (if bt247.1 = t254 then ((laws_want.f (IntKind.u16.wrap (Int.tmod a4 26)) (IntKind.u16.wrap (Int.tmod a5 26))).bind fun t255 => (if bt249.1 = t255 then (some (bt251.1 == (-1))) else (some false))) else (some false))) else (some false))) else (some false)) else (some false)) else (some false)) else (some false)))) else (none)) else (none))) else (none))) else (none))) else (none))) else (none))) else (none)) = some r := H
       have A16 := Aside0.mk A160
       clear A160
       by_cases c17 : (t220 ++ ((⟨#[95]⟩ : ByteArray) ++ (rdOf ByteArray.empty t237 (ji11)))).size + t241.size ≤ 9223372036854775807
       ·rw [if_pos c17] at H
        have c17b0 := eq_true c17
        have c17b1 : decide ((t220 ++ ((⟨#[95]⟩ : ByteArray) ++ (rdOf ByteArray.empty t237 (ji11)))).size + t241.size ≤ 9223372036854775807) = true := decide_eq_true c17
        try have c17b2 : (9223372036854775807 < (t220 ++ ((⟨#[95]⟩ : ByteArray) ++ (rdOf ByteArray.empty t237 (ji11)))).size + t241.size) = False := eq_false (Nat.not_lt.2 c17)
        try have c17b3 : (9223372036854775807 < t220.size + (1 + (rdOf ByteArray.empty t237 (ji11)).size) + t241.size) = False := eq_false (by have h_ := c17; simp only [ByteArray.size_append] at h_; have e0_ : (⟨#[95]⟩ : ByteArray).size = 1 := rfl; omega)
        try have c17b4 : (t220.size + (1 + (rdOf ByteArray.empty t237 (ji11)).size) + t241.size ≤ 9223372036854775807) = True := eq_true (by have h_ := c17; simp only [ByteArray.size_append] at h_; have e0_ : (⟨#[95]⟩ : ByteArray).size = 1 := rfl; omega)
        replace H := Option.bind_eq_some_iff.mp H
        obtain ⟨t242, A180, H⟩ := H
        replace H : (if (t220 ++ ((⟨#[95]⟩ : ByteArray) ++ (rdOf ByteArray.empty t237 (ji11)))).size + t242.size ≤ 9223372036854775807 then ((impl_AlpineCompareText.f ((t220 ++ ((⟨#[95]⟩ : ByteArray) ++ (rdOf ByteArray.empty t237 (ji11)))) ++ t241) ((t220 ++ ((⟨#[95]⟩ : ByteArray) ++ (rdOf ByteArray.empty t237 (ji11)))) ++ t242)).bind fun bt243 => (if t220.size + 2 ≤ 9223372036854775807 then ((laws_decimal.f k a2).bind fun t245 => (if (t220 ++ (⟨#[45, 114]⟩ : ByteArray)).size + t245.size ≤ 9223372036854775807 then ((laws_decimal.f k a3).bind fun t246 => (if (t220 ++ (⟨#[45, 114]⟩ : ByteArray)).size + t246.size ≤ 9223372036854775807 then ((impl_AlpineCompareText.f ((t220 ++ (⟨#[45, 114]⟩ : ByteArray)) ++ t245) ((t220 ++ (⟨#[45, 114]⟩ : ByteArray)) ++ t246)).bind fun bt247 => (if t220.size + (Utf8.encode ((97 + (Int.tmod a4 26)) % 256)).size ≤ 9223372036854775807 then (if t220.size + (Utf8.encode ((97 + (Int.tmod a5 26)) % 256)).size ≤ 9223372036854775807 then ((impl_AlpineCompareText.f (t220 ++ (Utf8.encode ((97 + (Int.tmod a4 26)) % 256))) (t220 ++ (Utf8.encode ((97 + (Int.tmod a5 26)) % 256)))).bind fun bt249 => ((impl_AlpineCompareText.f t220 (t220 ++ (Utf8.encode ((97 + (Int.tmod a4 26)) % 256)))).bind fun bt251 => (if bt243.2 = true then (if bt247.2 = true then (if bt249.2 = true then (if bt251.2 = true then ((laws_want.f a2 a3).bind fun t253 => (if bt243.1 = t253 then ((laws_want.f a2 a3).bind fun t254 => (if bt247.1 = t254 then ((laws_want.f (IntKind.u16.wrap (Int.tmod a4 26)) (IntKind.u16.wrap (Int.tmod a5 26))).bind fun t255 => (if bt249.1 = t255 then (some (bt251.1 == (-1))) else (some false))) else (some false))) else (some false))) else (some false)) else (some false)) else (some false)) else (some false)))) else (none)) else (none))) else (none))) else (none))) else (none))) else (none)) = some r := H
        have A18 := Aside0.mk A180
        clear A180
        by_cases c19 : (t220 ++ ((⟨#[95]⟩ : ByteArray) ++ (rdOf ByteArray.empty t237 (ji11)))).size + t242.size ≤ 9223372036854775807
        ·rw [if_pos c19] at H
         have c19b0 := eq_true c19
         have c19b1 : decide ((t220 ++ ((⟨#[95]⟩ : ByteArray) ++ (rdOf ByteArray.empty t237 (ji11)))).size + t242.size ≤ 9223372036854775807) = true := decide_eq_true c19
         try have c19b2 : (9223372036854775807 < (t220 ++ ((⟨#[95]⟩ : ByteArray) ++ (rdOf ByteArray.empty t237 (ji11)))).size + t242.size) = False := eq_false (Nat.not_lt.2 c19)
         try have c19b3 : (9223372036854775807 < t220.size + (1 + (rdOf ByteArray.empty t237 (ji11)).size) + t242.size) = False := eq_false (by have h_ := c19; simp only [ByteArray.size_append] at h_; have e0_ : (⟨#[95]⟩ : ByteArray).size = 1 := rfl; omega)
         try have c19b4 : (t220.size + (1 + (rdOf ByteArray.empty t237 (ji11)).size) + t242.size ≤ 9223372036854775807) = True := eq_true (by have h_ := c19; simp only [ByteArray.size_append] at h_; have e0_ : (⟨#[95]⟩ : ByteArray).size = 1 := rfl; omega)
         replace H := Option.bind_eq_some_iff.mp H
         obtain ⟨⟨t243, t244⟩, A200, H⟩ := H
         replace H : (if t220.size + 2 ≤ 9223372036854775807 then ((laws_decimal.f k a2).bind fun t245 => (if (t220 ++ (⟨#[45, 114]⟩ : ByteArray)).size + t245.size ≤ 9223372036854775807 then ((laws_decimal.f k a3).bind fun t246 => (if (t220 ++ (⟨#[45, 114]⟩ : ByteArray)).size + t246.size ≤ 9223372036854775807 then ((impl_AlpineCompareText.f ((t220 ++ (⟨#[45, 114]⟩ : ByteArray)) ++ t245) ((t220 ++ (⟨#[45, 114]⟩ : ByteArray)) ++ t246)).bind fun bt247 => (if t220.size + (Utf8.encode ((97 + (Int.tmod a4 26)) % 256)).size ≤ 9223372036854775807 then (if t220.size + (Utf8.encode ((97 + (Int.tmod a5 26)) % 256)).size ≤ 9223372036854775807 then ((impl_AlpineCompareText.f (t220 ++ (Utf8.encode ((97 + (Int.tmod a4 26)) % 256))) (t220 ++ (Utf8.encode ((97 + (Int.tmod a5 26)) % 256)))).bind fun bt249 => ((impl_AlpineCompareText.f t220 (t220 ++ (Utf8.encode ((97 + (Int.tmod a4 26)) % 256)))).bind fun bt251 => (if t244 = true then (if bt247.2 = true then (if bt249.2 = true then (if bt251.2 = true then ((laws_want.f a2 a3).bind fun t253 => (if t243 = t253 then ((laws_want.f a2 a3).bind fun t254 => (if bt247.1 = t254 then ((laws_want.f (IntKind.u16.wrap (Int.tmod a4 26)) (IntKind.u16.wrap (Int.tmod a5 26))).bind fun t255 => (if bt249.1 = t255 then (some (bt251.1 == (-1))) else (some false))) else (some false))) else (some false))) else (some false)) else (some false)) else (some false)) else (some false)))) else (none)) else (none))) else (none))) else (none))) else (none)) = some r := H
         have A20 := Aside0.mk A200
         clear A200
         by_cases c21 : t220.size + 2 ≤ 9223372036854775807
         ·rw [if_pos c21] at H
          have c21b0 := eq_true c21
          have c21b1 : decide (t220.size + 2 ≤ 9223372036854775807) = true := decide_eq_true c21
          try have c21b2 : (9223372036854775807 < t220.size + 2) = False := eq_false (Nat.not_lt.2 c21)
          replace H := Option.bind_eq_some_iff.mp H
          obtain ⟨t245, A220, H⟩ := H
          replace H : (if (t220 ++ (⟨#[45, 114]⟩ : ByteArray)).size + t245.size ≤ 9223372036854775807 then ((laws_decimal.f k a3).bind fun t246 => (if (t220 ++ (⟨#[45, 114]⟩ : ByteArray)).size + t246.size ≤ 9223372036854775807 then ((impl_AlpineCompareText.f ((t220 ++ (⟨#[45, 114]⟩ : ByteArray)) ++ t245) ((t220 ++ (⟨#[45, 114]⟩ : ByteArray)) ++ t246)).bind fun bt247 => (if t220.size + (Utf8.encode ((97 + (Int.tmod a4 26)) % 256)).size ≤ 9223372036854775807 then (if t220.size + (Utf8.encode ((97 + (Int.tmod a5 26)) % 256)).size ≤ 9223372036854775807 then ((impl_AlpineCompareText.f (t220 ++ (Utf8.encode ((97 + (Int.tmod a4 26)) % 256))) (t220 ++ (Utf8.encode ((97 + (Int.tmod a5 26)) % 256)))).bind fun bt249 => ((impl_AlpineCompareText.f t220 (t220 ++ (Utf8.encode ((97 + (Int.tmod a4 26)) % 256)))).bind fun bt251 => (if t244 = true then (if bt247.2 = true then (if bt249.2 = true then (if bt251.2 = true then ((laws_want.f a2 a3).bind fun t253 => (if t243 = t253 then ((laws_want.f a2 a3).bind fun t254 => (if bt247.1 = t254 then ((laws_want.f (IntKind.u16.wrap (Int.tmod a4 26)) (IntKind.u16.wrap (Int.tmod a5 26))).bind fun t255 => (if bt249.1 = t255 then (some (bt251.1 == (-1))) else (some false))) else (some false))) else (some false))) else (some false)) else (some false)) else (some false)) else (some false)))) else (none)) else (none))) else (none))) else (none)) = some r := H
          have A22 := Aside0.mk A220
          clear A220
          by_cases c23 : (t220 ++ (⟨#[45, 114]⟩ : ByteArray)).size + t245.size ≤ 9223372036854775807
          ·rw [if_pos c23] at H
           have c23b0 := eq_true c23
           have c23b1 : decide ((t220 ++ (⟨#[45, 114]⟩ : ByteArray)).size + t245.size ≤ 9223372036854775807) = true := decide_eq_true c23
           try have c23b2 : (9223372036854775807 < (t220 ++ (⟨#[45, 114]⟩ : ByteArray)).size + t245.size) = False := eq_false (Nat.not_lt.2 c23)
           try have c23b3 : (9223372036854775807 < t220.size + 2 + t245.size) = False := eq_false (by have h_ := c23; simp only [ByteArray.size_append] at h_; have e0_ : (⟨#[45, 114]⟩ : ByteArray).size = 2 := rfl; omega)
           try have c23b4 : (t220.size + 2 + t245.size ≤ 9223372036854775807) = True := eq_true (by have h_ := c23; simp only [ByteArray.size_append] at h_; have e0_ : (⟨#[45, 114]⟩ : ByteArray).size = 2 := rfl; omega)
           replace H := Option.bind_eq_some_iff.mp H
           obtain ⟨t246, A240, H⟩ := H
           replace H : (if (t220 ++ (⟨#[45, 114]⟩ : ByteArray)).size + t246.size ≤ 9223372036854775807 then ((impl_AlpineCompareText.f ((t220 ++ (⟨#[45, 114]⟩ : ByteArray)) ++ t245) ((t220 ++ (⟨#[45, 114]⟩ : ByteArray)) ++ t246)).bind fun bt247 => (if t220.size + (Utf8.encode ((97 + (Int.tmod a4 26)) % 256)).size ≤ 9223372036854775807 then (if t220.size + (Utf8.encode ((97 + (Int.tmod a5 26)) % 256)).size ≤ 9223372036854775807 then ((impl_AlpineCompareText.f (t220 ++ (Utf8.encode ((97 + (Int.tmod a4 26)) % 256))) (t220 ++ (Utf8.encode ((97 + (Int.tmod a5 26)) % 256)))).bind fun bt249 => ((impl_AlpineCompareText.f t220 (t220 ++ (Utf8.encode ((97 + (Int.tmod a4 26)) % 256)))).bind fun bt251 => (if t244 = true then (if bt247.2 = true then (if bt249.2 = true then (if bt251.2 = true then ((laws_want.f a2 a3).bind fun t253 => (if t243 = t253 then ((laws_want.f a2 a3).bind fun t254 => (if bt247.1 = t254 then ((laws_want.f (IntKind.u16.wrap (Int.tmod a4 26)) (IntKind.u16.wrap (Int.tmod a5 26))).bind fun t255 => (if bt249.1 = t255 then (some (bt251.1 == (-1))) else (some false))) else (some false))) else (some false))) else (some false)) else (some false)) else (some false)) else (some false)))) else (none)) else (none))) else (none)) = some r := H
           have A24 := Aside0.mk A240
           clear A240
           by_cases c25 : (t220 ++ (⟨#[45, 114]⟩ : ByteArray)).size + t246.size ≤ 9223372036854775807
           ·rw [if_pos c25] at H
            have c25b0 := eq_true c25
            have c25b1 : decide ((t220 ++ (⟨#[45, 114]⟩ : ByteArray)).size + t246.size ≤ 9223372036854775807) = true := decide_eq_true c25
            try have c25b2 : (9223372036854775807 < (t220 ++ (⟨#[45, 114]⟩ : ByteArray)).size + t246.size) = False := eq_false (Nat.not_lt.2 c25)
            try have c25b3 : (9223372036854775807 < t220.size + 2 + t246.size) = False := eq_false (by have h_ := c25; simp only [ByteArray.size_append] at h_; have e0_ : (⟨#[45, 114]⟩ : ByteArray).size = 2 := rfl; omega)
            try have c25b4 : (t220.size + 2 + t246.size ≤ 9223372036854775807) = True := eq_true (by have h_ := c25; simp only [ByteArray.size_append] at h_; have e0_ : (⟨#[45, 114]⟩ : ByteArray).size = 2 := rfl; omega)
            replace H := Option.bind_eq_some_iff.mp H
            obtain ⟨⟨t247, t248⟩, A260, H⟩ := H
            replace H : (if t220.size + (Utf8.encode ((97 + (Int.tmod a4 26)) % 256)).size ≤ 9223372036854775807 then (if t220.size + (Utf8.encode ((97 + (Int.tmod a5 26)) % 256)).size ≤ 9223372036854775807 then ((impl_AlpineCompareText.f (t220 ++ (Utf8.encode ((97 + (Int.tmod a4 26)) % 256))) (t220 ++ (Utf8.encode ((97 + (Int.tmod a5 26)) % 256)))).bind fun bt249 => ((impl_AlpineCompareText.f t220 (t220 ++ (Utf8.encode ((97 + (Int.tmod a4 26)) % 256)))).bind fun bt251 => (if t244 = true then (if t248 = true then (if bt249.2 = true then (if bt251.2 = true then ((laws_want.f a2 a3).bind fun t253 => (if t243 = t253 then ((laws_want.f a2 a3).bind fun t254 => (if t247 = t254 then ((laws_want.f (IntKind.u16.wrap (Int.tmod a4 26)) (IntKind.u16.wrap (Int.tmod a5 26))).bind fun t255 => (if bt249.1 = t255 then (some (bt251.1 == (-1))) else (some false))) else (some false))) else (some false))) else (some false)) else (some false)) else (some false)) else (some false)))) else (none)) else (none)) = some r := H
            have A26 := Aside0.mk A260
            clear A260
            by_cases c27 : t220.size + (Utf8.encode ((97 + (Int.tmod a4 26)) % 256)).size ≤ 9223372036854775807
            ·rw [if_pos c27] at H
             have c27b0 := eq_true c27
             have c27b1 : decide (t220.size + (Utf8.encode ((97 + (Int.tmod a4 26)) % 256)).size ≤ 9223372036854775807) = true := decide_eq_true c27
             try have c27b2 : (9223372036854775807 < t220.size + (Utf8.encode ((97 + (Int.tmod a4 26)) % 256)).size) = False := eq_false (Nat.not_lt.2 c27)
             by_cases c28 : t220.size + (Utf8.encode ((97 + (Int.tmod a5 26)) % 256)).size ≤ 9223372036854775807
             ·rw [if_pos c28] at H
              have c28b0 := eq_true c28
              have c28b1 : decide (t220.size + (Utf8.encode ((97 + (Int.tmod a5 26)) % 256)).size ≤ 9223372036854775807) = true := decide_eq_true c28
              try have c28b2 : (9223372036854775807 < t220.size + (Utf8.encode ((97 + (Int.tmod a5 26)) % 256)).size) = False := eq_false (Nat.not_lt.2 c28)
              replace H := Option.bind_eq_some_iff.mp H
              obtain ⟨⟨t249, t250⟩, A290, H⟩ := H
              replace H : ((impl_AlpineCompareText.f t220 (t220 ++ (Utf8.encode ((97 + (Int.tmod a4 26)) % 256)))).bind fun bt251 => (if t244 = true then (if t248 = true then (if t250 = true then (if bt251.2 = true then ((laws_want.f a2 a3).bind fun t253 => (if t243 = t253 then ((laws_want.f a2 a3).bind fun t254 => (if t247 = t254 then ((laws_want.f (IntKind.u16.wrap (Int.tmod a4 26)) (IntKind.u16.wrap (Int.tmod a5 26))).bind fun t255 => (if t249 = t255 then (some (bt251.1 == (-1))) else (some false))) else (some false))) else (some false))) else (some false)) else (some false)) else (some false)) else (some false))) = some r := H
              have A29 := Aside0.mk A290
              clear A290
              replace H := Option.bind_eq_some_iff.mp H
              obtain ⟨⟨t251, t252⟩, A300, H⟩ := H
              replace H : (if t244 = true then (if t248 = true then (if t250 = true then (if t252 = true then ((laws_want.f a2 a3).bind fun t253 => (if t243 = t253 then ((laws_want.f a2 a3).bind fun t254 => (if t247 = t254 then ((laws_want.f (IntKind.u16.wrap (Int.tmod a4 26)) (IntKind.u16.wrap (Int.tmod a5 26))).bind fun t255 => (if t249 = t255 then (some (t251 == (-1))) else (some false))) else (some false))) else (some false))) else (some false)) else (some false)) else (some false)) else (some false)) = some r := H
              have A30 := Aside0.mk A300
              clear A300
              by_cases c31 : t244 = true
              ·subst c31
               have H1 : (if t248 = true then (if t250 = true then (if t252 = true then ((laws_want.f a2 a3).bind fun t253 => (if t243 = t253 then ((laws_want.f a2 a3).bind fun t254 => (if t247 = t254 then ((laws_want.f (IntKind.u16.wrap (Int.tmod a4 26)) (IntKind.u16.wrap (Int.tmod a5 26))).bind fun t255 => (if t249 = t255 then (some (t251 == (-1))) else (some false))) else (some false))) else (some false))) else (some false)) else (some false)) else (some false)) = some r := by rw [if_pos rfl] at H; exact H
               clear H
               have H := H1
               clear H1
               by_cases c32 : t248 = true
               ·subst c32
                have H1 : (if t250 = true then (if t252 = true then ((laws_want.f a2 a3).bind fun t253 => (if t243 = t253 then ((laws_want.f a2 a3).bind fun t254 => (if t247 = t254 then ((laws_want.f (IntKind.u16.wrap (Int.tmod a4 26)) (IntKind.u16.wrap (Int.tmod a5 26))).bind fun t255 => (if t249 = t255 then (some (t251 == (-1))) else (some false))) else (some false))) else (some false))) else (some false)) else (some false)) = some r := by rw [if_pos rfl] at H; exact H
                clear H
                have H := H1
                clear H1
                by_cases c33 : t250 = true
                ·subst c33
                 have H1 : (if t252 = true then ((laws_want.f a2 a3).bind fun t253 => (if t243 = t253 then ((laws_want.f a2 a3).bind fun t254 => (if t247 = t254 then ((laws_want.f (IntKind.u16.wrap (Int.tmod a4 26)) (IntKind.u16.wrap (Int.tmod a5 26))).bind fun t255 => (if t249 = t255 then (some (t251 == (-1))) else (some false))) else (some false))) else (some false))) else (some false)) = some r := by rw [if_pos rfl] at H; exact H
                 clear H
                 have H := H1
                 clear H1
                 by_cases c34 : t252 = true
                 ·subst c34
                  have H1 : ((laws_want.f a2 a3).bind fun t253 => (if t243 = t253 then ((laws_want.f a2 a3).bind fun t254 => (if t247 = t254 then ((laws_want.f (IntKind.u16.wrap (Int.tmod a4 26)) (IntKind.u16.wrap (Int.tmod a5 26))).bind fun t255 => (if t249 = t255 then (some (t251 == (-1))) else (some false))) else (some false))) else (some false))) = some r := by rw [if_pos rfl] at H; exact H
                  clear H
                  have H := H1
                  clear H1
                  replace H := Option.bind_eq_some_iff.mp H
                  obtain ⟨t253, A350, H⟩ := H
                  replace H : (if t243 = t253 then ((laws_want.f a2 a3).bind fun t254 => (if t247 = t254 then ((laws_want.f (IntKind.u16.wrap (Int.tmod a4 26)) (IntKind.u16.wrap (Int.tmod a5 26))).bind fun t255 => (if t249 = t255 then (some (t251 == (-1))) else (some false))) else (some false))) else (some false)) = some r := H
                  have A35 := Aside0.mk A350
                  clear A350
                  by_cases c36 : t243 = t253
                  ·rw [if_pos c36] at H
                   have c36b0 : (t243 == t253) = true := beq_iff_eq.mpr c36
                   have c36b7 : (t243 = t253) = True := eq_true (beq_iff_eq.mp c36b0)
                   have c36b1 : (t243 != t253) = false := bne_eq_false_iff_eq.mpr c36
                   clear c36
                   replace H := Option.bind_eq_some_iff.mp H
                   obtain ⟨t254, A370, H⟩ := H
                   replace H : (if t247 = t254 then ((laws_want.f (IntKind.u16.wrap (Int.tmod a4 26)) (IntKind.u16.wrap (Int.tmod a5 26))).bind fun t255 => (if t249 = t255 then (some (t251 == (-1))) else (some false))) else (some false)) = some r := H
                   have A37 := Aside0.mk A370
                   clear A370
                   obtain rfl : t253 = t254 := Option.some.inj (A35.out.symm.trans A37.out)
                   by_cases c38 : t247 = t253
                   ·rw [if_pos c38] at H
                    have c38b0 : (t247 == t253) = true := beq_iff_eq.mpr c38
                    have c38b7 : (t247 = t253) = True := eq_true (beq_iff_eq.mp c38b0)
                    have c38b1 : (t247 != t253) = false := bne_eq_false_iff_eq.mpr c38
                    clear c38
                    replace H := Option.bind_eq_some_iff.mp H
                    obtain ⟨t255, A390, H⟩ := H
                    replace H : (if t249 = t255 then (some (t251 == (-1))) else (some false)) = some r := H
                    have A39 := Aside0.mk A390
                    clear A390
                    by_cases c40 : t249 = t255
                    ·rw [if_pos c40] at H
                     have c40b0 : (t249 == t255) = true := beq_iff_eq.mpr c40
                     have c40b7 : (t249 = t255) = True := eq_true (beq_iff_eq.mp c40b0)
                     have c40b1 : (t249 != t255) = false := bne_eq_false_iff_eq.mpr c40
                     clear c40
                     obtain rfl := Option.some.inj H
                     go_enter Tryd.func6, Tryd.ntmps6
                     go_wp2_with (first | ((with_reducible refine gate_callee (f := 10) rfl ?_); refine goesL_ (some 31) rfl rfl Tryd.func10 (by kernel_rfl) rfl #[.agg #[.slice A0 l0.length c0, .int .u8 0, .slice none 0 0, .slice none 0 0, .string ⟨#[]⟩, .bool false, .int .u16 0]] rfl (by (try simp only [List.map_toArray, List.map_cons, List.map_nil]); first | done | rfl | (simp only [List.length_drop, List.length_take]; rfl)) ?_; (refine (laws_Package_text.calls k _ _ l0 0 _ _ ([] : List Int) _ _ ([] : List Int) (⟨#[]⟩ : ByteArray) false 0 t220 t221 t222 t223 t224 t225 t226 t229 t232 t233 t234 true _ ?side1 ?side2 ?side3 ?side4 ?side5 ?side6 A8.out).mono ?_); (case side1 => repeat (first | exact HR0.out | (with_reducible refine Kd.C_alloc ?_ _) | (with_reducible refine Kd.C_drewN ?_ _) | (with_reducible refine Kd.C_drew ?_))); (case side2 => exact HC0.out); (case side3 => exact Kd.C_nil _ _); (case side4 => exact Nat.le_refl _); (case side5 => exact Kd.C_nil _ _); (case side6 => exact Nat.le_refl _); rintro e w41 ⟨v227, v230, rfl, ho0, ho1, hb⟩; refine ⟨_, rfl, ?_⟩; have HO228 := Aside0.mk (Kd.R_lower ho0 (below_size (by (with_reducible exact HB.out)))); have HO231 := Aside0.mk (Kd.R_lower ho1 (below_size (by (with_reducible exact HB.out)))); replace HB := Aside0.mk (below_step (by (with_reducible exact HB.out)) hb); (try clear hb); (try clear hb2); (try clear hk); (try clear hi); (try clear ho0); (try clear ho1)) | ((with_reducible refine gate_dst (N := 14) rfl ?_); refine box_event ?hg (N := 14) ?hd (cs := #[.string ⟨#[]⟩, .string ⟨#[]⟩, .string ⟨#[]⟩, .string ⟨#[]⟩, .bool false, .slice none 0 0, .slice none 0 0, .bool false, .bool false, .string ⟨#[]⟩]) (t := 33) ?hr ?_; (case hd => rfl); (case hg => rfl); (case hr => first | (go_simp; done) | (go_simp; rfl)); intro gb236 hg w42 hbox hb; replace HO228 := Aside0.mk (Kd.R_below (by (with_reducible repeat (first | apply Kd.R_alloc | apply Kd.R_drewN | apply Kd.R_drew)); exact HO228.out) hb); replace HO231 := Aside0.mk (Kd.R_below (by (with_reducible repeat (first | apply Kd.R_alloc | apply Kd.R_drewN | apply Kd.R_drew)); exact HO231.out) hb); have BK236 := Aside0.mk hbox; have GW236 := Aside0.mk ((by rw [hg]; exact (below_size (by (with_reducible exact HB.out))) : w.heap.size ≤ gb236)); have GE236 := Aside0.mk ((by rw [hg]; exact (below_size (by (with_reducible exact HB.out))) : w.heap.size ≤ gb236)); replace HB := Aside0.mk (below_step (by (with_reducible exact HB.out)) hb); clear hb hbox hg; obtain ⟨hcz43_0, hcz43_1, hcz43_2, hcz43_3, hcz43_4, hcz43_5, hcz43_6, hcz43_7, hcz43_8, hcz43_9, hfz43_0, hfz43_1, hfz43_2, hfz43_3, hfz43_4, hfz43_5, hfz43_6, hfz43_7, hfz43_8, hfz43_9⟩ := cl10 BK236.out; obtain ⟨Ao44, co44, eo44⟩ := Kd.R_slice HO228.out; subst eo44; obtain ⟨Ao45, co45, eo45⟩ := Kd.R_slice HO231.out; subst eo45) | ((with_reducible refine gate_callee (f := 17) rfl ?_); refine goesL_ (some 37) rfl rfl Tryd.func17 (by kernel_rfl) rfl #[] rfl (by (try simp only [List.map_toArray, List.map_cons, List.map_nil]); first | done | rfl | (simp only [List.length_drop, List.length_take]; rfl)) ?_; (with_reducible refine (laws_suffixes.calls  t237 _ A10.out).mono ?_); rintro e w46 ⟨v238, rfl, ho0, hb⟩; refine ⟨_, rfl, ?_⟩; replace HO228 := Aside0.mk (Kd.R_below (by (with_reducible repeat (first | apply Kd.R_alloc | apply Kd.R_drewN | apply Kd.R_drew)); exact (Kd.R_mono (farC (farC (farC (farC (farC (farC (farC (farC (farC (farC (Kd.R_types HO228.out BK236.out (by decide)))))))))))) (fun _ h_ => h_.1))) hb); replace HO231 := Aside0.mk (Kd.R_below (by (with_reducible repeat (first | apply Kd.R_alloc | apply Kd.R_drewN | apply Kd.R_drew)); exact (Kd.R_mono (farC (farC (farC (farC (farC (farC (farC (farC (farC (farC (Kd.R_types HO231.out BK236.out (by decide)))))))))))) (fun _ h_ => h_.1))) hb); have HO239 := Aside0.mk (Kd.R_lower ho0 (below_size (by repeat (first | (with_reducible first | exact HB.out | apply below_alloc | apply pw_below_drewN | apply below_drew1 | refine below_set ?_ GE236.out) | exact HB.out)))); replace BK236 := Aside0.mk (blk_below (g := gb236) (o := .cells #[.string t221, .string t222, .string t223, .string t224, .bool t225, .slice Ao44 t226.length co44, .slice Ao45 t229.length co45, .bool t232, .bool t233, .string t234] 33 (0, 0)) (by refine blk_put (cs := #[.string t221, .string t222, .string t223, .string t224, .bool t225, .slice Ao44 t226.length co44, .slice Ao45 t229.length co45, .bool t232, .bool t233, .string ⟨#[]⟩]) ?_ 9 _ rfl; refine blk_put (cs := #[.string t221, .string t222, .string t223, .string t224, .bool t225, .slice Ao44 t226.length co44, .slice Ao45 t229.length co45, .bool t232, .bool false, .string ⟨#[]⟩]) ?_ 8 _ rfl; refine blk_put (cs := #[.string t221, .string t222, .string t223, .string t224, .bool t225, .slice Ao44 t226.length co44, .slice Ao45 t229.length co45, .bool false, .bool false, .string ⟨#[]⟩]) ?_ 7 _ rfl; refine blk_put (cs := #[.string t221, .string t222, .string t223, .string t224, .bool t225, .slice Ao44 t226.length co44, .slice none 0 0, .bool false, .bool false, .string ⟨#[]⟩]) ?_ 6 _ rfl; refine blk_put (cs := #[.string t221, .string t222, .string t223, .string t224, .bool t225, .slice none 0 0, .slice none 0 0, .bool false, .bool false, .string ⟨#[]⟩]) ?_ 5 _ rfl; refine blk_put (cs := #[.string t221, .string t222, .string t223, .string t224, .bool false, .slice none 0 0, .slice none 0 0, .bool false, .bool false, .string ⟨#[]⟩]) ?_ 4 _ rfl; refine blk_put (cs := #[.string t221, .string t222, .string t223, .string ⟨#[]⟩, .bool false, .slice none 0 0, .slice none 0 0, .bool false, .bool false, .string ⟨#[]⟩]) ?_ 3 _ rfl; refine blk_put (cs := #[.string t221, .string t222, .string ⟨#[]⟩, .string ⟨#[]⟩, .bool false, .slice none 0 0, .slice none 0 0, .bool false, .bool false, .string ⟨#[]⟩]) ?_ 2 _ rfl; refine blk_put (cs := #[.string t221, .string ⟨#[]⟩, .string ⟨#[]⟩, .string ⟨#[]⟩, .bool false, .slice none 0 0, .slice none 0 0, .bool false, .bool false, .string ⟨#[]⟩]) ?_ 1 _ rfl; refine blk_put (cs := #[.string ⟨#[]⟩, .string ⟨#[]⟩, .string ⟨#[]⟩, .string ⟨#[]⟩, .bool false, .slice none 0 0, .slice none 0 0, .bool false, .bool false, .string ⟨#[]⟩]) ?_ 0 _ rfl; exact BK236.out) hb); replace HB := Aside0.mk (below_step (by repeat (first | (with_reducible first | exact HB.out | apply below_alloc | apply pw_below_drewN | apply below_drew1 | refine below_set ?_ GE236.out) | exact HB.out)) hb); (try clear hb); (try clear hb2); (try clear hk); (try clear hi); (try clear ho0); obtain ⟨Ao47, co47, eo47⟩ := Kd.R_slice HO239.out; subst eo47; have p240 : 0 ≤ ((ji11) : Int) := of_decide_eq_true (by (with_reducible assumption)); have q240 : (ji11) < (t237.length : Int) := of_decide_eq_true (by (with_reducible assumption)); obtain ⟨ad240, e240, hx240_0⟩ := Kd.at_string (Kd.R_reads' HO239.out).2.2 (ji11) p240 q240; cases e240; replace p240 := eq_true p240; replace q240 := eq_true q240) | ((with_reducible refine gate_callee (f := 19) rfl ?_); refine goesL_ (some 48) rfl rfl Tryd.func19 (by kernel_rfl) rfl #[.int .u16 a2] rfl (by (try simp only [List.map_toArray, List.map_cons, List.map_nil]); first | done | rfl | (simp only [List.length_drop, List.length_take]; rfl)) ?_; (with_reducible refine (laws_decimal.calls k a2 t241 _ A16.out).mono ?_); rintro e w' ⟨rfl, ⟨nd, rfl⟩⟩; refine ⟨_, rfl, ?_⟩) | ((with_reducible refine gate_callee (f := 19) rfl ?_); refine goesL_ (some 54) rfl rfl Tryd.func19 (by kernel_rfl) rfl #[.int .u16 a3] rfl (by (try simp only [List.map_toArray, List.map_cons, List.map_nil]); first | done | rfl | (simp only [List.length_drop, List.length_take]; rfl)) ?_; (with_reducible refine (laws_decimal.calls k a3 t242 _ A18.out).mono ?_); rintro e w' ⟨rfl, ⟨nd, rfl⟩⟩; refine ⟨_, rfl, ?_⟩) | ((with_reducible refine gate_callee (f := 18) rfl ?_); refine goesL_ (some 56) rfl rfl Tryd.func18 (by kernel_rfl) rfl #[.string ((t220 ++ ((⟨#[95]⟩ : ByteArray) ++ (rdOf ByteArray.empty t237 (ji11)))) ++ t241), .string ((t220 ++ ((⟨#[95]⟩ : ByteArray) ++ (rdOf ByteArray.empty t237 (ji11)))) ++ t242)] rfl (by (try simp only [List.map_toArray, List.map_cons, List.map_nil]); first | done | (simp only [hji11]; rfl) | rfl | (simp only [List.length_drop, List.length_take]; rfl)) ?_; (with_reducible refine (impl_AlpineCompareText.calls ((t220 ++ ((⟨#[95]⟩ : ByteArray) ++ (rdOf ByteArray.empty t237 (ji11)))) ++ t241) ((t220 ++ ((⟨#[95]⟩ : ByteArray) ++ (rdOf ByteArray.empty t237 (ji11)))) ++ t242) t243 true _ A20.out (by exact GL.at HG.out (by repeat (first | (with_reducible first | exact HB.out | apply below_alloc | apply pw_below_drewN | apply below_drew1) | exact HB.out)))).mono ?_); rintro e w48 ⟨rfl, hb⟩; refine ⟨_, rfl, ?_⟩; replace HO228 := Aside0.mk (Kd.R_below (by (with_reducible repeat (first | apply Kd.R_alloc | apply Kd.R_drewN | apply Kd.R_drew)); exact HO228.out) hb); replace HO231 := Aside0.mk (Kd.R_below (by (with_reducible repeat (first | apply Kd.R_alloc | apply Kd.R_drewN | apply Kd.R_drew)); exact HO231.out) hb); replace HO239 := Aside0.mk (Kd.R_below (by (with_reducible repeat (first | apply Kd.R_alloc | apply Kd.R_drewN | apply Kd.R_drew)); exact HO239.out) hb); replace BK236 := Aside0.mk (blk_below (g := gb236) (o := .cells #[.string t221, .string t222, .string t223, .string t224, .bool t225, .slice Ao44 t226.length co44, .slice Ao45 t229.length co45, .bool t232, .bool t233, .string t234] 33 (0, 0)) (by (with_reducible (refine blk_drewN ?_ _)); exact BK236.out) hb); replace HB := Aside0.mk (below_step (by (with_reducible apply pw_below_drewN; with_reducible exact HB.out)) hb); (try clear hb); (try clear hb2); (try clear hk); (try clear hi)) | ((with_reducible refine gate_callee (f := 19) rfl ?_); refine goesL_ (some 63) rfl rfl Tryd.func19 (by kernel_rfl) rfl #[.int .u16 a2] rfl (by (try simp only [List.map_toArray, List.map_cons, List.map_nil]); first | done | rfl | (simp only [List.length_drop, List.length_take]; rfl)) ?_; (with_reducible refine (laws_decimal.calls k a2 t245 _ A22.out).mono ?_); rintro e w' ⟨rfl, ⟨nd, rfl⟩⟩; refine ⟨_, rfl, ?_⟩) | ((with_reducible refine gate_callee (f := 19) rfl ?_); refine goesL_ (some 68) rfl rfl Tryd.func19 (by kernel_rfl) rfl #[.int .u16 a3] rfl (by (try simp only [List.map_toArray, List.map_cons, List.map_nil]); first | done | rfl | (simp only [List.length_drop, List.length_take]; rfl)) ?_; (with_reducible refine (laws_decimal.calls k a3 t246 _ A24.out).mono ?_); rintro e w' ⟨rfl, ⟨nd, rfl⟩⟩; refine ⟨_, rfl, ?_⟩) | ((with_reducible refine gate_callee (f := 18) rfl ?_); refine goesL_ (some 70) rfl rfl Tryd.func18 (by kernel_rfl) rfl #[.string ((t220 ++ (⟨#[45, 114]⟩ : ByteArray)) ++ t245), .string ((t220 ++ (⟨#[45, 114]⟩ : ByteArray)) ++ t246)] rfl (by (try simp only [List.map_toArray, List.map_cons, List.map_nil]); first | done | rfl | (simp only [List.length_drop, List.length_take]; rfl)) ?_; (with_reducible refine (impl_AlpineCompareText.calls ((t220 ++ (⟨#[45, 114]⟩ : ByteArray)) ++ t245) ((t220 ++ (⟨#[45, 114]⟩ : ByteArray)) ++ t246) t247 true _ A26.out (by exact GL.at HG.out (by repeat (first | (with_reducible first | exact HB.out | apply below_alloc | apply pw_below_drewN | apply below_drew1) | exact HB.out)))).mono ?_); rintro e w49 ⟨rfl, hb⟩; refine ⟨_, rfl, ?_⟩; replace HO228 := Aside0.mk (Kd.R_below (by (with_reducible repeat (first | apply Kd.R_alloc | apply Kd.R_drewN | apply Kd.R_drew)); exact HO228.out) hb); replace HO231 := Aside0.mk (Kd.R_below (by (with_reducible repeat (first | apply Kd.R_alloc | apply Kd.R_drewN | apply Kd.R_drew)); exact HO231.out) hb); replace HO239 := Aside0.mk (Kd.R_below (by (with_reducible repeat (first | apply Kd.R_alloc | apply Kd.R_drewN | apply Kd.R_drew)); exact HO239.out) hb); replace BK236 := Aside0.mk (blk_below (g := gb236) (o := .cells #[.string t221, .string t222, .string t223, .string t224, .bool t225, .slice Ao44 t226.length co44, .slice Ao45 t229.length co45, .bool t232, .bool t233, .string t234] 33 (0, 0)) (by (with_reducible (refine blk_drewN ?_ _)); exact BK236.out) hb); replace HB := Aside0.mk (below_step (by (with_reducible apply pw_below_drewN; with_reducible exact HB.out)) hb); (try clear hb); (try clear hb2); (try clear hk); (try clear hi); have hcv50 := fun (W_ : World) => run_convert_int_string (P := Tryd.prog) W_ 21 9 .i32 ((97 + (Int.tmod a4 26)) % 256) (by rw [Tryd.underlying21]; rfl) Tryd.underlying9; have hcv51 := fun (W_ : World) => run_convert_int_string (P := Tryd.prog) W_ 21 9 .i32 ((97 + (Int.tmod a5 26)) % 256) (by rw [Tryd.underlying21]; rfl) Tryd.underlying9) | ((with_reducible refine gate_callee (f := 18) rfl ?_); refine goesL_ (some 88) rfl rfl Tryd.func18 (by kernel_rfl) rfl #[.string (t220 ++ (Utf8.encode ((97 + (Int.tmod a4 26)) % 256))), .string (t220 ++ (Utf8.encode ((97 + (Int.tmod a5 26)) % 256)))] rfl (by (try simp only [List.map_toArray, List.map_cons, List.map_nil]); first | done | rfl | (simp only [List.length_drop, List.length_take]; rfl)) ?_; (with_reducible refine (impl_AlpineCompareText.calls (t220 ++ (Utf8.encode ((97 + (Int.tmod a4 26)) % 256))) (t220 ++ (Utf8.encode ((97 + (Int.tmod a5 26)) % 256))) t249 true _ A29.out (by exact GL.at HG.out (by repeat (first | (with_reducible first | exact HB.out | apply below_alloc | apply pw_below_drewN | apply below_drew1) | exact HB.out)))).mono ?_); rintro e w52 ⟨rfl, hb⟩; refine ⟨_, rfl, ?_⟩; replace HO228 := Aside0.mk (Kd.R_below (by (with_reducible repeat (first | apply Kd.R_alloc | apply Kd.R_drewN | apply Kd.R_drew)); exact HO228.out) hb); replace HO231 := Aside0.mk (Kd.R_below (by (with_reducible repeat (first | apply Kd.R_alloc | apply Kd.R_drewN | apply Kd.R_drew)); exact HO231.out) hb); replace HO239 := Aside0.mk (Kd.R_below (by (with_reducible repeat (first | apply Kd.R_alloc | apply Kd.R_drewN | apply Kd.R_drew)); exact HO239.out) hb); replace BK236 := Aside0.mk (blk_below (g := gb236) (o := .cells #[.string t221, .string t222, .string t223, .string t224, .bool t225, .slice Ao44 t226.length co44, .slice Ao45 t229.length co45, .bool t232, .bool t233, .string t234] 33 (0, 0)) (by exact BK236.out) hb); replace HB := Aside0.mk (below_step (by (with_reducible exact HB.out)) hb); (try clear hb); (try clear hb2); (try clear hk); (try clear hi); have hcv53 := fun (W_ : World) => run_convert_int_string (P := Tryd.prog) W_ 21 9 .i32 ((97 + (Int.tmod a4 26)) % 256) (by rw [Tryd.underlying21]; rfl) Tryd.underlying9) | ((with_reducible refine gate_callee (f := 18) rfl ?_); refine goesL_ (some 100) rfl rfl Tryd.func18 (by kernel_rfl) rfl #[.string t220, .string (t220 ++ (Utf8.encode ((97 + (Int.tmod a4 26)) % 256)))] rfl (by (try simp only [List.map_toArray, List.map_cons, List.map_nil]); first | done | rfl | (simp only [List.length_drop, List.length_take]; rfl)) ?_; (with_reducible refine (impl_AlpineCompareText.calls t220 (t220 ++ (Utf8.encode ((97 + (Int.tmod a4 26)) % 256))) t251 true _ A30.out (by exact GL.at HG.out (by repeat (first | (with_reducible first | exact HB.out | apply below_alloc | apply pw_below_drewN | apply below_drew1) | exact HB.out)))).mono ?_); rintro e w54 ⟨rfl, hb⟩; refine ⟨_, rfl, ?_⟩; replace HO228 := Aside0.mk (Kd.R_below (by (with_reducible repeat (first | apply Kd.R_alloc | apply Kd.R_drewN | apply Kd.R_drew)); exact HO228.out) hb); replace HO231 := Aside0.mk (Kd.R_below (by (with_reducible repeat (first | apply Kd.R_alloc | apply Kd.R_drewN | apply Kd.R_drew)); exact HO231.out) hb); replace HO239 := Aside0.mk (Kd.R_below (by (with_reducible repeat (first | apply Kd.R_alloc | apply Kd.R_drewN | apply Kd.R_drew)); exact HO239.out) hb); replace BK236 := Aside0.mk (blk_below (g := gb236) (o := .cells #[.string t221, .string t222, .string t223, .string t224, .bool t225, .slice Ao44 t226.length co44, .slice Ao45 t229.length co45, .bool t232, .bool t233, .string t234] 33 (0, 0)) (by exact BK236.out) hb); replace HB := Aside0.mk (below_step (by (with_reducible exact HB.out)) hb); (try clear hb); (try clear hb2); (try clear hk); (try clear hi)) | (go_at_call 20; (with_reducible refine (laws_want.calls a2 a3 t253 _ A35.out).mono ?_); rintro e w' ⟨rfl, ⟨nd, rfl⟩⟩) | (go_at_call 20; (with_reducible refine (laws_want.calls (IntKind.u16.wrap (Int.tmod a4 26)) (IntKind.u16.wrap (Int.tmod a5 26)) t255 _ A39.out).mono ?_); rintro e w' ⟨rfl, ⟨nd, rfl⟩⟩))
                     go_ret
                     exact ⟨by rfl, by (with_reducible apply pw_below_drewN; with_reducible exact HB.out)⟩
                    ·rw [if_neg c40] at H
                     have c40b0 : (t249 == t255) = false := beq_eq_false_iff_ne.mpr c40
                     have c40b7 : (t249 = t255) = False := eq_false (beq_eq_false_iff_ne.mp c40b0)
                     have c40b1 : (t249 != t255) = true := bne_iff_ne.mpr c40
                     obtain rfl := Option.some.inj H
                     go_enter Tryd.func6, Tryd.ntmps6
                     go_wp2_with (first | ((with_reducible refine gate_callee (f := 10) rfl ?_); refine goesL_ (some 31) rfl rfl Tryd.func10 (by kernel_rfl) rfl #[.agg #[.slice A0 l0.length c0, .int .u8 0, .slice none 0 0, .slice none 0 0, .string ⟨#[]⟩, .bool false, .int .u16 0]] rfl (by (try simp only [List.map_toArray, List.map_cons, List.map_nil]); first | done | rfl | (simp only [List.length_drop, List.length_take]; rfl)) ?_; (refine (laws_Package_text.calls k _ _ l0 0 _ _ ([] : List Int) _ _ ([] : List Int) (⟨#[]⟩ : ByteArray) false 0 t220 t221 t222 t223 t224 t225 t226 t229 t232 t233 t234 true _ ?side1 ?side2 ?side3 ?side4 ?side5 ?side6 A8.out).mono ?_); (case side1 => repeat (first | exact HR0.out | (with_reducible refine Kd.C_alloc ?_ _) | (with_reducible refine Kd.C_drewN ?_ _) | (with_reducible refine Kd.C_drew ?_))); (case side2 => exact HC0.out); (case side3 => exact Kd.C_nil _ _); (case side4 => exact Nat.le_refl _); (case side5 => exact Kd.C_nil _ _); (case side6 => exact Nat.le_refl _); rintro e w55 ⟨v227, v230, rfl, ho0, ho1, hb⟩; refine ⟨_, rfl, ?_⟩; have HO228 := Aside0.mk (Kd.R_lower ho0 (below_size (by (with_reducible exact HB.out)))); have HO231 := Aside0.mk (Kd.R_lower ho1 (below_size (by (with_reducible exact HB.out)))); replace HB := Aside0.mk (below_step (by (with_reducible exact HB.out)) hb); (try clear hb); (try clear hb2); (try clear hk); (try clear hi); (try clear ho0); (try clear ho1)) | ((with_reducible refine gate_dst (N := 14) rfl ?_); refine box_event ?hg (N := 14) ?hd (cs := #[.string ⟨#[]⟩, .string ⟨#[]⟩, .string ⟨#[]⟩, .string ⟨#[]⟩, .bool false, .slice none 0 0, .slice none 0 0, .bool false, .bool false, .string ⟨#[]⟩]) (t := 33) ?hr ?_; (case hd => rfl); (case hg => rfl); (case hr => first | (go_simp; done) | (go_simp; rfl)); intro gb236 hg w56 hbox hb; replace HO228 := Aside0.mk (Kd.R_below (by (with_reducible repeat (first | apply Kd.R_alloc | apply Kd.R_drewN | apply Kd.R_drew)); exact HO228.out) hb); replace HO231 := Aside0.mk (Kd.R_below (by (with_reducible repeat (first | apply Kd.R_alloc | apply Kd.R_drewN | apply Kd.R_drew)); exact HO231.out) hb); have BK236 := Aside0.mk hbox; have GW236 := Aside0.mk ((by rw [hg]; exact (below_size (by (with_reducible exact HB.out))) : w.heap.size ≤ gb236)); have GE236 := Aside0.mk ((by rw [hg]; exact (below_size (by (with_reducible exact HB.out))) : w.heap.size ≤ gb236)); replace HB := Aside0.mk (below_step (by (with_reducible exact HB.out)) hb); clear hb hbox hg; obtain ⟨hcz57_0, hcz57_1, hcz57_2, hcz57_3, hcz57_4, hcz57_5, hcz57_6, hcz57_7, hcz57_8, hcz57_9, hfz57_0, hfz57_1, hfz57_2, hfz57_3, hfz57_4, hfz57_5, hfz57_6, hfz57_7, hfz57_8, hfz57_9⟩ := cl10 BK236.out; obtain ⟨Ao58, co58, eo58⟩ := Kd.R_slice HO228.out; subst eo58; obtain ⟨Ao59, co59, eo59⟩ := Kd.R_slice HO231.out; subst eo59) | ((with_reducible refine gate_callee (f := 17) rfl ?_); refine goesL_ (some 37) rfl rfl Tryd.func17 (by kernel_rfl) rfl #[] rfl (by (try simp only [List.map_toArray, List.map_cons, List.map_nil]); first | done | rfl | (simp only [List.length_drop, List.length_take]; rfl)) ?_; (with_reducible refine (laws_suffixes.calls  t237 _ A10.out).mono ?_); rintro e w60 ⟨v238, rfl, ho0, hb⟩; refine ⟨_, rfl, ?_⟩; replace HO228 := Aside0.mk (Kd.R_below (by (with_reducible repeat (first | apply Kd.R_alloc | apply Kd.R_drewN | apply Kd.R_drew)); exact (Kd.R_mono (farC (farC (farC (farC (farC (farC (farC (farC (farC (farC (Kd.R_types HO228.out BK236.out (by decide)))))))))))) (fun _ h_ => h_.1))) hb); replace HO231 := Aside0.mk (Kd.R_below (by (with_reducible repeat (first | apply Kd.R_alloc | apply Kd.R_drewN | apply Kd.R_drew)); exact (Kd.R_mono (farC (farC (farC (farC (farC (farC (farC (farC (farC (farC (Kd.R_types HO231.out BK236.out (by decide)))))))))))) (fun _ h_ => h_.1))) hb); have HO239 := Aside0.mk (Kd.R_lower ho0 (below_size (by repeat (first | (with_reducible first | exact HB.out | apply below_alloc | apply pw_below_drewN | apply below_drew1 | refine below_set ?_ GE236.out) | exact HB.out)))); replace BK236 := Aside0.mk (blk_below (g := gb236) (o := .cells #[.string t221, .string t222, .string t223, .string t224, .bool t225, .slice Ao58 t226.length co58, .slice Ao59 t229.length co59, .bool t232, .bool t233, .string t234] 33 (0, 0)) (by refine blk_put (cs := #[.string t221, .string t222, .string t223, .string t224, .bool t225, .slice Ao58 t226.length co58, .slice Ao59 t229.length co59, .bool t232, .bool t233, .string ⟨#[]⟩]) ?_ 9 _ rfl; refine blk_put (cs := #[.string t221, .string t222, .string t223, .string t224, .bool t225, .slice Ao58 t226.length co58, .slice Ao59 t229.length co59, .bool t232, .bool false, .string ⟨#[]⟩]) ?_ 8 _ rfl; refine blk_put (cs := #[.string t221, .string t222, .string t223, .string t224, .bool t225, .slice Ao58 t226.length co58, .slice Ao59 t229.length co59, .bool false, .bool false, .string ⟨#[]⟩]) ?_ 7 _ rfl; refine blk_put (cs := #[.string t221, .string t222, .string t223, .string t224, .bool t225, .slice Ao58 t226.length co58, .slice none 0 0, .bool false, .bool false, .string ⟨#[]⟩]) ?_ 6 _ rfl; refine blk_put (cs := #[.string t221, .string t222, .string t223, .string t224, .bool t225, .slice none 0 0, .slice none 0 0, .bool false, .bool false, .string ⟨#[]⟩]) ?_ 5 _ rfl; refine blk_put (cs := #[.string t221, .string t222, .string t223, .string t224, .bool false, .slice none 0 0, .slice none 0 0, .bool false, .bool false, .string ⟨#[]⟩]) ?_ 4 _ rfl; refine blk_put (cs := #[.string t221, .string t222, .string t223, .string ⟨#[]⟩, .bool false, .slice none 0 0, .slice none 0 0, .bool false, .bool false, .string ⟨#[]⟩]) ?_ 3 _ rfl; refine blk_put (cs := #[.string t221, .string t222, .string ⟨#[]⟩, .string ⟨#[]⟩, .bool false, .slice none 0 0, .slice none 0 0, .bool false, .bool false, .string ⟨#[]⟩]) ?_ 2 _ rfl; refine blk_put (cs := #[.string t221, .string ⟨#[]⟩, .string ⟨#[]⟩, .string ⟨#[]⟩, .bool false, .slice none 0 0, .slice none 0 0, .bool false, .bool false, .string ⟨#[]⟩]) ?_ 1 _ rfl; refine blk_put (cs := #[.string ⟨#[]⟩, .string ⟨#[]⟩, .string ⟨#[]⟩, .string ⟨#[]⟩, .bool false, .slice none 0 0, .slice none 0 0, .bool false, .bool false, .string ⟨#[]⟩]) ?_ 0 _ rfl; exact BK236.out) hb); replace HB := Aside0.mk (below_step (by repeat (first | (with_reducible first | exact HB.out | apply below_alloc | apply pw_below_drewN | apply below_drew1 | refine below_set ?_ GE236.out) | exact HB.out)) hb); (try clear hb); (try clear hb2); (try clear hk); (try clear hi); (try clear ho0); obtain ⟨Ao61, co61, eo61⟩ := Kd.R_slice HO239.out; subst eo61; have p240 : 0 ≤ ((ji11) : Int) := of_decide_eq_true (by (with_reducible assumption)); have q240 : (ji11) < (t237.length : Int) := of_decide_eq_true (by (with_reducible assumption)); obtain ⟨ad240, e240, hx240_0⟩ := Kd.at_string (Kd.R_reads' HO239.out).2.2 (ji11) p240 q240; cases e240; replace p240 := eq_true p240; replace q240 := eq_true q240) | ((with_reducible refine gate_callee (f := 19) rfl ?_); refine goesL_ (some 48) rfl rfl Tryd.func19 (by kernel_rfl) rfl #[.int .u16 a2] rfl (by (try simp only [List.map_toArray, List.map_cons, List.map_nil]); first | done | rfl | (simp only [List.length_drop, List.length_take]; rfl)) ?_; (with_reducible refine (laws_decimal.calls k a2 t241 _ A16.out).mono ?_); rintro e w' ⟨rfl, ⟨nd, rfl⟩⟩; refine ⟨_, rfl, ?_⟩) | ((with_reducible refine gate_callee (f := 19) rfl ?_); refine goesL_ (some 54) rfl rfl Tryd.func19 (by kernel_rfl) rfl #[.int .u16 a3] rfl (by (try simp only [List.map_toArray, List.map_cons, List.map_nil]); first | done | rfl | (simp only [List.length_drop, List.length_take]; rfl)) ?_; (with_reducible refine (laws_decimal.calls k a3 t242 _ A18.out).mono ?_); rintro e w' ⟨rfl, ⟨nd, rfl⟩⟩; refine ⟨_, rfl, ?_⟩) | ((with_reducible refine gate_callee (f := 18) rfl ?_); refine goesL_ (some 56) rfl rfl Tryd.func18 (by kernel_rfl) rfl #[.string ((t220 ++ ((⟨#[95]⟩ : ByteArray) ++ (rdOf ByteArray.empty t237 (ji11)))) ++ t241), .string ((t220 ++ ((⟨#[95]⟩ : ByteArray) ++ (rdOf ByteArray.empty t237 (ji11)))) ++ t242)] rfl (by (try simp only [List.map_toArray, List.map_cons, List.map_nil]); first | done | (simp only [hji11]; rfl) | rfl | (simp only [List.length_drop, List.length_take]; rfl)) ?_; (with_reducible refine (impl_AlpineCompareText.calls ((t220 ++ ((⟨#[95]⟩ : ByteArray) ++ (rdOf ByteArray.empty t237 (ji11)))) ++ t241) ((t220 ++ ((⟨#[95]⟩ : ByteArray) ++ (rdOf ByteArray.empty t237 (ji11)))) ++ t242) t243 true _ A20.out (by exact GL.at HG.out (by repeat (first | (with_reducible first | exact HB.out | apply below_alloc | apply pw_below_drewN | apply below_drew1) | exact HB.out)))).mono ?_); rintro e w62 ⟨rfl, hb⟩; refine ⟨_, rfl, ?_⟩; replace HO228 := Aside0.mk (Kd.R_below (by (with_reducible repeat (first | apply Kd.R_alloc | apply Kd.R_drewN | apply Kd.R_drew)); exact HO228.out) hb); replace HO231 := Aside0.mk (Kd.R_below (by (with_reducible repeat (first | apply Kd.R_alloc | apply Kd.R_drewN | apply Kd.R_drew)); exact HO231.out) hb); replace HO239 := Aside0.mk (Kd.R_below (by (with_reducible repeat (first | apply Kd.R_alloc | apply Kd.R_drewN | apply Kd.R_drew)); exact HO239.out) hb); replace BK236 := Aside0.mk (blk_below (g := gb236) (o := .cells #[.string t221, .string t222, .string t223, .string t224, .bool t225, .slice Ao58 t226.length co58, .slice Ao59 t229.length co59, .bool t232, .bool t233, .string t234] 33 (0, 0)) (by (with_reducible (refine blk_drewN ?_ _)); exact BK236.out) hb); replace HB := Aside0.mk (below_step (by (with_reducible apply pw_below_drewN; with_reducible exact HB.out)) hb); (try clear hb); (try clear hb2); (try clear hk); (try clear hi)) | ((with_reducible refine gate_callee (f := 19) rfl ?_); refine goesL_ (some 63) rfl rfl Tryd.func19 (by kernel_rfl) rfl #[.int .u16 a2] rfl (by (try simp only [List.map_toArray, List.map_cons, List.map_nil]); first | done | rfl | (simp only [List.length_drop, List.length_take]; rfl)) ?_; (with_reducible refine (laws_decimal.calls k a2 t245 _ A22.out).mono ?_); rintro e w' ⟨rfl, ⟨nd, rfl⟩⟩; refine ⟨_, rfl, ?_⟩) | ((with_reducible refine gate_callee (f := 19) rfl ?_); refine goesL_ (some 68) rfl rfl Tryd.func19 (by kernel_rfl) rfl #[.int .u16 a3] rfl (by (try simp only [List.map_toArray, List.map_cons, List.map_nil]); first | done | rfl | (simp only [List.length_drop, List.length_take]; rfl)) ?_; (with_reducible refine (laws_decimal.calls k a3 t246 _ A24.out).mono ?_); rintro e w' ⟨rfl, ⟨nd, rfl⟩⟩; refine ⟨_, rfl, ?_⟩) | ((with_reducible refine gate_callee (f := 18) rfl ?_); refine goesL_ (some 70) rfl rfl Tryd.func18 (by kernel_rfl) rfl #[.string ((t220 ++ (⟨#[45, 114]⟩ : ByteArray)) ++ t245), .string ((t220 ++ (⟨#[45, 114]⟩ : ByteArray)) ++ t246)] rfl (by (try simp only [List.map_toArray, List.map_cons, List.map_nil]); first | done | rfl | (simp only [List.length_drop, List.length_take]; rfl)) ?_; (with_reducible refine (impl_AlpineCompareText.calls ((t220 ++ (⟨#[45, 114]⟩ : ByteArray)) ++ t245) ((t220 ++ (⟨#[45, 114]⟩ : ByteArray)) ++ t246) t247 true _ A26.out (by exact GL.at HG.out (by repeat (first | (with_reducible first | exact HB.out | apply below_alloc | apply pw_below_drewN | apply below_drew1) | exact HB.out)))).mono ?_); rintro e w63 ⟨rfl, hb⟩; refine ⟨_, rfl, ?_⟩; replace HO228 := Aside0.mk (Kd.R_below (by (with_reducible repeat (first | apply Kd.R_alloc | apply Kd.R_drewN | apply Kd.R_drew)); exact HO228.out) hb); replace HO231 := Aside0.mk (Kd.R_below (by (with_reducible repeat (first | apply Kd.R_alloc | apply Kd.R_drewN | apply Kd.R_drew)); exact HO231.out) hb); replace HO239 := Aside0.mk (Kd.R_below (by (with_reducible repeat (first | apply Kd.R_alloc | apply Kd.R_drewN | apply Kd.R_drew)); exact HO239.out) hb); replace BK236 := Aside0.mk (blk_below (g := gb236) (o := .cells #[.string t221, .string t222, .string t223, .string t224, .bool t225, .slice Ao58 t226.length co58, .slice Ao59 t229.length co59, .bool t232, .bool t233, .string t234] 33 (0, 0)) (by (with_reducible (refine blk_drewN ?_ _)); exact BK236.out) hb); replace HB := Aside0.mk (below_step (by (with_reducible apply pw_below_drewN; with_reducible exact HB.out)) hb); (try clear hb); (try clear hb2); (try clear hk); (try clear hi); have hcv64 := fun (W_ : World) => run_convert_int_string (P := Tryd.prog) W_ 21 9 .i32 ((97 + (Int.tmod a4 26)) % 256) (by rw [Tryd.underlying21]; rfl) Tryd.underlying9; have hcv65 := fun (W_ : World) => run_convert_int_string (P := Tryd.prog) W_ 21 9 .i32 ((97 + (Int.tmod a5 26)) % 256) (by rw [Tryd.underlying21]; rfl) Tryd.underlying9) | ((with_reducible refine gate_callee (f := 18) rfl ?_); refine goesL_ (some 88) rfl rfl Tryd.func18 (by kernel_rfl) rfl #[.string (t220 ++ (Utf8.encode ((97 + (Int.tmod a4 26)) % 256))), .string (t220 ++ (Utf8.encode ((97 + (Int.tmod a5 26)) % 256)))] rfl (by (try simp only [List.map_toArray, List.map_cons, List.map_nil]); first | done | rfl | (simp only [List.length_drop, List.length_take]; rfl)) ?_; (with_reducible refine (impl_AlpineCompareText.calls (t220 ++ (Utf8.encode ((97 + (Int.tmod a4 26)) % 256))) (t220 ++ (Utf8.encode ((97 + (Int.tmod a5 26)) % 256))) t249 true _ A29.out (by exact GL.at HG.out (by repeat (first | (with_reducible first | exact HB.out | apply below_alloc | apply pw_below_drewN | apply below_drew1) | exact HB.out)))).mono ?_); rintro e w66 ⟨rfl, hb⟩; refine ⟨_, rfl, ?_⟩; replace HO228 := Aside0.mk (Kd.R_below (by (with_reducible repeat (first | apply Kd.R_alloc | apply Kd.R_drewN | apply Kd.R_drew)); exact HO228.out) hb); replace HO231 := Aside0.mk (Kd.R_below (by (with_reducible repeat (first | apply Kd.R_alloc | apply Kd.R_drewN | apply Kd.R_drew)); exact HO231.out) hb); replace HO239 := Aside0.mk (Kd.R_below (by (with_reducible repeat (first | apply Kd.R_alloc | apply Kd.R_drewN | apply Kd.R_drew)); exact HO239.out) hb); replace BK236 := Aside0.mk (blk_below (g := gb236) (o := .cells #[.string t221, .string t222, .string t223, .string t224, .bool t225, .slice Ao58 t226.length co58, .slice Ao59 t229.length co59, .bool t232, .bool t233, .string t234] 33 (0, 0)) (by exact BK236.out) hb); replace HB := Aside0.mk (below_step (by (with_reducible exact HB.out)) hb); (try clear hb); (try clear hb2); (try clear hk); (try clear hi); have hcv67 := fun (W_ : World) => run_convert_int_string (P := Tryd.prog) W_ 21 9 .i32 ((97 + (Int.tmod a4 26)) % 256) (by rw [Tryd.underlying21]; rfl) Tryd.underlying9) | ((with_reducible refine gate_callee (f := 18) rfl ?_); refine goesL_ (some 100) rfl rfl Tryd.func18 (by kernel_rfl) rfl #[.string t220, .string (t220 ++ (Utf8.encode ((97 + (Int.tmod a4 26)) % 256)))] rfl (by (try simp only [List.map_toArray, List.map_cons, List.map_nil]); first | done | rfl | (simp only [List.length_drop, List.length_take]; rfl)) ?_; (with_reducible refine (impl_AlpineCompareText.calls t220 (t220 ++ (Utf8.encode ((97 + (Int.tmod a4 26)) % 256))) t251 true _ A30.out (by exact GL.at HG.out (by repeat (first | (with_reducible first | exact HB.out | apply below_alloc | apply pw_below_drewN | apply below_drew1) | exact HB.out)))).mono ?_); rintro e w68 ⟨rfl, hb⟩; refine ⟨_, rfl, ?_⟩; replace HO228 := Aside0.mk (Kd.R_below (by (with_reducible repeat (first | apply Kd.R_alloc | apply Kd.R_drewN | apply Kd.R_drew)); exact HO228.out) hb); replace HO231 := Aside0.mk (Kd.R_below (by (with_reducible repeat (first | apply Kd.R_alloc | apply Kd.R_drewN | apply Kd.R_drew)); exact HO231.out) hb); replace HO239 := Aside0.mk (Kd.R_below (by (with_reducible repeat (first | apply Kd.R_alloc | apply Kd.R_drewN | apply Kd.R_drew)); exact HO239.out) hb); replace BK236 := Aside0.mk (blk_below (g := gb236) (o := .cells #[.string t221, .string t222, .string t223, .string t224, .bool t225, .slice Ao58 t226.length co58, .slice Ao59 t229.length co59, .bool t232, .bool t233, .string t234] 33 (0, 0)) (by exact BK236.out) hb); replace HB := Aside0.mk (below_step (by (with_reducible exact HB.out)) hb); (try clear hb); (try clear hb2); (try clear hk); (try clear hi)) | (go_at_call 20; (with_reducible refine (laws_want.calls a2 a3 t253 _ A35.out).mono ?_); rintro e w' ⟨rfl, ⟨nd, rfl⟩⟩) | (go_at_call 20; (with_reducible refine (laws_want.calls (IntKind.u16.wrap (Int.tmod a4 26)) (IntKind.u16.wrap (Int.tmod a5 26)) t255 _ A39.out).mono ?_); rintro e w' ⟨rfl, ⟨nd, rfl⟩⟩))
                     go_ret
                     exact ⟨by rfl, by (with_reducible apply pw_below_drewN; with_reducible exact HB.out)⟩
                   ·rw [if_neg c38] at H
                    have c38b0 : (t247 == t253) = false := beq_eq_false_iff_ne.mpr c38
                    have c38b7 : (t247 = t253) = False := eq_false (beq_eq_false_iff_ne.mp c38b0)
                    have c38b1 : (t247 != t253) = true := bne_iff_ne.mpr c38
                    obtain rfl := Option.some.inj H
                    go_enter Tryd.func6, Tryd.ntmps6
                    go_wp2_with (first | ((with_reducible refine gate_callee (f := 10) rfl ?_); refine goesL_ (some 31) rfl rfl Tryd.func10 (by kernel_rfl) rfl #[.agg #[.slice A0 l0.length c0, .int .u8 0, .slice none 0 0, .slice none 0 0, .string ⟨#[]⟩, .bool false, .int .u16 0]] rfl (by (try simp only [List.map_toArray, List.map_cons, List.map_nil]); first | done | rfl | (simp only [List.length_drop, List.length_take]; rfl)) ?_; (refine (laws_Package_text.calls k _ _ l0 0 _ _ ([] : List Int) _ _ ([] : List Int) (⟨#[]⟩ : ByteArray) false 0 t220 t221 t222 t223 t224 t225 t226 t229 t232 t233 t234 true _ ?side1 ?side2 ?side3 ?side4 ?side5 ?side6 A8.out).mono ?_); (case side1 => repeat (first | exact HR0.out | (with_reducible refine Kd.C_alloc ?_ _) | (with_reducible refine Kd.C_drewN ?_ _) | (with_reducible refine Kd.C_drew ?_))); (case side2 => exact HC0.out); (case side3 => exact Kd.C_nil _ _); (case side4 => exact Nat.le_refl _); (case side5 => exact Kd.C_nil _ _); (case side6 => exact Nat.le_refl _); rintro e w69 ⟨v227, v230, rfl, ho0, ho1, hb⟩; refine ⟨_, rfl, ?_⟩; have HO228 := Aside0.mk (Kd.R_lower ho0 (below_size (by (with_reducible exact HB.out)))); have HO231 := Aside0.mk (Kd.R_lower ho1 (below_size (by (with_reducible exact HB.out)))); replace HB := Aside0.mk (below_step (by (with_reducible exact HB.out)) hb); (try clear hb); (try clear hb2); (try clear hk); (try clear hi); (try clear ho0); (try clear ho1)) | ((with_reducible refine gate_dst (N := 14) rfl ?_); refine box_event ?hg (N := 14) ?hd (cs := #[.string ⟨#[]⟩, .string ⟨#[]⟩, .string ⟨#[]⟩, .string ⟨#[]⟩, .bool false, .slice none 0 0, .slice none 0 0, .bool false, .bool false, .string ⟨#[]⟩]) (t := 33) ?hr ?_; (case hd => rfl); (case hg => rfl); (case hr => first | (go_simp; done) | (go_simp; rfl)); intro gb236 hg w70 hbox hb; replace HO228 := Aside0.mk (Kd.R_below (by (with_reducible repeat (first | apply Kd.R_alloc | apply Kd.R_drewN | apply Kd.R_drew)); exact HO228.out) hb); replace HO231 := Aside0.mk (Kd.R_below (by (with_reducible repeat (first | apply Kd.R_alloc | apply Kd.R_drewN | apply Kd.R_drew)); exact HO231.out) hb); have BK236 := Aside0.mk hbox; have GW236 := Aside0.mk ((by rw [hg]; exact (below_size (by (with_reducible exact HB.out))) : w.heap.size ≤ gb236)); have GE236 := Aside0.mk ((by rw [hg]; exact (below_size (by (with_reducible exact HB.out))) : w.heap.size ≤ gb236)); replace HB := Aside0.mk (below_step (by (with_reducible exact HB.out)) hb); clear hb hbox hg; obtain ⟨hcz71_0, hcz71_1, hcz71_2, hcz71_3, hcz71_4, hcz71_5, hcz71_6, hcz71_7, hcz71_8, hcz71_9, hfz71_0, hfz71_1, hfz71_2, hfz71_3, hfz71_4, hfz71_5, hfz71_6, hfz71_7, hfz71_8, hfz71_9⟩ := cl10 BK236.out; obtain ⟨Ao72, co72, eo72⟩ := Kd.R_slice HO228.out; subst eo72; obtain ⟨Ao73, co73, eo73⟩ := Kd.R_slice HO231.out; subst eo73) | ((with_reducible refine gate_callee (f := 17) rfl ?_); refine goesL_ (some 37) rfl rfl Tryd.func17 (by kernel_rfl) rfl #[] rfl (by (try simp only [List.map_toArray, List.map_cons, List.map_nil]); first | done | rfl | (simp only [List.length_drop, List.length_take]; rfl)) ?_; (with_reducible refine (laws_suffixes.calls  t237 _ A10.out).mono ?_); rintro e w74 ⟨v238, rfl, ho0, hb⟩; refine ⟨_, rfl, ?_⟩; replace HO228 := Aside0.mk (Kd.R_below (by (with_reducible repeat (first | apply Kd.R_alloc | apply Kd.R_drewN | apply Kd.R_drew)); exact (Kd.R_mono (farC (farC (farC (farC (farC (farC (farC (farC (farC (farC (Kd.R_types HO228.out BK236.out (by decide)))))))))))) (fun _ h_ => h_.1))) hb); replace HO231 := Aside0.mk (Kd.R_below (by (with_reducible repeat (first | apply Kd.R_alloc | apply Kd.R_drewN | apply Kd.R_drew)); exact (Kd.R_mono (farC (farC (farC (farC (farC (farC (farC (farC (farC (farC (Kd.R_types HO231.out BK236.out (by decide)))))))))))) (fun _ h_ => h_.1))) hb); have HO239 := Aside0.mk (Kd.R_lower ho0 (below_size (by repeat (first | (with_reducible first | exact HB.out | apply below_alloc | apply pw_below_drewN | apply below_drew1 | refine below_set ?_ GE236.out) | exact HB.out)))); replace BK236 := Aside0.mk (blk_below (g := gb236) (o := .cells #[.string t221, .string t222, .string t223, .string t224, .bool t225, .slice Ao72 t226.length co72, .slice Ao73 t229.length co73, .bool t232, .bool t233, .string t234] 33 (0, 0)) (by refine blk_put (cs := #[.string t221, .string t222, .string t223, .string t224, .bool t225, .slice Ao72 t226.length co72, .slice Ao73 t229.length co73, .bool t232, .bool t233, .string ⟨#[]⟩]) ?_ 9 _ rfl; refine blk_put (cs := #[.string t221, .string t222, .string t223, .string t224, .bool t225, .slice Ao72 t226.length co72, .slice Ao73 t229.length co73, .bool t232, .bool false, .string ⟨#[]⟩]) ?_ 8 _ rfl; refine blk_put (cs := #[.string t221, .string t222, .string t223, .string t224, .bool t225, .slice Ao72 t226.length co72, .slice Ao73 t229.length co73, .bool false, .bool false, .string ⟨#[]⟩]) ?_ 7 _ rfl; refine blk_put (cs := #[.string t221, .string t222, .string t223, .string t224, .bool t225, .slice Ao72 t226.length co72, .slice none 0 0, .bool false, .bool false, .string ⟨#[]⟩]) ?_ 6 _ rfl; refine blk_put (cs := #[.string t221, .string t222, .string t223, .string t224, .bool t225, .slice none 0 0, .slice none 0 0, .bool false, .bool false, .string ⟨#[]⟩]) ?_ 5 _ rfl; refine blk_put (cs := #[.string t221, .string t222, .string t223, .string t224, .bool false, .slice none 0 0, .slice none 0 0, .bool false, .bool false, .string ⟨#[]⟩]) ?_ 4 _ rfl; refine blk_put (cs := #[.string t221, .string t222, .string t223, .string ⟨#[]⟩, .bool false, .slice none 0 0, .slice none 0 0, .bool false, .bool false, .string ⟨#[]⟩]) ?_ 3 _ rfl; refine blk_put (cs := #[.string t221, .string t222, .string ⟨#[]⟩, .string ⟨#[]⟩, .bool false, .slice none 0 0, .slice none 0 0, .bool false, .bool false, .string ⟨#[]⟩]) ?_ 2 _ rfl; refine blk_put (cs := #[.string t221, .string ⟨#[]⟩, .string ⟨#[]⟩, .string ⟨#[]⟩, .bool false, .slice none 0 0, .slice none 0 0, .bool false, .bool false, .string ⟨#[]⟩]) ?_ 1 _ rfl; refine blk_put (cs := #[.string ⟨#[]⟩, .string ⟨#[]⟩, .string ⟨#[]⟩, .string ⟨#[]⟩, .bool false, .slice none 0 0, .slice none 0 0, .bool false, .bool false, .string ⟨#[]⟩]) ?_ 0 _ rfl; exact BK236.out) hb); replace HB := Aside0.mk (below_step (by repeat (first | (with_reducible first | exact HB.out | apply below_alloc | apply pw_below_drewN | apply below_drew1 | refine below_set ?_ GE236.out) | exact HB.out)) hb); (try clear hb); (try clear hb2); (try clear hk); (try clear hi); (try clear ho0); obtain ⟨Ao75, co75, eo75⟩ := Kd.R_slice HO239.out; subst eo75; have p240 : 0 ≤ ((ji11) : Int) := of_decide_eq_true (by (with_reducible assumption)); have q240 : (ji11) < (t237.length : Int) := of_decide_eq_true (by (with_reducible assumption)); obtain ⟨ad240, e240, hx240_0⟩ := Kd.at_string (Kd.R_reads' HO239.out).2.2 (ji11) p240 q240; cases e240; replace p240 := eq_true p240; replace q240 := eq_true q240) | ((with_reducible refine gate_callee (f := 19) rfl ?_); refine goesL_ (some 48) rfl rfl Tryd.func19 (by kernel_rfl) rfl #[.int .u16 a2] rfl (by (try simp only [List.map_toArray, List.map_cons, List.map_nil]); first | done | rfl | (simp only [List.length_drop, List.length_take]; rfl)) ?_; (with_reducible refine (laws_decimal.calls k a2 t241 _ A16.out).mono ?_); rintro e w' ⟨rfl, ⟨nd, rfl⟩⟩; refine ⟨_, rfl, ?_⟩) | ((with_reducible refine gate_callee (f := 19) rfl ?_); refine goesL_ (some 54) rfl rfl Tryd.func19 (by kernel_rfl) rfl #[.int .u16 a3] rfl (by (try simp only [List.map_toArray, List.map_cons, List.map_nil]); first | done | rfl | (simp only [List.length_drop, List.length_take]; rfl)) ?_; (with_reducible refine (laws_decimal.calls k a3 t242 _ A18.out).mono ?_); rintro e w' ⟨rfl, ⟨nd, rfl⟩⟩; refine ⟨_, rfl, ?_⟩) | ((with_reducible refine gate_callee (f := 18) rfl ?_); refine goesL_ (some 56) rfl rfl Tryd.func18 (by kernel_rfl) rfl #[.string ((t220 ++ ((⟨#[95]⟩ : ByteArray) ++ (rdOf ByteArray.empty t237 (ji11)))) ++ t241), .string ((t220 ++ ((⟨#[95]⟩ : ByteArray) ++ (rdOf ByteArray.empty t237 (ji11)))) ++ t242)] rfl (by (try simp only [List.map_toArray, List.map_cons, List.map_nil]); first | done | (simp only [hji11]; rfl) | rfl | (simp only [List.length_drop, List.length_take]; rfl)) ?_; (with_reducible refine (impl_AlpineCompareText.calls ((t220 ++ ((⟨#[95]⟩ : ByteArray) ++ (rdOf ByteArray.empty t237 (ji11)))) ++ t241) ((t220 ++ ((⟨#[95]⟩ : ByteArray) ++ (rdOf ByteArray.empty t237 (ji11)))) ++ t242) t243 true _ A20.out (by exact GL.at HG.out (by repeat (first | (with_reducible first | exact HB.out | apply below_alloc | apply pw_below_drewN | apply below_drew1) | exact HB.out)))).mono ?_); rintro e w76 ⟨rfl, hb⟩; refine ⟨_, rfl, ?_⟩; replace HO228 := Aside0.mk (Kd.R_below (by (with_reducible repeat (first | apply Kd.R_alloc | apply Kd.R_drewN | apply Kd.R_drew)); exact HO228.out) hb); replace HO231 := Aside0.mk (Kd.R_below (by (with_reducible repeat (first | apply Kd.R_alloc | apply Kd.R_drewN | apply Kd.R_drew)); exact HO231.out) hb); replace HO239 := Aside0.mk (Kd.R_below (by (with_reducible repeat (first | apply Kd.R_alloc | apply Kd.R_drewN | apply Kd.R_drew)); exact HO239.out) hb); replace BK236 := Aside0.mk (blk_below (g := gb236) (o := .cells #[.string t221, .string t222, .string t223, .string t224, .bool t225, .slice Ao72 t226.length co72, .slice Ao73 t229.length co73, .bool t232, .bool t233, .string t234] 33 (0, 0)) (by (with_reducible (refine blk_drewN ?_ _)); exact BK236.out) hb); replace HB := Aside0.mk (below_step (by (with_reducible apply pw_below_drewN; with_reducible exact HB.out)) hb); (try clear hb); (try clear hb2); (try clear hk); (try clear hi)) | ((with_reducible refine gate_callee (f := 19) rfl ?_); refine goesL_ (some 63) rfl rfl Tryd.func19 (by kernel_rfl) rfl #[.int .u16 a2] rfl (by (try simp only [List.map_toArray, List.map_cons, List.map_nil]); first | done | rfl | (simp only [List.length_drop, List.length_take]; rfl)) ?_; (with_reducible refine (laws_decimal.calls k a2 t245 _ A22.out).mono ?_); rintro e w' ⟨rfl, ⟨nd, rfl⟩⟩; refine ⟨_, rfl, ?_⟩) | ((with_reducible refine gate_callee (f := 19) rfl ?_); refine goesL_ (some 68) rfl rfl Tryd.func19 (by kernel_rfl) rfl #[.int .u16 a3] rfl (by (try simp only [List.map_toArray, List.map_cons, List.map_nil]); first | done | rfl | (simp only [List.length_drop, List.length_take]; rfl)) ?_; (with_reducible refine (laws_decimal.calls k a3 t246 _ A24.out).mono ?_); rintro e w' ⟨rfl, ⟨nd, rfl⟩⟩; refine ⟨_, rfl, ?_⟩) | ((with_reducible refine gate_callee (f := 18) rfl ?_); refine goesL_ (some 70) rfl rfl Tryd.func18 (by kernel_rfl) rfl #[.string ((t220 ++ (⟨#[45, 114]⟩ : ByteArray)) ++ t245), .string ((t220 ++ (⟨#[45, 114]⟩ : ByteArray)) ++ t246)] rfl (by (try simp only [List.map_toArray, List.map_cons, List.map_nil]); first | done | rfl | (simp only [List.length_drop, List.length_take]; rfl)) ?_; (with_reducible refine (impl_AlpineCompareText.calls ((t220 ++ (⟨#[45, 114]⟩ : ByteArray)) ++ t245) ((t220 ++ (⟨#[45, 114]⟩ : ByteArray)) ++ t246) t247 true _ A26.out (by exact GL.at HG.out (by repeat (first | (with_reducible first | exact HB.out | apply below_alloc | apply pw_below_drewN | apply below_drew1) | exact HB.out)))).mono ?_); rintro e w77 ⟨rfl, hb⟩; refine ⟨_, rfl, ?_⟩; replace HO228 := Aside0.mk (Kd.R_below (by (with_reducible repeat (first | apply Kd.R_alloc | apply Kd.R_drewN | apply Kd.R_drew)); exact HO228.out) hb); replace HO231 := Aside0.mk (Kd.R_below (by (with_reducible repeat (first | apply Kd.R_alloc | apply Kd.R_drewN | apply Kd.R_drew)); exact HO231.out) hb); replace HO239 := Aside0.mk (Kd.R_below (by (with_reducible repeat (first | apply Kd.R_alloc | apply Kd.R_drewN | apply Kd.R_drew)); exact HO239.out) hb); replace BK236 := Aside0.mk (blk_below (g := gb236) (o := .cells #[.string t221, .string t222, .string t223, .string t224, .bool t225, .slice Ao72 t226.length co72, .slice Ao73 t229.length co73, .bool t232, .bool t233, .string t234] 33 (0, 0)) (by (with_reducible (refine blk_drewN ?_ _)); exact BK236.out) hb); replace HB := Aside0.mk (below_step (by (with_reducible apply pw_below_drewN; with_reducible exact HB.out)) hb); (try clear hb); (try clear hb2); (try clear hk); (try clear hi); have hcv78 := fun (W_ : World) => run_convert_int_string (P := Tryd.prog) W_ 21 9 .i32 ((97 + (Int.tmod a4 26)) % 256) (by rw [Tryd.underlying21]; rfl) Tryd.underlying9; have hcv79 := fun (W_ : World) => run_convert_int_string (P := Tryd.prog) W_ 21 9 .i32 ((97 + (Int.tmod a5 26)) % 256) (by rw [Tryd.underlying21]; rfl) Tryd.underlying9) | ((with_reducible refine gate_callee (f := 18) rfl ?_); refine goesL_ (some 88) rfl rfl Tryd.func18 (by kernel_rfl) rfl #[.string (t220 ++ (Utf8.encode ((97 + (Int.tmod a4 26)) % 256))), .string (t220 ++ (Utf8.encode ((97 + (Int.tmod a5 26)) % 256)))] rfl (by (try simp only [List.map_toArray, List.map_cons, List.map_nil]); first | done | rfl | (simp only [List.length_drop, List.length_take]; rfl)) ?_; (with_reducible refine (impl_AlpineCompareText.calls (t220 ++ (Utf8.encode ((97 + (Int.tmod a4 26)) % 256))) (t220 ++ (Utf8.encode ((97 + (Int.tmod a5 26)) % 256))) t249 true _ A29.out (by exact GL.at HG.out (by repeat (first | (with_reducible first | exact HB.out | apply below_alloc | apply pw_below_drewN | apply below_drew1) | exact HB.out)))).mono ?_); rintro e w80 ⟨rfl, hb⟩; refine ⟨_, rfl, ?_⟩; replace HO228 := Aside0.mk (Kd.R_below (by (with_reducible repeat (first | apply Kd.R_alloc | apply Kd.R_drewN | apply Kd.R_drew)); exact HO228.out) hb); replace HO231 := Aside0.mk (Kd.R_below (by (with_reducible repeat (first | apply Kd.R_alloc | apply Kd.R_drewN | apply Kd.R_drew)); exact HO231.out) hb); replace HO239 := Aside0.mk (Kd.R_below (by (with_reducible repeat (first | apply Kd.R_alloc | apply Kd.R_drewN | apply Kd.R_drew)); exact HO239.out) hb); replace BK236 := Aside0.mk (blk_below (g := gb236) (o := .cells #[.string t221, .string t222, .string t223, .string t224, .bool t225, .slice Ao72 t226.length co72, .slice Ao73 t229.length co73, .bool t232, .bool t233, .string t234] 33 (0, 0)) (by exact BK236.out) hb); replace HB := Aside0.mk (below_step (by (with_reducible exact HB.out)) hb); (try clear hb); (try clear hb2); (try clear hk); (try clear hi); have hcv81 := fun (W_ : World) => run_convert_int_string (P := Tryd.prog) W_ 21 9 .i32 ((97 + (Int.tmod a4 26)) % 256) (by rw [Tryd.underlying21]; rfl) Tryd.underlying9) | ((with_reducible refine gate_callee (f := 18) rfl ?_); refine goesL_ (some 100) rfl rfl Tryd.func18 (by kernel_rfl) rfl #[.string t220, .string (t220 ++ (Utf8.encode ((97 + (Int.tmod a4 26)) % 256)))] rfl (by (try simp only [List.map_toArray, List.map_cons, List.map_nil]); first | done | rfl | (simp only [List.length_drop, List.length_take]; rfl)) ?_; (with_reducible refine (impl_AlpineCompareText.calls t220 (t220 ++ (Utf8.encode ((97 + (Int.tmod a4 26)) % 256))) t251 true _ A30.out (by exact GL.at HG.out (by repeat (first | (with_reducible first | exact HB.out | apply below_alloc | apply pw_below_drewN | apply below_drew1) | exact HB.out)))).mono ?_); rintro e w82 ⟨rfl, hb⟩; refine ⟨_, rfl, ?_⟩; replace HO228 := Aside0.mk (Kd.R_below (by (with_reducible repeat (first | apply Kd.R_alloc | apply Kd.R_drewN | apply Kd.R_drew)); exact HO228.out) hb); replace HO231 := Aside0.mk (Kd.R_below (by (with_reducible repeat (first | apply Kd.R_alloc | apply Kd.R_drewN | apply Kd.R_drew)); exact HO231.out) hb); replace HO239 := Aside0.mk (Kd.R_below (by (with_reducible repeat (first | apply Kd.R_alloc | apply Kd.R_drewN | apply Kd.R_drew)); exact HO239.out) hb); replace BK236 := Aside0.mk (blk_below (g := gb236) (o := .cells #[.string t221, .string t222, .string t223, .string t224, .bool t225, .slice Ao72 t226.length co72, .slice Ao73 t229.length co73, .bool t232, .bool t233, .string t234] 33 (0, 0)) (by exact BK236.out) hb); replace HB := Aside0.mk (below_step (by (with_reducible exact HB.out)) hb); (try clear hb); (try clear hb2); (try clear hk); (try clear hi)) | (go_at_call 20; (with_reducible refine (laws_want.calls a2 a3 t253 _ A35.out).mono ?_); rintro e w' ⟨rfl, ⟨nd, rfl⟩⟩))
                    go_ret
                    exact ⟨by rfl, by (with_reducible apply pw_below_drewN; with_reducible exact HB.out)⟩
                  ·rw [if_neg c36] at H
                   have c36b0 : (t243 == t253) = false := beq_eq_false_iff_ne.mpr c36
                   have c36b7 : (t243 = t253) = False := eq_false (beq_eq_false_iff_ne.mp c36b0)
                   have c36b1 : (t243 != t253) = true := bne_iff_ne.mpr c36
                   obtain rfl := Option.some.inj H
                   go_enter Tryd.func6, Tryd.ntmps6
                   go_wp2_with (first | ((with_reducible refine gate_callee (f := 10) rfl ?_); refine goesL_ (some 31) rfl rfl Tryd.func10 (by kernel_rfl) rfl #[.agg #[.slice A0 l0.length c0, .int .u8 0, .slice none 0 0, .slice none 0 0, .string ⟨#[]⟩, .bool false, .int .u16 0]] rfl (by (try simp only [List.map_toArray, List.map_cons, List.map_nil]); first | done | rfl | (simp only [List.length_drop, List.length_take]; rfl)) ?_; (refine (laws_Package_text.calls k _ _ l0 0 _ _ ([] : List Int) _ _ ([] : List Int) (⟨#[]⟩ : ByteArray) false 0 t220 t221 t222 t223 t224 t225 t226 t229 t232 t233 t234 true _ ?side1 ?side2 ?side3 ?side4 ?side5 ?side6 A8.out).mono ?_); (case side1 => repeat (first | exact HR0.out | (with_reducible refine Kd.C_alloc ?_ _) | (with_reducible refine Kd.C_drewN ?_ _) | (with_reducible refine Kd.C_drew ?_))); (case side2 => exact HC0.out); (case side3 => exact Kd.C_nil _ _); (case side4 => exact Nat.le_refl _); (case side5 => exact Kd.C_nil _ _); (case side6 => exact Nat.le_refl _); rintro e w83 ⟨v227, v230, rfl, ho0, ho1, hb⟩; refine ⟨_, rfl, ?_⟩; have HO228 := Aside0.mk (Kd.R_lower ho0 (below_size (by (with_reducible exact HB.out)))); have HO231 := Aside0.mk (Kd.R_lower ho1 (below_size (by (with_reducible exact HB.out)))); replace HB := Aside0.mk (below_step (by (with_reducible exact HB.out)) hb); (try clear hb); (try clear hb2); (try clear hk); (try clear hi); (try clear ho0); (try clear ho1)) | ((with_reducible refine gate_dst (N := 14) rfl ?_); refine box_event ?hg (N := 14) ?hd (cs := #[.string ⟨#[]⟩, .string ⟨#[]⟩, .string ⟨#[]⟩, .string ⟨#[]⟩, .bool false, .slice none 0 0, .slice none 0 0, .bool false, .bool false, .string ⟨#[]⟩]) (t := 33) ?hr ?_; (case hd => rfl); (case hg => rfl); (case hr => first | (go_simp; done) | (go_simp; rfl)); intro gb236 hg w84 hbox hb; replace HO228 := Aside0.mk (Kd.R_below (by (with_reducible repeat (first | apply Kd.R_alloc | apply Kd.R_drewN | apply Kd.R_drew)); exact HO228.out) hb); replace HO231 := Aside0.mk (Kd.R_below (by (with_reducible repeat (first | apply Kd.R_alloc | apply Kd.R_drewN | apply Kd.R_drew)); exact HO231.out) hb); have BK236 := Aside0.mk hbox; have GW236 := Aside0.mk ((by rw [hg]; exact (below_size (by (with_reducible exact HB.out))) : w.heap.size ≤ gb236)); have GE236 := Aside0.mk ((by rw [hg]; exact (below_size (by (with_reducible exact HB.out))) : w.heap.size ≤ gb236)); replace HB := Aside0.mk (below_step (by (with_reducible exact HB.out)) hb); clear hb hbox hg; obtain ⟨hcz85_0, hcz85_1, hcz85_2, hcz85_3, hcz85_4, hcz85_5, hcz85_6, hcz85_7, hcz85_8, hcz85_9, hfz85_0, hfz85_1, hfz85_2, hfz85_3, hfz85_4, hfz85_5, hfz85_6, hfz85_7, hfz85_8, hfz85_9⟩ := cl10 BK236.out; obtain ⟨Ao86, co86, eo86⟩ := Kd.R_slice HO228.out; subst eo86; obtain ⟨Ao87, co87, eo87⟩ := Kd.R_slice HO231.out; subst eo87) | ((with_reducible refine gate_callee (f := 17) rfl ?_); refine goesL_ (some 37) rfl rfl Tryd.func17 (by kernel_rfl) rfl #[] rfl (by (try simp only [List.map_toArray, List.map_cons, List.map_nil]); first | done | rfl | (simp only [List.length_drop, List.length_take]; rfl)) ?_; (with_reducible refine (laws_suffixes.calls  t237 _ A10.out).mono ?_); rintro e w88 ⟨v238, rfl, ho0, hb⟩; refine ⟨_, rfl, ?_⟩; replace HO228 := Aside0.mk (Kd.R_below (by (with_reducible repeat (first | apply Kd.R_alloc | apply Kd.R_drewN | apply Kd.R_drew)); exact (Kd.R_mono (farC (farC (farC (farC (farC (farC (farC (farC (farC (farC (Kd.R_types HO228.out BK236.out (by decide)))))))))))) (fun _ h_ => h_.1))) hb); replace HO231 := Aside0.mk (Kd.R_below (by (with_reducible repeat (first | apply Kd.R_alloc | apply Kd.R_drewN | apply Kd.R_drew)); exact (Kd.R_mono (farC (farC (farC (farC (farC (farC (farC (farC (farC (farC (Kd.R_types HO231.out BK236.out (by decide)))))))))))) (fun _ h_ => h_.1))) hb); have HO239 := Aside0.mk (Kd.R_lower ho0 (below_size (by repeat (first | (with_reducible first | exact HB.out | apply below_alloc | apply pw_below_drewN | apply below_drew1 | refine below_set ?_ GE236.out) | exact HB.out)))); replace BK236 := Aside0.mk (blk_below (g := gb236) (o := .cells #[.string t221, .string t222, .string t223, .string t224, .bool t225, .slice Ao86 t226.length co86, .slice Ao87 t229.length co87, .bool t232, .bool t233, .string t234] 33 (0, 0)) (by refine blk_put (cs := #[.string t221, .string t222, .string t223, .string t224, .bool t225, .slice Ao86 t226.length co86, .slice Ao87 t229.length co87, .bool t232, .bool t233, .string ⟨#[]⟩]) ?_ 9 _ rfl; refine blk_put (cs := #[.string t221, .string t222, .string t223, .string t224, .bool t225, .slice Ao86 t226.length co86, .slice Ao87 t229.length co87, .bool t232, .bool false, .string ⟨#[]⟩]) ?_ 8 _ rfl; refine blk_put (cs := #[.string t221, .string t222, .string t223, .string t224, .bool t225, .slice Ao86 t226.length co86, .slice Ao87 t229.length co87, .bool false, .bool false, .string ⟨#[]⟩]) ?_ 7 _ rfl; refine blk_put (cs := #[.string t221, .string t222, .string t223, .string t224, .bool t225, .slice Ao86 t226.length co86, .slice none 0 0, .bool false, .bool false, .string ⟨#[]⟩]) ?_ 6 _ rfl; refine blk_put (cs := #[.string t221, .string t222, .string t223, .string t224, .bool t225, .slice none 0 0, .slice none 0 0, .bool false, .bool false, .string ⟨#[]⟩]) ?_ 5 _ rfl; refine blk_put (cs := #[.string t221, .string t222, .string t223, .string t224, .bool false, .slice none 0 0, .slice none 0 0, .bool false, .bool false, .string ⟨#[]⟩]) ?_ 4 _ rfl; refine blk_put (cs := #[.string t221, .string t222, .string t223, .string ⟨#[]⟩, .bool false, .slice none 0 0, .slice none 0 0, .bool false, .bool false, .string ⟨#[]⟩]) ?_ 3 _ rfl; refine blk_put (cs := #[.string t221, .string t222, .string ⟨#[]⟩, .string ⟨#[]⟩, .bool false, .slice none 0 0, .slice none 0 0, .bool false, .bool false, .string ⟨#[]⟩]) ?_ 2 _ rfl; refine blk_put (cs := #[.string t221, .string ⟨#[]⟩, .string ⟨#[]⟩, .string ⟨#[]⟩, .bool false, .slice none 0 0, .slice none 0 0, .bool false, .bool false, .string ⟨#[]⟩]) ?_ 1 _ rfl; refine blk_put (cs := #[.string ⟨#[]⟩, .string ⟨#[]⟩, .string ⟨#[]⟩, .string ⟨#[]⟩, .bool false, .slice none 0 0, .slice none 0 0, .bool false, .bool false, .string ⟨#[]⟩]) ?_ 0 _ rfl; exact BK236.out) hb); replace HB := Aside0.mk (below_step (by repeat (first | (with_reducible first | exact HB.out | apply below_alloc | apply pw_below_drewN | apply below_drew1 | refine below_set ?_ GE236.out) | exact HB.out)) hb); (try clear hb); (try clear hb2); (try clear hk); (try clear hi); (try clear ho0); obtain ⟨Ao89, co89, eo89⟩ := Kd.R_slice HO239.out; subst eo89; have p240 : 0 ≤ ((ji11) : Int) := of_decide_eq_true (by (with_reducible assumption)); have q240 : (ji11) < (t237.length : Int) := of_decide_eq_true (by (with_reducible assumption)); obtain ⟨ad240, e240, hx240_0⟩ := Kd.at_string (Kd.R_reads' HO239.out).2.2 (ji11) p240 q240; cases e240; replace p240 := eq_true p240; replace q240 := eq_true q240) | ((with_reducible refine gate_callee (f := 19) rfl ?_); refine goesL_ (some 48) rfl rfl Tryd.func19 (by kernel_rfl) rfl #[.int .u16 a2] rfl (by (try simp only [List.map_toArray, List.map_cons, List.map_nil]); first | done | rfl | (simp only [List.length_drop, List.length_take]; rfl)) ?_; (with_reducible refine (laws_decimal.calls k a2 t241 _ A16.out).mono ?_); rintro e w' ⟨rfl, ⟨nd, rfl⟩⟩; refine ⟨_, rfl, ?_⟩) | ((with_reducible refine gate_callee (f := 19) rfl ?_); refine goesL_ (some 54) rfl rfl Tryd.func19 (by kernel_rfl) rfl #[.int .u16 a3] rfl (by (try simp only [List.map_toArray, List.map_cons, List.map_nil]); first | done | rfl | (simp only [List.length_drop, List.length_take]; rfl)) ?_; (with_reducible refine (laws_decimal.calls k a3 t242 _ A18.out).mono ?_); rintro e w' ⟨rfl, ⟨nd, rfl⟩⟩; refine ⟨_, rfl, ?_⟩) | ((with_reducible refine gate_callee (f := 18) rfl ?_); refine goesL_ (some 56) rfl rfl Tryd.func18 (by kernel_rfl) rfl #[.string ((t220 ++ ((⟨#[95]⟩ : ByteArray) ++ (rdOf ByteArray.empty t237 (ji11)))) ++ t241), .string ((t220 ++ ((⟨#[95]⟩ : ByteArray) ++ (rdOf ByteArray.empty t237 (ji11)))) ++ t242)] rfl (by (try simp only [List.map_toArray, List.map_cons, List.map_nil]); first | done | (simp only [hji11]; rfl) | rfl | (simp only [List.length_drop, List.length_take]; rfl)) ?_; (with_reducible refine (impl_AlpineCompareText.calls ((t220 ++ ((⟨#[95]⟩ : ByteArray) ++ (rdOf ByteArray.empty t237 (ji11)))) ++ t241) ((t220 ++ ((⟨#[95]⟩ : ByteArray) ++ (rdOf ByteArray.empty t237 (ji11)))) ++ t242) t243 true _ A20.out (by exact GL.at HG.out (by repeat (first | (with_reducible first | exact HB.out | apply below_alloc | apply pw_below_drewN | apply below_drew1) | exact HB.out)))).mono ?_); rintro e w90 ⟨rfl, hb⟩; refine ⟨_, rfl, ?_⟩; replace HO228 := Aside0.mk (Kd.R_below (by (with_reducible repeat (first | apply Kd.R_alloc | apply Kd.R_drewN | apply Kd.R_drew)); exact HO228.out) hb); replace HO231 := Aside0.mk (Kd.R_below (by (with_reducible repeat (first | apply Kd.R_alloc | apply Kd.R_drewN | apply Kd.R_drew)); exact HO231.out) hb); replace HO239 := Aside0.mk (Kd.R_below (by (with_reducible repeat (first | apply Kd.R_alloc | apply Kd.R_drewN | apply Kd.R_drew)); exact HO239.out) hb); replace BK236 := Aside0.mk (blk_below (g := gb236) (o := .cells #[.string t221, .string t222, .string t223, .string t224, .bool t225, .slice Ao86 t226.length co86, .slice Ao87 t229.length co87, .bool t232, .bool t233, .string t234] 33 (0, 0)) (by (with_reducible (refine blk_drewN ?_ _)); exact BK236.out) hb); replace HB := Aside0.mk (below_step (by (with_reducible apply pw_below_drewN; with_reducible exact HB.out)) hb); (try clear hb); (try clear hb2); (try clear hk); (try clear hi)) | ((with_reducible refine gate_callee (f := 19) rfl ?_); refine goesL_ (some 63) rfl rfl Tryd.func19 (by kernel_rfl) rfl #[.int .u16 a2] rfl (by (try simp only [List.map_toArray, List.map_cons, List.map_nil]); first | done | rfl | (simp only [List.length_drop, List.length_take]; rfl)) ?_; (with_reducible refine (laws_decimal.calls k a2 t245 _ A22.out).mono ?_); rintro e w' ⟨rfl, ⟨nd, rfl⟩⟩; refine ⟨_, rfl, ?_⟩) | ((with_reducible refine gate_callee (f := 19) rfl ?_); refine goesL_ (some 68) rfl rfl Tryd.func19 (by kernel_rfl) rfl #[.int .u16 a3] rfl (by (try simp only [List.map_toArray, List.map_cons, List.map_nil]); first | done | rfl | (simp only [List.length_drop, List.length_take]; rfl)) ?_; (with_reducible refine (laws_decimal.calls k a3 t246 _ A24.out).mono ?_); rintro e w' ⟨rfl, ⟨nd, rfl⟩⟩; refine ⟨_, rfl, ?_⟩) | ((with_reducible refine gate_callee (f := 18) rfl ?_); refine goesL_ (some 70) rfl rfl Tryd.func18 (by kernel_rfl) rfl #[.string ((t220 ++ (⟨#[45, 114]⟩ : ByteArray)) ++ t245), .string ((t220 ++ (⟨#[45, 114]⟩ : ByteArray)) ++ t246)] rfl (by (try simp only [List.map_toArray, List.map_cons, List.map_nil]); first | done | rfl | (simp only [List.length_drop, List.length_take]; rfl)) ?_; (with_reducible refine (impl_AlpineCompareText.calls ((t220 ++ (⟨#[45, 114]⟩ : ByteArray)) ++ t245) ((t220 ++ (⟨#[45, 114]⟩ : ByteArray)) ++ t246) t247 true _ A26.out (by exact GL.at HG.out (by repeat (first | (with_reducible first | exact HB.out | apply below_alloc | apply pw_below_drewN | apply below_drew1) | exact HB.out)))).mono ?_); rintro e w91 ⟨rfl, hb⟩; refine ⟨_, rfl, ?_⟩; replace HO228 := Aside0.mk (Kd.R_below (by (with_reducible repeat (first | apply Kd.R_alloc | apply Kd.R_drewN | apply Kd.R_drew)); exact HO228.out) hb); replace HO231 := Aside0.mk (Kd.R_below (by (with_reducible repeat (first | apply Kd.R_alloc | apply Kd.R_drewN | apply Kd.R_drew)); exact HO231.out) hb); replace HO239 := Aside0.mk (Kd.R_below (by (with_reducible repeat (first | apply Kd.R_alloc | apply Kd.R_drewN | apply Kd.R_drew)); exact HO239.out) hb); replace BK236 := Aside0.mk (blk_below (g := gb236) (o := .cells #[.string t221, .string t222, .string t223, .string t224, .bool t225, .slice Ao86 t226.length co86, .slice Ao87 t229.length co87, .bool t232, .bool t233, .string t234] 33 (0, 0)) (by (with_reducible (refine blk_drewN ?_ _)); exact BK236.out) hb); replace HB := Aside0.mk (below_step (by (with_reducible apply pw_below_drewN; with_reducible exact HB.out)) hb); (try clear hb); (try clear hb2); (try clear hk); (try clear hi); have hcv92 := fun (W_ : World) => run_convert_int_string (P := Tryd.prog) W_ 21 9 .i32 ((97 + (Int.tmod a4 26)) % 256) (by rw [Tryd.underlying21]; rfl) Tryd.underlying9; have hcv93 := fun (W_ : World) => run_convert_int_string (P := Tryd.prog) W_ 21 9 .i32 ((97 + (Int.tmod a5 26)) % 256) (by rw [Tryd.underlying21]; rfl) Tryd.underlying9) | ((with_reducible refine gate_callee (f := 18) rfl ?_); refine goesL_ (some 88) rfl rfl Tryd.func18 (by kernel_rfl) rfl #[.string (t220 ++ (Utf8.encode ((97 + (Int.tmod a4 26)) % 256))), .string (t220 ++ (Utf8.encode ((97 + (Int.tmod a5 26)) % 256)))] rfl (by (try simp only [List.map_toArray, List.map_cons, List.map_nil]); first | done | rfl | (simp only [List.length_drop, List.length_take]; rfl)) ?_; (with_reducible refine (impl_AlpineCompareText.calls (t220 ++ (Utf8.encode ((97 + (Int.tmod a4 26)) % 256))) (t220 ++ (Utf8.encode ((97 + (Int.tmod a5 26)) % 256))) t249 true _ A29.out (by exact GL.at HG.out (by repeat (first | (with_reducible first | exact HB.out | apply below_alloc | apply pw_below_drewN | apply below_drew1) | exact HB.out)))).mono ?_); rintro e w94 ⟨rfl, hb⟩; refine ⟨_, rfl, ?_⟩; replace HO228 := Aside0.mk (Kd.R_below (by (with_reducible repeat (first | apply Kd.R_alloc | apply Kd.R_drewN | apply Kd.R_drew)); exact HO228.out) hb); replace HO231 := Aside0.mk (Kd.R_below (by (with_reducible repeat (first | apply Kd.R_alloc | apply Kd.R_drewN | apply Kd.R_drew)); exact HO231.out) hb); replace HO239 := Aside0.mk (Kd.R_below (by (with_reducible repeat (first | apply Kd.R_alloc | apply Kd.R_drewN | apply Kd.R_drew)); exact HO239.out) hb); replace BK236 := Aside0.mk (blk_below (g := gb236) (o := .cells #[.string t221, .string t222, .string t223, .string t224, .bool t225, .slice Ao86 t226.length co86, .slice Ao87 t229.length co87, .bool t232, .bool t233, .string t234] 33 (0, 0)) (by exact BK236.out) hb); replace HB := Aside0.mk (below_step (by (with_reducible exact HB.out)) hb); (try clear hb); (try clear hb2); (try clear hk); (try clear hi); have hcv95 := fun (W_ : World) => run_convert_int_string (P := Tryd.prog) W_ 21 9 .i32 ((97 + (Int.tmod a4 26)) % 256) (by rw [Tryd.underlying21]; rfl) Tryd.underlying9) | ((with_reducible refine gate_callee (f := 18) rfl ?_); refine goesL_ (some 100) rfl rfl Tryd.func18 (by kernel_rfl) rfl #[.string t220, .string (t220 ++ (Utf8.encode ((97 + (Int.tmod a4 26)) % 256)))] rfl (by (try simp only [List.map_toArray, List.map_cons, List.map_nil]); first | done | rfl | (simp only [List.length_drop, List.length_take]; rfl)) ?_; (with_reducible refine (impl_AlpineCompareText.calls t220 (t220 ++ (Utf8.encode ((97 + (Int.tmod a4 26)) % 256))) t251 true _ A30.out (by exact GL.at HG.out (by repeat (first | (with_reducible first | exact HB.out | apply below_alloc | apply pw_below_drewN | apply below_drew1) | exact HB.out)))).mono ?_); rintro e w96 ⟨rfl, hb⟩; refine ⟨_, rfl, ?_⟩; replace HO228 := Aside0.mk (Kd.R_below (by (with_reducible repeat (first | apply Kd.R_alloc | apply Kd.R_drewN | apply Kd.R_drew)); exact HO228.out) hb); replace HO231 := Aside0.mk (Kd.R_below (by (with_reducible repeat (first | apply Kd.R_alloc | apply Kd.R_drewN | apply Kd.R_drew)); exact HO231.out) hb); replace HO239 := Aside0.mk (Kd.R_below (by (with_reducible repeat (first | apply Kd.R_alloc | apply Kd.R_drewN | apply Kd.R_drew)); exact HO239.out) hb); replace BK236 := Aside0.mk (blk_below (g := gb236) (o := .cells #[.string t221, .string t222, .string t223, .string t224, .bool t225, .slice Ao86 t226.length co86, .slice Ao87 t229.length co87, .bool t232, .bool t233, .string t234] 33 (0, 0)) (by exact BK236.out) hb); replace HB := Aside0.mk (below_step (by (with_reducible exact HB.out)) hb); (try clear hb); (try clear hb2); (try clear hk); (try clear hi)) | (go_at_call 20; (with_reducible refine (laws_want.calls a2 a3 t253 _ A35.out).mono ?_); rintro e w' ⟨rfl, ⟨nd, rfl⟩⟩))
                   go_ret
                   exact ⟨by rfl, by (with_reducible apply pw_below_drewN; with_reducible exact HB.out)⟩
                 ·replace c34 := Bool.eq_false_iff.mpr c34
                  subst c34
                  have H1 : (some false) = some r := by rw [if_neg (show ¬ (false = true) by decide)] at H; exact H
                  clear H
                  have H := H1
                  clear H1
                  obtain rfl := Option.some.inj H
                  exact absurd HT.out Bool.false_ne_true
                ·replace c33 := Bool.eq_false_iff.mpr c33
                 subst c33
                 have H1 : (some false) = some r := by rw [if_neg (show ¬ (false = true) by decide)] at H; exact H
                 clear H
                 have H := H1
                 clear H1
                 obtain rfl := Option.some.inj H
                 exact absurd HT.out Bool.false_ne_true
               ·replace c32 := Bool.eq_false_iff.mpr c32
                subst c32
                have H1 : (some false) = some r := by rw [if_neg (show ¬ (false = true) by decide)] at H; exact H
                clear H
                have H := H1
                clear H1
                obtain rfl := Option.some.inj H
                exact absurd HT.out Bool.false_ne_true
              ·replace c31 := Bool.eq_false_iff.mpr c31
               subst c31
               have H1 : (some false) = some r := by rw [if_neg (show ¬ (false = true) by decide)] at H; exact H
               clear H
               have H := H1
               clear H1
               obtain rfl := Option.some.inj H
               exact absurd HT.out Bool.false_ne_true
             ·rw [if_neg c28] at H
              exact absurd H (by simp)
            ·rw [if_neg c27] at H
             exact absurd H (by simp)
           ·rw [if_neg c25] at H
            exact absurd H (by simp)
          ·rw [if_neg c23] at H
           exact absurd H (by simp)
         ·rw [if_neg c21] at H
          exact absurd H (by simp)
        ·rw [if_neg c19] at H
         exact absurd H (by simp)
       ·rw [if_neg c17] at H
        exact absurd H (by simp)
      ·rw [if_neg c15] at H
       exact absurd H (by simp)
     ·rw [if_neg c14] at H
      exact absurd H (by simp)
    ·rw [if_neg c13] at H
     exact absurd H (by simp)
   ·rw [if_neg c12] at H
    exact absurd H (by simp)
  ·replace c9 := Bool.eq_false_iff.mpr c9
   subst c9
   have H1 : (some true) = some r := by rw [if_neg (show ¬ (false = true) by decide)] at H; exact H
   clear H
   have H := H1
   clear H1
   obtain rfl := Option.some.inj H
   go_enter Tryd.func6, Tryd.ntmps6
   go_wp2_with (first | ((with_reducible refine gate_callee (f := 10) rfl ?_); refine goesL_ (some 31) rfl rfl Tryd.func10 (by kernel_rfl) rfl #[.agg #[.slice A0 l0.length c0, .int .u8 0, .slice none 0 0, .slice none 0 0, .string ⟨#[]⟩, .bool false, .int .u16 0]] rfl (by (try simp only [List.map_toArray, List.map_cons, List.map_nil]); first | done | rfl | (simp only [List.length_drop, List.length_take]; rfl)) ?_; (refine (laws_Package_text.calls k _ _ l0 0 _ _ ([] : List Int) _ _ ([] : List Int) (⟨#[]⟩ : ByteArray) false 0 t220 t221 t222 t223 t224 t225 t226 t229 t232 t233 t234 false _ ?side1 ?side2 ?side3 ?side4 ?side5 ?side6 A8.out).mono ?_); (case side1 => repeat (first | exact HR0.out | (with_reducible refine Kd.C_alloc ?_ _) | (with_reducible refine Kd.C_drewN ?_ _) | (with_reducible refine Kd.C_drew ?_))); (case side2 => exact HC0.out); (case side3 => exact Kd.C_nil _ _); (case side4 => exact Nat.le_refl _); (case side5 => exact Kd.C_nil _ _); (case side6 => exact Nat.le_refl _); rintro e w153 ⟨v227, v230, rfl, ho0, ho1, hb⟩; refine ⟨_, rfl, ?_⟩; have HO228 := Aside0.mk (Kd.R_lower ho0 (below_size (by (with_reducible exact HB.out)))); have HO231 := Aside0.mk (Kd.R_lower ho1 (below_size (by (with_reducible exact HB.out)))); replace HB := Aside0.mk (below_step (by (with_reducible exact HB.out)) hb); (try clear hb); (try clear hb2); (try clear hk); (try clear hi); (try clear ho0); (try clear ho1)) | ((with_reducible refine gate_dst (N := 14) rfl ?_); refine box_event ?hg (N := 14) ?hd (cs := #[.string ⟨#[]⟩, .string ⟨#[]⟩, .string ⟨#[]⟩, .string ⟨#[]⟩, .bool false, .slice none 0 0, .slice none 0 0, .bool false, .bool false, .string ⟨#[]⟩]) (t := 33) ?hr ?_; (case hd => rfl); (case hg => rfl); (case hr => first | (go_simp; done) | (go_simp; rfl)); intro gb236 hg w154 hbox hb; replace HO228 := Aside0.mk (Kd.R_below (by (with_reducible repeat (first | apply Kd.R_alloc | apply Kd.R_drewN | apply Kd.R_drew)); exact HO228.out) hb); replace HO231 := Aside0.mk (Kd.R_below (by (with_reducible repeat (first | apply Kd.R_alloc | apply Kd.R_drewN | apply Kd.R_drew)); exact HO231.out) hb); have BK236 := Aside0.mk hbox; have GW236 := Aside0.mk ((by rw [hg]; exact (below_size (by (with_reducible exact HB.out))) : w.heap.size ≤ gb236)); have GE236 := Aside0.mk ((by rw [hg]; exact (below_size (by (with_reducible exact HB.out))) : w.heap.size ≤ gb236)); replace HB := Aside0.mk (below_step (by (with_reducible exact HB.out)) hb); clear hb hbox hg; obtain ⟨hcz155_0, hcz155_1, hcz155_2, hcz155_3, hcz155_4, hcz155_5, hcz155_6, hcz155_7, hcz155_8, hcz155_9, hfz155_0, hfz155_1, hfz155_2, hfz155_3, hfz155_4, hfz155_5, hfz155_6, hfz155_7, hfz155_8, hfz155_9⟩ := cl10 BK236.out; obtain ⟨Ao156, co156, eo156⟩ := Kd.R_slice HO228.out; subst eo156; obtain ⟨Ao157, co157, eo157⟩ := Kd.R_slice HO231.out; subst eo157))
   go_ret
   exact ⟨by rfl, by repeat (first | (with_reducible first | exact HB.out | apply below_alloc | apply pw_below_drewN | apply below_drew1 | refine below_set ?_ GE236.out) | exact HB.out)⟩
def laws_FnAlpineNumbers.Pure : Prop := ∀ (l0 : List Int) (a1 : Int) (a2 : Int) (a3 : Int) (a4 : Int) (a5 : Int), l0.length ≤ maxLen → l0.length * 2 ≤ 140737488351232 → (∀ x ∈ l0, (Lit.int .u16 x).wf = true) → (Lit.int .u8 a1).wf = true → (Lit.int .u16 a2).wf = true → (Lit.int .u16 a3).wf = true → (Lit.int .u8 a4).wf = true → (Lit.int .u8 a5).wf = true → ∃ k, laws_FnAlpineNumbers.f k l0 a1 a2 a3 a4 a5 = some true
theorem laws_FnAlpineNumbers.walk (P : laws_FnAlpineNumbers.Pure) (a0 : Option Addr) (len0 cap0 : Nat) (z0 : List Int) (a1 : Int) (a2 : Int) (a3 : Int) (a4 : Int) (a5 : Int) (w : World) (w0 : (a0 = none ∧ len0 = 0 ∧ cap0 = 0 ∧ z0 = []) ∨ ∃ x, a0 = some x ∧ len0 ≤ cap0 ∧ cap0 ≤ maxLen ∧ z0.length = cap0 ∧ (∀ i, i < z0.length → w.cell? (x.add i) = some (.int .u16 (z0.getD i 0))) ∧ ∀ n ∈ z0, (Lit.int .u16 n).wf = true) (y0 : len0 * 2 ≤ 140737488351232) (w1 : (Lit.int .u8 a1).wf = true) (w2 : (Lit.int .u16 a2).wf = true) (w3 : (Lit.int .u16 a3).wf = true) (w4 : (Lit.int .u8 a4).wf = true) (w5 : (Lit.int .u8 a5).wf = true) (hG : GL w) :
  Calls Tryd.prog 6 #[.slice a0 len0 cap0, .int .u8 a1, .int .u16 a2, .int .u16 a3, .int .u8 a4, .int .u8 a5] w fun e w' => e = .returned (.bool true) ∧ Below w.heap.size w w' := by
 obtain ⟨l0, rfl, hr0, hm0, hw0, hc0⟩ := ReadsInt.ofRowC w0
 obtain ⟨k, h⟩ := P l0 a1 a2 a3 a4 a5 hm0 y0 hw0 w1 w2 w3 w4 w5
 refine (laws_FnAlpineNumbers.calls k _ _ l0 a1 a2 a3 a4 a5 true w (Kd.C_of_reads (d := (0 : Int)) (h1 := fun _ => rfl) hr0) hc0 h hG rfl).mono ?_
 rintro e w' ⟨rfl, hd⟩
 exact ⟨rfl, hd⟩
end Go.Proofs.YtapaijpglfmfgaaDoor.Q
end
section -- BJ
namespace Go.Proofs.YtapaijpglfmfgaaDoor.V
open Go.RowKit Go.Proofs.YtapaijpglfmfgaaDoor.Q Go.Proofs.YtapaijpglfmfgaaDoorG Go.Proofs.YtapaijpglfmfgaaDoorP Go.Proofs.YtapaijpglfmfgaaDoorH Go.Proofs.YtapaijpglfmfgaaDoorB Go.Proofs.YtapaijpglfmfgaaDoorM Go.Proofs.YtapaijpglfmfgaaDoorW.PrintWords Go.Proofs.YtapaijpglfmfgaaDoorW.PrintLast Go.Proofs.YtapaijpglfmfgaaDoorW.PrintMore
set_option linter.unusedVariables false
set_option linter.unusedSimpArgs false
theorem sufs_self (l : List Sx) : sufsC l l = 0 := by
 unfold sufsC
 refine fromC_zero (fun k => ?_) _ _
 unfold sufD sufC
 rw [if_neg (by omega), if_neg (by omega), cmpN_self]
theorem apC_letter {p q : PV} (hi : p.i = false) (hc : p.c = q.c) (hs : p.s = q.s) (hb : p.b = q.b) (hr : p.r = q.r) :
  apC (apOf p) (apOf q) = lettersCmp (strOfNums p.l) (strOfNums q.l) := by
 unfold apC apOf
 simp only [hi, hc, hs, hb, hr, Bool.false_eq_true, false_and, if_false, comps_self, sufs_self, cmpN_self, rem_self]
 unfold firstNe
 simp only [if_pos]
 split
 ·rename_i h; exact h.symm
 ·rfl
def gen (ns : List Int) (t : List Int) (s : List (List Int × List Int)) (E : List Int) : List Int := joinP (tC ns) ++ (t ++ (joinS s ++ ([] ++ E)))
structure Gd (ns : List Int) (t : List Int) (s : List (List Int × List Int)) (E : List Int) : Prop where
 n0 : ns ≠ []
 n1 : ns.length ≤ 60
 n2 : ∀ x ∈ ns, U16 x
 t1 : t = [] ∨ ∃ x, t = [x] ∧ isL x = true
 s1 : ∀ x ∈ s, x.1 ∈ sufWords ∧ ∀ c ∈ x.2, isD c = true
 s2 : ∀ x ∈ s, x.2.length ≤ 5
 s3 : s.length ≤ 1
 e1 : Stop E
 e2 : E.length ≤ 100
 e3 : ∀ c ∈ E, c ≠ 95
theorem gen_parse {ns t E : List Int} {s : List (List Int × List Int)} (g : Gd ns t s E) :
  parseP (gen ns t s E) = ⟨gen ns t s E, tC ns, t, s, [], (buildP E).1, (buildP E).2.1, (buildP E).2.2⟩ ∧ rest3 (gen ns t s E) = E :=
 parse_join (h := []) (tC_ne g.n0) (tC_good ns) g.t1 g.s1 (.inl rfl) g.e1
theorem gen_ok {ns t E : List Int} {s : List (List Int × List Int)} (g : Gd ns t s E) {X : ByteArray} (hX : bytesOf X = gen ns t s E) : AOk X ∧ X.size ≤ 1000 := by
 have h1 := joinP_len (tC ns) (fun d hd => by
  obtain ⟨x, hx, rfl⟩ := List.mem_map.1 hd
  exact dec_len (g.n2 x hx))
 have h2 := joinS_len s (fun x hx => ⟨(sufWords_len (g.s1 x hx).1).2, g.s2 x hx⟩)
 have e1 : (tC ns).length = ns.length := by simp [tC]
 have h3 : t.length ≤ 1 := by rcases g.t1 with e | ⟨x, e, _⟩ <;> rw [e] <;> simp
 have n1 := g.n1
 have s3 := g.s3
 have e2 := g.e2
 have hl : X.size ≤ 1000 := by
  rw [B_size, hX]
  unfold gen
  simp only [List.length_append, List.length_nil]
  omega
 refine ⟨⟨by omega, ?_⟩, hl⟩
 rw [hX, (gen_parse g).2]
 exact clear_no95 g.e3
def gp (ns t : List Int) (s : List (List Int × List Int)) (E : List Int) : PV := ⟨gen ns t s E, tC ns, t, s, [], (buildP E).1, (buildP E).2.1, (buildP E).2.2⟩
theorem gen_cmp {ns t E t' E' : List Int} {s s' : List (List Int × List Int)} (g : Gd ns t s E) (g' : Gd ns t' s' E') {X Y : ByteArray} (hX : bytesOf X = gen ns t s E) (hY : bytesOf Y = gen ns t' s' E') {r : Int}
  (h : apC (apOf (gp ns t s E)) (apOf (gp ns t' s' E')) = r) :
  impl_AlpineCompareText.f X Y = some (r, true) := by
 unfold impl_AlpineCompareText.f
 rw [if_pos ⟨(gen_ok g hX).1, (gen_ok g' hY).1⟩, hX, hY, (gen_parse g).1, (gen_parse g').1, ← h]
 rfl
def wantZ (a b : Int) : Int := if a < b then -1 else if a > b then 1 else 0
theorem want_eq (a b : Int) : laws_want.f a b = some (wantZ a b) := by
 unfold laws_want.f wantZ
 split
 ·rfl
 ·split <;> rfl
theorem cmpN_want {a b : Int} (ha : U16 a) (hb : U16 b) : cmpN a.toNat b.toNat = wantZ a b := by
 obtain ⟨a0, _⟩ := ha
 obtain ⟨b0, _⟩ := hb
 unfold cmpN wantZ
 repeat' split
 all_goals first | rfl | (exfalso; omega)
def lt26 (a : Int) : List Int := [97 + Int.tmod a 26]
theorem mod26 {a : Int} (h : U8 a) : 0 ≤ Int.tmod a 26 ∧ Int.tmod a 26 < 26 := by
 rw [Int.tmod_eq_emod_of_nonneg h.1]
 omega
theorem lt26_good {a : Int} (h : U8 a) : ∃ x, lt26 a = [x] ∧ isL x = true := by
 have := mod26 h
 refine ⟨_, rfl, ?_⟩
 unfold isL
 exact decide_eq_true (by omega)
theorem lt26_B {a : Int} (h : U8 a) : bytesOf (strOfNums (lt26 a)) = lt26 a := by
 have := mod26 h
 refine B_str (fun c hc => ?_)
 have e : c = 97 + Int.tmod a 26 := by simpa [lt26] using hc
 omega
theorem letters_want {a b : Int} (ha : U8 a) (hb : U8 b) : lettersCmp (strOfNums (lt26 a)) (strOfNums (lt26 b)) = wantZ (Int.tmod a 26) (Int.tmod b 26) := by
 have n : ∀ {x : Int}, U8 x → (strOfNums (lt26 x)).toList ≠ [] := fun hx e => by
  have := (toList_nil _).1 e
  rw [lt26_B hx] at this
  simp [lt26] at this
 unfold lettersCmp
 rw [if_neg (fun h => n ha h.1), if_neg (fun h => n hb h.2)]
 show Lib.compareBytes _ _ = _
 rw [compare_B, lt26_B ha, lt26_B hb]
 unfold lt26 wantZ
 simp only [cmp_]
 repeat' split
 all_goals first | rfl | (exfalso; omega)
theorem letters_none {a : Int} (ha : U8 a) : lettersCmp (strOfNums []) (strOfNums (lt26 a)) = -1 := by
 unfold lettersCmp
 refine if_pos ⟨(toList_nil _).2 rfl, fun e => ?_⟩
 have := (toList_nil _).1 e
 rw [lt26_B ha] at this
 simp [lt26] at this
theorem u16_tmod {a : Int} (h : U8 a) : IntKind.u16.wrap (Int.tmod a 26) = Int.tmod a 26 := by
 have := mod26 h
 exact wrap_u16 this.1 (by omega)
theorem FnAlpineNumbers : laws_FnAlpineNumbers.Pure := by
 intro ns a1 a2 a3 a4 a5 _ _ hns h1 h2 h3 h4 h5
 have hne : ∀ x ∈ ns, U16 x := fun x hx => u16_of (hns x hx)
 have u1 := u8_of h1
 have u2 := u16_of h2
 have u3 := u16_of h3
 have u4 := u8_of h4
 have u5 := u8_of h5
 obtain ⟨t1, t2⟩ := text_ev ns hne 0 (by omega) [] [] (by simp) (by simp) ⟨#[]⟩ false 0 (by simp)
 refine Ev.rounds ?_
 simp only [laws_FnAlpineNumbers.f]
 by_cases hbig : (ns.length : Int) > 2147483647
 ·refine Ev.pos (fun _ => hbig) ?_
  exact Ev.now _
 refine Ev.neg (fun _ => hbig) ?_
 by_cases hk : tOk ns [] (bytesOf (⟨#[]⟩ : ByteArray))
 case neg =>
  refine Ev.bind (t2 hk) ?_
  refine Ev.neg (fun _ => Bool.false_ne_true) ?_
  exact Ev.now _
 refine Ev.bind (t1 hk) ?_
 obtain ⟨hr, hlen⟩ := textL_good (l := 0) (sn := []) (b := false) (n := 0) hk hne (by omega) (by simp) (by simp) (by unfold U16; omega)
 obtain ⟨k0, k1, _, _, _⟩ := hk
 obtain ⟨X, hX⟩ : ∃ X, X = strOfNums (textL ns 0 [] [] (bytesOf (⟨#[]⟩ : ByteArray)) false 0) := ⟨_, rfl⟩
 have hB : bytesOf X = joinP (tC ns) := by
  rw [hX, B_str (fun c hc => by have := hr c hc; omega)]
  show joinP (tC ns) ++ (tL 0 ++ ([] ++ ([] ++ []))) = _
  simp [tL]
 refine Ev.pos (fun _ => by first | rfl | trivial) ?_
 show Ev (fun n => (laws_suffixes.f).bind _) true
 refine Ev.bind0 (a := sufBs) rfl ?_
 unfold goodT
 simp only
 rw [← hX]
 -- the texts
 obtain ⟨m0, m1⟩ := mod9 a1 u1.1
 have hwb := words_at a1 u1.1
 have hmem := sW_mem a1 u1.1
 have hwl := sufWords_len hmem
 obtain ⟨W, hW⟩ : ∃ W, W = rdOf ByteArray.empty sufBs (Int.tmod a1 9) := ⟨_, rfl⟩
 rw [← hW] at hwb ⊢
 have hWs : W.size = (sW a1).length := size_of hwb
 have e95 : (⟨#[95]⟩ : ByteArray).size = 1 := rfl
 have e45 : (⟨#[45, 114]⟩ : ByteArray).size = 2 := rfl
 have d2 := B_digits (dec_isD a2)
 have d3 := B_digits (dec_isD a3)
 have z2 := dec_size u2
 have z3 := dec_size u3
 have c4 := mod26 u4
 have c5 := mod26 u5
 have b4 : (97 + Int.tmod a4 26) % 256 = 97 + Int.tmod a4 26 := by omega
 have b5 : (97 + Int.tmod a5 26) % 256 = 97 + Int.tmod a5 26 := by omega
 have g0 : Gd ns [] [] [] := ⟨k0, k1, hne, .inl rfl, by simp, by simp, by simp, Stop.nil, by simp, by simp⟩
 have hX0 : bytesOf X = gen ns [] [] [] := by rw [hB]; unfold gen; simp [joinS]
 have hXs := (gen_ok g0 hX0).2
 have gS1 : ∀ {a : Int}, ∀ x ∈ [(sW a1, dec a)], x.1 ∈ sufWords ∧ ∀ c ∈ x.2, isD c = true := by
  intro a x hx
  obtain rfl : x = _ := List.mem_singleton.1 hx
  exact ⟨hmem, dec_isD _⟩
 have gS2 : ∀ {a : Int}, U16 a → ∀ x ∈ [(sW a1, dec a)], x.2.length ≤ 5 := by
  intro a hu x hx
  obtain rfl : x = _ := List.mem_singleton.1 hx
  exact dec_len hu
 have gS : ∀ {a : Int}, U16 a → Gd ns [] [(sW a1, dec a)] [] := fun hu => ⟨k0, k1, hne, .inl rfl, gS1, gS2 hu, by simp, Stop.nil, by simp, by simp⟩
 have gR2 : ∀ {a : Int}, ∀ c ∈ tE true a, c ≠ 95 := by
  intro a c hc
  rcases List.mem_cons.1 hc with e | hc
  ·omega
  rcases List.mem_cons.1 hc with e | hc
  ·omega
  ·intro e
   rw [e] at hc
   exact absurd (dec_isD a 95 hc) (by decide)
 have gR1 : ∀ {a : Int}, U16 a → (tE true a).length ≤ 100 := by
  intro a hu
  have := dec_len hu
  show (45 :: 114 :: dec a).length ≤ 100
  simp only [List.length_cons]
  omega
 have gR : ∀ {a : Int}, U16 a → Gd ns [] [] (tE true a) := fun {a} hu => ⟨k0, k1, hne, .inl rfl, by simp, by simp, by simp, stop_E true a, gR1 hu, gR2⟩
 have gL : ∀ {a : Int}, U8 a → Gd ns (lt26 a) [] [] := fun hu => ⟨k0, k1, hne, .inr (lt26_good hu), by simp, by simp, by simp, Stop.nil, by simp, by simp⟩
 have hS : ∀ (a : Int), bytesOf ((X ++ ((⟨#[95]⟩ : ByteArray) ++ W)) ++ strOfNums (dec a)) = gen ns [] [(sW a1, dec a)] [] := by
  intro a
  rw [B_append, B_append, B_append, hB, hwb, B_digits (dec_isD a)]
  unfold gen
  show _ = joinP (tC ns) ++ ([] ++ (95 :: (sW a1 ++ dec a) ++ [] ++ ([] ++ [])))
  simp only [List.append_assoc, List.append_nil, List.cons_append, List.nil_append]
  rfl
 have hR : ∀ (a : Int), bytesOf ((X ++ (⟨#[45, 114]⟩ : ByteArray)) ++ strOfNums (dec a)) = gen ns [] [] (tE true a) := by
  intro a
  rw [B_append, B_append, hB, B_digits (dec_isD a)]
  unfold gen
  show _ = joinP (tC ns) ++ ([] ++ ([] ++ ([] ++ 45 :: 114 :: dec a)))
  simp only [List.append_assoc, List.append_nil, List.cons_append, List.nil_append]
  rfl
 have hL : ∀ {a : Int}, U8 a → bytesOf (X ++ Utf8.encode (97 + Int.tmod a 26)) = gen ns (lt26 a) [] [] := by
  intro a hu
  have := mod26 hu
  rw [B_append, hB, B_encode (by omega) (by omega)]
  unfold gen
  simp [joinS, lt26]
 have zL : ∀ {a : Int}, U8 a → (Utf8.encode (97 + Int.tmod a 26)).size = 1 := by
  intro a hu
  have := mod26 hu
  rw [B_size, B_encode (by omega) (by omega)]
  rfl
 have z4 := zL u4
 have z5 := zL u5
 have cS : impl_AlpineCompareText.f ((X ++ ((⟨#[95]⟩ : ByteArray) ++ W)) ++ strOfNums (dec a2)) ((X ++ ((⟨#[95]⟩ : ByteArray) ++ W)) ++ strOfNums (dec a3)) = some (wantZ a2 a3, true) := by
  refine gen_cmp (gS u2) (gS u3) (hS a2) (hS a3) ?_
  rw [apC_like (p := gp ns [] [(sW a1, dec a2)] []) (q := gp ns [] [(sW a1, dec a3)] []) rfl rfl rfl rfl]
  show firstNe (sufsC (([(sW a1, dec a2)].map convS).map toSx) (([(sW a1, dec a3)].map convS).map toSx)) _ = _
  simp only [List.map_cons, List.map_nil]
  rw [toSx_at (dec_isD a2) (by have := dec_len u2; omega), toSx_at (dec_isD a3) (by have := dec_len u3; omega), sufs_one]
  unfold sufC
  simp only
  rw [if_neg (by omega), if_neg (by omega), dec_val, dec_val, cmpN_want u2 u3]
  show firstNe (wantZ a2 a3) (cmpN (decL []) (decL [])) = _
  rw [cmpN_self]
  unfold firstNe
  split
  ·rename_i h; exact h.symm
  ·rfl
 have cR : impl_AlpineCompareText.f ((X ++ (⟨#[45, 114]⟩ : ByteArray)) ++ strOfNums (dec a2)) ((X ++ (⟨#[45, 114]⟩ : ByteArray)) ++ strOfNums (dec a3)) = some (wantZ a2 a3, true) := by
  refine gen_cmp (gR u2) (gR u3) (hR a2) (hR a3) ?_
  have e2 : gp ns [] [] (tE true a2) = ⟨gen ns [] [] (tE true a2), tC ns, [], [], [], false, dec a2, []⟩ := by unfold gp; rw [build_E]; rfl
  have e3 : gp ns [] [] (tE true a3) = ⟨gen ns [] [] (tE true a3), tC ns, [], [], [], false, dec a3, []⟩ := by unfold gp; rw [build_E]; rfl
  rw [e2, e3, apC_like (p := ⟨gen ns [] [] (tE true a2), tC ns, [], [], [], false, dec a2, []⟩) (q := ⟨gen ns [] [] (tE true a3), tC ns, [], [], [], false, dec a3, []⟩) rfl rfl rfl rfl]
  show firstNe (sufsC [] []) (cmpN (decL (dec a2)) (decL (dec a3))) = _
  rw [sufs_nil, dec_val, dec_val, cmpN_want u2 u3]
  rfl
 have cL : impl_AlpineCompareText.f (X ++ Utf8.encode (97 + Int.tmod a4 26)) (X ++ Utf8.encode (97 + Int.tmod a5 26)) = some (wantZ (Int.tmod a4 26) (Int.tmod a5 26), true) := by
  refine gen_cmp (gL u4) (gL u5) (hL u4) (hL u5) ?_
  rw [apC_letter (p := gp ns (lt26 a4) [] []) (q := gp ns (lt26 a5) [] []) rfl rfl rfl rfl rfl]
  exact letters_want u4 u5
 have cN : impl_AlpineCompareText.f X (X ++ Utf8.encode (97 + Int.tmod a4 26)) = some (-1, true) := by
  refine gen_cmp g0 (gL u4) hX0 (hL u4) ?_
  rw [apC_letter (p := gp ns [] [] []) (q := gp ns (lt26 a4) [] []) rfl rfl rfl rfl rfl]
  exact letters_none u4
 -- the run
 rw [b4, b5]
 refine Ev.pos (fun _ => m0) ?_
 refine Ev.pos (fun _ => by show Int.tmod a1 9 < ((9 : Nat) : Int); omega) ?_
 refine Ev.pos (fun _ => by omega) ?_
 refine Ev.pos (fun _ => by rw [app_size, e95]; omega) ?_
 refine Ev.bind (decimal_ev u2) ?_
 refine Ev.pos (fun _ => by rw [app_size, app_size, e95]; omega) ?_
 refine Ev.bind (decimal_ev u3) ?_
 refine Ev.pos (fun _ => by rw [app_size, app_size, e95]; omega) ?_
 refine Ev.bind0 cS ?_
 refine Ev.pos (fun _ => by omega) ?_
 refine Ev.bind (decimal_ev u2) ?_
 refine Ev.pos (fun _ => by rw [app_size, e45]; omega) ?_
 refine Ev.bind (decimal_ev u3) ?_
 refine Ev.pos (fun _ => by rw [app_size, e45]; omega) ?_
 refine Ev.bind0 cR ?_
 refine Ev.pos (fun _ => by omega) ?_
 refine Ev.pos (fun _ => by omega) ?_
 refine Ev.bind0 cL ?_
 refine Ev.bind0 cN ?_
 refine Ev.pos (fun _ => by first | rfl | trivial) ?_
 refine Ev.pos (fun _ => by first | rfl | trivial) ?_
 refine Ev.pos (fun _ => by first | rfl | trivial) ?_
 refine Ev.pos (fun _ => by first | rfl | trivial) ?_
 refine Ev.bind0 (want_eq a2 a3) ?_
 refine Ev.pos (fun _ => by first | rfl | trivial) ?_
 refine Ev.bind0 (want_eq a2 a3) ?_
 refine Ev.pos (fun _ => by first | rfl | trivial) ?_
 rw [u16_tmod u4, u16_tmod u5]
 refine Ev.bind0 (want_eq _ _) ?_
 refine Ev.pos (fun _ => by first | rfl | trivial) ?_
 exact Ev.now _
end Go.Proofs.YtapaijpglfmfgaaDoor.V
end
section -- PureFnAlpineNumbers
namespace Go.Proofs.YtapaijpglfmfgaaDoor.Pure
theorem FnAlpineNumbers : Q.laws_FnAlpineNumbers.Pure := V.FnAlpineNumbers
end Go.Proofs.YtapaijpglfmfgaaDoor.Pure
end
section -- K19
namespace Go.Proofs.YtapaijpglfmfgaaDoorG
open Go.RowKit Go.ChangeShapes Go.Proofs.YtapaijpglfmfgaaDoorW.PrintWords Go.Proofs.YtapaijpglfmfgaaDoorW.PrintLast
set_option linter.unusedVariables false
theorem err_star : "*" ++ "errors.errorString" = "*errors.errorString" := by decide
theorem err_row (u : TypeId) (h : Tryd.prog.typeName? 3 u = some "*errors.errorString") : u = 177 :=
 typeName_ptr_named (nm := "errors.errorString") (by rw [err_star]; kernel_rfl) (by kernel_rfl) (by decide) u (by rw [err_star]; exact h)
theorem sent {n : String} {text : List UInt8} {g : Nat} {W : World} (hg : Tryd.prog.globalNamed n = some g) (ht : (Tryd.prog.globals[g]?).map (·.type) = some 71)
    (h : laidMet Tryd.prog [(n, .iface "*errors.errorString" (.ptr (.agg [.lit (.string text)])))] W) : (∃ a, W.cell? ⟨g, 0, none⟩ = some (ErrV a)) ∧ g < W.heap.size := by
  obtain ⟨a, s, hv, _⟩ := laid_sentinel h hg ht Tryd.underlying71 err_row Tryd.underlying177 Tryd.underlying194 rfl rfl Tryd.underlying9 (by kernel_rfl) (by kernel_rfl)
  have hc : W.cell? ⟨g, 0, none⟩ = some (ErrV a) := by
    have h0 := World.var?_cell hg hv 0
    simpa [ErrV] using h0
  refine ⟨⟨a, hc⟩, ?_⟩
  rcases Nat.lt_or_ge g W.heap.size with hl | hl
  · exact hl
  · unfold World.cell? at hc
    rw [Array.getElem?_eq_none hl] at hc
    cases hc
theorem GL_of {l : List (String × DataW Unit)} {W : World} (hL : laidMetH Tryd.prog l W) (hp : (l.all fun x => x.2.handleName?.isNone) = true)
  (e1 : l.filter (fun x => x.1 == "io.EOF") = [("io.EOF", Go.Proofs.YtapaijpglfmfgaaDoor.Rows.laid_io_EOF)])
  (e2 : l.filter (fun x => x.1 == "pub-primogeniture/pub/bigall.errNoDigits") = [("pub-primogeniture/pub/bigall.errNoDigits", Go.Proofs.YtapaijpglfmfgaaDoor.Rows.laid_pub_primogeniture_pub_bigall_errNoDigits)])
  (e3 : l.filter (fun x => x.1 == "pub-primogeniture/pub/scalibr/semantic.ErrInvalidVersion") = [("pub-primogeniture/pub/scalibr/semantic.ErrInvalidVersion", Go.Proofs.YtapaijpglfmfgaaDoor.Rows.laid_pub_primogeniture_pub_scalibr_semantic_ErrInvalidVersion)]) : GL W := by
 have one : ∀ (n : String) (d : DataW Unit), l.filter (fun x => x.1 == n) = [(n, d)] → d.handleName?.isNone = true → laidMet Tryd.prog [(n, d)] W := by
  intro n d e hd
  have h := hL.filter (fun x => x.1 == n)
  rw [e, MakeChecks.laidMetH_plain _ _ _ (by simp [hd])] at h
  exact h
 obtain ⟨h1, g1⟩ := sent (g := 2) (by kernel_rfl) (by kernel_rfl) (one _ _ e1 (by kernel_rfl))
 obtain ⟨h2, g2⟩ := sent (g := 4) (by kernel_rfl) (by kernel_rfl) (one _ _ e2 (by kernel_rfl))
 obtain ⟨h3, g3⟩ := sent (g := 0) (by kernel_rfl) (by kernel_rfl) (one _ _ e3 (by kernel_rfl))
 exact ⟨by omega, h3, h1, h2⟩
end Go.Proofs.YtapaijpglfmfgaaDoorG
end
section -- WSized
namespace Go.Proofs.YtapaijpglfmfgaaDoorW.PrintWords
open Go.ChangeShapes Go.WideShapes
theorem sized_ints {H : Type} {enc : TypeId × Value → H} {P : Program} {W : World} {base : Nat} {spare : Nat → Bool} {held : Bool} {t e : TypeId} {k : IntKind} {a : Option Addr} {len cap : Nat} {d : DataW H} {ps : List MemPlace} {ts : List TypeId} {ds : List (DataW H)} {j : Nat}
    (hsz : (DataW.weightsEach P ts ds).all (· ≤ reachBytes) = true) (ht : ts[j]? = some t) (hd : ds[j]? = some d) (hu : P.underlying t = some (.slice e)) (he : P.underlying e = some (.int k)) (hc : P.cellsOf e = 1) {B : Nat} (hB : P.bytesOf e = B)
    (h : DataW.Trod enc P W base spare held t (.slice a len cap) d ps) : len * B ≤ 140737488351232 := by
  obtain ⟨fuel, hf⟩ := h
  rcases open_ints hu he hc hf with ⟨hcs, _⟩ | ⟨x, l, c, zs, hcs, _, hl, _, hz, hx, _, _⟩
  · simp [Value.cells] at hcs
    obtain ⟨rfl, rfl, rfl⟩ := hcs
    simp
  · simp [Value.cells] at hcs
    obtain ⟨rfl, rfl, rfl⟩ := hcs
    obtain ⟨hx, _⟩ := Prod.mk.inj hx
    subst hx
    have z := sized_slice hsz ht hd hu
    rw [hB] at z
    have hl2 : len ≤ zs.length := by
      rw [hz]
      split
      · exact hl
      · exact Nat.le_refl _
    have h1 : (lits (H := H) k (zs.take len)).length + (lits (H := H) k (zs.drop len)).length = zs.length := by
      simp [lits]
      omega
    rw [h1] at z
    exact Nat.le_trans (Nat.mul_le_mul_right _ hl2) z
end Go.Proofs.YtapaijpglfmfgaaDoorW.PrintWords
end
