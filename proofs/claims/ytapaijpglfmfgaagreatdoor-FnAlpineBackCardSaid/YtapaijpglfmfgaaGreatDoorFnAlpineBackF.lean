/- Proved here, for the row of the law FnAlpineBack: contracts of the Go functions that it reaches, each as its theorem 'calls' says, and the words and plain laws that they need (BF, BH, BL0, BM, BO, PureFnAlpineBack, K19). -/
import Derived.Test.YtapaijpglfmfgaaGreatDoorFnAlpineBackE
import Derived.Laws.Bits64b
import Derived.Test.YtapaijpglfmfgaaGreatDoorRows
import Derived.Stop.LaidErr
import Derived.Stop.Joined
import Derived.LaidSub
import Derived.MakeChecks
section -- BF
namespace Go.Proofs.YtapaijpglfmfgaaGreatDoor.V
open Go.RowKit Go.Proofs.YtapaijpglfmfgaaGreatDoor.Q Go.Proofs.YtapaijpglfmfgaaGreatDoorG Go.Proofs.YtapaijpglfmfgaaGreatDoorP Go.Proofs.YtapaijpglfmfgaaGreatDoorH Go.Proofs.YtapaijpglfmfgaaGreatDoorB Go.Proofs.YtapaijpglfmfgaaGreatDoorM Go.Proofs.YtapaijpglfmfgaaGreatDoorW.PrintWords Go.Proofs.YtapaijpglfmfgaaGreatDoorW.PrintLast
set_option linter.unusedVariables false
set_option linter.unusedSimpArgs false
def hd (l : List Int) : Int := l.getD 0 0
theorem hd_nil (b : List Int) : hd ([] ++ b) = hd b := rfl
structure Stop (l : List Int) : Prop where
 d : isD (hd l) = false
 p : hd l ≠ 46
 let_ : isL (hd l) = false
 u : hd l ≠ 95
 t : hd l ≠ 126
theorem Stop.x {l : List Int} (h : Stop l) : isX (hd l) = false := by
 have h1 := h.d
 have h2 := h.let_
 unfold isX
 rw [h1]
 unfold isL at h2
 have := of_decide_eq_false h2
 simp
 omega
theorem run_hd {p : Int → Bool} {a b : List Int} (h : ∀ c ∈ a, p c = true) (hb : p (hd b) = false) : run p (a ++ b) = a.length := run_stop_append h (.inr hb)
theorem numsP_join : ∀ (c : List (List Int)) (n : Nat) (X : List Int), c ≠ [] → (∀ d ∈ c, d ≠ [] ∧ ∀ x ∈ d, isD x = true) → isD (hd X) = false → hd X ≠ 46 → c.length ≤ n → numsP n (joinP c ++ X) = (c, X)
 | [], _, _, h, _, _, _, _ => absurd rfl h
 | _ :: _, 0, _, _, _, _, _, h => by simp at h
 | [d], n + 1, X, _, hc, h1, h2, _ => by
  obtain ⟨d0, d1⟩ := hc d List.mem_cons_self
  have e : joinP [d] ++ X = d ++ X := by simp [joinP]
  have hr : run isD (d ++ X) = d.length := run_hd d1 h1
  have hp : d.length ≠ 0 := by have := List.length_pos_iff.2 d0; omega
  rw [e]
  simp only [numsP]
  rw [hr, if_neg hp, List.drop_left, if_neg (show ¬ X.getD 0 0 = 46 from h2), List.take_left]
 | d :: d' :: r, n + 1, X, _, hc, h1, h2, hn => by
  obtain ⟨d0, d1⟩ := hc d List.mem_cons_self
  have e : joinP (d :: d' :: r) ++ X = d ++ (46 :: (joinP (d' :: r) ++ X)) := by simp [joinP]
  have hr : run isD (d ++ (46 :: (joinP (d' :: r) ++ X))) = d.length := run_hd d1 (show isD 46 = false by decide)
  have hp : d.length ≠ 0 := by have := List.length_pos_iff.2 d0; omega
  have ih := numsP_join (d' :: r) n X (by simp) (fun x hx => hc x (List.mem_cons_of_mem _ hx)) h1 h2 (by simpa using hn)
  rw [e]
  simp only [numsP]
  rw [hr, if_neg hp, List.drop_left, if_pos (show (46 :: (joinP (d' :: r) ++ X)).getD 0 0 = 46 from rfl), List.take_left, ← List.drop_drop, List.drop_left]
  show (d :: (numsP n (joinP (d' :: r) ++ X)).1, (numsP n (joinP (d' :: r) ++ X)).2) = _
  rw [ih]
theorem letterP_at {t Y : List Int} (h : (t = [] ∧ isL (hd Y) = false) ∨ ∃ x, t = [x] ∧ isL x = true) : letterP (t ++ Y) = (t, Y) := by
 unfold letterP
 rcases h with ⟨rfl, h⟩ | ⟨x, rfl, h⟩
 ·have h2 : isL (([] ++ Y).getD 0 0) = false := h
  rw [h2]
  rfl
 ·have h2 : isL (([x] ++ Y).getD 0 0) = true := h
  rw [h2]
  rfl
theorem wordAt_word {w y : List Int} (hw : w ∈ sufWords) (hy : hd y ≠ 114) : wordAt (95 :: (w ++ y)) = some w := by
 unfold wordAt
 rw [if_pos (show (95 :: (w ++ y)).getD 0 0 = 95 from rfl)]
 show sufWords.find? (fun w' => pre w' (w ++ y)) = some w
 simp only [sufWords, List.mem_cons, List.not_mem_nil, or_false] at hw
 rcases hw with rfl | rfl | rfl | rfl | rfl | rfl | rfl | rfl | rfl
 ·simp [sufWords, List.find?_cons, pre]
 ·simp [sufWords, List.find?_cons, pre]
 ·simp [sufWords, List.find?_cons, pre]
 ·simp [sufWords, List.find?_cons, pre]
 ·simp [sufWords, List.find?_cons, pre]
 ·simp [sufWords, List.find?_cons, pre]
 ·simp [sufWords, List.find?_cons, pre]
 ·simp [sufWords, List.find?_cons, pre]
 ·cases y with
  | nil => decide
  | cons a y =>
   have ha : a ≠ 114 := hy
   simp [sufWords, List.find?_cons, pre, ha]
theorem wordAt_no {Z : List Int} (h : hd Z ≠ 95) : wordAt Z = none := by unfold wordAt; rw [if_neg (show ¬ Z.getD 0 0 = 95 from h)]
theorem hd_joinS {s : List (List Int × List Int)} {Z : List Int} (h : s ≠ []) : hd (joinS s ++ Z) = 95 := by
 cases s with
 | nil => exact absurd rfl h
 | cons x s => rfl
theorem sufsP_join : ∀ (s : List (List Int × List Int)) (n : Nat) (Z : List Int), (∀ x ∈ s, x.1 ∈ sufWords ∧ ∀ c ∈ x.2, isD c = true) → hd Z ≠ 95 → hd Z ≠ 114 → isD (hd Z) = false → s.length ≤ n → sufsP n (joinS s ++ Z) = (s, Z)
  | [], n, Z, _, h1, _, _, _ => by
    show sufsP n Z = ([], Z)
    exact sufsP_none (wordAt_no h1) n
  | _ :: _, 0, _, _, _, _, _, h => by simp at h
  | (w, dg) :: s, n + 1, Z, hs, h1, h2, h3, hn => by
    obtain ⟨hw, hdg⟩ := hs _ List.mem_cons_self
    have ih := sufsP_join s n Z (fun x hx => hs x (List.mem_cons_of_mem _ hx)) h1 h2 h3 (by simpa using hn)
    obtain ⟨R, hR⟩ : ∃ R, R = joinS s ++ Z := ⟨_, rfl⟩
    have e : joinS ((w, dg) :: s) ++ Z = 95 :: (w ++ (dg ++ R)) := by rw [hR, joinS_cons]; simp
    have hRh : hd R = 95 ∨ hd R = hd Z := by
      rw [hR]
      by_cases h0 : s = []
      · right; rw [h0]; rfl
      · left; exact hd_joinS h0
    have hRd : isD (hd R) = false := by rcases hRh with e | e <;> rw [e]; · rfl
                                        · exact h3
    have hy : hd (dg ++ R) ≠ 114 := by
      cases dg with
      | nil => rcases hRh with e | e
               · rw [hd_nil, e]; decide
               · rw [hd_nil, e]; exact h2
      | cons a q =>
        have ha := hdg a List.mem_cons_self
        intro e
        have e2 : a = 114 := e
        rw [e2] at ha
        exact absurd ha (by decide)
    rw [e, sufsP_some (wordAt_word hw hy)]
    have ed : (95 :: (w ++ (dg ++ R))).drop (1 + w.length) = dg ++ R := by
      rw [Nat.add_comm, List.drop_succ_cons, List.drop_left]
    rw [ed, run_hd hdg hRd, List.take_left, List.drop_left, hR, ih]
theorem hashP_at {h E : List Int} (hh : (h = [] ∧ hd E ≠ 126) ∨ ∃ x, h = 126 :: x ∧ x ≠ [] ∧ (∀ c ∈ x, isX c = true) ∧ isX (hd E) = false) : hashP (h ++ E) = (h, E) := by
 unfold hashP
 rcases hh with ⟨rfl, h0⟩ | ⟨x, rfl, x0, hx, h0⟩
 ·rw [if_neg (fun e => h0 e.1)]
  rfl
 ·have e : (126 :: x ++ E).drop 1 = x ++ E := rfl
  rw [e, run_hd hx h0]
  have hp : x.length ≠ 0 := by have := List.length_pos_iff.2 x0; omega
  rw [if_pos ⟨rfl, hp⟩]
  have e1 : (126 :: x ++ E).take (1 + x.length) = 126 :: x := by
   rw [Nat.add_comm, List.cons_append, List.take_succ_cons, List.take_left]
  have e2 : (126 :: x ++ E).drop (1 + x.length) = E := by
   rw [Nat.add_comm, List.cons_append, List.drop_succ_cons, List.drop_left]
  rw [e1, e2]
theorem parse_join {c : List (List Int)} {t : List Int} {s : List (List Int × List Int)} {h E : List Int} (hc0 : c ≠ []) (hc : ∀ d ∈ c, d ≠ [] ∧ ∀ x ∈ d, isD x = true) (ht : t = [] ∨ ∃ x, t = [x] ∧ isL x = true)
    (hs : ∀ x ∈ s, x.1 ∈ sufWords ∧ ∀ c ∈ x.2, isD c = true) (hh : h = [] ∨ ∃ x, h = 126 :: x ∧ x ≠ [] ∧ ∀ c ∈ x, isX c = true) (hE : Stop E) :
    parseP (joinP c ++ (t ++ (joinS s ++ (h ++ E)))) = ⟨joinP c ++ (t ++ (joinS s ++ (h ++ E))), c, t, s, h, (buildP E).1, (buildP E).2.1, (buildP E).2.2⟩ ∧ rest3 (joinP c ++ (t ++ (joinS s ++ (h ++ E)))) = h ++ E := by
  -- heads
  have hZ : hd (h ++ E) = 126 ∨ hd (h ++ E) = hd E := by
    rcases hh with rfl | ⟨x, rfl, _, _⟩
    · right; rfl
    · left; rfl
  have hY : hd (joinS s ++ (h ++ E)) = 95 ∨ hd (joinS s ++ (h ++ E)) = hd (h ++ E) := by
    by_cases h0 : s = []
    · right; rw [h0]; rfl
    · left; exact hd_joinS h0
  have hZl : isL (hd (h ++ E)) = false := by rcases hZ with e | e <;> rw [e]; · rfl
                                             · exact hE.let_
  have hZd : isD (hd (h ++ E)) = false := by rcases hZ with e | e <;> rw [e]; · rfl
                                             · exact hE.d
  have hZu : hd (h ++ E) ≠ 95 := by rcases hZ with e | e <;> rw [e]; · decide
                                    · exact hE.u
  have hZp : hd (h ++ E) ≠ 46 := by rcases hZ with e | e <;> rw [e]; · decide
                                    · exact hE.p
  have hYl : isL (hd (joinS s ++ (h ++ E))) = false := by rcases hY with e | e <;> rw [e]; · rfl
                                                          · exact hZl
  have hYd : isD (hd (joinS s ++ (h ++ E))) = false := by rcases hY with e | e <;> rw [e]; · rfl
                                                          · exact hZd
  have hYp : hd (joinS s ++ (h ++ E)) ≠ 46 := by rcases hY with e | e <;> rw [e]; · decide
                                                 · exact hZp
  have hX : isD (hd (t ++ (joinS s ++ (h ++ E)))) = false ∧ hd (t ++ (joinS s ++ (h ++ E))) ≠ 46 := by
    rcases ht with rfl | ⟨x, rfl, hx⟩
    · exact ⟨hYd, hYp⟩
    · have e : hd ([x] ++ (joinS s ++ (h ++ E))) = x := rfl
      rw [e]
      unfold isL at hx
      have := of_decide_eq_true hx
      refine ⟨?_, by omega⟩
      unfold isD
      exact decide_eq_false (by omega)
  have hlenc : c.length ≤ (joinP c ++ (t ++ (joinS s ++ (h ++ E)))).length := by
    have : ∀ r : List (List Int), r.length ≤ (r.flatMap fun x => 46 :: x).length := by
      intro r
      induction r with
      | nil => exact Nat.le_refl _
      | cons a r ih => simp only [List.flatMap_cons, List.length_append, List.length_cons]; omega
    cases c with
    | nil => exact absurd rfl hc0
    | cons d r =>
      have h1 := this r
      have h2 := List.length_pos_iff.2 (hc d List.mem_cons_self).1
      simp only [joinP, List.length_append, List.length_cons]
      omega
  have e1 := numsP_join c _ (t ++ (joinS s ++ (h ++ E))) hc0 hc hX.1 hX.2 hlenc
  have e2 : letterP (t ++ (joinS s ++ (h ++ E))) = (t, joinS s ++ (h ++ E)) := letterP_at (by
    rcases ht with e | ⟨x, e, hx⟩
    · exact .inl ⟨e, hYl⟩
    · exact .inr ⟨x, e, hx⟩)
  have hlens : s.length ≤ (joinS s ++ (h ++ E)).length := by
    have : ∀ r : List (List Int × List Int), r.length ≤ (joinS r).length := by
      intro r
      induction r with
      | nil => exact Nat.le_refl _
      | cons a r ih => rw [joinS_cons]; simp only [List.length_append, List.length_cons]; omega
    have := this s
    rw [List.length_append]
    omega
  have e3 := sufsP_join s _ (h ++ E) hs hZu (fun e => by rw [e] at hZl; exact absurd hZl (by decide)) hZd hlens
  have e4 : hashP (h ++ E) = (h, E) := hashP_at (by
    rcases hh with e | ⟨x, e, x0, hx⟩
    · exact .inl ⟨e, hE.t⟩
    · exact .inr ⟨x, e, x0, hx, hE.x⟩)
  have r1 : rest1 (joinP c ++ (t ++ (joinS s ++ (h ++ E)))) = t ++ (joinS s ++ (h ++ E)) := by unfold rest1; rw [e1]
  have r2 : rest2 (joinP c ++ (t ++ (joinS s ++ (h ++ E)))) = joinS s ++ (h ++ E) := by unfold rest2; rw [r1, e2]
  have r3 : rest3 (joinP c ++ (t ++ (joinS s ++ (h ++ E)))) = h ++ E := by unfold rest3; rw [r2, e3]
  have r4 : rest4 (joinP c ++ (t ++ (joinS s ++ (h ++ E)))) = E := by unfold rest4; rw [r3, e4]
  refine ⟨?_, r3⟩
  unfold parseP
  rw [e1, r1, e2, r2, e3, r3, e4, r4]
theorem Stop.nil : Stop [] := ⟨by decide, by decide, by decide, by decide, by decide⟩
theorem Stop.cons {x : Int} {l : List Int} (h1 : isD x = false) (h2 : x ≠ 46) (h3 : isL x = false) (h4 : x ≠ 95) (h5 : x ≠ 126) : Stop (x :: l) := ⟨h1, h2, h3, h4, h5⟩
end Go.Proofs.YtapaijpglfmfgaaGreatDoor.V
end
section -- BH
namespace Go.Proofs.YtapaijpglfmfgaaGreatDoor.V
open Go.RowKit Go.Proofs.YtapaijpglfmfgaaGreatDoor.Q Go.Proofs.YtapaijpglfmfgaaGreatDoorG Go.Proofs.YtapaijpglfmfgaaGreatDoorP Go.Proofs.YtapaijpglfmfgaaGreatDoorH Go.Proofs.YtapaijpglfmfgaaGreatDoorB Go.Proofs.YtapaijpglfmfgaaGreatDoorM Go.Proofs.YtapaijpglfmfgaaGreatDoorW.PrintWords Go.Proofs.YtapaijpglfmfgaaGreatDoorW.PrintLast
set_option linter.unusedVariables false
set_option linter.unusedSimpArgs false
theorem cmp_self : ∀ l : List Int, cmp_ l l = 0
 | [] => rfl
 | x :: l => by simp [cmp_, cmp_self l]
theorem strCmp_self (s : ByteArray) : strCmp s s = 0 := by
 show Lib.compareBytes s.data.toList s.data.toList = 0
 rw [compare_B, cmp_self]
theorem cmpN_self (n : Nat) : cmpN n n = 0 := by unfold cmpN; rw [if_neg (by omega), if_neg (by omega)]
theorem fromC_zero {d : Nat → Int} (h : ∀ k, d k = 0) : ∀ n k, fromC d n k = 0
 | 0, _ => rfl
 | n + 1, k => by simp only [fromC, h, if_pos, fromC_zero h n]
theorem comps_self (l : List Nm) : compsC l l = 0 := by
 unfold compsC
 refine fromC_zero (fun k => ?_) _ _
 unfold numD numC
 split
 ·exact strCmp_self _
 ·exact cmpN_self _
theorem letters_self (s : ByteArray) : lettersCmp s s = 0 := by
 unfold lettersCmp
 rw [if_neg (fun h => h.2 h.1), if_neg (fun h => h.1 h.2), strCmp_self]
theorem rem_self (s : ByteArray) : remCmp s s = 0 := by
 unfold remCmp
 rw [if_neg (fun h => h.2 h.1), if_neg (fun h => h.1 h.2)]
theorem toSx_at {w d : List Int} (h : ∀ c ∈ d, isD c = true) (hl : d.length ≤ 1000000) : toSx (convS (w, d)) = ⟨(wgt w : Int), 0, decL d⟩ := by
 unfold toSx convS
 simp only
 rw [(or0_good h hl).2.2]
end Go.Proofs.YtapaijpglfmfgaaGreatDoor.V
end
section -- BL0
namespace Go.Proofs.YtapaijpglfmfgaaGreatDoor.V
open Go.RowKit Go.Proofs.YtapaijpglfmfgaaGreatDoor.Q Go.Proofs.YtapaijpglfmfgaaGreatDoorG Go.Proofs.YtapaijpglfmfgaaGreatDoorP Go.Proofs.YtapaijpglfmfgaaGreatDoorH Go.Proofs.YtapaijpglfmfgaaGreatDoorB Go.Proofs.YtapaijpglfmfgaaGreatDoorM Go.Proofs.YtapaijpglfmfgaaGreatDoorW.PrintWords Go.Proofs.YtapaijpglfmfgaaGreatDoorW.PrintLast Go.Proofs.YtapaijpglfmfgaaGreatDoorW.PrintMore
set_option linter.unusedVariables false
set_option linter.unusedSimpArgs false
theorem decD_head (n : Nat) : (n = 0 → decD n = [48]) ∧ (n ≠ 0 → ∃ c r, decD n = c :: r ∧ 49 ≤ c ∧ c ≤ 57) := by
 induction n using Nat.strongRecOn with
 | ind n ih =>
  refine ⟨fun h => by subst h; rw [decD_small (by omega)]; rfl, fun h0 => ?_⟩
  by_cases h : n < 10
  ·rw [decD_small h]
   exact ⟨_, _, rfl, by omega, by omega⟩
  ·obtain ⟨c, r, e, h1, h2⟩ := (ih (n / 10) (by omega)).2 (by omega)
   rw [decD_big h, e]
   exact ⟨c, _, rfl, h1, h2⟩
theorem alpBeyond_any (l : List S56) (hl : l.length ≤ 1000000) : ∀ (m i : Nat), l.length - i = m → i ≤ 1000000 → ∃ q, Ev (fun k => spec_alpBeyond.l0 k l (i : Int)) q := by
 intro m
 induction m with
 | zero =>
  intro i hm hi
  refine ⟨true, Ev.succ ?_⟩
  simp only [spec_alpBeyond.l0]
  refine Ev.neg (fun _ => by omega) ?_
  exact Ev.now _
 | succ m ih =>
  intro i hm hi
  obtain ⟨q, hq⟩ := ih (i + 1) (by omega) (by omega)
  by_cases h : ((rd_T56 l (i : Int)).f0) = 4
  ·refine ⟨false, Ev.succ ?_⟩
   simp only [spec_alpBeyond.l0]
   refine Ev.pos (fun _ => by omega) ?_
   refine Ev.pos (fun _ => by omega) ?_
   refine Ev.pos (fun _ => h) ?_
   exact Ev.now _
  ·by_cases h2 : ((rd_T56 l (i : Int)).f0) = 5
   ·refine ⟨false, Ev.succ ?_⟩
    simp only [spec_alpBeyond.l0]
    refine Ev.pos (fun _ => by omega) ?_
    refine Ev.pos (fun _ => by omega) ?_
    refine Ev.neg (fun _ => h) ?_
    refine Ev.pos (fun _ => h2) ?_
    exact Ev.now _
   ·refine ⟨q, Ev.succ ?_⟩
    simp only [spec_alpBeyond.l0]
    refine Ev.pos (fun _ => by omega) ?_
    refine Ev.pos (fun _ => by omega) ?_
    refine Ev.neg (fun _ => h) ?_
    refine Ev.neg (fun _ => h2) ?_
    rw [w64 (i := (i : Int) + 1) (by omega) (by omega)]
    exact hq
theorem cmp_text {X Y : ByteArray} (h1 : AOk X) (h2 : AOk Y) : impl_AlpineCompareText.f X Y = some (apC (apOf (parseP (bytesOf X))) (apOf (parseP (bytesOf Y))), true) := by
 unfold impl_AlpineCompareText.f
 rw [if_pos ⟨h1, h2⟩]
end Go.Proofs.YtapaijpglfmfgaaGreatDoor.V
end
section -- BM
namespace Go.Proofs.YtapaijpglfmfgaaGreatDoor.V
open Go.RowKit Go.Proofs.YtapaijpglfmfgaaGreatDoor.Q Go.Proofs.YtapaijpglfmfgaaGreatDoorG Go.Proofs.YtapaijpglfmfgaaGreatDoorP Go.Proofs.YtapaijpglfmfgaaGreatDoorH Go.Proofs.YtapaijpglfmfgaaGreatDoorB Go.Proofs.YtapaijpglfmfgaaGreatDoorM Go.Proofs.YtapaijpglfmfgaaGreatDoorW.PrintWords Go.Proofs.YtapaijpglfmfgaaGreatDoorW.PrintLast Go.Proofs.YtapaijpglfmfgaaGreatDoorW.PrintMore
set_option linter.unusedVariables false
set_option linter.unusedSimpArgs false
structure PG (p : PV) : Prop where
 c : ∀ d ∈ p.c, d ≠ [] ∧ (∀ x ∈ d, isD x = true) ∧ d.length ≤ 100000
 cl : p.c.length ≤ 200000
 s : ∀ x ∈ p.s, x.1 ∈ sufWords ∧ (∀ c ∈ x.2, isD c = true) ∧ x.2.length ≤ 100000
 sl : p.s.length ≤ 200000
def nmL (c : List (List Int)) : List Nm := (c.map strOfNums).map toNm
def sxL (s : List (List Int × List Int)) : List Sx := (s.map convS).map toSx
theorem numsA_get (c : List (List Int)) (k : Nat) : (numsA c)[k]? = c[k]?.map (fun d => (⟨strOfNums d, ⟨false, magB (decL d)⟩, (k : Int)⟩ : S52)) := by
 unfold numsA
 rw [List.getElem?_map, List.getElem?_zipIdx]
 cases c[k]? <;> simp
def Beyond (s : List (List Int × List Int)) (n : Nat) : Prop := ∀ k x, n ≤ k → s[k]? = some x → (wgt x.1 : Int) ≠ 4 ∧ (wgt x.1 : Int) ≠ 5
theorem sufsA_get (s : List (List Int × List Int)) (k : Nat) : (sufsA s)[k]? = s[k]?.map (fun x => (⟨(wgt x.1 : Int), ⟨false, magB (decL x.2)⟩⟩ : S56)) := by
 unfold sufsA
 rw [List.getElem?_map]
theorem sufsA_rd {s : List (List Int × List Int)} {k : Nat} {x : List Int × List Int} (e : s[k]? = some x) : rd_T56 (sufsA s) (k : Int) = ⟨(wgt x.1 : Int), ⟨false, magB (decL x.2)⟩⟩ := by
 unfold rd_T56
 rw [Int.toNat_natCast, List.getD_eq_getElem?_getD, sufsA_get, e]
 rfl
theorem beyond_true {s : List (List Int × List Int)} (hl : s.length ≤ 200000) : ∀ (m n : Nat), s.length - n = m → n ≤ 200000 → Ev (fun k => spec_alpBeyond.l0 k (sufsA s) (n : Int)) true → Beyond s n := by
 intro m
 induction m with
 | zero =>
  intro n hm hn _ k x hk e
  have := (List.getElem?_eq_some_iff.1 e).1
  omega
 | succ m ih =>
  intro n hm hn h k x hk e
  have hlt : n < s.length := by omega
  have e0 : s[n]? = some s[n] := List.getElem?_eq_getElem hlt
  obtain ⟨k0, h0⟩ := h
  have h1 := h0 (k0 + 1) (by omega)
  simp only [spec_alpBeyond.l0, sufsA_length] at h1
  rw [if_pos (by omega), if_pos (by omega), sufsA_rd e0] at h1
  by_cases c4 : (wgt s[n].1 : Int) = 4
  ·rw [if_pos c4] at h1; cases h1
  rw [if_neg c4] at h1
  by_cases c5 : (wgt s[n].1 : Int) = 5
  ·rw [if_pos c5] at h1; cases h1
  rw [if_neg c5] at h1
  by_cases hkn : k = n
  ·subst hkn
   rw [e0] at e
   cases e
   exact ⟨c4, c5⟩
  ·refine ih (n + 1) (by omega) (by omega) ⟨k0, fun j hj => ?_⟩ k x (by omega) e
   have h2 := h0 (j + 1) (by omega)
   simp only [spec_alpBeyond.l0, sufsA_length] at h2
   rw [if_pos (by omega), if_pos (by omega), sufsA_rd e0, if_neg c4, if_neg c5, w64 (i := (n : Int) + 1) (by omega) (by omega)] at h2
   exact h2
theorem alpTexts_true {c : List (List Int)} (hc : ∀ d ∈ c, d ≠ [] ∧ (∀ x ∈ d, isD x = true) ∧ d.length ≤ 100000) (hl : c.length ≤ 200000) : ∀ (m n : Nat), c.length - n = m → n ≤ 200000 → Ev (fun k => spec_alpTexts.l0 k (numsA c) (n : Int)) true := by
 intro m
 induction m with
 | zero =>
  intro n hm hn
  refine Ev.succ ?_
  simp only [spec_alpTexts.l0, numsA_length]
  refine Ev.neg (fun _ => by omega) ?_
  exact Ev.now _
 | succ m ih =>
  intro n hm hn
  have hlt : n < c.length := by omega
  have e : c[n]? = some c[n] := List.getElem?_eq_getElem hlt
  have hr : rd_T52 (numsA c) (n : Int) = ⟨strOfNums c[n], ⟨false, magB (decL c[n])⟩, (n : Int)⟩ := by
   unfold rd_T52
   rw [Int.toNat_natCast, List.getD_eq_getElem?_getD, numsA_get, e]
   rfl
  obtain ⟨h0, h1, _⟩ := hc c[n] (List.mem_of_getElem? e)
  refine Ev.succ ?_
  simp only [spec_alpTexts.l0, numsA_length]
  refine Ev.pos (fun _ => by omega) ?_
  refine Ev.pos (fun _ => by omega) ?_
  rw [hr]
  refine Ev.neg (fun _ e => h0 (by have := (toList_nil _).1 e; rwa [B_digits h1] at this)) ?_
  rw [w64 (i := (n : Int) + 1) (by omega) (by omega)]
  exact ih (n + 1) (by omega) (by omega)
theorem known_tells {p q : PV} (hp : PG p) (hq : PG q) (o r l h m o' r' l' h' m' : ByteArray) (hb ng hb' ng' : Bool) :
  ∃ t, Ev (fun k => spec_AlpineKnown.f k o r l h p.i (numsA p.c) (sufsA p.s) hb ng m o' r' l' h' q.i (numsA q.c) (sufsA q.s) hb' ng' m') t ∧ (t = true → p.i = q.i ∧ Beyond p.s q.s.length ∧ Beyond q.s p.s.length) := by
 obtain ⟨q3, e3⟩ := alpBeyond_any (sufsA p.s) (by rw [sufsA_length]; have := hp.sl; omega) _ (sufsA q.s).length rfl (by rw [sufsA_length]; have := hq.sl; omega)
 obtain ⟨q4, e4⟩ := alpBeyond_any (sufsA q.s) (by rw [sufsA_length]; have := hq.sl; omega) _ (sufsA p.s).length rfl (by rw [sufsA_length]; have := hp.sl; omega)
 have e1 := alpTexts_true hp.c hp.cl _ 0 rfl (by omega)
 have e2 := alpTexts_true hq.c hq.cl _ 0 rfl (by omega)
 simp only [spec_AlpineKnown.f, spec_alpTexts.f, spec_alpBeyond.f]
 by_cases c : (p.i == q.i) = true
 case neg => exact ⟨false, Ev.neg (fun _ => c) (Ev.now _), fun h => by cases h⟩
 cases q3
 ·exact ⟨false, Ev.pos (fun _ => c) (Ev.bind e1 (Ev.pos (fun _ => rfl) (Ev.bind e2 (Ev.pos (fun _ => rfl) (Ev.bind e3 (Ev.neg (fun _ => Bool.false_ne_true) (Ev.now _))))))), fun h => by cases h⟩
 refine ⟨q4, Ev.pos (fun _ => c) (Ev.bind e1 (Ev.pos (fun _ => rfl) (Ev.bind e2 (Ev.pos (fun _ => rfl) (Ev.bind e3 (Ev.pos (fun _ => rfl) (Ev.bind e4 (Ev.now _)))))))), fun h => ?_⟩
 subst h
 rw [sufsA_length] at e3 e4
 exact ⟨eq_of_beq c, beyond_true hp.sl _ _ rfl hq.sl e3, beyond_true hq.sl _ _ rfl hp.sl e4⟩
theorem parse_PG {l : List Int} (hl : l.length ≤ 100000) : PG (parseP l) := by
 have h1 := rest1_len l
 have h2 := rest2_len l
 refine ⟨fun d hd => ?_, ?_, fun x hx => ?_, ?_⟩
 ·obtain ⟨sub, e1, e2, e3, e4⟩ := numsP_shape l.length l
  have := numsP_part l.length l d hd
  exact ⟨(e4 d hd).1, (e4 d hd).2, by omega⟩
 ·have := numsP_count l.length l
  show (numsP l.length l).1.length ≤ _
  omega
 ·obtain ⟨a, b, c⟩ := sufsP_mem _ _ x hx
  exact ⟨a, c, by omega⟩
 ·have := sufsP_count (rest2 l).length (rest2 l)
  show (sufsP (rest2 l).length (rest2 l)).1.length ≤ _
  omega
end Go.Proofs.YtapaijpglfmfgaaGreatDoor.V
end
section -- BO
namespace Go.Proofs.YtapaijpglfmfgaaGreatDoor.V
open Go.RowKit Go.Proofs.YtapaijpglfmfgaaGreatDoor.Q Go.Proofs.YtapaijpglfmfgaaGreatDoorG Go.Proofs.YtapaijpglfmfgaaGreatDoorP Go.Proofs.YtapaijpglfmfgaaGreatDoorH Go.Proofs.YtapaijpglfmfgaaGreatDoorB Go.Proofs.YtapaijpglfmfgaaGreatDoorM Go.Proofs.YtapaijpglfmfgaaGreatDoorW.PrintWords Go.Proofs.YtapaijpglfmfgaaGreatDoorW.PrintLast Go.Proofs.YtapaijpglfmfgaaGreatDoorW.PrintMore
set_option linter.unusedVariables false
set_option linter.unusedSimpArgs false
theorem wrapU {x : Int} (h0 : 0 ≤ x) (h1 : x < 18446744073709551616) : IntKind.u64.wrap x = x := by
 rw [IntKind.wrap_u64]
 omega
theorem or_byte {a b : Nat} (hb : b < 256) : a * 256 ||| b = a * 256 + b := by
 have := Nat.two_pow_add_eq_or_of_lt (i := 8) (b := b) (by omega) a
 rw [Nat.mul_comm]
 exact this.symm
def pv (L : List Int) (i : Nat) : Nat := val (L.take i).reverse
theorem pv_succ {L : List Int} {i : Nat} (h : i < L.length) : pv L (i + 1) = 256 * pv L i + (L.getD i 0).toNat := by
 unfold pv
 rw [List.take_add_one, List.getElem?_eq_getElem h, List.reverse_append]
 show val (L[i] :: (L.take i).reverse) = _
 rw [List.getD_eq_getElem?_getD, List.getElem?_eq_getElem h]
 simp only [val, Option.getD_some]
 omega
theorem pv_lt {L : List Int} (hb : Byt L) (i : Nat) : pv L i < 256 ^ (L.take i).length := by
 have := val_lt (m := (L.take i).reverse) (fun x hx => hb x (List.mem_of_mem_take (List.mem_reverse.1 hx)))
 rwa [List.length_reverse] at this
theorem pv_all {L : List Int} : pv L L.length = val L.reverse := by unfold pv; rw [List.take_length]
theorem pow8 {i : Nat} (h : i ≤ 8) : (256 : Nat) ^ i ≤ 18446744073709551616 := by
 have := Nat.pow_le_pow_right (n := 256) (by omega) h
 exact this
theorem intText_l1 (n : Nat) : n < 18446744073709551616 → ∀ acc : ByteArray, acc.size + (decD n).length ≤ 1000 → ∃ r, Ev (fun k => laws_intText.l1 k (n : Int) acc) (r, true) ∧ bytesOf r = decD n ++ bytesOf acc := by
 induction n using Nat.strongRecOn with
 | ind n ih =>
  intro hn acc hacc
  have e1 : Int.tmod (n : Int) 10 = ((n % 10 : Nat) : Int) := by rw [Int.tmod_eq_emod_of_nonneg (by omega)]; omega
  have e2 : Int.tdiv (n : Int) 10 = ((n / 10 : Nat) : Int) := by rw [Int.tdiv_eq_ediv_of_nonneg (by omega)]; omega
  have e3 : IntKind.u64.wrap (48 + ((n % 10 : Nat) : Int)) = 48 + ((n % 10 : Nat) : Int) := wrapU (by omega) (by omega)
  have e4 : IntKind.u64.wrap ((n / 10 : Nat) : Int) = ((n / 10 : Nat) : Int) := wrapU (by omega) (by omega)
  have e5 : (48 + ((n % 10 : Nat) : Int)) % 256 = 48 + ((n % 10 : Nat) : Int) := by omega
  obtain ⟨D, hD⟩ : ∃ D, D = strOfNums [48 + ((n % 10 : Nat) : Int)] := ⟨_, rfl⟩
  have hb : bytesOf D = [48 + ((n % 10 : Nat) : Int)] := by rw [hD]; exact B_str (fun c hc => by have e : c = _ := List.mem_singleton.1 hc; omega)
  have hsz : D.size = 1 := by rw [B_size, hb]; rfl
  by_cases h : n < 10
  ·refine ⟨D ++ acc, Ev.succ ?_, ?_⟩
   ·simp only [laws_intText.l1, e1, e2, e3, e4, e5, Option.bind_some]
    rw [← hD]
    refine Ev.pos (fun _ => by omega) ?_
    refine Ev.pos (fun _ => by omega) ?_
    exact Ev.now _
   ·rw [B_append, hb, decD_small h, Nat.mod_eq_of_lt h]
  ·rw [decD_big h, List.length_append, List.length_singleton] at hacc
   have hs2 : (D ++ acc).size = 1 + acc.size := by rw [ByteArray.size_append, hsz]
   obtain ⟨r, hr, h1⟩ := ih (n / 10) (by omega) (by omega) (D ++ acc) (by omega)
   refine ⟨r, Ev.succ ?_, ?_⟩
   ·simp only [laws_intText.l1, e1, e2, e3, e4, e5, Option.bind_some]
    rw [← hD]
    refine Ev.pos (fun _ => by omega) ?_
    refine Ev.neg (fun _ => by omega) ?_
    exact hr
   ·rw [h1, B_append, hb, decD_big h, List.append_assoc]
theorem decD_len20 {n : Nat} (h : n < 18446744073709551616) : (decD n).length ≤ 20 := by
 refine decD_len 19 n ?_
 have e : (10 : Nat) ^ (19 + 1) = 100000000000000000000 := by decide
 omega
theorem decD_B (n : Nat) : bytesOf (strOfNums (decD n)) = decD n := B_digits (decD_spec n).2.1
theorem intText_l0 (x : ByteArray) (b : Bool) (n : Nat) (hx : x.size ≤ 8) (hv : val (bytesOf x).reverse = n) : ∀ (m i : Nat), x.size - i = m → i ≤ x.size → Ev (fun k => laws_intText.l0 k ((pv (bytesOf x) i : Nat) : Int) (i : Int) b x) (strOfNums (decD n), true) := by
 have hbyt : Byt (bytesOf x) := B_range x
 have hsz := B_size x
 intro m
 induction m with
 | zero =>
  intro i hm hi
  obtain rfl : i = x.size := by omega
  have e : pv (bytesOf x) x.size = n := by rw [hsz, pv_all]; exact hv
  have hlt : n < 18446744073709551616 := by
   have := pv_lt hbyt x.size
   rw [e] at this
   exact Nat.lt_of_lt_of_le this (pow8 (by rw [List.length_take]; omega))
  have hl := decD_len20 hlt
  obtain ⟨r, hr, hb⟩ := intText_l1 n hlt (⟨#[]⟩ : ByteArray) (by
   have e : (⟨#[]⟩ : ByteArray).size = 0 := rfl
   omega)
  have e0 : bytesOf (⟨#[]⟩ : ByteArray) = [] := rfl
  rw [e0, List.append_nil] at hb
  have er : r = strOfNums (decD n) := B_inj (by rw [hb, decD_B])
  rw [← er]
  refine Ev.succ ?_
  simp only [laws_intText.l0]
  refine Ev.neg (fun _ => by omega) ?_
  rw [e]
  exact hr
 | succ m ih =>
  intro i hm hi
  have hi2 : i < (bytesOf x).length := by omega
  have next := ih (i + 1) (by omega) (by omega)
  have hp := pv_lt hbyt i
  have hc := hbyt ((bytesOf x).getD i 0) (by rw [List.getD_eq_getElem?_getD, List.getElem?_eq_getElem hi2]; exact List.getElem_mem hi2)
  have h7 : pv (bytesOf x) i < 72057594037927936 := by
   refine Nat.lt_of_lt_of_le hp ?_
   have := Nat.pow_le_pow_right (n := 256) (by omega) (show ((bytesOf x).take i).length ≤ 7 by rw [List.length_take]; omega)
   exact this
  refine Ev.succ ?_
  simp only [laws_intText.l0, bt_nat]
  refine Ev.pos (fun _ => by omega) ?_
  refine Ev.pos (fun _ => by omega) ?_
  obtain ⟨c, hcn⟩ : ∃ c : Nat, (bytesOf x).getD i 0 = (c : Int) := ⟨((bytesOf x).getD i 0).toNat, by omega⟩
  rw [pv_succ hi2] at next
  rw [hcn] at next hc ⊢
  have e1 : IntKind.u64.wrap (((pv (bytesOf x) i : Nat) : Int) * 256) = ((pv (bytesOf x) i * 256 : Nat) : Int) := by rw [wrapU (by omega) (by omega)]; omega
  have e2 : IntKind.u64.wrap (c : Int) = (c : Int) := wrapU (by omega) (by omega)
  have e3 : wrap64 ((i : Int) + 1) = ((i + 1 : Nat) : Int) := by rw [w64 (by omega) (by omega)]; omega
  rw [e1, e2, e3, bits_or_u64_nat _ _ (by omega) (by omega), or_byte (by omega)]
  have e4 : pv (bytesOf x) i * 256 + c = 256 * pv (bytesOf x) i + (c : Int).toNat := by omega
  rw [e4]
  exact next
theorem intText_ev (n : Nat) : ∃ t, Ev (fun k => laws_intText.f k false (magB n)) t ∧ ((t = (strOfNums (decD n), true) ∧ n < 18446744073709551616) ∨ t = (⟨#[]⟩, false)) := by
 by_cases h : (magB n).size ≤ 8
 ·have hv : val (bytesOf (magB n)).reverse = n := by rw [B_mag]; exact (mag_tight n).eq
  refine ⟨_, ?_, .inl ⟨rfl, ?_⟩⟩
  ·simp only [laws_intText.f]
   refine Ev.neg (fun _ => Bool.false_ne_true) ?_
   have e : decide (((magB n).size : Int) > 8) = false := decide_eq_false (by omega)
   rw [e]
   refine Ev.succ ?_
   simp only [laws_intText.j0]
   refine Ev.neg (fun _ => Bool.false_ne_true) ?_
   exact intText_l0 (magB n) false n h hv _ 0 rfl (Nat.zero_le _)
  ·have := val_lt (m := (bytesOf (magB n)).reverse) (fun x hx => B_range (magB n) x (List.mem_reverse.1 hx))
   rw [hv, List.length_reverse, ← B_size] at this
   exact Nat.lt_of_lt_of_le this (pow8 h)
 ·refine ⟨_, ?_, .inr rfl⟩
  simp only [laws_intText.f]
  refine Ev.neg (fun _ => Bool.false_ne_true) ?_
  have e : decide (((magB n).size : Int) > 8) = true := decide_eq_true (by omega)
  rw [e]
  refine Ev.succ ?_
  simp only [laws_intText.j0]
  refine Ev.pos (fun _ => by first | rfl | trivial) ?_
  exact Ev.now _
theorem dec48 {n : Nat} : (strOfNums (decD n)).toList = ([48] : List UInt8) ↔ n = 0 := by
 rw [toList_lit, decD_B]
 show decD n = [48] ↔ n = 0
 constructor
 ·intro h
  by_cases h0 : n = 0
  ·exact h0
  ·obtain ⟨c, r, e, h1, _⟩ := (decD_head n).2 h0
   rw [e] at h
   have : c = 48 := by injection h
   omega
 ·exact fun h => (decD_head n).1 h
def digZ (n : Nat) : List Int := if n = 0 then [] else decD n
theorem digZ_isD (n : Nat) : ∀ c ∈ digZ n, isD c = true := by
 intro c hc
 unfold digZ at hc
 split at hc
 ·simp at hc
 ·exact (decD_spec n).2.1 c hc
theorem digZ_val (n : Nat) : decL (digZ n) = n := by
 unfold digZ
 split
 ·rename_i h; rw [h]; rfl
 ·exact (decD_spec n).2.2
theorem digZ_len {n : Nat} (h : n < 18446744073709551616) : (digZ n).length ≤ 20 := by
 unfold digZ
 split
 ·exact Nat.zero_le _
 ·exact decD_len20 h
def renS (x : List Int × List Int) : List Int × List Int := (x.1, digZ (decL x.2))
def endB (n : Nat) : List Int := if n = 0 then [] else 45 :: 114 :: decD n
def backL (p : PV) : List Int := joinP p.c ++ (p.l ++ (joinS (p.s.map renS) ++ (p.h ++ endB (decL p.b))))
def wts : List Int := [0, 1, 2, 3, 5, 6, 7, 8, 9]
def placeF (W : Int) : Nat → Nat → Int → Int
 | 0, _, a => a
 | m + 1, i, a => placeF W m (i + 1) (if wts.getD i 0 = W then (i : Int) else a)
theorem place_words : ∀ w ∈ sufWords, placeF (wgt w : Int) 9 0 (-1) = (sufWords.idxOf w : Int) ∧ sufWords.idxOf w < 9 ∧ sufWords.getD (sufWords.idxOf w) [] = w := by decide
theorem sufs_table : laws_suffixes.f = some sufBs := rfl
theorem wts_table : laws_weights.f = some wts := rfl
section
variable (o r l h : ByteArray) (iv : Bool) (ns : List S52) (ss : List S56) (hb ng : Bool) (m : ByteArray)
theorem l2_from (T : ByteArray) (ok : Bool) (S : List S56) (n i W : Int) (g : Bool) (mg : ByteArray) {res : ByteArray × Bool} : ∀ (d j : Nat) (a : Int), 9 - j = d → j ≤ 9 →
  Ev (fun k => laws_alpineText.l2 k T ok (placeF W d j a) S n i wts 9 9 o r l h iv ns ss hb ng m W g mg) res → Ev (fun k => laws_alpineText.l2 k T ok a S n i wts 9 (j : Int) o r l h iv ns ss hb ng m W g mg) res := by
 intro d
 induction d with
 | zero =>
  intro j a hd hj hE
  obtain rfl : j = 9 := by omega
  exact hE
 | succ d ih =>
  intro j a hd hj hE
  have hlen : wts.length = 9 := rfl
  have hj1 : wrap64 ((j : Int) + 1) = ((j + 1 : Nat) : Int) := by rw [w64 (by omega) (by omega)]; omega
  have hrd : rd wts (j : Int) = wts.getD j 0 := by simp [rd]
  refine Ev.succ ?_
  simp only [laws_alpineText.l2, hrd]
  refine Ev.pos (fun _ => by omega) ?_
  refine Ev.pos (fun _ => by omega) ?_
  refine Ev.pos (fun _ => by omega) ?_
  rw [hj1]
  have nx := ih (j + 1) (if wts.getD j 0 = W then (j : Int) else a) (by omega) (by omega) hE
  by_cases c : wts.getD j 0 = W
  ·refine Ev.pos (fun _ => c) ?_
   rw [if_pos c] at nx
   exact nx
  ·refine Ev.neg (fun _ => c) ?_
   rw [if_neg c] at nx
   exact nx
end
theorem sufBs_at {k : Nat} (h : k < 9) : bytesOf (rdOf ByteArray.empty sufBs (k : Int)) = sufWords.getD k [] := by rw [rdOf_B, sufBs_B]
theorem joinP_take {c : List (List Int)} {j : Nat} {d : List Int} (h : c[j]? = some d) : joinP (c.take (j + 1)) = joinP (c.take j) ++ (if j = 0 then d else 46 :: d) := by
 rw [List.take_add_one, h]
 show joinP (c.take j ++ [d]) = _
 have hlt : j < c.length := (List.getElem?_eq_some_iff.1 h).1
 cases j with
 | zero => simp [joinP]
 | succ j =>
  rw [if_neg (by omega)]
  cases c with
  | nil => simp at hlt
  | cons a r =>
   rw [List.take_succ_cons]
   simp [joinP]
theorem joinP_bound {c : List (List Int)} (h : ∀ d ∈ c, d.length ≤ 100000) : (joinP c).length ≤ 100001 * c.length := by
 have aux : ∀ r : List (List Int), (∀ d ∈ r, d.length ≤ 100000) → (r.flatMap fun x => 46 :: x).length ≤ 100001 * r.length := by
  intro r hr
  induction r with
  | nil => exact Nat.zero_le _
  | cons a r ih =>
   have h1 := hr a List.mem_cons_self
   have h2 := ih (fun d hd => hr d (List.mem_cons_of_mem _ hd))
   simp only [List.flatMap_cons, List.length_append, List.length_cons]
   omega
 cases c with
 | nil => exact Nat.zero_le _
 | cons d r =>
  have h1 := h d List.mem_cons_self
  have h2 := aux r (fun d hd => h d (List.mem_cons_of_mem _ hd))
  simp only [joinP, List.length_append, List.length_cons]
  omega
section
variable {p : PV} (hp : PG p) (o r : ByteArray) (iv hb : Bool) (hH : ∀ c ∈ p.h, 0 ≤ c ∧ c ≤ 255) (hh1 : p.h.length ≤ 100000)
include hp hH hh1
theorem l1_from : ∀ (d j : Nat) (T : ByteArray), p.s.length - j = d → j ≤ p.s.length → T.size ≤ 100000000000 + j * 100000 →
  ∃ R ok, Ev (fun k => laws_alpineText.l1 k T true (sufsA p.s) ((sufsA p.s).length : Int) (j : Int) o r (strOfNums p.l) (strOfNums p.h) iv (numsA p.c) (sufsA p.s) hb false (magB (decL p.b))) (R, ok) ∧
   (ok = true → p.c ≠ [] ∧ decL p.b < 18446744073709551616 ∧ (∀ x ∈ p.s.drop j, decL x.2 < 18446744073709551616) ∧ bytesOf R = bytesOf T ++ (joinS ((p.s.drop j).map renS) ++ (p.h ++ endB (decL p.b)))) := by
 intro d
 induction d with
 | zero =>
  intro j T hd hj hT
  obtain rfl : j = p.s.length := by omega
  have hsl := hp.sl
  have hhb : bytesOf (strOfNums p.h) = p.h := B_str hH
  have hhs : (strOfNums p.h).size = p.h.length := size_of hhb
  obtain ⟨t, ht, h2⟩ := intText_ev (decL p.b)
  have hstep : ∀ {q : ByteArray × Bool}, Ev (fun k => if t.1.toList = ([48] : List UInt8) then (if true = true then (some (T ++ strOfNums p.h, decide (((numsA p.c).length : Int) > 0))) else (some (T ++ strOfNums p.h, false))) else (if 2 + t.1.size ≤ 9223372036854775807 then (if (T ++ strOfNums p.h).size + ((⟨#[45, 114]⟩ : ByteArray) ++ t.1).size ≤ 9223372036854775807 then (if t.2 = true then (some ((T ++ strOfNums p.h) ++ ((⟨#[45, 114]⟩ : ByteArray) ++ t.1), decide (((numsA p.c).length : Int) > 0))) else (some ((T ++ strOfNums p.h) ++ ((⟨#[45, 114]⟩ : ByteArray) ++ t.1), false))) else (none)) else (none))) q →
    Ev (fun k => laws_alpineText.l1 k T true (sufsA p.s) ((sufsA p.s).length : Int) ((p.s.length : Nat) : Int) o r (strOfNums p.l) (strOfNums p.h) iv (numsA p.c) (sufsA p.s) hb false (magB (decL p.b))) q := by
   intro q hq
   refine Ev.succ ?_
   simp only [laws_alpineText.l1, sufsA_length]
   refine Ev.neg (fun _ => by omega) ?_
   refine Ev.pos (fun _ => by omega) ?_
   exact Ev.bind ht hq
  have e2 : (⟨#[45, 114]⟩ : ByteArray).size = 2 := rfl
  rw [List.drop_length]
  rcases h2 with ⟨rfl, hlt⟩ | rfl
  ·have hds := decD_len20 hlt
   have hdz : (strOfNums (decD (decL p.b))).size ≤ 20 := by rw [B_size, decD_B]; exact hds
   by_cases h0 : decL p.b = 0
   ·refine ⟨T ++ strOfNums p.h, decide (((numsA p.c).length : Int) > 0), hstep ?_, fun hok => ⟨?_, hlt, by simp, ?_⟩⟩
    ·refine Ev.pos (fun _ => dec48.2 h0) ?_
     refine Ev.pos (fun _ => by first | rfl | trivial) ?_
     exact Ev.now _
    ·have := of_decide_eq_true hok
     rw [numsA_length] at this
     intro e
     rw [e] at this
     simp at this
    ·rw [B_append, hhb]
     simp [endB, h0, joinS]
   ·refine ⟨(T ++ strOfNums p.h) ++ ((⟨#[45, 114]⟩ : ByteArray) ++ strOfNums (decD (decL p.b))), decide (((numsA p.c).length : Int) > 0), hstep ?_, fun hok => ⟨?_, hlt, by simp, ?_⟩⟩
    ·refine Ev.neg (fun _ e => h0 (dec48.1 e)) ?_
     refine Ev.pos (fun _ => by show 2 + (strOfNums (decD (decL p.b))).size ≤ _; omega) ?_
     refine Ev.pos (fun _ => by show (T ++ strOfNums p.h).size + ((⟨#[45, 114]⟩ : ByteArray) ++ strOfNums (decD (decL p.b))).size ≤ _; rw [app_size, app_size, e2]; omega) ?_
     refine Ev.pos (fun _ => by first | rfl | trivial) ?_
     exact Ev.now _
    ·have := of_decide_eq_true hok
     rw [numsA_length] at this
     intro e
     rw [e] at this
     simp at this
    ·rw [B_append, B_append, B_append, hhb, decD_B]
     have e3 : bytesOf (⟨#[45, 114]⟩ : ByteArray) = [45, 114] := rfl
     rw [e3]
     simp [endB, h0, joinS]
  ·refine ⟨(T ++ strOfNums p.h) ++ ((⟨#[45, 114]⟩ : ByteArray) ++ ⟨#[]⟩), false, hstep ?_, fun hok => by cases hok⟩
   refine Ev.neg (fun _ e => by have := (toList_lit _ _).1 e; cases this) ?_
   have e0 : (⟨#[]⟩ : ByteArray).size = 0 := rfl
   refine Ev.pos (fun _ => by show 2 + (⟨#[]⟩ : ByteArray).size ≤ _; omega) ?_
   refine Ev.pos (fun _ => by show (T ++ strOfNums p.h).size + ((⟨#[45, 114]⟩ : ByteArray) ++ ⟨#[]⟩).size ≤ _; rw [app_size, app_size, e2, e0]; omega) ?_
   refine Ev.neg (fun _ => Bool.false_ne_true) ?_
   exact Ev.now _
 | succ d ih =>
  intro j T hd hj hT
  have hsl := hp.sl
  have hlt : j < p.s.length := by omega
  obtain ⟨x, hx⟩ : ∃ x, p.s[j]? = some x := ⟨_, List.getElem?_eq_getElem hlt⟩
  obtain ⟨hw, hdg, hdl⟩ := hp.s x (List.mem_of_getElem? hx)
  obtain ⟨pl1, pl2, pl3⟩ := place_words x.1 hw
  have hwl := sufWords_len hw
  have hdrop : p.s.drop j = x :: p.s.drop (j + 1) := by
   have e : p.s[j] = x := by rw [List.getElem?_eq_getElem hlt] at hx; exact Option.some.inj hx
   rw [List.drop_eq_getElem_cons hlt, e]
  have hj1 : wrap64 ((j : Int) + 1) = ((j + 1 : Nat) : Int) := by rw [w64 (by omega) (by omega)]; omega
  obtain ⟨K, hK⟩ : ∃ K, K = sufWords.idxOf x.1 := ⟨_, rfl⟩
  rw [← hK] at pl1 pl2 pl3
  have hwb : bytesOf (rdOf ByteArray.empty sufBs (K : Int)) = x.1 := by rw [sufBs_at pl2, pl3]
  obtain ⟨Wd, hW⟩ : ∃ Wd, Wd = rdOf ByteArray.empty sufBs (K : Int) := ⟨_, rfl⟩
  rw [← hW] at hwb
  have hWs : Wd.size = x.1.length := size_of hwb
  have e95 : (⟨#[95]⟩ : ByteArray).size = 1 := rfl
  have b95 : bytesOf (⟨#[95]⟩ : ByteArray) = [95] := rfl
  obtain ⟨t, ht, h2⟩ := intText_ev (decL x.2)
  have hstep : ∀ {q : ByteArray × Bool}, Ev (fun k => if ((K : Nat) : Int) < 0 then (laws_alpineText.j3 k T true (K : Int) t.1 (sufsA p.s) ((sufsA p.s).length : Int) (j : Int) true o r (strOfNums p.l) (strOfNums p.h) iv (numsA p.c) (sufsA p.s) hb false (magB (decL p.b))) else (laws_alpineText.j3 k T true (K : Int) t.1 (sufsA p.s) ((sufsA p.s).length : Int) (j : Int) (!t.2) o r (strOfNums p.l) (strOfNums p.h) iv (numsA p.c) (sufsA p.s) hb false (magB (decL p.b)))) q →
    Ev (fun k => laws_alpineText.l1 k T true (sufsA p.s) ((sufsA p.s).length : Int) (j : Int) o r (strOfNums p.l) (strOfNums p.h) iv (numsA p.c) (sufsA p.s) hb false (magB (decL p.b))) q := by
   intro q hq
   refine Ev.succ ?_
   simp only [laws_alpineText.l1]
   refine Ev.pos (fun _ => by rw [sufsA_length]; omega) ?_
   refine Ev.pos (fun _ => by omega) ?_
   refine Ev.pos (fun _ => by rw [sufsA_length]; omega) ?_
   refine Ev.bind0 wts_table ?_
   rw [sufsA_rd hx]
   refine l2_from _ _ _ _ _ _ _ _ _ _ _ _ _ _ _ _ _ _ 9 0 (-1) rfl (by omega) ?_
   rw [pl1]
   refine Ev.succ ?_
   simp only [laws_alpineText.l2]
   refine Ev.neg (fun _ => by omega) ?_
   exact Ev.bind ht hq
  rcases h2 with ⟨rfl, hlt2⟩ | rfl
  ·have hds := decD_len20 hlt2
   have hdz : (strOfNums (decD (decL x.2))).size ≤ 20 := by rw [B_size, decD_B]; exact hds
   obtain ⟨T2, hT2, hT2b⟩ : ∃ T2 : ByteArray, T2 = (if decL x.2 = 0 then T ++ ((⟨#[95]⟩ : ByteArray) ++ Wd) else (T ++ ((⟨#[95]⟩ : ByteArray) ++ Wd)) ++ strOfNums (decD (decL x.2))) ∧ bytesOf T2 = bytesOf T ++ (95 :: (x.1 ++ digZ (decL x.2))) := by
    refine ⟨_, rfl, ?_⟩
    unfold digZ
    split
    ·rw [B_append, B_append, b95, hwb]; simp
    ·rw [B_append, B_append, B_append, b95, hwb, decD_B]; simp
   have hT2s : T2.size ≤ 100000000000 + (j + 1) * 100000 := by
    rw [hT2]
    split
    ·rw [app_size, app_size, e95]; omega
    ·rw [app_size, app_size, app_size, e95]; omega
   obtain ⟨R, ok, hR, hg⟩ := ih (j + 1) T2 (by omega) (by omega) hT2s
   refine ⟨R, ok, hstep ?_, fun hok => ?_⟩
   ·refine Ev.neg (fun _ => by omega) ?_
    refine Ev.succ ?_
    simp only [laws_alpineText.j3]
    refine Ev.neg (fun _ => Bool.false_ne_true) ?_
    refine Ev.bind0 sufs_table ?_
    refine Ev.pos (fun _ => by omega) ?_
    refine Ev.pos (fun _ => by show (K : Int) < ((9 : Nat) : Int); omega) ?_
    rw [← hW]
    refine Ev.pos (fun _ => by omega) ?_
    refine Ev.pos (fun _ => by rw [app_size, e95]; omega) ?_
    rw [hj1]
    by_cases h0 : decL x.2 = 0
    ·refine Ev.pos (fun _ => dec48.2 h0) ?_
     rw [if_pos h0] at hT2
     rw [← hT2]
     exact hR
    ·refine Ev.neg (fun _ e => h0 (dec48.1 e)) ?_
     rw [if_neg h0] at hT2
     refine Ev.pos (fun _ => by show (T ++ ((⟨#[95]⟩ : ByteArray) ++ Wd)).size + (strOfNums (decD (decL x.2))).size ≤ _; rw [app_size, app_size, e95]; omega) ?_
     show Ev (fun k => laws_alpineText.l1 k ((T ++ ((⟨#[95]⟩ : ByteArray) ++ Wd)) ++ strOfNums (decD (decL x.2))) _ _ _ _ _ _ _ _ _ _ _ _ _ _) _
     rw [← hT2]
     exact hR
   ·obtain ⟨g1, g2, g3, g4⟩ := hg hok
    refine ⟨g1, g2, fun y hy => ?_, ?_⟩
    ·rw [hdrop] at hy
     rcases List.mem_cons.1 hy with rfl | hy
     ·exact hlt2
     ·exact g3 y hy
    ·rw [g4, hT2b, hdrop, List.map_cons, joinS_cons]
     simp [renS]
  ·refine ⟨⟨#[]⟩, false, hstep ?_, fun hok => by cases hok⟩
   refine Ev.neg (fun _ => by omega) ?_
   refine Ev.succ ?_
   simp only [laws_alpineText.j3]
   refine Ev.pos (fun _ => by first | rfl | trivial) ?_
   exact Ev.now _
variable (hL : ∀ c ∈ p.l, 0 ≤ c ∧ c ≤ 255) (hl1 : p.l.length ≤ 100000)
include hL hl1
theorem l0_from : ∀ (d j : Nat) (T : ByteArray), p.c.length - j = d → j ≤ p.c.length → bytesOf T = joinP (p.c.take j) →
  ∃ R ok, Ev (fun k => laws_alpineText.l0 k T (numsA p.c) ((numsA p.c).length : Int) (j : Int) o r (strOfNums p.l) (strOfNums p.h) iv (numsA p.c) (sufsA p.s) hb false (magB (decL p.b))) (R, ok) ∧
   (ok = true → p.c ≠ [] ∧ decL p.b < 18446744073709551616 ∧ (∀ x ∈ p.s, decL x.2 < 18446744073709551616) ∧ bytesOf R = backL p) := by
 intro d
 have hcl := hp.cl
 induction d with
 | zero =>
  intro j T hd hj hT
  obtain rfl : j = p.c.length := by omega
  rw [List.take_length] at hT
  have hlb : bytesOf (strOfNums p.l) = p.l := B_str hL
  have hls : (strOfNums p.l).size = p.l.length := size_of hlb
  have hTs : T.size ≤ 20000200000 := by
   rw [B_size, hT]
   have := joinP_bound (c := p.c) (fun d hd => (hp.c d hd).2.2)
   omega
  obtain ⟨R, ok, hR, hg⟩ := l1_from hp o r iv hb hH hh1 _ 0 (T ++ strOfNums p.l) rfl (Nat.zero_le _) (by rw [app_size]; omega)
  refine ⟨R, ok, ?_, fun hok => ?_⟩
  ·refine Ev.succ ?_
   simp only [laws_alpineText.l0]
   refine Ev.neg (fun _ => by rw [numsA_length]; omega) ?_
   refine Ev.pos (fun _ => by omega) ?_
   exact hR
  ·obtain ⟨g1, g2, g3, g4⟩ := hg hok
   rw [List.drop_zero] at g3 g4
   refine ⟨g1, g2, g3, ?_⟩
   rw [g4, B_append, hT, hlb]
   unfold backL
   simp only [List.append_assoc]
 | succ d ih =>
  intro j T hd hj hT
  have hlt : j < p.c.length := by omega
  obtain ⟨x, hx⟩ : ∃ x, p.c[j]? = some x := ⟨_, List.getElem?_eq_getElem hlt⟩
  obtain ⟨h0, h1, h2⟩ := hp.c x (List.mem_of_getElem? hx)
  have hxb := B_digits h1
  have hxs : (strOfNums x).size = x.length := size_of hxb
  have hr : rd_T52 (numsA p.c) (j : Int) = ⟨strOfNums x, ⟨false, magB (decL x)⟩, (j : Int)⟩ := by
   unfold rd_T52
   rw [Int.toNat_natCast, List.getD_eq_getElem?_getD, numsA_get, hx]
   rfl
  have hTs : T.size ≤ 20000200000 := by
   rw [B_size, hT]
   have := joinP_bound (c := p.c.take j) (fun d hd => (hp.c d (List.mem_of_mem_take hd)).2.2)
   rw [List.length_take] at this
   omega
  have hj1 : wrap64 ((j : Int) + 1) = ((j + 1 : Nat) : Int) := by rw [w64 (by omega) (by omega)]; omega
  have e46 : (⟨#[46]⟩ : ByteArray).size = 1 := rfl
  have b46 : bytesOf (⟨#[46]⟩ : ByteArray) = [46] := rfl
  obtain ⟨R, ok, hR, hg⟩ := ih (j + 1) (if j = 0 then T ++ strOfNums x else (T ++ (⟨#[46]⟩ : ByteArray)) ++ strOfNums x) (by omega) (by omega) (by
   rw [joinP_take hx, ← hT]
   split
   ·rw [B_append, hxb]
   ·rw [B_append, B_append, b46, hxb]; simp)
  refine ⟨R, ok, ?_, hg⟩
  refine Ev.succ ?_
  simp only [laws_alpineText.l0]
  refine Ev.pos (fun _ => by rw [numsA_length]; omega) ?_
  refine Ev.pos (fun _ => by omega) ?_
  refine Ev.pos (fun _ => by rw [numsA_length]; omega) ?_
  rw [hr, hj1]
  by_cases hj0 : j = 0
  ·rw [if_pos hj0] at hR
   refine Ev.neg (fun _ => by omega) ?_
   refine Ev.pos (fun _ => by show T.size + (strOfNums x).size ≤ _; omega) ?_
   exact hR
  ·rw [if_neg hj0] at hR
   refine Ev.pos (fun _ => by omega) ?_
   refine Ev.pos (fun _ => by omega) ?_
   refine Ev.pos (fun _ => by show (T ++ (⟨#[46]⟩ : ByteArray)).size + (strOfNums x).size ≤ _; rw [app_size, e46]; omega) ?_
   exact hR
theorem alpineText_ev : ∃ R ok, Ev (fun k => laws_alpineText.f k o r (strOfNums p.l) (strOfNums p.h) iv (numsA p.c) (sufsA p.s) hb false (magB (decL p.b))) (R, ok) ∧
      (ok = true → p.c ≠ [] ∧ decL p.b < 18446744073709551616 ∧ (∀ x ∈ p.s, decL x.2 < 18446744073709551616) ∧ bytesOf R = backL p) := by
  simp only [laws_alpineText.f]
  exact l0_from hp o r iv hb hH hh1 hL hl1 _ 0 _ rfl (Nat.zero_le _) rfl
end
theorem numsP_total : ∀ (n : Nat) (l : List Int), (joinP (numsP n l).1).length + (numsP n l).2.length ≤ l.length
 | 0, l => by simp [numsP, joinP]
 | n + 1, l => by
  simp only [numsP]
  by_cases h0 : run isD l = 0
  ·rw [if_pos h0]; simp [joinP]
  ·rw [if_neg h0]
   have hl := run_le isD l
   by_cases h1 : (l.drop (run isD l)).getD 0 0 = 46
   ·rw [if_pos h1]
    have hlt : run isD l < l.length := by
     rcases Nat.lt_or_ge (run isD l) l.length with h | h
     ·exact h
     ·rw [List.drop_of_length_le h] at h1; exact absurd h1 (by decide)
    have ih := numsP_total n (l.drop (run isD l + 1))
    rw [List.length_drop] at ih
    have hj : ∀ (d : List Int) (r : List (List Int)), (joinP (d :: r)).length ≤ d.length + 1 + (joinP r).length := by
     intro d r
     cases r with
     | nil => simp [joinP]
     | cons a r => simp [joinP]; omega
    have := hj (l.take (run isD l)) (numsP n (l.drop (run isD l + 1))).1
    rw [List.length_take] at this
    simp only
    omega
   ·rw [if_neg h1]
    simp [joinP]
    omega
theorem letterP_good (l : List Int) : ((letterP l).1 = [] ∨ ∃ x, (letterP l).1 = [x] ∧ isL x = true) := by
 unfold letterP
 split
 ·rename_i h
  cases l with
  | nil => exact absurd h (by decide)
  | cons a r => exact .inr ⟨a, rfl, h⟩
 ·exact .inl rfl
theorem hashP_good (l : List Int) : (hashP l).1 = [] ∨ ∃ x, (hashP l).1 = 126 :: x ∧ x ≠ [] ∧ ∀ c ∈ x, isX c = true := by
 unfold hashP
 split
 ·rename_i h
  obtain ⟨h1, h2⟩ := h
  have e := getD_head h1 (by omega)
  refine .inr ⟨(l.drop 1).take (run isX (l.drop 1)), ?_, take_run_ne h2, fun c hc => run_mem hc⟩
  show l.take (1 + run isX (l.drop 1)) = _
  obtain ⟨q, hq⟩ : ∃ q, q = l.drop 1 := ⟨_, rfl⟩
  rw [← hq] at e ⊢
  rw [e, Nat.add_comm, List.take_succ_cons]
 ·exact .inl rfl
theorem endB_stop (n : Nat) : Stop (endB n) := by
 unfold endB
 split
 ·exact Stop.nil
 ·exact Stop.cons (by decide) (by decide) (by decide) (by decide) (by decide)
theorem endB_build (n : Nat) : buildP (endB n) = (false, digZ n, []) := by
 unfold endB digZ
 split
 ·rfl
 ·have hr : run isD (decD n) = (decD n).length := run_all (decD_spec n).2.1
  unfold buildP
  rw [if_neg (by simp), if_pos (show List.take 2 (45 :: 114 :: decD n) = [45, 114] from rfl)]
  show (false, (decD n).take (run isD (decD n)), (decD n).drop (run isD (decD n))) = _
  rw [hr, List.take_length, List.drop_length]
theorem back_parse {l : List Int} (hl : l.length ≤ 100000) (h0 : (parseP l).c ≠ []) :
  parseP (backL (parseP l)) = ⟨backL (parseP l), (parseP l).c, (parseP l).l, (parseP l).s.map renS, (parseP l).h, false, digZ (decL (parseP l).b), []⟩ := by
 have g := parse_PG hl
 have := (parse_join (c := (parseP l).c) (t := (parseP l).l) (s := (parseP l).s.map renS) (h := (parseP l).h) (E := endB (decL (parseP l).b)) h0 (fun d hd => ⟨(g.c d hd).1, (g.c d hd).2.1⟩) (letterP_good _)
  (fun x hx => by
   obtain ⟨y, hy, rfl⟩ := List.mem_map.1 hx
   exact ⟨(g.s y hy).1, digZ_isD _⟩) (hashP_good _) (endB_stop _)).1
 rw [endB_build] at this
 exact this
theorem back_len {l : List Int} (hl : l.length ≤ 1200) (hb : decL (parseP l).b < 18446744073709551616) (hs : ∀ x ∈ (parseP l).s, decL x.2 < 18446744073709551616) : (backL (parseP l)).length ≤ 100000 := by
 have h1 := numsP_total l.length l
 have h2 : (parseP l).l.length ≤ 1 := by rcases letterP_good (rest1 l) with e | ⟨x, e, _⟩ <;> (show (letterP (rest1 l)).1.length ≤ 1; rw [e]; simp)
 have h3 : (joinS ((parseP l).s.map renS)).length ≤ 26 * (parseP l).s.length := by
  have : ∀ s : List (List Int × List Int), (∀ x ∈ s, x.1.length ≤ 5 ∧ decL x.2 < 18446744073709551616) → (joinS (s.map renS)).length ≤ 26 * s.length := by
   intro s h
   induction s with
   | nil => exact Nat.zero_le _
   | cons a r ih =>
    have q1 := h a List.mem_cons_self
    have q2 := ih (fun d hd => h d (List.mem_cons_of_mem _ hd))
    have q3 := digZ_len q1.2
    rw [List.map_cons, joinS_cons]
    simp only [List.length_append, List.length_cons, renS]
    omega
  exact this _ (fun x hx => ⟨(sufWords_len (sufsP_mem _ _ x hx).1).2, hs x hx⟩)
 have h4 : (parseP l).s.length ≤ 1200 := by
  have := sufsP_count (rest2 l).length (rest2 l)
  have := rest2_len l
  show (sufsP (rest2 l).length (rest2 l)).1.length ≤ _
  omega
 have h5 : (parseP l).h.length ≤ 1200 := by
  have := rest3_len l
  show (hashP (rest3 l)).1.length ≤ _
  unfold hashP
  split
  ·rw [List.length_take]; omega
  ·simp
 have h6 : (endB (decL (parseP l).b)).length ≤ 22 := by
  unfold endB
  split
  ·simp
  ·have := decD_len20 hb
   simp
   omega
 have h7 : (joinP (parseP l).c).length ≤ 1200 := by
  show (joinP (numsP l.length l).1).length ≤ _
  omega
 unfold backL
 simp only [List.length_append]
 omega
theorem sufsA_ren (s : List (List Int × List Int)) : sufsA (s.map renS) = sufsA s := by
 unfold sufsA
 rw [List.map_map]
 refine List.map_congr_left (fun x _ => ?_)
 show (⟨(wgt x.1 : Int), ⟨false, magB (decL (digZ (decL x.2)))⟩⟩ : S56) = _
 rw [digZ_val]
theorem sxL_ren {s : List (List Int × List Int)} (h : ∀ x ∈ s, (∀ c ∈ x.2, isD c = true) ∧ x.2.length ≤ 100000 ∧ decL x.2 < 18446744073709551616) : sxL (s.map renS) = sxL s := by
 unfold sxL
 rw [List.map_map, List.map_map, List.map_map]
 refine List.map_congr_left (fun x hx => ?_)
 obtain ⟨h1, h2, h3⟩ := h x hx
 have a : toSx (convS x) = ⟨(wgt x.1 : Int), 0, decL x.2⟩ := toSx_at (w := x.1) h1 (by omega)
 have b : toSx (convS (renS x)) = ⟨(wgt x.1 : Int), 0, decL (digZ (decL x.2))⟩ := toSx_at (w := x.1) (digZ_isD _) (by have := digZ_len h3; omega)
 rw [digZ_val] at b
 show toSx (convS (renS x)) = toSx (convS x)
 rw [a, b]
theorem sufs_selfC (l : List Sx) : sufsC l l = 0 := by
 unfold sufsC
 refine fromC_zero (fun k => ?_) _ _
 unfold sufD sufC
 rw [if_neg (by omega), if_neg (by omega), cmpN_self]
theorem texts_ev (x y : ByteArray) (hx : x.size ≤ 100000) (hy : y.size ≤ 100000) : ∃ q, Ev (fun k => spec_AlpineTexts.f k x y) q := by
 simp only [spec_AlpineTexts.f]
 have hout : Ev (fun k => spec_AlpineTexts.j0 k x y true) false := by
  refine Ev.succ ?_
  simp only [spec_AlpineTexts.j0]
  refine Ev.pos (fun _ => by first | rfl | trivial) ?_
  exact Ev.now _
 have P1 := parse_PG (l := bytesOf x) (by rw [← B_size]; exact hx)
 have P2 := parse_PG (l := bytesOf y) (by rw [← B_size]; exact hy)
 obtain ⟨q, hq, _⟩ := known_tells P1 P2 x (strOfNums (parseP (bytesOf x)).r) (strOfNums (parseP (bytesOf x)).l) (strOfNums (parseP (bytesOf x)).h) (magB (decL (parseP (bytesOf x)).b)) y (strOfNums (parseP (bytesOf y)).r) (strOfNums (parseP (bytesOf y)).l) (strOfNums (parseP (bytesOf y)).h) (magB (decL (parseP (bytesOf y)).b)) true false true false
 have hin : Ev (fun k => spec_AlpineTexts.j0 k x y false) q := by
  refine Ev.succ ?_
  simp only [spec_AlpineTexts.j0]
  refine Ev.neg (fun _ => Bool.false_ne_true) ?_
  refine Ev.bind (parse_ev x hx) ?_
  refine Ev.bind (parse_ev y hy) ?_
  refine Ev.bind hq ?_
  exact Ev.now _
 have k1 := known_ev x hx
 have k2 := known_ev y hy
 generalize (decide (∀ c ∈ bytesOf x, c ≤ 127) && clearB (rest3 (bytesOf x))) = b1 at k1
 generalize (decide (∀ c ∈ bytesOf y, c ≤ 127) && clearB (rest3 (bytesOf y))) = b2 at k2
 cases b1
 ·exact ⟨false, Ev.bind k1 (Ev.neg (fun _ => Bool.false_ne_true) hout)⟩
 cases b2
 ·exact ⟨false, Ev.bind k1 (Ev.pos (fun _ => rfl) (Ev.bind k2 hout))⟩
 ·exact ⟨q, Ev.bind k1 (Ev.pos (fun _ => rfl) (Ev.bind k2 hin))⟩
theorem FnAlpineBack : laws_FnAlpineBack.Pure := by
 intro s hs
 refine Ev.rounds ?_
 simp only [laws_FnAlpineBack.f]
 by_cases hbig : (s.size : Int) > 2147483647
 ·refine Ev.pos (fun _ => hbig) ?_
  exact Ev.now _
 refine Ev.neg (fun _ => hbig) ?_
 refine Ev.bind (short_one s) ?_
 have hout0 : Ev (fun k => laws_FnAlpineBack.j0 k s true) true := by
  refine Ev.succ ?_
  simp only [laws_FnAlpineBack.j0]
  refine Ev.pos (fun _ => by first | rfl | trivial) ?_
  exact Ev.now _
 by_cases h1 : s.size ≤ 1200
 case neg =>
  refine Ev.neg (fun _ e => h1 (of_decide_eq_true e)) ?_
  exact hout0
 refine Ev.pos (fun _ => decide_eq_true h1) ?_
 refine Ev.bind (known_ev s (by omega)) ?_
 cases hk : (decide (∀ x ∈ bytesOf s, x ≤ 127) && clearB (rest3 (bytesOf s)))
 ·exact hout0
 have hok : AOk s := ⟨by omega, (Bool.and_eq_true_iff.1 hk).2⟩
 have hpv := parse_ev s (by omega)
 have hz := bytesOf_length s
 have PG1 := parse_PG (l := bytesOf s) (by omega)
 obtain ⟨p, hp⟩ : ∃ p, p = parseP (bytesOf s) := ⟨_, rfl⟩
 rw [← hp] at hpv PG1
 have hI : impl_AlpineParse.f s = some (s, strOfNums p.r, strOfNums p.l, strOfNums p.h, p.i, numsA p.c, sufsA p.s, true, false, magB (decL p.b), true) := by
  unfold impl_AlpineParse.f
  rw [if_pos hok, ← hp]
 refine Ev.succ ?_
 simp only [laws_FnAlpineBack.j0]
 refine Ev.neg (fun _ => Bool.false_ne_true) ?_
 refine Ev.bind0 hI ?_
 refine Ev.bind hpv ?_
 refine Ev.neg (fun _ => by simp) ?_
 refine Ev.pos (fun _ => by first | rfl | trivial) ?_
 refine Ev.succ ?_
 simp only [laws_FnAlpineBack.j1]
 by_cases hi : p.i = true
 ·refine Ev.pos (fun _ => hi) ?_
  refine Ev.eq (Ev.now _) ?_
  rfl
 have hi : p.i = false := Bool.eq_false_iff.2 hi
 refine Ev.neg (fun _ => by rw [hi]; exact Bool.false_ne_true) ?_
 have hlet : p.l = [] ∨ ∃ x, p.l = [x] ∧ isL x = true := by rw [hp]; exact letterP_good _
 have hhash : p.h = [] ∨ ∃ x, p.h = 126 :: x ∧ x ≠ [] ∧ ∀ c ∈ x, isX c = true := by rw [hp]; exact hashP_good _
 have hL : ∀ c ∈ p.l, 0 ≤ c ∧ c ≤ 255 := by
  intro c hc
  rcases hlet with e | ⟨x, e, hx⟩
  ·rw [e] at hc; simp at hc
  ·rw [e] at hc
   have : c = x := by simpa using hc
   subst this
   unfold isL at hx
   have := of_decide_eq_true hx
   omega
 have hX : ∀ c, isX c = true → 0 ≤ c ∧ c ≤ 255 := by
  intro c hX
  have : (48 ≤ c ∧ c ≤ 57) ∨ (97 ≤ c ∧ c ≤ 102) := by simpa [isX, isD] using hX
  omega
 have hH : ∀ c ∈ p.h, 0 ≤ c ∧ c ≤ 255 := by
  intro c hc
  rcases hhash with e | ⟨x, e, _, hx⟩
  ·rw [e] at hc; simp at hc
  ·rw [e] at hc
   rcases List.mem_cons.1 hc with e1 | hc
   ·omega
   ·exact hX c (hx c hc)
 have hl1 : p.l.length ≤ 100000 := by rcases hlet with e | ⟨x, e, _⟩ <;> rw [e] <;> simp
 have hh1 : p.h.length ≤ 100000 := by
  rw [hp]
  have := rest3_len (bytesOf s)
  show (hashP (rest3 (bytesOf s))).1.length ≤ _
  unfold hashP
  split
  ·rw [List.length_take]; omega
  ·simp
 obtain ⟨R, ok, hR, hg⟩ := alpineText_ev PG1 s (strOfNums p.r) p.i true hH hh1 hL hl1
 have hout2 : ∀ (t : ByteArray), Ev (fun k => laws_FnAlpineBack.j2 k s t true s (strOfNums p.r) (strOfNums p.l) (strOfNums p.h) p.i (numsA p.c) (sufsA p.s) true false (magB (decL p.b))) true := by
  intro t
  refine Ev.succ ?_
  simp only [laws_FnAlpineBack.j2]
  refine Ev.pos (fun _ => by first | rfl | trivial) ?_
  exact Ev.now _
 refine Ev.bind hR ?_
 cases ok
 ·refine Ev.neg (fun _ => Bool.false_ne_true) ?_
  exact hout2 _
 refine Ev.pos (fun _ => by first | rfl | trivial) ?_
 obtain ⟨g1, g2, g3, g4⟩ := hg rfl
 by_cases hr : (strOfNums p.r).toList = ([] : List UInt8)
 case neg =>
  refine Ev.neg (fun _ => hr) ?_
  exact hout2 _
 refine Ev.pos (fun _ => hr) ?_
 have hr0 : strOfNums p.r = ⟨#[]⟩ := B_inj ((toList_nil _).1 hr)
 have hbl : (backL p).length ≤ 100000 := by rw [hp] at g2 g3 ⊢; exact back_len (by omega) g2 g3
 have hRs : R.size ≤ 100000 := by rw [B_size, g4]; exact hbl
 have hRp : parseP (bytesOf R) = ⟨backL p, p.c, p.l, p.s.map renS, p.h, false, digZ (decL p.b), []⟩ := by
  rw [g4, hp]
  exact back_parse (by omega) (by rw [← hp]; exact g1)
 refine Ev.bind (known_ev R hRs) ?_
 cases hkR : (decide (∀ x ∈ bytesOf R, x ≤ 127) && clearB (rest3 (bytesOf R)))
 ·refine Ev.neg (fun _ => Bool.false_ne_true) ?_
  exact hout2 _
 refine Ev.pos (fun _ => by first | rfl | trivial) ?_
 have hokR : AOk R := ⟨hRs, (Bool.and_eq_true_iff.1 hkR).2⟩
 obtain ⟨q, hq⟩ := texts_ev s R (by omega) hRs
 refine Ev.bind hq ?_
 cases q
 ·exact hout2 _
 refine Ev.succ ?_
 simp only [laws_FnAlpineBack.j2]
 refine Ev.neg (fun _ => Bool.false_ne_true) ?_
 have hIR : impl_AlpineParse.f R = some (R, ⟨#[]⟩, strOfNums p.l, strOfNums p.h, false, numsA p.c, sufsA p.s, true, false, magB (decL p.b), true) := by
  unfold impl_AlpineParse.f
  rw [if_pos hokR, hRp]
  simp only
  rw [sufsA_ren, digZ_val]
  rfl
 refine Ev.bind0 hIR ?_
 have hC : impl_AlpineCompareText.f s R = some (0, true) := by
  rw [cmp_text hok hokR, ← hp, hRp]
  have e : apC (apOf p) (apOf ⟨backL p, p.c, p.l, p.s.map renS, p.h, false, digZ (decL p.b), []⟩) = 0 := by
   have es := sxL_ren (s := p.s) (fun x hx => ⟨(PG1.s x hx).2.1, (PG1.s x hx).2.2, g3 x hx⟩)
   have e1 : apC (apOf p) (apOf ⟨backL p, p.c, p.l, p.s.map renS, p.h, false, digZ (decL p.b), []⟩) = if p.i = true ∧ false = true then strCmp (strOfNums p.o) (strOfNums (backL p)) else firstNe (compsC (nmL p.c) (nmL p.c)) (firstNe (lettersCmp (strOfNums p.l) (strOfNums p.l)) (firstNe (sufsC (sxL p.s) (sxL (p.s.map renS))) (firstNe (cmpN (decL p.b) (decL (digZ (decL p.b)))) (firstNe (remCmp (strOfNums p.r) ⟨#[]⟩) 0)))) := rfl
   rw [e1, if_neg (fun h => Bool.false_ne_true h.2), es, digZ_val, hr0, comps_self, letters_self, sufs_selfC, cmpN_self, rem_self]
   rfl
  rw [e]
 refine Ev.bind0 hC ?_
 refine Ev.pos (fun _ => by first | rfl | trivial) ?_
 rw [hi, hr0]
 have hs1 := same_ev s ⟨#[]⟩ (strOfNums p.l) (strOfNums p.h) false (numsA p.c) (sufsA p.s) (by rw [numsA_length]; exact PG1.cl) (by rw [sufsA_length]; exact PG1.sl) true false (magB (decL p.b))
 refine Ev.bind hs1 ?_
 refine Ev.pos (fun _ => by first | rfl | trivial) ?_
 refine Ev.pos (fun _ => by first | rfl | trivial) ?_
 exact Ev.now _
end Go.Proofs.YtapaijpglfmfgaaGreatDoor.V
end
section -- PureFnAlpineBack
namespace Go.Proofs.YtapaijpglfmfgaaGreatDoor.Pure
theorem FnAlpineBack : Q.laws_FnAlpineBack.Pure := V.FnAlpineBack
end Go.Proofs.YtapaijpglfmfgaaGreatDoor.Pure
end
section -- K19
namespace Go.Proofs.YtapaijpglfmfgaaGreatDoorG
open Go.RowKit Go.ChangeShapes Go.Proofs.YtapaijpglfmfgaaGreatDoorW.PrintWords Go.Proofs.YtapaijpglfmfgaaGreatDoorW.PrintLast
set_option linter.unusedVariables false
theorem err_star : "*" ++ "errors.errorString" = "*errors.errorString" := by decide
theorem err_row (u : TypeId) (h : Tryz.prog.typeName? 3 u = some "*errors.errorString") : u = 193 :=
 typeName_ptr_named (nm := "errors.errorString") (by rw [err_star]; kernel_rfl) (by kernel_rfl) (by decide) u (by rw [err_star]; exact h)
theorem sent {n : String} {text : List UInt8} {g : Nat} {W : World} (hg : Tryz.prog.globalNamed n = some g) (ht : (Tryz.prog.globals[g]?).map (·.type) = some 73)
    (h : laidMet Tryz.prog [(n, .iface "*errors.errorString" (.ptr (.agg [.lit (.string text)])))] W) : (∃ a, W.cell? ⟨g, 0, none⟩ = some (ErrV a)) ∧ g < W.heap.size := by
  obtain ⟨a, s, hv, _⟩ := laid_sentinel h hg ht Tryz.underlying73 err_row Tryz.underlying193 Tryz.underlying210 rfl rfl Tryz.underlying9 (by kernel_rfl) (by kernel_rfl)
  have hc : W.cell? ⟨g, 0, none⟩ = some (ErrV a) := by
    have h0 := World.var?_cell hg hv 0
    simpa [ErrV] using h0
  refine ⟨⟨a, hc⟩, ?_⟩
  rcases Nat.lt_or_ge g W.heap.size with hl | hl
  · exact hl
  · unfold World.cell? at hc
    rw [Array.getElem?_eq_none hl] at hc
    cases hc
theorem GL_of {l : List (String × DataW Unit)} {W : World} (hL : laidMetH Tryz.prog l W) (hp : (l.all fun x => x.2.handleName?.isNone) = true)
  (e1 : l.filter (fun x => x.1 == "io.EOF") = [("io.EOF", Go.Proofs.YtapaijpglfmfgaaGreatDoor.Rows.laid_io_EOF)])
  (e2 : l.filter (fun x => x.1 == "pub-primogeniture/pub/bigall.errNoDigits") = [("pub-primogeniture/pub/bigall.errNoDigits", Go.Proofs.YtapaijpglfmfgaaGreatDoor.Rows.laid_pub_primogeniture_pub_bigall_errNoDigits)])
  (e3 : l.filter (fun x => x.1 == "pub-primogeniture/pub/scalibr/semantic.ErrInvalidVersion") = [("pub-primogeniture/pub/scalibr/semantic.ErrInvalidVersion", Go.Proofs.YtapaijpglfmfgaaGreatDoor.Rows.laid_pub_primogeniture_pub_scalibr_semantic_ErrInvalidVersion)]) : GL W := by
 have one : ∀ (n : String) (d : DataW Unit), l.filter (fun x => x.1 == n) = [(n, d)] → d.handleName?.isNone = true → laidMet Tryz.prog [(n, d)] W := by
  intro n d e hd
  have h := hL.filter (fun x => x.1 == n)
  rw [e, MakeChecks.laidMetH_plain _ _ _ (by simp [hd])] at h
  exact h
 obtain ⟨h1, g1⟩ := sent (g := 2) (by kernel_rfl) (by kernel_rfl) (one _ _ e1 (by kernel_rfl))
 obtain ⟨h2, g2⟩ := sent (g := 4) (by kernel_rfl) (by kernel_rfl) (one _ _ e2 (by kernel_rfl))
 obtain ⟨h3, g3⟩ := sent (g := 0) (by kernel_rfl) (by kernel_rfl) (one _ _ e3 (by kernel_rfl))
 exact ⟨by omega, h3, h1, h2⟩
end Go.Proofs.YtapaijpglfmfgaaGreatDoorG
end
