/- Proved here, for the row of the law FnAlpineBuilt: contracts of the Go functions that it reaches, each as its theorem 'calls' says, and the words and plain laws that they need (BE, BF, BG, PureFnAlpineBuilt, K19). -/
import Derived.Test.YtapaijpglfmfgaaDoorFnAlpineBuiltE
import Derived.Test.YtapaijpglfmfgaaDoorRows
import Derived.Stop.LaidErr
import Derived.Stop.Joined
import Derived.LaidSub
import Derived.MakeChecks
section -- BE
namespace Go.Proofs.YtapaijpglfmfgaaDoor.V
open Go.RowKit Go.Proofs.YtapaijpglfmfgaaDoor.Q Go.Proofs.YtapaijpglfmfgaaDoorG Go.Proofs.YtapaijpglfmfgaaDoorP Go.Proofs.YtapaijpglfmfgaaDoorH Go.Proofs.YtapaijpglfmfgaaDoorB Go.Proofs.YtapaijpglfmfgaaDoorM Go.Proofs.YtapaijpglfmfgaaDoorW.PrintWords Go.Proofs.YtapaijpglfmfgaaDoorW.PrintLast
set_option linter.unusedVariables false
set_option linter.unusedSimpArgs false
def tC (ns : List Int) : List (List Int) := ns.map dec
def tL (l : Int) : List Int := if Int.tmod l 27 > 0 then [96 + Int.tmod l 27] else []
def sW (i : Int) : List Int := sufWords.getD (Int.tmod i 9).toNat []
def tSfrom (j : Nat) (ss sn : List Int) : List (List Int × List Int) := (ss.zipIdx j).map fun p => (sW p.1, if 0 < sn.getD p.2 0 then dec (sn.getD p.2 0) else [])
def tS (ss sn : List Int) : List (List Int × List Int) := tSfrom 0 ss sn
def tH (h : List Int) : List Int := if h = [] then [] else 126 :: h
def tB (b : Bool) (n : Int) : List Int := if b then dec n else []
def tE (b : Bool) (n : Int) : List Int := if b then 45 :: 114 :: dec n else []
def joinP : List (List Int) → List Int
 | [] => []
 | d :: r => d ++ r.flatMap fun x => 46 :: x
def joinS (s : List (List Int × List Int)) : List Int := s.flatMap fun x => 95 :: (x.1 ++ x.2)
def textL (ns : List Int) (l : Int) (ss sn h : List Int) (b : Bool) (n : Int) : List Int := joinP (tC ns) ++ (tL l ++ (joinS (tS ss sn) ++ (tH h ++ tE b n)))
def tOk (ns ss h : List Int) : Prop := ns ≠ [] ∧ ns.length ≤ 60 ∧ ss.length ≤ 60 ∧ h.length ≤ 1200 ∧ ∀ c ∈ h, isX c = true
abbrev Texted := ByteArray × ByteArray × ByteArray × ByteArray × ByteArray × Bool × List S54 × List S58 × Bool × Bool × ByteArray × Bool
def failT : Texted := (⟨#[]⟩, ⟨#[]⟩, ⟨#[]⟩, ⟨#[]⟩, ⟨#[]⟩, false, [], [], false, false, ⟨#[]⟩, false)
def goodT (ns : List Int) (l : Int) (ss sn h : List Int) (b : Bool) (n : Int) : Texted :=
 (strOfNums (textL ns l ss sn h b n), strOfNums (textL ns l ss sn h b n), ⟨#[]⟩, strOfNums (tL l), strOfNums (tH h), false, numsA (tC ns), sufsA (tS ss sn), true, false, magB (decL (tB b n)), true)
theorem size_of {s : ByteArray} {l : List Int} (h : bytesOf s = l) : s.size = l.length := by rw [B_size, h]
theorem app_size (s t : ByteArray) : (s ++ t).size = s.size + t.size := ByteArray.size_append
theorem t7_ev (T : ByteArray) (hT : T.size ≤ 1000000) (ns : List Int) (l : Int) (ss sn : List Int) (h : ByteArray) (b : Bool) (n : Int) (hn : b = true → U16 n) (L H : ByteArray) (N : List S54) (S : List S58) (R : ByteArray) (hR : bytesOf R = bytesOf T ++ tE b n) :
  Ev (fun k => laws_Package_text.j7 k T ns l ss sn h b n ⟨#[]⟩ ⟨#[]⟩ L H false N S false false ⟨#[]⟩) (R, R, ⟨#[]⟩, L, H, false, N, S, true, false, magB (decL (tB b n)), true) := by
 refine Ev.succ ?_
 simp only [laws_Package_text.j7]
 cases b
 ·refine Ev.neg (fun _ => Bool.false_ne_true) ?_
  have e : R = T := B_inj (by rw [hR]; simp [tE])
  rw [e]
  exact Ev.now _
 ·have hu := hn rfl
  have hds := dec_size hu
  have hdb := B_digits (dec_isD n)
  refine Ev.pos (fun _ => by first | rfl | trivial) ?_
  refine Ev.bind (decimal_ev hu) ?_
  refine Ev.bind (number_dec hu) ?_
  refine Ev.bind (decimal_ev hu) ?_
  refine Ev.pos (fun _ => by omega) ?_
  have e2 : (⟨#[45, 114]⟩ : ByteArray).size = 2 := rfl
  refine Ev.pos (fun _ => by rw [app_size, e2]; omega) ?_
  have e : T ++ ((⟨#[45, 114]⟩ : ByteArray) ++ strOfNums (dec n)) = R := B_inj (by
   rw [hR, B_append, B_append, hdb]
   rfl)
  rw [e]
  refine Ev.eq (Ev.now _) ?_
  rw [show decL (tB true n) = n.toNat from dec_val n]
theorem t2_bad (T : ByteArray) (ns : List Int) (l : Int) (ss sn : List Int) (h : ByteArray) (hs : h.size ≤ 1200) (b : Bool) (n : Int) (L : ByteArray) (N : List S54) (S : List S58) : ∀ (m i : Nat), h.size - i = m → i ≤ h.size → ¬ (∀ c ∈ (bytesOf h).drop i, isX c = true) →
  Ev (fun k => laws_Package_text.l2 k T (i : Int) ns l ss sn h b n ⟨#[]⟩ ⟨#[]⟩ L ⟨#[]⟩ false N S false false ⟨#[]⟩) failT := by
 intro m
 induction m with
 | zero =>
  intro i hm hi hx
  refine absurd (fun c hc => ?_) hx
  rw [List.drop_of_length_le (by rw [bytesOf_length]; omega)] at hc
  simp at hc
 | succ m ih =>
  intro i hm hi hx
  have hl : i < (bytesOf h).length := by rw [bytesOf_length]; omega
  refine Ev.succ ?_
  simp only [laws_Package_text.l2, bt_nat]
  refine Ev.pos (fun _ => by omega) ?_
  refine Ev.pos (fun _ => by omega) ?_
  rw [w64 (i := (i : Int) + 1) (by omega) (by omega)]
  rw [drop_get _ _ hl] at hx
  have next := fun hx2 => ih (i + 1) (by omega) (by omega) hx2
  obtain ⟨c, hc⟩ : ∃ c, c = (bytesOf h).getD i 0 := ⟨_, rfl⟩
  rw [← hc] at hx ⊢
  have hnx : isX c = true → ¬ (∀ c ∈ (bytesOf h).drop (i + 1), isX c = true) := fun h1 h2 => hx (fun d hd => by
   rcases List.mem_cons.1 hd with e | hd
   ·rw [e]; exact h1
   ·exact h2 d hd)
  have hX : isX c = true ↔ (48 ≤ c ∧ c ≤ 57) ∨ (97 ≤ c ∧ c ≤ 102) := by simp [isX, isD]
  have hi2 : ((i : Int) + 1) = ((i + 1 : Nat) : Int) := by omega
  rw [hi2]
  by_cases h1 : c ≥ 48
  ·refine Ev.pos (fun _ => h1) ?_
   by_cases h2 : c ≤ 57
   ·refine Ev.pos (fun _ => h2) ?_
    exact next (hnx (hX.2 (by omega)))
   ·refine Ev.neg (fun _ => h2) ?_
    by_cases h3 : c ≥ 97
    ·refine Ev.pos (fun _ => h3) ?_
     by_cases h4 : c ≤ 102
     ·refine Ev.pos (fun _ => h4) ?_
      exact next (hnx (hX.2 (by omega)))
     ·refine Ev.neg (fun _ => h4) ?_
      exact Ev.now _
    ·refine Ev.neg (fun _ => h3) ?_
     exact Ev.now _
  ·refine Ev.neg (fun _ => h1) ?_
   by_cases h3 : c ≥ 97
   ·refine Ev.pos (fun _ => h3) ?_
    by_cases h4 : c ≤ 102
    ·refine Ev.pos (fun _ => h4) ?_
     exact next (hnx (hX.2 (by omega)))
    ·refine Ev.neg (fun _ => h4) ?_
     exact Ev.now _
   ·refine Ev.neg (fun _ => h3) ?_
    exact Ev.now _
theorem t2_good (T : ByteArray) (hT : T.size ≤ 900000) (ns : List Int) (l : Int) (ss sn : List Int) (h : ByteArray) (hs : h.size ≤ 1200) (b : Bool) (n : Int) (hn : b = true → U16 n) (L : ByteArray) (N : List S54) (S : List S58) (hx : ∀ c ∈ bytesOf h, isX c = true) (R : ByteArray) (hR : bytesOf R = bytesOf T ++ (tH (bytesOf h) ++ tE b n)) : ∀ (m i : Nat), h.size - i = m → i ≤ h.size →
  Ev (fun k => laws_Package_text.l2 k T (i : Int) ns l ss sn h b n ⟨#[]⟩ ⟨#[]⟩ L ⟨#[]⟩ false N S false false ⟨#[]⟩) (R, R, ⟨#[]⟩, L, strOfNums (tH (bytesOf h)), false, N, S, true, false, magB (decL (tB b n)), true) := by
 intro m
 induction m with
 | zero =>
  intro i hm hi
  refine Ev.succ ?_
  simp only [laws_Package_text.l2]
  refine Ev.neg (fun _ => by omega) ?_
  by_cases h0 : bytesOf h = []
  ·refine Ev.pos (fun _ => (toList_nil h).2 h0) ?_
   have e : strOfNums (tH (bytesOf h)) = ⟨#[]⟩ := by rw [h0]; rfl
   rw [e]
   exact t7_ev T (by omega) ns l ss sn h b n hn L _ N S R (by rw [hR, h0]; rfl)
  ·refine Ev.neg (fun _ e => h0 ((toList_nil h).1 e)) ?_
   have e1 : (⟨#[126]⟩ : ByteArray).size = 1 := rfl
   refine Ev.pos (fun _ => by omega) ?_
   refine Ev.pos (fun _ => by rw [app_size, e1]; omega) ?_
   have hb : bytesOf ((⟨#[126]⟩ : ByteArray) ++ h) = tH (bytesOf h) := by
    rw [B_append]
    unfold tH
    rw [if_neg h0]
    rfl
   have e : strOfNums (tH (bytesOf h)) = (⟨#[126]⟩ : ByteArray) ++ h := by rw [← hb, str_B]
   rw [e]
   exact t7_ev (T ++ ((⟨#[126]⟩ : ByteArray) ++ h)) (by rw [app_size, app_size, e1]; omega) ns l ss sn h b n hn L _ N S R (by rw [hR, B_append, hb, List.append_assoc])
 | succ m ih =>
  intro i hm hi
  have hl : i < (bytesOf h).length := by rw [bytesOf_length]; omega
  have hc := hx ((bytesOf h).getD i 0) (by rw [List.getD_eq_getElem?_getD, List.getElem?_eq_getElem hl]; exact List.getElem_mem hl)
  have next := ih (i + 1) (by omega) (by omega)
  have hX : isX ((bytesOf h).getD i 0) = true ↔ (48 ≤ (bytesOf h).getD i 0 ∧ (bytesOf h).getD i 0 ≤ 57) ∨ (97 ≤ (bytesOf h).getD i 0 ∧ (bytesOf h).getD i 0 ≤ 102) := by simp [isX, isD]
  have hi2 : ((i : Int) + 1) = ((i + 1 : Nat) : Int) := by omega
  refine Ev.succ ?_
  simp only [laws_Package_text.l2, bt_nat]
  refine Ev.pos (fun _ => by omega) ?_
  refine Ev.pos (fun _ => by omega) ?_
  rw [w64 (i := (i : Int) + 1) (by omega) (by omega), hi2]
  rcases hX.1 hc with h1 | h1
  ·refine Ev.pos (fun _ => by omega) ?_
   refine Ev.pos (fun _ => by omega) ?_
   exact next
  ·refine Ev.pos (fun _ => by omega) ?_
   refine Ev.neg (fun _ => by omega) ?_
   refine Ev.pos (fun _ => by omega) ?_
   refine Ev.pos (fun _ => by omega) ?_
   exact next
theorem tSfrom_cons (j : Nat) (s : Int) (ss sn : List Int) : tSfrom j (s :: ss) sn = (sW s, if 0 < sn.getD j 0 then dec (sn.getD j 0) else []) :: tSfrom (j + 1) ss sn := rfl
theorem joinS_cons (x : List Int × List Int) (s : List (List Int × List Int)) : joinS (x :: s) = 95 :: (x.1 ++ x.2) ++ joinS s := rfl
theorem mod9 (i : Int) (h : 0 ≤ i) : 0 ≤ Int.tmod i 9 ∧ Int.tmod i 9 < 9 := by
 rw [Int.tmod_eq_emod_of_nonneg h]
 omega
theorem sW_mem (i : Int) (h : 0 ≤ i) : sW i ∈ sufWords := by
 obtain ⟨h0, h1⟩ := mod9 i h
 unfold sW
 have hl : (Int.tmod i 9).toNat < sufWords.length := by show _ < 9; omega
 rw [List.getD_eq_getElem?_getD, List.getElem?_eq_getElem hl]
 exact List.getElem_mem hl
theorem nine {P : Nat → Prop} (h : P 0 ∧ P 1 ∧ P 2 ∧ P 3 ∧ P 4 ∧ P 5 ∧ P 6 ∧ P 7 ∧ P 8) : ∀ i, i < 9 → P i := by
 intro i hi
 obtain ⟨a0, a1, a2, a3, a4, a5, a6, a7, a8⟩ := h
 match i, hi with
 | 0, _ => exact a0
 | 1, _ => exact a1
 | 2, _ => exact a2
 | 3, _ => exact a3
 | 4, _ => exact a4
 | 5, _ => exact a5
 | 6, _ => exact a6
 | 7, _ => exact a7
 | 8, _ => exact a8
theorem weights_at (i : Int) (h : 0 ≤ i) : rd [0, 1, 2, 3, 5, 6, 7, 8, 9] (Int.tmod i 9) = (wgt (sW i) : Int) := by
 obtain ⟨h0, h1⟩ := mod9 i h
 unfold sW
 obtain ⟨q, hq⟩ : ∃ q : Nat, Int.tmod i 9 = (q : Int) := ⟨(Int.tmod i 9).toNat, by omega⟩
 rw [hq, Int.toNat_natCast]
 revert q
 have := nine (P := fun q => rd [0, 1, 2, 3, 5, 6, 7, 8, 9] (q : Int) = (wgt (sufWords.getD q []) : Int)) (by decide)
 intro q hq
 exact this q (by omega)
theorem words_at (i : Int) (h : 0 ≤ i) : bytesOf (rdOf ByteArray.empty sufBs (Int.tmod i 9)) = sW i := by
 obtain ⟨h0, h1⟩ := mod9 i h
 obtain ⟨q, hq⟩ : ∃ q : Nat, Int.tmod i 9 = (q : Int) := ⟨(Int.tmod i 9).toNat, by omega⟩
 unfold sW
 rw [hq, Int.toNat_natCast, rdOf_B, sufBs_B]
theorem t1_ev {r : Texted} (ns : List Int) (l : Int) (ss sn : List Int) (hss : ss.length ≤ 60) (hse : ∀ x ∈ ss, 0 ≤ x) (hsn : ∀ x ∈ sn, U16 x) (h : ByteArray) (b : Bool) (n : Int) (L : ByteArray) (N : List S54) : ∀ (m j : Nat) (T : ByteArray) (S : List S58), ss.length - j = m → j ≤ ss.length → T.size ≤ 100000 + 100 * j → S.length ≤ 1000 + j →
  (∀ T' : ByteArray, bytesOf T' = bytesOf T ++ joinS (tSfrom j (ss.drop j) sn) → T'.size ≤ 110000 → Ev (fun k => laws_Package_text.l2 k T' 0 ns l ss sn h b n ⟨#[]⟩ ⟨#[]⟩ L ⟨#[]⟩ false N (S ++ sufsA (tSfrom j (ss.drop j) sn)) false false ⟨#[]⟩) r) →
  Ev (fun k => laws_Package_text.l1 k T ss (ss.length : Int) (j : Int) ns l ss sn h b n ⟨#[]⟩ ⟨#[]⟩ L ⟨#[]⟩ false N S false false ⟨#[]⟩) r := by
 intro m
 induction m with
 | zero =>
  intro j T S hm hj hT hS hk
  refine Ev.succ ?_
  simp only [laws_Package_text.l1]
  refine Ev.neg (fun _ => by omega) ?_
  have e : ss.drop j = [] := List.drop_of_length_le (by omega)
  rw [e] at hk
  have := hk T (by simp [joinS, tSfrom]) (by omega)
  simpa [tSfrom, sufsA] using this
 | succ m ih =>
  intro j T S hm hj hT hS hk
  have hlt : j < ss.length := by omega
  have hd : ss.drop j = ss[j] :: ss.drop (j + 1) := List.drop_eq_getElem_cons hlt
  have h0 := hse _ (List.getElem_mem hlt)
  have hrd : rd ss (j : Int) = ss[j] := by rw [rd_nat, List.getD_eq_getElem?_getD, List.getElem?_eq_getElem hlt]; rfl
  obtain ⟨x, hx⟩ : ∃ x, x = ss[j] := ⟨_, rfl⟩
  rw [hd, ← hx, tSfrom_cons] at hk
  rw [← hx] at hrd h0
  obtain ⟨m0, m1⟩ := mod9 x h0
  have hwb := words_at x h0
  have hmem := sW_mem x h0
  have hwl := sufWords_len hmem
  have hww := weights_at x h0
  obtain ⟨W, hW⟩ : ∃ W, W = rdOf ByteArray.empty sufBs (Int.tmod x 9) := ⟨_, rfl⟩
  rw [← hW] at hwb
  have hWs : W.size = (sW x).length := size_of hwb
  have e95 : (⟨#[95]⟩ : ByteArray).size = 1 := rfl
  have hbW : bytesOf (T ++ ((⟨#[95]⟩ : ByteArray) ++ W)) = bytesOf T ++ (95 :: sW x) := by rw [B_append, B_append, hwb]; rfl
  have hj2 : ((j : Int) + 1) = ((j + 1 : Nat) : Int) := by omega
  refine Ev.succ ?_
  simp only [laws_Package_text.l1, hrd]
  refine Ev.pos (fun _ => by omega) ?_
  refine Ev.pos (fun _ => by omega) ?_
  refine Ev.pos (fun _ => by omega) ?_
  refine Ev.bind0 rfl ?_
  refine Ev.pos (fun _ => by omega) ?_
  refine Ev.pos (fun _ => by show Int.tmod x 9 < ((9 : Nat) : Int); omega) ?_
  refine Ev.bind0 (a := sufBs) rfl ?_
  rw [← hW]
  refine Ev.pos (fun _ => by show Int.tmod x 9 < ((9 : Nat) : Int); omega) ?_
  refine Ev.pos (fun _ => by omega) ?_
  refine Ev.pos (fun _ => by rw [app_size, e95]; omega) ?_
  rw [hww]
  have hT2 : (T ++ ((⟨#[95]⟩ : ByteArray) ++ W)).size = T.size + (1 + W.size) := by rw [app_size, app_size, e95]
  have hjoin : ∀ (d : List Int) (T' : ByteArray), bytesOf T' = (bytesOf T ++ (95 :: sW x)) ++ d ++ joinS (tSfrom (j + 1) (ss.drop (j + 1)) sn) → bytesOf T' = bytesOf T ++ joinS ((sW x, d) :: tSfrom (j + 1) (ss.drop (j + 1)) sn) := by
   intro d T' h
   rw [h, joinS_cons]
   simp only [List.append_assoc, List.cons_append]
  have key : ∀ (q : Bool), q = decide (0 < sn.getD j 0) → Ev (fun k => laws_Package_text.j5 k (T ++ ((⟨#[95]⟩ : ByteArray) ++ W)) (j : Int) ss (ss.length : Int) (j : Int) q ns l ss sn h b n ⟨#[]⟩ ⟨#[]⟩ L ⟨#[]⟩ false N S false false ⟨#[]⟩ (wgt (sW x) : Int) false ⟨#[]⟩) r := by
   intro q hq
   refine Ev.succ ?_
   simp only [laws_Package_text.j5]
   by_cases hp : 0 < sn.getD j 0
   ·rw [hq, decide_eq_true hp]
    have hlt2 : j < sn.length := by
     by_cases h : j < sn.length
     ·exact h
     ·rw [List.getD_eq_getElem?_getD, List.getElem?_eq_none (by omega)] at hp
      exact absurd hp (by decide)
    have hu : U16 (sn.getD j 0) := by
     rw [List.getD_eq_getElem?_getD, List.getElem?_eq_getElem hlt2]
     exact hsn _ (List.getElem_mem hlt2)
    have hds := dec_size hu
    have hdb := B_digits (dec_isD (sn.getD j 0))
    rw [if_pos hp] at hk
    refine Ev.pos (fun _ => by first | rfl | trivial) ?_
    refine Ev.pos (fun _ => by omega) ?_
    refine Ev.pos (fun _ => by omega) ?_
    rw [rd_nat]
    refine Ev.bind (decimal_ev hu) ?_
    refine Ev.bind (number_dec hu) ?_
    refine Ev.bind (decimal_ev hu) ?_
    refine Ev.pos (fun _ => by omega) ?_
    refine Ev.pos (fun _ => by omega) ?_
    rw [w64 (i := (j : Int) + 1) (by omega) (by omega), hj2]
    refine ih (j + 1) _ _ (by omega) (by omega) (by rw [app_size, hT2]; omega) (by simp; omega) ?_
    intro T' hT' hs'
    have := hk T' (hjoin _ T' (by rw [hT', B_append, hbW, hdb])) hs'
    rw [List.append_assoc]
    have e : (sufsA ((sW x, dec (sn.getD j 0)) :: tSfrom (j + 1) (ss.drop (j + 1)) sn)) = [⟨(wgt (sW x) : Int), ⟨false, magB (sn.getD j 0).toNat⟩⟩] ++ sufsA (tSfrom (j + 1) (ss.drop (j + 1)) sn) := by
     simp only [sufsA, List.map_cons, dec_val]
     rfl
    rw [e] at this
    exact this
   ·rw [hq, decide_eq_false hp]
    rw [if_neg hp] at hk
    refine Ev.neg (fun _ => Bool.false_ne_true) ?_
    refine Ev.pos (fun _ => by omega) ?_
    rw [w64 (i := (j : Int) + 1) (by omega) (by omega), hj2]
    refine ih (j + 1) _ _ (by omega) (by omega) (by rw [hT2]; omega) (by simp; omega) ?_
    intro T' hT' hs'
    have := hk T' (hjoin _ T' (by rw [hT', hbW, List.append_nil])) hs'
    rw [List.append_assoc]
    exact this
  by_cases hlt2 : j < sn.length
  ·refine Ev.pos (fun _ => by omega) ?_
   rw [rd_nat]
   exact key _ (by rw [decide_eq_decide])
  ·refine Ev.neg (fun _ => by omega) ?_
   refine key _ ?_
   rw [List.getD_eq_getElem?_getD, List.getElem?_eq_none (by omega)]
   rfl
theorem t3_ev {r : Texted} (ns : List Int) (l : Int) (hl : 0 ≤ l) (ss sn : List Int) (hss : ss.length ≤ 60) (hse : ∀ x ∈ ss, 0 ≤ x) (hsn : ∀ x ∈ sn, U16 x) (h : ByteArray) (b : Bool) (n : Int) (N : List S54) (T : ByteArray) (hT : T.size ≤ 50000)
  (hk : ∀ T' : ByteArray, bytesOf T' = bytesOf T ++ (tL l ++ joinS (tS ss sn)) → T'.size ≤ 110000 → Ev (fun k => laws_Package_text.l2 k T' 0 ns l ss sn h b n ⟨#[]⟩ ⟨#[]⟩ (strOfNums (tL l)) ⟨#[]⟩ false N (sufsA (tS ss sn)) false false ⟨#[]⟩) r) :
  Ev (fun k => laws_Package_text.l0 k T ns (ns.length : Int) (ns.length : Int) ns l ss sn h b n ⟨#[]⟩ ⟨#[]⟩ ⟨#[]⟩ ⟨#[]⟩ false N false false ⟨#[]⟩) r := by
 have go : ∀ (T1 L : ByteArray), bytesOf T1 = bytesOf T ++ tL l → T1.size ≤ 60000 → L = strOfNums (tL l) → Ev (fun k => laws_Package_text.j3 k T1 ns l ss sn h b n ⟨#[]⟩ ⟨#[]⟩ L ⟨#[]⟩ false N false false ⟨#[]⟩) r := by
  intro T1 L h1 h2 hL
  refine Ev.succ ?_
  simp only [laws_Package_text.j3]
  refine t1_ev ns l ss sn hss hse hsn h b n L N _ 0 T1 [] rfl (Nat.zero_le _) (by omega) (by simp) ?_
  intro T' hT' hs'
  rw [hL, List.nil_append, List.drop_zero]
  exact hk T' (by rw [hT', h1, List.append_assoc, List.drop_zero]; rfl) hs'
 refine Ev.succ ?_
 simp only [laws_Package_text.l0]
 refine Ev.neg (fun _ => by omega) ?_
 have hm : 0 ≤ Int.tmod l 27 ∧ Int.tmod l 27 < 27 := by rw [Int.tmod_eq_emod_of_nonneg hl]; omega
 by_cases h0 : Int.tmod l 27 > 0
 ·refine Ev.pos (fun _ => h0) ?_
  have e : (97 + Int.tmod l 27 - 1) % 256 = 96 + Int.tmod l 27 := by omega
  rw [e]
  have hb : bytesOf (Utf8.encode (96 + Int.tmod l 27)) = tL l := by
   unfold tL
   rw [if_pos h0]
   exact B_encode (by omega) (by omega)
  have hz : (Utf8.encode (96 + Int.tmod l 27)).size = 1 := by
   rw [B_size, hb]
   unfold tL
   rw [if_pos h0]
   rfl
  refine Ev.pos (fun _ => by omega) ?_
  refine go _ _ (by rw [B_append, hb]) (by rw [app_size]; omega) (by rw [← hb, str_B])
 ·refine Ev.neg (fun _ => h0) ?_
  have e : tL l = [] := by unfold tL; rw [if_neg h0]
  refine go _ _ (by rw [e, List.append_nil]) (by omega) (by rw [e]; rfl)
theorem t0_ev {r : Texted} (ns : List Int) (hns : ns.length ≤ 60) (hne : ∀ x ∈ ns, U16 x) (l : Int) (ss sn : List Int) (h : ByteArray) (b : Bool) (n : Int) : ∀ (m j : Nat) (T : ByteArray) (N : List S54), ns.length - j = m → j ≤ ns.length → T.size ≤ 10 * j → N.length = j →
  (∀ T' : ByteArray, bytesOf T' = bytesOf T ++ (if j = 0 then joinP (tC (ns.drop j)) else (tC (ns.drop j)).flatMap fun x => 46 :: x) → T'.size ≤ 50000 → Ev (fun k => laws_Package_text.l0 k T' ns (ns.length : Int) (ns.length : Int) ns l ss sn h b n ⟨#[]⟩ ⟨#[]⟩ ⟨#[]⟩ ⟨#[]⟩ false (N ++ numsFrom j (tC (ns.drop j))) false false ⟨#[]⟩) r) →
  Ev (fun k => laws_Package_text.l0 k T ns (ns.length : Int) (j : Int) ns l ss sn h b n ⟨#[]⟩ ⟨#[]⟩ ⟨#[]⟩ ⟨#[]⟩ false N false false ⟨#[]⟩) r := by
 intro m
 induction m with
 | zero =>
  intro j T N hm hj hT hN hk
  obtain rfl : j = ns.length := by omega
  have e : ns.drop ns.length = [] := List.drop_length
  rw [e] at hk
  have := hk T (by split <;> simp [tC, joinP]) (by omega)
  simpa [tC, numsFrom] using this
 | succ m ih =>
  intro j T N hm hj hT hN hk
  have hlt : j < ns.length := by omega
  have hd : ns.drop j = ns[j] :: ns.drop (j + 1) := List.drop_eq_getElem_cons hlt
  have hu := hne _ (List.getElem_mem hlt)
  have hrd : rd ns (j : Int) = ns[j] := by rw [rd_nat, List.getD_eq_getElem?_getD, List.getElem?_eq_getElem hlt]; rfl
  obtain ⟨x, hx⟩ : ∃ x, x = ns[j] := ⟨_, rfl⟩
  rw [hd, ← hx] at hk
  rw [← hx] at hrd hu
  have hds := dec_size hu
  have hdb := B_digits (dec_isD x)
  have hj2 : ((j : Int) + 1) = ((j + 1 : Nat) : Int) := by omega
  have key : ∀ (T1 : ByteArray), T1.size ≤ 10 * j + 1 → bytesOf T1 = bytesOf T ++ (if j = 0 then [] else [46]) → Ev (fun k => laws_Package_text.j2 k T1 (j : Int) x ns (ns.length : Int) (j : Int) ns l ss sn h b n ⟨#[]⟩ ⟨#[]⟩ ⟨#[]⟩ ⟨#[]⟩ false N false false ⟨#[]⟩) r := by
   intro T1 hT1 hb1
   refine Ev.succ ?_
   simp only [laws_Package_text.j2]
   refine Ev.bind (decimal_ev hu) ?_
   refine Ev.pos (fun _ => by omega) ?_
   refine Ev.bind (decimal_ev hu) ?_
   refine Ev.bind (decimal_ev hu) ?_
   refine Ev.bind (number_dec hu) ?_
   refine Ev.pos (fun _ => by omega) ?_
   rw [w64 (i := (j : Int) + 1) (by omega) (by omega), hj2]
   refine ih (j + 1) _ _ (by omega) (by omega) (by rw [app_size]; omega) (by simp; omega) ?_
   intro T' hT' hs'
   rw [if_neg (by omega)] at hT'
   have := hk T' (by
    rw [hT', B_append, hb1, hdb]
    simp only [tC, List.map_cons]
    by_cases hj0 : j = 0
    ·rw [if_pos hj0, if_pos hj0]
     simp [joinP]
    ·rw [if_neg hj0, if_neg hj0]
     simp) hs'
   have e : numsFrom j (tC (x :: ns.drop (j + 1))) = [⟨strOfNums (dec x), ⟨false, magB x.toNat⟩, (j : Int)⟩] ++ numsFrom (j + 1) (tC (ns.drop (j + 1))) := by
    show numsFrom j (dec x :: tC (ns.drop (j + 1))) = _
    rw [numsFrom_cons, dec_val]
    rfl
   rw [e, ← List.append_assoc] at this
   exact this
  refine Ev.succ ?_
  simp only [laws_Package_text.l0, hrd]
  refine Ev.pos (fun _ => by omega) ?_
  refine Ev.pos (fun _ => by omega) ?_
  refine Ev.pos (fun _ => by omega) ?_
  by_cases hj0 : j = 0
  ·refine Ev.neg (fun _ => by omega) ?_
   exact key T (by omega) (by rw [if_pos hj0, List.append_nil])
  ·refine Ev.pos (fun _ => by omega) ?_
   refine Ev.pos (fun _ => by omega) ?_
   have e46 : (⟨#[46]⟩ : ByteArray).size = 1 := rfl
   exact key _ (by rw [app_size, e46]; omega) (by rw [B_append, if_neg hj0]; rfl)
theorem text_ev (ns : List Int) (hne : ∀ x ∈ ns, U16 x) (l : Int) (hl : 0 ≤ l) (ss sn : List Int) (hse : ∀ x ∈ ss, 0 ≤ x) (hsn : ∀ x ∈ sn, U16 x) (h : ByteArray) (b : Bool) (n : Int) (hn : b = true → U16 n) :
  (tOk ns ss (bytesOf h) → Ev (fun k => laws_Package_text.f k ns l ss sn h b n) (goodT ns l ss sn (bytesOf h) b n)) ∧ (¬ tOk ns ss (bytesOf h) → Ev (fun k => laws_Package_text.f k ns l ss sn h b n) failT) := by
 have bad : Ev (fun k => laws_Package_text.j0 k true ns l ss sn h b n) failT := by
  refine Ev.succ ?_
  simp only [laws_Package_text.j0]
  refine Ev.pos (fun _ => by first | rfl | trivial) ?_
  exact Ev.now _
 have hz := bytesOf_length h
 by_cases h0 : ns = []
 ·refine ⟨fun hk => absurd h0 hk.1, fun _ => ?_⟩
  simp only [laws_Package_text.f]
  refine Ev.pos (fun _ => by rw [h0]; rfl) ?_
  exact bad
 have hp : 0 < ns.length := List.length_pos_iff.2 h0
 by_cases h1 : ns.length ≤ 60
 case neg =>
  refine ⟨fun hk => absurd hk.2.1 h1, fun _ => ?_⟩
  simp only [laws_Package_text.f]
  refine Ev.neg (fun _ => by omega) ?_
  refine Ev.pos (fun _ => by omega) ?_
  exact bad
 by_cases h2 : ss.length ≤ 60
 case neg =>
  refine ⟨fun hk => absurd hk.2.2.1 h2, fun _ => ?_⟩
  simp only [laws_Package_text.f]
  refine Ev.neg (fun _ => by omega) ?_
  refine Ev.neg (fun _ => by omega) ?_
  refine Ev.pos (fun _ => by omega) ?_
  exact bad
 by_cases h3 : h.size ≤ 1200
 case neg =>
  refine ⟨fun hk => absurd hk.2.2.2.1 (by omega), fun _ => ?_⟩
  simp only [laws_Package_text.f]
  refine Ev.neg (fun _ => by omega) ?_
  refine Ev.neg (fun _ => by omega) ?_
  refine Ev.neg (fun _ => by omega) ?_
  have : decide ((h.size : Int) > 1200) = true := decide_eq_true (by omega)
  rw [this]
  exact bad
 have go : ∀ {r : Texted}, (∀ T' : ByteArray, bytesOf T' = joinP (tC ns) ++ (tL l ++ joinS (tS ss sn)) → T'.size ≤ 110000 → Ev (fun k => laws_Package_text.l2 k T' 0 ns l ss sn h b n ⟨#[]⟩ ⟨#[]⟩ (strOfNums (tL l)) ⟨#[]⟩ false (numsA (tC ns)) (sufsA (tS ss sn)) false false ⟨#[]⟩) r) → Ev (fun k => laws_Package_text.f k ns l ss sn h b n) r := by
  intro r hk
  simp only [laws_Package_text.f]
  refine Ev.neg (fun _ => by omega) ?_
  refine Ev.neg (fun _ => by omega) ?_
  refine Ev.neg (fun _ => by omega) ?_
  have : decide ((h.size : Int) > 1200) = false := decide_eq_false (by omega)
  rw [this]
  refine Ev.succ ?_
  simp only [laws_Package_text.j0]
  refine Ev.neg (fun _ => Bool.false_ne_true) ?_
  refine t0_ev ns h1 hne l ss sn h b n _ 0 ⟨#[]⟩ [] rfl (Nat.zero_le _) (Nat.le_refl _) rfl ?_
  intro T' hT' hs'
  rw [if_pos rfl, List.drop_zero] at hT'
  rw [List.nil_append, List.drop_zero]
  refine t3_ev ns l hl ss sn h2 hse hsn h b n _ T' hs' ?_
  intro T2 hT2 hs2
  refine hk T2 ?_ hs2
  rw [hT2, hT']
  rfl
 by_cases hx : ∀ c ∈ bytesOf h, isX c = true
 ·refine ⟨fun _ => ?_, fun hk => absurd ⟨h0, h1, h2, by omega, hx⟩ hk⟩
  refine go ?_
  intro T' hT' hs'
  have hr : ∀ c ∈ textL ns l ss sn (bytesOf h) b n, 0 ≤ c ∧ c ≤ 255 := by
   intro c hc
   unfold textL at hc
   rcases List.mem_append.1 hc with hc | hc
   ·exact B_range T' c (by rw [hT']; exact List.mem_append_left _ hc)
   ·rcases List.mem_append.1 hc with hc | hc
    ·exact B_range T' c (by rw [hT']; exact List.mem_append_right _ (List.mem_append_left _ hc))
    ·rcases List.mem_append.1 hc with hc | hc
     ·exact B_range T' c (by rw [hT']; exact List.mem_append_right _ (List.mem_append_right _ hc))
     ·rcases List.mem_append.1 hc with hc | hc
      ·unfold tH at hc
       split at hc
       ·simp at hc
       ·rcases List.mem_cons.1 hc with e | hc
        ·omega
        ·exact B_range h c hc
      ·unfold tE at hc
       split at hc
       ·rcases List.mem_cons.1 hc with e | hc
        ·omega
        ·rcases List.mem_cons.1 hc with e | hc
         ·omega
         ·exact isD_byte (dec_isD n c hc)
       ·simp at hc
  have := t2_good T' (by omega) ns l ss sn h h3 b n hn (strOfNums (tL l)) (numsA (tC ns)) (sufsA (tS ss sn)) hx (strOfNums (textL ns l ss sn (bytesOf h) b n)) (by
   rw [B_str hr, hT']
   unfold textL
   simp only [List.append_assoc]) _ 0 rfl (Nat.zero_le _)
  exact this
 ·refine ⟨fun hk => absurd hk.2.2.2.2 hx, fun _ => ?_⟩
  refine go ?_
  intro T' hT' hs'
  exact t2_bad T' ns l ss sn h h3 b n (strOfNums (tL l)) (numsA (tC ns)) (sufsA (tS ss sn)) _ 0 rfl (Nat.zero_le _) hx
end Go.Proofs.YtapaijpglfmfgaaDoor.V
end
section -- BF
namespace Go.Proofs.YtapaijpglfmfgaaDoor.V
open Go.RowKit Go.Proofs.YtapaijpglfmfgaaDoor.Q Go.Proofs.YtapaijpglfmfgaaDoorG Go.Proofs.YtapaijpglfmfgaaDoorP Go.Proofs.YtapaijpglfmfgaaDoorH Go.Proofs.YtapaijpglfmfgaaDoorB Go.Proofs.YtapaijpglfmfgaaDoorM Go.Proofs.YtapaijpglfmfgaaDoorW.PrintWords Go.Proofs.YtapaijpglfmfgaaDoorW.PrintLast
set_option linter.unusedVariables false
set_option linter.unusedSimpArgs false
def hd (l : List Int) : Int := l.getD 0 0
theorem hd_nil (b : List Int) : hd ([] ++ b) = hd b := rfl
structure Stop (l : List Int) : Prop where
 d : isD (hd l) = false
 p : hd l ≠ 46
 let_ : isL (hd l) = false
 u : hd l ≠ 95
 t : hd l ≠ 126
theorem Stop.x {l : List Int} (h : Stop l) : isX (hd l) = false := by
 have h1 := h.d
 have h2 := h.let_
 unfold isX
 rw [h1]
 unfold isL at h2
 have := of_decide_eq_false h2
 simp
 omega
theorem run_hd {p : Int → Bool} {a b : List Int} (h : ∀ c ∈ a, p c = true) (hb : p (hd b) = false) : run p (a ++ b) = a.length := run_stop_append h (.inr hb)
theorem numsP_join : ∀ (c : List (List Int)) (n : Nat) (X : List Int), c ≠ [] → (∀ d ∈ c, d ≠ [] ∧ ∀ x ∈ d, isD x = true) → isD (hd X) = false → hd X ≠ 46 → c.length ≤ n → numsP n (joinP c ++ X) = (c, X)
 | [], _, _, h, _, _, _, _ => absurd rfl h
 | _ :: _, 0, _, _, _, _, _, h => by simp at h
 | [d], n + 1, X, _, hc, h1, h2, _ => by
  obtain ⟨d0, d1⟩ := hc d List.mem_cons_self
  have e : joinP [d] ++ X = d ++ X := by simp [joinP]
  have hr : run isD (d ++ X) = d.length := run_hd d1 h1
  have hp : d.length ≠ 0 := by have := List.length_pos_iff.2 d0; omega
  rw [e]
  simp only [numsP]
  rw [hr, if_neg hp, List.drop_left, if_neg (show ¬ X.getD 0 0 = 46 from h2), List.take_left]
 | d :: d' :: r, n + 1, X, _, hc, h1, h2, hn => by
  obtain ⟨d0, d1⟩ := hc d List.mem_cons_self
  have e : joinP (d :: d' :: r) ++ X = d ++ (46 :: (joinP (d' :: r) ++ X)) := by simp [joinP]
  have hr : run isD (d ++ (46 :: (joinP (d' :: r) ++ X))) = d.length := run_hd d1 (show isD 46 = false by decide)
  have hp : d.length ≠ 0 := by have := List.length_pos_iff.2 d0; omega
  have ih := numsP_join (d' :: r) n X (by simp) (fun x hx => hc x (List.mem_cons_of_mem _ hx)) h1 h2 (by simpa using hn)
  rw [e]
  simp only [numsP]
  rw [hr, if_neg hp, List.drop_left, if_pos (show (46 :: (joinP (d' :: r) ++ X)).getD 0 0 = 46 from rfl), List.take_left, ← List.drop_drop, List.drop_left]
  show (d :: (numsP n (joinP (d' :: r) ++ X)).1, (numsP n (joinP (d' :: r) ++ X)).2) = _
  rw [ih]
theorem letterP_at {t Y : List Int} (h : (t = [] ∧ isL (hd Y) = false) ∨ ∃ x, t = [x] ∧ isL x = true) : letterP (t ++ Y) = (t, Y) := by
 unfold letterP
 rcases h with ⟨rfl, h⟩ | ⟨x, rfl, h⟩
 ·have h2 : isL (([] ++ Y).getD 0 0) = false := h
  rw [h2]
  rfl
 ·have h2 : isL (([x] ++ Y).getD 0 0) = true := h
  rw [h2]
  rfl
theorem wordAt_word {w y : List Int} (hw : w ∈ sufWords) (hy : hd y ≠ 114) : wordAt (95 :: (w ++ y)) = some w := by
 unfold wordAt
 rw [if_pos (show (95 :: (w ++ y)).getD 0 0 = 95 from rfl)]
 show sufWords.find? (fun w' => pre w' (w ++ y)) = some w
 simp only [sufWords, List.mem_cons, List.not_mem_nil, or_false] at hw
 rcases hw with rfl | rfl | rfl | rfl | rfl | rfl | rfl | rfl | rfl
 ·simp [sufWords, List.find?_cons, pre]
 ·simp [sufWords, List.find?_cons, pre]
 ·simp [sufWords, List.find?_cons, pre]
 ·simp [sufWords, List.find?_cons, pre]
 ·simp [sufWords, List.find?_cons, pre]
 ·simp [sufWords, List.find?_cons, pre]
 ·simp [sufWords, List.find?_cons, pre]
 ·simp [sufWords, List.find?_cons, pre]
 ·cases y with
  | nil => decide
  | cons a y =>
   have ha : a ≠ 114 := hy
   simp [sufWords, List.find?_cons, pre, ha]
theorem wordAt_no {Z : List Int} (h : hd Z ≠ 95) : wordAt Z = none := by unfold wordAt; rw [if_neg (show ¬ Z.getD 0 0 = 95 from h)]
theorem hd_joinS {s : List (List Int × List Int)} {Z : List Int} (h : s ≠ []) : hd (joinS s ++ Z) = 95 := by
 cases s with
 | nil => exact absurd rfl h
 | cons x s => rfl
theorem sufsP_join : ∀ (s : List (List Int × List Int)) (n : Nat) (Z : List Int), (∀ x ∈ s, x.1 ∈ sufWords ∧ ∀ c ∈ x.2, isD c = true) → hd Z ≠ 95 → hd Z ≠ 114 → isD (hd Z) = false → s.length ≤ n → sufsP n (joinS s ++ Z) = (s, Z)
  | [], n, Z, _, h1, _, _, _ => by
    show sufsP n Z = ([], Z)
    exact sufsP_none (wordAt_no h1) n
  | _ :: _, 0, _, _, _, _, _, h => by simp at h
  | (w, dg) :: s, n + 1, Z, hs, h1, h2, h3, hn => by
    obtain ⟨hw, hdg⟩ := hs _ List.mem_cons_self
    have ih := sufsP_join s n Z (fun x hx => hs x (List.mem_cons_of_mem _ hx)) h1 h2 h3 (by simpa using hn)
    obtain ⟨R, hR⟩ : ∃ R, R = joinS s ++ Z := ⟨_, rfl⟩
    have e : joinS ((w, dg) :: s) ++ Z = 95 :: (w ++ (dg ++ R)) := by rw [hR, joinS_cons]; simp
    have hRh : hd R = 95 ∨ hd R = hd Z := by
      rw [hR]
      by_cases h0 : s = []
      · right; rw [h0]; rfl
      · left; exact hd_joinS h0
    have hRd : isD (hd R) = false := by rcases hRh with e | e <;> rw [e]; · rfl
                                        · exact h3
    have hy : hd (dg ++ R) ≠ 114 := by
      cases dg with
      | nil => rcases hRh with e | e
               · rw [hd_nil, e]; decide
               · rw [hd_nil, e]; exact h2
      | cons a q =>
        have ha := hdg a List.mem_cons_self
        intro e
        have e2 : a = 114 := e
        rw [e2] at ha
        exact absurd ha (by decide)
    rw [e, sufsP_some (wordAt_word hw hy)]
    have ed : (95 :: (w ++ (dg ++ R))).drop (1 + w.length) = dg ++ R := by
      rw [Nat.add_comm, List.drop_succ_cons, List.drop_left]
    rw [ed, run_hd hdg hRd, List.take_left, List.drop_left, hR, ih]
theorem hashP_at {h E : List Int} (hh : (h = [] ∧ hd E ≠ 126) ∨ ∃ x, h = 126 :: x ∧ x ≠ [] ∧ (∀ c ∈ x, isX c = true) ∧ isX (hd E) = false) : hashP (h ++ E) = (h, E) := by
 unfold hashP
 rcases hh with ⟨rfl, h0⟩ | ⟨x, rfl, x0, hx, h0⟩
 ·rw [if_neg (fun e => h0 e.1)]
  rfl
 ·have e : (126 :: x ++ E).drop 1 = x ++ E := rfl
  rw [e, run_hd hx h0]
  have hp : x.length ≠ 0 := by have := List.length_pos_iff.2 x0; omega
  rw [if_pos ⟨rfl, hp⟩]
  have e1 : (126 :: x ++ E).take (1 + x.length) = 126 :: x := by
   rw [Nat.add_comm, List.cons_append, List.take_succ_cons, List.take_left]
  have e2 : (126 :: x ++ E).drop (1 + x.length) = E := by
   rw [Nat.add_comm, List.cons_append, List.drop_succ_cons, List.drop_left]
  rw [e1, e2]
theorem parse_join {c : List (List Int)} {t : List Int} {s : List (List Int × List Int)} {h E : List Int} (hc0 : c ≠ []) (hc : ∀ d ∈ c, d ≠ [] ∧ ∀ x ∈ d, isD x = true) (ht : t = [] ∨ ∃ x, t = [x] ∧ isL x = true)
    (hs : ∀ x ∈ s, x.1 ∈ sufWords ∧ ∀ c ∈ x.2, isD c = true) (hh : h = [] ∨ ∃ x, h = 126 :: x ∧ x ≠ [] ∧ ∀ c ∈ x, isX c = true) (hE : Stop E) :
    parseP (joinP c ++ (t ++ (joinS s ++ (h ++ E)))) = ⟨joinP c ++ (t ++ (joinS s ++ (h ++ E))), c, t, s, h, (buildP E).1, (buildP E).2.1, (buildP E).2.2⟩ ∧ rest3 (joinP c ++ (t ++ (joinS s ++ (h ++ E)))) = h ++ E := by
  -- heads
  have hZ : hd (h ++ E) = 126 ∨ hd (h ++ E) = hd E := by
    rcases hh with rfl | ⟨x, rfl, _, _⟩
    · right; rfl
    · left; rfl
  have hY : hd (joinS s ++ (h ++ E)) = 95 ∨ hd (joinS s ++ (h ++ E)) = hd (h ++ E) := by
    by_cases h0 : s = []
    · right; rw [h0]; rfl
    · left; exact hd_joinS h0
  have hZl : isL (hd (h ++ E)) = false := by rcases hZ with e | e <;> rw [e]; · rfl
                                             · exact hE.let_
  have hZd : isD (hd (h ++ E)) = false := by rcases hZ with e | e <;> rw [e]; · rfl
                                             · exact hE.d
  have hZu : hd (h ++ E) ≠ 95 := by rcases hZ with e | e <;> rw [e]; · decide
                                    · exact hE.u
  have hZp : hd (h ++ E) ≠ 46 := by rcases hZ with e | e <;> rw [e]; · decide
                                    · exact hE.p
  have hYl : isL (hd (joinS s ++ (h ++ E))) = false := by rcases hY with e | e <;> rw [e]; · rfl
                                                          · exact hZl
  have hYd : isD (hd (joinS s ++ (h ++ E))) = false := by rcases hY with e | e <;> rw [e]; · rfl
                                                          · exact hZd
  have hYp : hd (joinS s ++ (h ++ E)) ≠ 46 := by rcases hY with e | e <;> rw [e]; · decide
                                                 · exact hZp
  have hX : isD (hd (t ++ (joinS s ++ (h ++ E)))) = false ∧ hd (t ++ (joinS s ++ (h ++ E))) ≠ 46 := by
    rcases ht with rfl | ⟨x, rfl, hx⟩
    · exact ⟨hYd, hYp⟩
    · have e : hd ([x] ++ (joinS s ++ (h ++ E))) = x := rfl
      rw [e]
      unfold isL at hx
      have := of_decide_eq_true hx
      refine ⟨?_, by omega⟩
      unfold isD
      exact decide_eq_false (by omega)
  have hlenc : c.length ≤ (joinP c ++ (t ++ (joinS s ++ (h ++ E)))).length := by
    have : ∀ r : List (List Int), r.length ≤ (r.flatMap fun x => 46 :: x).length := by
      intro r
      induction r with
      | nil => exact Nat.le_refl _
      | cons a r ih => simp only [List.flatMap_cons, List.length_append, List.length_cons]; omega
    cases c with
    | nil => exact absurd rfl hc0
    | cons d r =>
      have h1 := this r
      have h2 := List.length_pos_iff.2 (hc d List.mem_cons_self).1
      simp only [joinP, List.length_append, List.length_cons]
      omega
  have e1 := numsP_join c _ (t ++ (joinS s ++ (h ++ E))) hc0 hc hX.1 hX.2 hlenc
  have e2 : letterP (t ++ (joinS s ++ (h ++ E))) = (t, joinS s ++ (h ++ E)) := letterP_at (by
    rcases ht with e | ⟨x, e, hx⟩
    · exact .inl ⟨e, hYl⟩
    · exact .inr ⟨x, e, hx⟩)
  have hlens : s.length ≤ (joinS s ++ (h ++ E)).length := by
    have : ∀ r : List (List Int × List Int), r.length ≤ (joinS r).length := by
      intro r
      induction r with
      | nil => exact Nat.le_refl _
      | cons a r ih => rw [joinS_cons]; simp only [List.length_append, List.length_cons]; omega
    have := this s
    rw [List.length_append]
    omega
  have e3 := sufsP_join s _ (h ++ E) hs hZu (fun e => by rw [e] at hZl; exact absurd hZl (by decide)) hZd hlens
  have e4 : hashP (h ++ E) = (h, E) := hashP_at (by
    rcases hh with e | ⟨x, e, x0, hx⟩
    · exact .inl ⟨e, hE.t⟩
    · exact .inr ⟨x, e, x0, hx, hE.x⟩)
  have r1 : rest1 (joinP c ++ (t ++ (joinS s ++ (h ++ E)))) = t ++ (joinS s ++ (h ++ E)) := by unfold rest1; rw [e1]
  have r2 : rest2 (joinP c ++ (t ++ (joinS s ++ (h ++ E)))) = joinS s ++ (h ++ E) := by unfold rest2; rw [r1, e2]
  have r3 : rest3 (joinP c ++ (t ++ (joinS s ++ (h ++ E)))) = h ++ E := by unfold rest3; rw [r2, e3]
  have r4 : rest4 (joinP c ++ (t ++ (joinS s ++ (h ++ E)))) = E := by unfold rest4; rw [r3, e4]
  refine ⟨?_, r3⟩
  unfold parseP
  rw [e1, r1, e2, r2, e3, r3, e4, r4]
theorem Stop.nil : Stop [] := ⟨by decide, by decide, by decide, by decide, by decide⟩
theorem Stop.cons {x : Int} {l : List Int} (h1 : isD x = false) (h2 : x ≠ 46) (h3 : isL x = false) (h4 : x ≠ 95) (h5 : x ≠ 126) : Stop (x :: l) := ⟨h1, h2, h3, h4, h5⟩
theorem stop_E (b : Bool) (n : Int) : Stop (tE b n) := by
 cases b
 ·exact Stop.nil
 ·exact Stop.cons (by decide) (by decide) (by decide) (by decide) (by decide)
theorem build_E (b : Bool) (n : Int) : buildP (tE b n) = (false, tB b n, []) := by
 cases b
 ·rfl
 ·have hr : run isD (dec n) = (dec n).length := run_all (dec_isD n)
  show buildP (45 :: 114 :: dec n) = (false, dec n, [])
  unfold buildP
  rw [if_neg (by simp), if_pos (show List.take 2 (45 :: 114 :: dec n) = [45, 114] from rfl)]
  show (false, (dec n).take (run isD (dec n)), (dec n).drop (run isD (dec n))) = _
  rw [hr, List.take_length, List.drop_length]
theorem tC_good (ns : List Int) : ∀ d ∈ tC ns, d ≠ [] ∧ ∀ x ∈ d, isD x = true := by
 intro d hd
 obtain ⟨x, _, rfl⟩ := List.mem_map.1 hd
 exact ⟨dec_ne x, dec_isD x⟩
theorem tC_ne {ns : List Int} (h : ns ≠ []) : tC ns ≠ [] := by
 intro e
 exact h (List.map_eq_nil_iff.1 e)
theorem tL_good {l : Int} (hl : 0 ≤ l) : tL l = [] ∨ ∃ x, tL l = [x] ∧ isL x = true := by
 unfold tL
 have hm : 0 ≤ Int.tmod l 27 ∧ Int.tmod l 27 < 27 := by rw [Int.tmod_eq_emod_of_nonneg hl]; omega
 split
 ·refine .inr ⟨_, rfl, ?_⟩
  unfold isL
  exact decide_eq_true (by omega)
 ·exact .inl rfl
theorem tS_good {ss sn : List Int} (hse : ∀ x ∈ ss, 0 ≤ x) : ∀ x ∈ tS ss sn, x.1 ∈ sufWords ∧ ∀ c ∈ x.2, isD c = true := by
 intro x hx
 unfold tS tSfrom at hx
 obtain ⟨p, hp, rfl⟩ := List.mem_map.1 hx
 have h1 : p.1 ∈ ss := by
  have := List.mem_map_of_mem (f := Prod.fst) hp
  rwa [List.zipIdx_map_fst] at this
 refine ⟨sW_mem _ (hse _ h1), fun c hc => ?_⟩
 simp only at hc
 split at hc
 ·exact dec_isD _ c hc
 ·simp at hc
theorem tH_good {h : List Int} (hx : ∀ c ∈ h, isX c = true) : tH h = [] ∨ ∃ x, tH h = 126 :: x ∧ x ≠ [] ∧ ∀ c ∈ x, isX c = true := by
 unfold tH
 split
 ·exact .inl rfl
 ·rename_i h0
  exact .inr ⟨h, rfl, h0, hx⟩
theorem parse_text {ns ss sn h : List Int} {l n : Int} {b : Bool} (hk : tOk ns ss h) (hl : 0 ≤ l) (hse : ∀ x ∈ ss, 0 ≤ x) :
  parseP (textL ns l ss sn h b n) = ⟨textL ns l ss sn h b n, tC ns, tL l, tS ss sn, tH h, false, tB b n, []⟩ ∧ rest3 (textL ns l ss sn h b n) = tH h ++ tE b n := by
 obtain ⟨h0, _, _, _, hx⟩ := hk
 have := parse_join (tC_ne h0) (tC_good ns) (tL_good hl) (tS_good (sn := sn) hse) (tH_good hx) (stop_E b n)
 rw [build_E] at this
 exact this
def U8 (a : Int) : Prop := 0 ≤ a ∧ a ≤ 255
theorem u8_of {a : Int} (h : (Lit.int .u8 a).wf = true) : U8 a := by
 unfold U8
 simp [Lit.wf, IntKind.min, IntKind.max, IntKind.signed, IntKind.bits] at h
 omega
theorem joinP_len (c : List (List Int)) (h : ∀ d ∈ c, d.length ≤ 5) : (joinP c).length ≤ 6 * c.length := by
 have aux : ∀ r : List (List Int), (∀ d ∈ r, d.length ≤ 5) → (r.flatMap fun x => 46 :: x).length ≤ 6 * r.length := by
  intro r hr
  induction r with
  | nil => exact Nat.zero_le _
  | cons a r ih =>
   have h1 := hr a List.mem_cons_self
   have h2 := ih (fun d hd => hr d (List.mem_cons_of_mem _ hd))
   simp only [List.flatMap_cons, List.length_append, List.length_cons]
   omega
 cases c with
 | nil => exact Nat.zero_le _
 | cons d r =>
  have h1 := h d List.mem_cons_self
  have h2 := aux r (fun d hd => h d (List.mem_cons_of_mem _ hd))
  simp only [joinP, List.length_append, List.length_cons]
  omega
theorem joinS_len (s : List (List Int × List Int)) (h : ∀ x ∈ s, x.1.length ≤ 5 ∧ x.2.length ≤ 5) : (joinS s).length ≤ 11 * s.length := by
 induction s with
 | nil => exact Nat.zero_le _
 | cons a r ih =>
  have h1 := h a List.mem_cons_self
  have h2 := ih (fun d hd => h d (List.mem_cons_of_mem _ hd))
  rw [joinS_cons]
  simp only [List.length_append, List.length_cons]
  omega
theorem joinP_mem {c : List (List Int)} {x : Int} (h : x ∈ joinP c) : x = 46 ∨ ∃ d ∈ c, x ∈ d := by
 cases c with
 | nil => simp [joinP] at h
 | cons d r =>
  rcases List.mem_append.1 h with h | h
  ·exact .inr ⟨d, List.mem_cons_self, h⟩
  ·obtain ⟨e, he, hx⟩ := List.mem_flatMap.1 h
   rcases List.mem_cons.1 hx with e1 | e1
   ·exact .inl e1
   ·exact .inr ⟨e, List.mem_cons_of_mem _ he, e1⟩
theorem isD_asc {c : Int} (h : isD c = true) : 0 ≤ c ∧ c ≤ 127 := by
 unfold isD at h
 have := of_decide_eq_true h
 omega
theorem textL_good {ns ss sn h : List Int} {l n : Int} {b : Bool} (hk : tOk ns ss h) (hne : ∀ x ∈ ns, U16 x) (hl : 0 ≤ l) (hse : ∀ x ∈ ss, 0 ≤ x) (hsn : ∀ x ∈ sn, U16 x) (hn : U16 n) :
  (∀ c ∈ textL ns l ss sn h b n, 0 ≤ c ∧ c ≤ 127) ∧ (textL ns l ss sn h b n).length ≤ 3000 := by
 obtain ⟨k0, k1, k2, k3, k4⟩ := hk
 have hC := tC_good ns
 have hS := tS_good (sn := sn) hse
 have hS2 : ∀ x ∈ tS ss sn, x.1.length ≤ 5 ∧ x.2.length ≤ 5 := by
  intro x hx
  refine ⟨(sufWords_len (hS x hx).1).2, ?_⟩
  unfold tS tSfrom at hx
  obtain ⟨p, hp, rfl⟩ := List.mem_map.1 hx
  simp only
  split
  ·rename_i h0
   refine dec_len ?_
   by_cases hlt : p.2 < sn.length
   ·rw [List.getD_eq_getElem?_getD, List.getElem?_eq_getElem hlt]
    exact hsn _ (List.getElem_mem hlt)
   ·rw [List.getD_eq_getElem?_getD, List.getElem?_eq_none (by omega)] at h0
    exact absurd h0 (by decide)
  ·exact Nat.zero_le _
 constructor
 ·intro c hc
  unfold textL at hc
  rcases List.mem_append.1 hc with hc | hc
  ·rcases joinP_mem hc with e | ⟨d, hd, hx⟩
   ·omega
   ·exact isD_asc ((hC d hd).2 c hx)
  rcases List.mem_append.1 hc with hc | hc
  ·rcases tL_good hl with e | ⟨x, e, hx⟩
   ·rw [e] at hc; simp at hc
   ·rw [e] at hc
    have e2 : c = x := by simpa using hc
    rw [e2]
    unfold isL at hx
    have := of_decide_eq_true hx
    omega
  rcases List.mem_append.1 hc with hc | hc
  ·obtain ⟨x, hx, hc⟩ := List.mem_flatMap.1 hc
   obtain ⟨h1, h2⟩ := hS x hx
   rcases List.mem_cons.1 hc with e | hc
   ·omega
   rcases List.mem_append.1 hc with hc | hc
   ·have := sufWords_asc h1 c hc; omega
   ·exact isD_asc (h2 c hc)
  rcases List.mem_append.1 hc with hc | hc
  ·unfold tH at hc
   split at hc
   ·simp at hc
   ·rcases List.mem_cons.1 hc with e | hc
    ·omega
    ·have hX := k4 c hc
     have : (48 ≤ c ∧ c ≤ 57) ∨ (97 ≤ c ∧ c ≤ 102) := by simpa [isX, isD] using hX
     omega
  ·unfold tE at hc
   split at hc
   ·rcases List.mem_cons.1 hc with e | hc
    ·omega
    rcases List.mem_cons.1 hc with e | hc
    ·omega
    ·exact isD_asc (dec_isD n c hc)
   ·simp at hc
 ·have h1 := joinP_len (tC ns) (fun d hd => by
   obtain ⟨x, hx, rfl⟩ := List.mem_map.1 hd
   exact dec_len (hne x hx))
  have h2 := joinS_len (tS ss sn) hS2
  have e1 : (tC ns).length = ns.length := by simp [tC]
  have e2 : (tS ss sn).length = ss.length := by simp [tS, tSfrom]
  have h3 : (tL l).length ≤ 1 := by unfold tL; split <;> simp
  have h4 : (tH h).length ≤ 1 + h.length := by unfold tH; split <;> simp; omega
  have h5 : (tE b n).length ≤ 7 := by
   have := dec_len hn
   unfold tE
   split
   ·simp; omega
   ·simp
  unfold textL
  simp only [List.length_append]
  omega
end Go.Proofs.YtapaijpglfmfgaaDoor.V
end
section -- BG
namespace Go.Proofs.YtapaijpglfmfgaaDoor.V
open Go.RowKit Go.Proofs.YtapaijpglfmfgaaDoor.Q Go.Proofs.YtapaijpglfmfgaaDoorG Go.Proofs.YtapaijpglfmfgaaDoorP Go.Proofs.YtapaijpglfmfgaaDoorH Go.Proofs.YtapaijpglfmfgaaDoorB Go.Proofs.YtapaijpglfmfgaaDoorM Go.Proofs.YtapaijpglfmfgaaDoorW.PrintWords Go.Proofs.YtapaijpglfmfgaaDoorW.PrintLast
set_option linter.unusedVariables false
set_option linter.unusedSimpArgs false
theorem zz1_ev (ns : List Int) (l : Int) (ss sn : List Int) (h : ByteArray) (b : Bool) (n : Int) : ∃ q, laws_zzFits1.f ns l ss sn h b n = some q := by
 unfold laws_zzFits1.f
 repeat' split
 all_goals exact ⟨_, rfl⟩
theorem FnAlpineBuilt : laws_FnAlpineBuilt.Pure := by
 intro ns l ss sn h b n _ hns hl _ hss _ hsn _ hn
 have hne : ∀ x ∈ ns, U16 x := fun x hx => u16_of (hns x hx)
 have hl0 := u8_of hl
 have hse : ∀ x ∈ ss, 0 ≤ x := fun x hx => (u8_of (hss x hx)).1
 have hsn' : ∀ x ∈ sn, U16 x := fun x hx => u16_of (hsn x hx)
 have hn' := u16_of hn
 obtain ⟨t1, t2⟩ := text_ev ns hne l hl0.1 ss sn hse hsn' h b n (fun _ => hn')
 refine Ev.rounds ?_
 simp only [laws_FnAlpineBuilt.f]
 obtain ⟨q, hq⟩ := zz1_ev ns l ss sn h b n
 refine Ev.bind0 hq ?_
 cases q
 ·refine Ev.neg (fun _ => Bool.false_ne_true) ?_
  exact Ev.now _
 refine Ev.pos (fun _ => by first | rfl | trivial) ?_
 have hout : ∀ (x : ByteArray) (a c d e : ByteArray) (f : Bool) (g : List S54) (i : List S58) (j m : Bool) (o : ByteArray), Ev (fun k => laws_FnAlpineBuilt.j0 k x true a c d e f g i j m o) true := by
  intro x a c d e f g i j m o
  refine Ev.succ ?_
  simp only [laws_FnAlpineBuilt.j0]
  refine Ev.pos (fun _ => by first | rfl | trivial) ?_
  exact Ev.now _
 by_cases hk : tOk ns ss (bytesOf h)
 ·refine Ev.bind (t1 hk) ?_
  refine Ev.pos (fun _ => by first | rfl | trivial) ?_
  obtain ⟨hr, hlen⟩ := textL_good (l := l) (sn := sn) (b := b) (n := n) hk hne hl0.1 hse hsn' hn'
  obtain ⟨X, hX⟩ : ∃ X, X = strOfNums (textL ns l ss sn (bytesOf h) b n) := ⟨_, rfl⟩
  have hB : bytesOf X = textL ns l ss sn (bytesOf h) b n := by rw [hX]; exact B_str (fun c hc => by have := hr c hc; omega)
  have hXs : X.size ≤ 100000 := by rw [B_size, hB]; omega
  obtain ⟨hp, _⟩ := parse_text (sn := sn) (n := n) (b := b) hk hl0.1 hse
  unfold goodT
  rw [← hX]
  refine Ev.bind (known_ev X hXs) ?_
  cases hkn : (decide (∀ x ∈ bytesOf X, x ≤ 127) && clearB (rest3 (bytesOf X)))
  ·exact hout _ _ _ _ _ _ _ _ _ _ _
  have hok : AOk X := ⟨hXs, (Bool.and_eq_true_iff.1 hkn).2⟩
  refine Ev.succ ?_
  simp only [laws_FnAlpineBuilt.j0]
  refine Ev.neg (fun _ => Bool.false_ne_true) ?_
  have hI : impl_AlpineParse.f X = some (X, ⟨#[]⟩, strOfNums (tL l), strOfNums (tH (bytesOf h)), false, numsA (tC ns), sufsA (tS ss sn), true, false, magB (decL (tB b n)), true) := by
   unfold impl_AlpineParse.f
   rw [if_pos hok, hB, hp]
   rfl
  have hP := parse_ev X hXs
  rw [hB, hp] at hP
  obtain ⟨_, k2, k3, _, _⟩ := hk
  have hsame := same_ev X ⟨#[]⟩ (strOfNums (tL l)) (strOfNums (tH (bytesOf h))) false (numsA (tC ns)) (sufsA (tS ss sn)) (by rw [numsA_length]; simp [tC]; omega) (by rw [sufsA_length]; simp [tS, tSfrom]; omega) true false (magB (decL (tB b n)))
  refine Ev.bind0 hI ?_
  refine Ev.bind hP ?_
  refine Ev.pos (fun _ => by first | rfl | trivial) ?_
  refine Ev.pos (fun _ => by first | rfl | trivial) ?_
  refine Ev.bind hsame ?_
  refine Ev.pos (fun _ => by first | rfl | trivial) ?_
  refine Ev.bind hsame ?_
  exact Ev.now _
 ·refine Ev.bind (t2 hk) ?_
  refine Ev.neg (fun _ => Bool.false_ne_true) ?_
  exact hout _ _ _ _ _ _ _ _ _ _ _
end Go.Proofs.YtapaijpglfmfgaaDoor.V
end
section -- PureFnAlpineBuilt
namespace Go.Proofs.YtapaijpglfmfgaaDoor.Pure
theorem FnAlpineBuilt : Q.laws_FnAlpineBuilt.Pure := V.FnAlpineBuilt
end Go.Proofs.YtapaijpglfmfgaaDoor.Pure
end
section -- K19
namespace Go.Proofs.YtapaijpglfmfgaaDoorG
open Go.RowKit Go.ChangeShapes Go.Proofs.YtapaijpglfmfgaaDoorW.PrintWords Go.Proofs.YtapaijpglfmfgaaDoorW.PrintLast
set_option linter.unusedVariables false
theorem err_star : "*" ++ "errors.errorString" = "*errors.errorString" := by decide
theorem err_row (u : TypeId) (h : Tryd.prog.typeName? 3 u = some "*errors.errorString") : u = 177 :=
 typeName_ptr_named (nm := "errors.errorString") (by rw [err_star]; kernel_rfl) (by kernel_rfl) (by decide) u (by rw [err_star]; exact h)
theorem sent {n : String} {text : List UInt8} {g : Nat} {W : World} (hg : Tryd.prog.globalNamed n = some g) (ht : (Tryd.prog.globals[g]?).map (·.type) = some 71)
    (h : laidMet Tryd.prog [(n, .iface "*errors.errorString" (.ptr (.agg [.lit (.string text)])))] W) : (∃ a, W.cell? ⟨g, 0, none⟩ = some (ErrV a)) ∧ g < W.heap.size := by
  obtain ⟨a, s, hv, _⟩ := laid_sentinel h hg ht Tryd.underlying71 err_row Tryd.underlying177 Tryd.underlying194 rfl rfl Tryd.underlying9 (by kernel_rfl) (by kernel_rfl)
  have hc : W.cell? ⟨g, 0, none⟩ = some (ErrV a) := by
    have h0 := World.var?_cell hg hv 0
    simpa [ErrV] using h0
  refine ⟨⟨a, hc⟩, ?_⟩
  rcases Nat.lt_or_ge g W.heap.size with hl | hl
  · exact hl
  · unfold World.cell? at hc
    rw [Array.getElem?_eq_none hl] at hc
    cases hc
theorem GL_of {l : List (String × DataW Unit)} {W : World} (hL : laidMetH Tryd.prog l W) (hp : (l.all fun x => x.2.handleName?.isNone) = true)
  (e1 : l.filter (fun x => x.1 == "io.EOF") = [("io.EOF", Go.Proofs.YtapaijpglfmfgaaDoor.Rows.laid_io_EOF)])
  (e2 : l.filter (fun x => x.1 == "pub-primogeniture/pub/bigall.errNoDigits") = [("pub-primogeniture/pub/bigall.errNoDigits", Go.Proofs.YtapaijpglfmfgaaDoor.Rows.laid_pub_primogeniture_pub_bigall_errNoDigits)])
  (e3 : l.filter (fun x => x.1 == "pub-primogeniture/pub/scalibr/semantic.ErrInvalidVersion") = [("pub-primogeniture/pub/scalibr/semantic.ErrInvalidVersion", Go.Proofs.YtapaijpglfmfgaaDoor.Rows.laid_pub_primogeniture_pub_scalibr_semantic_ErrInvalidVersion)]) : GL W := by
 have one : ∀ (n : String) (d : DataW Unit), l.filter (fun x => x.1 == n) = [(n, d)] → d.handleName?.isNone = true → laidMet Tryd.prog [(n, d)] W := by
  intro n d e hd
  have h := hL.filter (fun x => x.1 == n)
  rw [e, MakeChecks.laidMetH_plain _ _ _ (by simp [hd])] at h
  exact h
 obtain ⟨h1, g1⟩ := sent (g := 2) (by kernel_rfl) (by kernel_rfl) (one _ _ e1 (by kernel_rfl))
 obtain ⟨h2, g2⟩ := sent (g := 4) (by kernel_rfl) (by kernel_rfl) (one _ _ e2 (by kernel_rfl))
 obtain ⟨h3, g3⟩ := sent (g := 0) (by kernel_rfl) (by kernel_rfl) (one _ _ e3 (by kernel_rfl))
 exact ⟨by omega, h3, h1, h2⟩
end Go.Proofs.YtapaijpglfmfgaaDoorG
end
