/- Proved here, for the row of the law FnAlpineOrder: contracts of the Go functions that it reaches, each as its theorem 'calls' says, and the words and plain laws that they need (BE, BF, BH, BL0, BL, PureFnAlpineOrder, K19). -/
import Derived.Test.YtapaijpglfmfgaaDoorFnAlpineOrderE
import Derived.Test.YtapaijpglfmfgaaDoorRows
import Derived.Stop.LaidErr
import Derived.Stop.Joined
import Derived.LaidSub
import Derived.MakeChecks
section -- BE
namespace Go.Proofs.YtapaijpglfmfgaaDoor.V
open Go.RowKit Go.Proofs.YtapaijpglfmfgaaDoor.Q Go.Proofs.YtapaijpglfmfgaaDoorG Go.Proofs.YtapaijpglfmfgaaDoorP Go.Proofs.YtapaijpglfmfgaaDoorH Go.Proofs.YtapaijpglfmfgaaDoorB Go.Proofs.YtapaijpglfmfgaaDoorM Go.Proofs.YtapaijpglfmfgaaDoorW.PrintWords Go.Proofs.YtapaijpglfmfgaaDoorW.PrintLast
set_option linter.unusedVariables false
set_option linter.unusedSimpArgs false
def tC (ns : List Int) : List (List Int) := ns.map dec
def tL (l : Int) : List Int := if Int.tmod l 27 > 0 then [96 + Int.tmod l 27] else []
def sW (i : Int) : List Int := sufWords.getD (Int.tmod i 9).toNat []
def tSfrom (j : Nat) (ss sn : List Int) : List (List Int × List Int) := (ss.zipIdx j).map fun p => (sW p.1, if 0 < sn.getD p.2 0 then dec (sn.getD p.2 0) else [])
def tS (ss sn : List Int) : List (List Int × List Int) := tSfrom 0 ss sn
def tH (h : List Int) : List Int := if h = [] then [] else 126 :: h
def tB (b : Bool) (n : Int) : List Int := if b then dec n else []
def tE (b : Bool) (n : Int) : List Int := if b then 45 :: 114 :: dec n else []
def joinP : List (List Int) → List Int
 | [] => []
 | d :: r => d ++ r.flatMap fun x => 46 :: x
def joinS (s : List (List Int × List Int)) : List Int := s.flatMap fun x => 95 :: (x.1 ++ x.2)
def textL (ns : List Int) (l : Int) (ss sn h : List Int) (b : Bool) (n : Int) : List Int := joinP (tC ns) ++ (tL l ++ (joinS (tS ss sn) ++ (tH h ++ tE b n)))
def tOk (ns ss h : List Int) : Prop := ns ≠ [] ∧ ns.length ≤ 60 ∧ ss.length ≤ 60 ∧ h.length ≤ 1200 ∧ ∀ c ∈ h, isX c = true
abbrev Texted := ByteArray × ByteArray × ByteArray × ByteArray × ByteArray × Bool × List S54 × List S58 × Bool × Bool × ByteArray × Bool
def failT : Texted := (⟨#[]⟩, ⟨#[]⟩, ⟨#[]⟩, ⟨#[]⟩, ⟨#[]⟩, false, [], [], false, false, ⟨#[]⟩, false)
def goodT (ns : List Int) (l : Int) (ss sn h : List Int) (b : Bool) (n : Int) : Texted :=
 (strOfNums (textL ns l ss sn h b n), strOfNums (textL ns l ss sn h b n), ⟨#[]⟩, strOfNums (tL l), strOfNums (tH h), false, numsA (tC ns), sufsA (tS ss sn), true, false, magB (decL (tB b n)), true)
theorem size_of {s : ByteArray} {l : List Int} (h : bytesOf s = l) : s.size = l.length := by rw [B_size, h]
theorem app_size (s t : ByteArray) : (s ++ t).size = s.size + t.size := ByteArray.size_append
theorem t7_ev (T : ByteArray) (hT : T.size ≤ 1000000) (ns : List Int) (l : Int) (ss sn : List Int) (h : ByteArray) (b : Bool) (n : Int) (hn : b = true → U16 n) (L H : ByteArray) (N : List S54) (S : List S58) (R : ByteArray) (hR : bytesOf R = bytesOf T ++ tE b n) :
  Ev (fun k => laws_Package_text.j7 k T ns l ss sn h b n ⟨#[]⟩ ⟨#[]⟩ L H false N S false false ⟨#[]⟩) (R, R, ⟨#[]⟩, L, H, false, N, S, true, false, magB (decL (tB b n)), true) := by
 refine Ev.succ ?_
 simp only [laws_Package_text.j7]
 cases b
 ·refine Ev.neg (fun _ => Bool.false_ne_true) ?_
  have e : R = T := B_inj (by rw [hR]; simp [tE])
  rw [e]
  exact Ev.now _
 ·have hu := hn rfl
  have hds := dec_size hu
  have hdb := B_digits (dec_isD n)
  refine Ev.pos (fun _ => by first | rfl | trivial) ?_
  refine Ev.bind (decimal_ev hu) ?_
  refine Ev.bind (number_dec hu) ?_
  refine Ev.bind (decimal_ev hu) ?_
  refine Ev.pos (fun _ => by omega) ?_
  have e2 : (⟨#[45, 114]⟩ : ByteArray).size = 2 := rfl
  refine Ev.pos (fun _ => by rw [app_size, e2]; omega) ?_
  have e : T ++ ((⟨#[45, 114]⟩ : ByteArray) ++ strOfNums (dec n)) = R := B_inj (by
   rw [hR, B_append, B_append, hdb]
   rfl)
  rw [e]
  refine Ev.eq (Ev.now _) ?_
  rw [show decL (tB true n) = n.toNat from dec_val n]
theorem t2_bad (T : ByteArray) (ns : List Int) (l : Int) (ss sn : List Int) (h : ByteArray) (hs : h.size ≤ 1200) (b : Bool) (n : Int) (L : ByteArray) (N : List S54) (S : List S58) : ∀ (m i : Nat), h.size - i = m → i ≤ h.size → ¬ (∀ c ∈ (bytesOf h).drop i, isX c = true) →
  Ev (fun k => laws_Package_text.l2 k T (i : Int) ns l ss sn h b n ⟨#[]⟩ ⟨#[]⟩ L ⟨#[]⟩ false N S false false ⟨#[]⟩) failT := by
 intro m
 induction m with
 | zero =>
  intro i hm hi hx
  refine absurd (fun c hc => ?_) hx
  rw [List.drop_of_length_le (by rw [bytesOf_length]; omega)] at hc
  simp at hc
 | succ m ih =>
  intro i hm hi hx
  have hl : i < (bytesOf h).length := by rw [bytesOf_length]; omega
  refine Ev.succ ?_
  simp only [laws_Package_text.l2, bt_nat]
  refine Ev.pos (fun _ => by omega) ?_
  refine Ev.pos (fun _ => by omega) ?_
  rw [w64 (i := (i : Int) + 1) (by omega) (by omega)]
  rw [drop_get _ _ hl] at hx
  have next := fun hx2 => ih (i + 1) (by omega) (by omega) hx2
  obtain ⟨c, hc⟩ : ∃ c, c = (bytesOf h).getD i 0 := ⟨_, rfl⟩
  rw [← hc] at hx ⊢
  have hnx : isX c = true → ¬ (∀ c ∈ (bytesOf h).drop (i + 1), isX c = true) := fun h1 h2 => hx (fun d hd => by
   rcases List.mem_cons.1 hd with e | hd
   ·rw [e]; exact h1
   ·exact h2 d hd)
  have hX : isX c = true ↔ (48 ≤ c ∧ c ≤ 57) ∨ (97 ≤ c ∧ c ≤ 102) := by simp [isX, isD]
  have hi2 : ((i : Int) + 1) = ((i + 1 : Nat) : Int) := by omega
  rw [hi2]
  by_cases h1 : c ≥ 48
  ·refine Ev.pos (fun _ => h1) ?_
   by_cases h2 : c ≤ 57
   ·refine Ev.pos (fun _ => h2) ?_
    exact next (hnx (hX.2 (by omega)))
   ·refine Ev.neg (fun _ => h2) ?_
    by_cases h3 : c ≥ 97
    ·refine Ev.pos (fun _ => h3) ?_
     by_cases h4 : c ≤ 102
     ·refine Ev.pos (fun _ => h4) ?_
      exact next (hnx (hX.2 (by omega)))
     ·refine Ev.neg (fun _ => h4) ?_
      exact Ev.now _
    ·refine Ev.neg (fun _ => h3) ?_
     exact Ev.now _
  ·refine Ev.neg (fun _ => h1) ?_
   by_cases h3 : c ≥ 97
   ·refine Ev.pos (fun _ => h3) ?_
    by_cases h4 : c ≤ 102
    ·refine Ev.pos (fun _ => h4) ?_
     exact next (hnx (hX.2 (by omega)))
    ·refine Ev.neg (fun _ => h4) ?_
     exact Ev.now _
   ·refine Ev.neg (fun _ => h3) ?_
    exact Ev.now _
theorem t2_good (T : ByteArray) (hT : T.size ≤ 900000) (ns : List Int) (l : Int) (ss sn : List Int) (h : ByteArray) (hs : h.size ≤ 1200) (b : Bool) (n : Int) (hn : b = true → U16 n) (L : ByteArray) (N : List S54) (S : List S58) (hx : ∀ c ∈ bytesOf h, isX c = true) (R : ByteArray) (hR : bytesOf R = bytesOf T ++ (tH (bytesOf h) ++ tE b n)) : ∀ (m i : Nat), h.size - i = m → i ≤ h.size →
  Ev (fun k => laws_Package_text.l2 k T (i : Int) ns l ss sn h b n ⟨#[]⟩ ⟨#[]⟩ L ⟨#[]⟩ false N S false false ⟨#[]⟩) (R, R, ⟨#[]⟩, L, strOfNums (tH (bytesOf h)), false, N, S, true, false, magB (decL (tB b n)), true) := by
 intro m
 induction m with
 | zero =>
  intro i hm hi
  refine Ev.succ ?_
  simp only [laws_Package_text.l2]
  refine Ev.neg (fun _ => by omega) ?_
  by_cases h0 : bytesOf h = []
  ·refine Ev.pos (fun _ => (toList_nil h).2 h0) ?_
   have e : strOfNums (tH (bytesOf h)) = ⟨#[]⟩ := by rw [h0]; rfl
   rw [e]
   exact t7_ev T (by omega) ns l ss sn h b n hn L _ N S R (by rw [hR, h0]; rfl)
  ·refine Ev.neg (fun _ e => h0 ((toList_nil h).1 e)) ?_
   have e1 : (⟨#[126]⟩ : ByteArray).size = 1 := rfl
   refine Ev.pos (fun _ => by omega) ?_
   refine Ev.pos (fun _ => by rw [app_size, e1]; omega) ?_
   have hb : bytesOf ((⟨#[126]⟩ : ByteArray) ++ h) = tH (bytesOf h) := by
    rw [B_append]
    unfold tH
    rw [if_neg h0]
    rfl
   have e : strOfNums (tH (bytesOf h)) = (⟨#[126]⟩ : ByteArray) ++ h := by rw [← hb, str_B]
   rw [e]
   exact t7_ev (T ++ ((⟨#[126]⟩ : ByteArray) ++ h)) (by rw [app_size, app_size, e1]; omega) ns l ss sn h b n hn L _ N S R (by rw [hR, B_append, hb, List.append_assoc])
 | succ m ih =>
  intro i hm hi
  have hl : i < (bytesOf h).length := by rw [bytesOf_length]; omega
  have hc := hx ((bytesOf h).getD i 0) (by rw [List.getD_eq_getElem?_getD, List.getElem?_eq_getElem hl]; exact List.getElem_mem hl)
  have next := ih (i + 1) (by omega) (by omega)
  have hX : isX ((bytesOf h).getD i 0) = true ↔ (48 ≤ (bytesOf h).getD i 0 ∧ (bytesOf h).getD i 0 ≤ 57) ∨ (97 ≤ (bytesOf h).getD i 0 ∧ (bytesOf h).getD i 0 ≤ 102) := by simp [isX, isD]
  have hi2 : ((i : Int) + 1) = ((i + 1 : Nat) : Int) := by omega
  refine Ev.succ ?_
  simp only [laws_Package_text.l2, bt_nat]
  refine Ev.pos (fun _ => by omega) ?_
  refine Ev.pos (fun _ => by omega) ?_
  rw [w64 (i := (i : Int) + 1) (by omega) (by omega), hi2]
  rcases hX.1 hc with h1 | h1
  ·refine Ev.pos (fun _ => by omega) ?_
   refine Ev.pos (fun _ => by omega) ?_
   exact next
  ·refine Ev.pos (fun _ => by omega) ?_
   refine Ev.neg (fun _ => by omega) ?_
   refine Ev.pos (fun _ => by omega) ?_
   refine Ev.pos (fun _ => by omega) ?_
   exact next
theorem tSfrom_cons (j : Nat) (s : Int) (ss sn : List Int) : tSfrom j (s :: ss) sn = (sW s, if 0 < sn.getD j 0 then dec (sn.getD j 0) else []) :: tSfrom (j + 1) ss sn := rfl
theorem joinS_cons (x : List Int × List Int) (s : List (List Int × List Int)) : joinS (x :: s) = 95 :: (x.1 ++ x.2) ++ joinS s := rfl
theorem mod9 (i : Int) (h : 0 ≤ i) : 0 ≤ Int.tmod i 9 ∧ Int.tmod i 9 < 9 := by
 rw [Int.tmod_eq_emod_of_nonneg h]
 omega
theorem sW_mem (i : Int) (h : 0 ≤ i) : sW i ∈ sufWords := by
 obtain ⟨h0, h1⟩ := mod9 i h
 unfold sW
 have hl : (Int.tmod i 9).toNat < sufWords.length := by show _ < 9; omega
 rw [List.getD_eq_getElem?_getD, List.getElem?_eq_getElem hl]
 exact List.getElem_mem hl
theorem nine {P : Nat → Prop} (h : P 0 ∧ P 1 ∧ P 2 ∧ P 3 ∧ P 4 ∧ P 5 ∧ P 6 ∧ P 7 ∧ P 8) : ∀ i, i < 9 → P i := by
 intro i hi
 obtain ⟨a0, a1, a2, a3, a4, a5, a6, a7, a8⟩ := h
 match i, hi with
 | 0, _ => exact a0
 | 1, _ => exact a1
 | 2, _ => exact a2
 | 3, _ => exact a3
 | 4, _ => exact a4
 | 5, _ => exact a5
 | 6, _ => exact a6
 | 7, _ => exact a7
 | 8, _ => exact a8
theorem weights_at (i : Int) (h : 0 ≤ i) : rd [0, 1, 2, 3, 5, 6, 7, 8, 9] (Int.tmod i 9) = (wgt (sW i) : Int) := by
 obtain ⟨h0, h1⟩ := mod9 i h
 unfold sW
 obtain ⟨q, hq⟩ : ∃ q : Nat, Int.tmod i 9 = (q : Int) := ⟨(Int.tmod i 9).toNat, by omega⟩
 rw [hq, Int.toNat_natCast]
 revert q
 have := nine (P := fun q => rd [0, 1, 2, 3, 5, 6, 7, 8, 9] (q : Int) = (wgt (sufWords.getD q []) : Int)) (by decide)
 intro q hq
 exact this q (by omega)
theorem words_at (i : Int) (h : 0 ≤ i) : bytesOf (rdOf ByteArray.empty sufBs (Int.tmod i 9)) = sW i := by
 obtain ⟨h0, h1⟩ := mod9 i h
 obtain ⟨q, hq⟩ : ∃ q : Nat, Int.tmod i 9 = (q : Int) := ⟨(Int.tmod i 9).toNat, by omega⟩
 unfold sW
 rw [hq, Int.toNat_natCast, rdOf_B, sufBs_B]
theorem t1_ev {r : Texted} (ns : List Int) (l : Int) (ss sn : List Int) (hss : ss.length ≤ 60) (hse : ∀ x ∈ ss, 0 ≤ x) (hsn : ∀ x ∈ sn, U16 x) (h : ByteArray) (b : Bool) (n : Int) (L : ByteArray) (N : List S54) : ∀ (m j : Nat) (T : ByteArray) (S : List S58), ss.length - j = m → j ≤ ss.length → T.size ≤ 100000 + 100 * j → S.length ≤ 1000 + j →
  (∀ T' : ByteArray, bytesOf T' = bytesOf T ++ joinS (tSfrom j (ss.drop j) sn) → T'.size ≤ 110000 → Ev (fun k => laws_Package_text.l2 k T' 0 ns l ss sn h b n ⟨#[]⟩ ⟨#[]⟩ L ⟨#[]⟩ false N (S ++ sufsA (tSfrom j (ss.drop j) sn)) false false ⟨#[]⟩) r) →
  Ev (fun k => laws_Package_text.l1 k T ss (ss.length : Int) (j : Int) ns l ss sn h b n ⟨#[]⟩ ⟨#[]⟩ L ⟨#[]⟩ false N S false false ⟨#[]⟩) r := by
 intro m
 induction m with
 | zero =>
  intro j T S hm hj hT hS hk
  refine Ev.succ ?_
  simp only [laws_Package_text.l1]
  refine Ev.neg (fun _ => by omega) ?_
  have e : ss.drop j = [] := List.drop_of_length_le (by omega)
  rw [e] at hk
  have := hk T (by simp [joinS, tSfrom]) (by omega)
  simpa [tSfrom, sufsA] using this
 | succ m ih =>
  intro j T S hm hj hT hS hk
  have hlt : j < ss.length := by omega
  have hd : ss.drop j = ss[j] :: ss.drop (j + 1) := List.drop_eq_getElem_cons hlt
  have h0 := hse _ (List.getElem_mem hlt)
  have hrd : rd ss (j : Int) = ss[j] := by rw [rd_nat, List.getD_eq_getElem?_getD, List.getElem?_eq_getElem hlt]; rfl
  obtain ⟨x, hx⟩ : ∃ x, x = ss[j] := ⟨_, rfl⟩
  rw [hd, ← hx, tSfrom_cons] at hk
  rw [← hx] at hrd h0
  obtain ⟨m0, m1⟩ := mod9 x h0
  have hwb := words_at x h0
  have hmem := sW_mem x h0
  have hwl := sufWords_len hmem
  have hww := weights_at x h0
  obtain ⟨W, hW⟩ : ∃ W, W = rdOf ByteArray.empty sufBs (Int.tmod x 9) := ⟨_, rfl⟩
  rw [← hW] at hwb
  have hWs : W.size = (sW x).length := size_of hwb
  have e95 : (⟨#[95]⟩ : ByteArray).size = 1 := rfl
  have hbW : bytesOf (T ++ ((⟨#[95]⟩ : ByteArray) ++ W)) = bytesOf T ++ (95 :: sW x) := by rw [B_append, B_append, hwb]; rfl
  have hj2 : ((j : Int) + 1) = ((j + 1 : Nat) : Int) := by omega
  refine Ev.succ ?_
  simp only [laws_Package_text.l1, hrd]
  refine Ev.pos (fun _ => by omega) ?_
  refine Ev.pos (fun _ => by omega) ?_
  refine Ev.pos (fun _ => by omega) ?_
  refine Ev.bind0 rfl ?_
  refine Ev.pos (fun _ => by omega) ?_
  refine Ev.pos (fun _ => by show Int.tmod x 9 < ((9 : Nat) : Int); omega) ?_
  refine Ev.bind0 (a := sufBs) rfl ?_
  rw [← hW]
  refine Ev.pos (fun _ => by show Int.tmod x 9 < ((9 : Nat) : Int); omega) ?_
  refine Ev.pos (fun _ => by omega) ?_
  refine Ev.pos (fun _ => by rw [app_size, e95]; omega) ?_
  rw [hww]
  have hT2 : (T ++ ((⟨#[95]⟩ : ByteArray) ++ W)).size = T.size + (1 + W.size) := by rw [app_size, app_size, e95]
  have hjoin : ∀ (d : List Int) (T' : ByteArray), bytesOf T' = (bytesOf T ++ (95 :: sW x)) ++ d ++ joinS (tSfrom (j + 1) (ss.drop (j + 1)) sn) → bytesOf T' = bytesOf T ++ joinS ((sW x, d) :: tSfrom (j + 1) (ss.drop (j + 1)) sn) := by
   intro d T' h
   rw [h, joinS_cons]
   simp only [List.append_assoc, List.cons_append]
  have key : ∀ (q : Bool), q = decide (0 < sn.getD j 0) → Ev (fun k => laws_Package_text.j5 k (T ++ ((⟨#[95]⟩ : ByteArray) ++ W)) (j : Int) ss (ss.length : Int) (j : Int) q ns l ss sn h b n ⟨#[]⟩ ⟨#[]⟩ L ⟨#[]⟩ false N S false false ⟨#[]⟩ (wgt (sW x) : Int) false ⟨#[]⟩) r := by
   intro q hq
   refine Ev.succ ?_
   simp only [laws_Package_text.j5]
   by_cases hp : 0 < sn.getD j 0
   ·rw [hq, decide_eq_true hp]
    have hlt2 : j < sn.length := by
     by_cases h : j < sn.length
     ·exact h
     ·rw [List.getD_eq_getElem?_getD, List.getElem?_eq_none (by omega)] at hp
      exact absurd hp (by decide)
    have hu : U16 (sn.getD j 0) := by
     rw [List.getD_eq_getElem?_getD, List.getElem?_eq_getElem hlt2]
     exact hsn _ (List.getElem_mem hlt2)
    have hds := dec_size hu
    have hdb := B_digits (dec_isD (sn.getD j 0))
    rw [if_pos hp] at hk
    refine Ev.pos (fun _ => by first | rfl | trivial) ?_
    refine Ev.pos (fun _ => by omega) ?_
    refine Ev.pos (fun _ => by omega) ?_
    rw [rd_nat]
    refine Ev.bind (decimal_ev hu) ?_
    refine Ev.bind (number_dec hu) ?_
    refine Ev.bind (decimal_ev hu) ?_
    refine Ev.pos (fun _ => by omega) ?_
    refine Ev.pos (fun _ => by omega) ?_
    rw [w64 (i := (j : Int) + 1) (by omega) (by omega), hj2]
    refine ih (j + 1) _ _ (by omega) (by omega) (by rw [app_size, hT2]; omega) (by simp; omega) ?_
    intro T' hT' hs'
    have := hk T' (hjoin _ T' (by rw [hT', B_append, hbW, hdb])) hs'
    rw [List.append_assoc]
    have e : (sufsA ((sW x, dec (sn.getD j 0)) :: tSfrom (j + 1) (ss.drop (j + 1)) sn)) = [⟨(wgt (sW x) : Int), ⟨false, magB (sn.getD j 0).toNat⟩⟩] ++ sufsA (tSfrom (j + 1) (ss.drop (j + 1)) sn) := by
     simp only [sufsA, List.map_cons, dec_val]
     rfl
    rw [e] at this
    exact this
   ·rw [hq, decide_eq_false hp]
    rw [if_neg hp] at hk
    refine Ev.neg (fun _ => Bool.false_ne_true) ?_
    refine Ev.pos (fun _ => by omega) ?_
    rw [w64 (i := (j : Int) + 1) (by omega) (by omega), hj2]
    refine ih (j + 1) _ _ (by omega) (by omega) (by rw [hT2]; omega) (by simp; omega) ?_
    intro T' hT' hs'
    have := hk T' (hjoin _ T' (by rw [hT', hbW, List.append_nil])) hs'
    rw [List.append_assoc]
    exact this
  by_cases hlt2 : j < sn.length
  ·refine Ev.pos (fun _ => by omega) ?_
   rw [rd_nat]
   exact key _ (by rw [decide_eq_decide])
  ·refine Ev.neg (fun _ => by omega) ?_
   refine key _ ?_
   rw [List.getD_eq_getElem?_getD, List.getElem?_eq_none (by omega)]
   rfl
theorem t3_ev {r : Texted} (ns : List Int) (l : Int) (hl : 0 ≤ l) (ss sn : List Int) (hss : ss.length ≤ 60) (hse : ∀ x ∈ ss, 0 ≤ x) (hsn : ∀ x ∈ sn, U16 x) (h : ByteArray) (b : Bool) (n : Int) (N : List S54) (T : ByteArray) (hT : T.size ≤ 50000)
  (hk : ∀ T' : ByteArray, bytesOf T' = bytesOf T ++ (tL l ++ joinS (tS ss sn)) → T'.size ≤ 110000 → Ev (fun k => laws_Package_text.l2 k T' 0 ns l ss sn h b n ⟨#[]⟩ ⟨#[]⟩ (strOfNums (tL l)) ⟨#[]⟩ false N (sufsA (tS ss sn)) false false ⟨#[]⟩) r) :
  Ev (fun k => laws_Package_text.l0 k T ns (ns.length : Int) (ns.length : Int) ns l ss sn h b n ⟨#[]⟩ ⟨#[]⟩ ⟨#[]⟩ ⟨#[]⟩ false N false false ⟨#[]⟩) r := by
 have go : ∀ (T1 L : ByteArray), bytesOf T1 = bytesOf T ++ tL l → T1.size ≤ 60000 → L = strOfNums (tL l) → Ev (fun k => laws_Package_text.j3 k T1 ns l ss sn h b n ⟨#[]⟩ ⟨#[]⟩ L ⟨#[]⟩ false N false false ⟨#[]⟩) r := by
  intro T1 L h1 h2 hL
  refine Ev.succ ?_
  simp only [laws_Package_text.j3]
  refine t1_ev ns l ss sn hss hse hsn h b n L N _ 0 T1 [] rfl (Nat.zero_le _) (by omega) (by simp) ?_
  intro T' hT' hs'
  rw [hL, List.nil_append, List.drop_zero]
  exact hk T' (by rw [hT', h1, List.append_assoc, List.drop_zero]; rfl) hs'
 refine Ev.succ ?_
 simp only [laws_Package_text.l0]
 refine Ev.neg (fun _ => by omega) ?_
 have hm : 0 ≤ Int.tmod l 27 ∧ Int.tmod l 27 < 27 := by rw [Int.tmod_eq_emod_of_nonneg hl]; omega
 by_cases h0 : Int.tmod l 27 > 0
 ·refine Ev.pos (fun _ => h0) ?_
  have e : (97 + Int.tmod l 27 - 1) % 256 = 96 + Int.tmod l 27 := by omega
  rw [e]
  have hb : bytesOf (Utf8.encode (96 + Int.tmod l 27)) = tL l := by
   unfold tL
   rw [if_pos h0]
   exact B_encode (by omega) (by omega)
  have hz : (Utf8.encode (96 + Int.tmod l 27)).size = 1 := by
   rw [B_size, hb]
   unfold tL
   rw [if_pos h0]
   rfl
  refine Ev.pos (fun _ => by omega) ?_
  refine go _ _ (by rw [B_append, hb]) (by rw [app_size]; omega) (by rw [← hb, str_B])
 ·refine Ev.neg (fun _ => h0) ?_
  have e : tL l = [] := by unfold tL; rw [if_neg h0]
  refine go _ _ (by rw [e, List.append_nil]) (by omega) (by rw [e]; rfl)
theorem t0_ev {r : Texted} (ns : List Int) (hns : ns.length ≤ 60) (hne : ∀ x ∈ ns, U16 x) (l : Int) (ss sn : List Int) (h : ByteArray) (b : Bool) (n : Int) : ∀ (m j : Nat) (T : ByteArray) (N : List S54), ns.length - j = m → j ≤ ns.length → T.size ≤ 10 * j → N.length = j →
  (∀ T' : ByteArray, bytesOf T' = bytesOf T ++ (if j = 0 then joinP (tC (ns.drop j)) else (tC (ns.drop j)).flatMap fun x => 46 :: x) → T'.size ≤ 50000 → Ev (fun k => laws_Package_text.l0 k T' ns (ns.length : Int) (ns.length : Int) ns l ss sn h b n ⟨#[]⟩ ⟨#[]⟩ ⟨#[]⟩ ⟨#[]⟩ false (N ++ numsFrom j (tC (ns.drop j))) false false ⟨#[]⟩) r) →
  Ev (fun k => laws_Package_text.l0 k T ns (ns.length : Int) (j : Int) ns l ss sn h b n ⟨#[]⟩ ⟨#[]⟩ ⟨#[]⟩ ⟨#[]⟩ false N false false ⟨#[]⟩) r := by
 intro m
 induction m with
 | zero =>
  intro j T N hm hj hT hN hk
  obtain rfl : j = ns.length := by omega
  have e : ns.drop ns.length = [] := List.drop_length
  rw [e] at hk
  have := hk T (by split <;> simp [tC, joinP]) (by omega)
  simpa [tC, numsFrom] using this
 | succ m ih =>
  intro j T N hm hj hT hN hk
  have hlt : j < ns.length := by omega
  have hd : ns.drop j = ns[j] :: ns.drop (j + 1) := List.drop_eq_getElem_cons hlt
  have hu := hne _ (List.getElem_mem hlt)
  have hrd : rd ns (j : Int) = ns[j] := by rw [rd_nat, List.getD_eq_getElem?_getD, List.getElem?_eq_getElem hlt]; rfl
  obtain ⟨x, hx⟩ : ∃ x, x = ns[j] := ⟨_, rfl⟩
  rw [hd, ← hx] at hk
  rw [← hx] at hrd hu
  have hds := dec_size hu
  have hdb := B_digits (dec_isD x)
  have hj2 : ((j : Int) + 1) = ((j + 1 : Nat) : Int) := by omega
  have key : ∀ (T1 : ByteArray), T1.size ≤ 10 * j + 1 → bytesOf T1 = bytesOf T ++ (if j = 0 then [] else [46]) → Ev (fun k => laws_Package_text.j2 k T1 (j : Int) x ns (ns.length : Int) (j : Int) ns l ss sn h b n ⟨#[]⟩ ⟨#[]⟩ ⟨#[]⟩ ⟨#[]⟩ false N false false ⟨#[]⟩) r := by
   intro T1 hT1 hb1
   refine Ev.succ ?_
   simp only [laws_Package_text.j2]
   refine Ev.bind (decimal_ev hu) ?_
   refine Ev.pos (fun _ => by omega) ?_
   refine Ev.bind (decimal_ev hu) ?_
   refine Ev.bind (decimal_ev hu) ?_
   refine Ev.bind (number_dec hu) ?_
   refine Ev.pos (fun _ => by omega) ?_
   rw [w64 (i := (j : Int) + 1) (by omega) (by omega), hj2]
   refine ih (j + 1) _ _ (by omega) (by omega) (by rw [app_size]; omega) (by simp; omega) ?_
   intro T' hT' hs'
   rw [if_neg (by omega)] at hT'
   have := hk T' (by
    rw [hT', B_append, hb1, hdb]
    simp only [tC, List.map_cons]
    by_cases hj0 : j = 0
    ·rw [if_pos hj0, if_pos hj0]
     simp [joinP]
    ·rw [if_neg hj0, if_neg hj0]
     simp) hs'
   have e : numsFrom j (tC (x :: ns.drop (j + 1))) = [⟨strOfNums (dec x), ⟨false, magB x.toNat⟩, (j : Int)⟩] ++ numsFrom (j + 1) (tC (ns.drop (j + 1))) := by
    show numsFrom j (dec x :: tC (ns.drop (j + 1))) = _
    rw [numsFrom_cons, dec_val]
    rfl
   rw [e, ← List.append_assoc] at this
   exact this
  refine Ev.succ ?_
  simp only [laws_Package_text.l0, hrd]
  refine Ev.pos (fun _ => by omega) ?_
  refine Ev.pos (fun _ => by omega) ?_
  refine Ev.pos (fun _ => by omega) ?_
  by_cases hj0 : j = 0
  ·refine Ev.neg (fun _ => by omega) ?_
   exact key T (by omega) (by rw [if_pos hj0, List.append_nil])
  ·refine Ev.pos (fun _ => by omega) ?_
   refine Ev.pos (fun _ => by omega) ?_
   have e46 : (⟨#[46]⟩ : ByteArray).size = 1 := rfl
   exact key _ (by rw [app_size, e46]; omega) (by rw [B_append, if_neg hj0]; rfl)
theorem text_ev (ns : List Int) (hne : ∀ x ∈ ns, U16 x) (l : Int) (hl : 0 ≤ l) (ss sn : List Int) (hse : ∀ x ∈ ss, 0 ≤ x) (hsn : ∀ x ∈ sn, U16 x) (h : ByteArray) (b : Bool) (n : Int) (hn : b = true → U16 n) :
  (tOk ns ss (bytesOf h) → Ev (fun k => laws_Package_text.f k ns l ss sn h b n) (goodT ns l ss sn (bytesOf h) b n)) ∧ (¬ tOk ns ss (bytesOf h) → Ev (fun k => laws_Package_text.f k ns l ss sn h b n) failT) := by
 have bad : Ev (fun k => laws_Package_text.j0 k true ns l ss sn h b n) failT := by
  refine Ev.succ ?_
  simp only [laws_Package_text.j0]
  refine Ev.pos (fun _ => by first | rfl | trivial) ?_
  exact Ev.now _
 have hz := bytesOf_length h
 by_cases h0 : ns = []
 ·refine ⟨fun hk => absurd h0 hk.1, fun _ => ?_⟩
  simp only [laws_Package_text.f]
  refine Ev.pos (fun _ => by rw [h0]; rfl) ?_
  exact bad
 have hp : 0 < ns.length := List.length_pos_iff.2 h0
 by_cases h1 : ns.length ≤ 60
 case neg =>
  refine ⟨fun hk => absurd hk.2.1 h1, fun _ => ?_⟩
  simp only [laws_Package_text.f]
  refine Ev.neg (fun _ => by omega) ?_
  refine Ev.pos (fun _ => by omega) ?_
  exact bad
 by_cases h2 : ss.length ≤ 60
 case neg =>
  refine ⟨fun hk => absurd hk.2.2.1 h2, fun _ => ?_⟩
  simp only [laws_Package_text.f]
  refine Ev.neg (fun _ => by omega) ?_
  refine Ev.neg (fun _ => by omega) ?_
  refine Ev.pos (fun _ => by omega) ?_
  exact bad
 by_cases h3 : h.size ≤ 1200
 case neg =>
  refine ⟨fun hk => absurd hk.2.2.2.1 (by omega), fun _ => ?_⟩
  simp only [laws_Package_text.f]
  refine Ev.neg (fun _ => by omega) ?_
  refine Ev.neg (fun _ => by omega) ?_
  refine Ev.neg (fun _ => by omega) ?_
  have : decide ((h.size : Int) > 1200) = true := decide_eq_true (by omega)
  rw [this]
  exact bad
 have go : ∀ {r : Texted}, (∀ T' : ByteArray, bytesOf T' = joinP (tC ns) ++ (tL l ++ joinS (tS ss sn)) → T'.size ≤ 110000 → Ev (fun k => laws_Package_text.l2 k T' 0 ns l ss sn h b n ⟨#[]⟩ ⟨#[]⟩ (strOfNums (tL l)) ⟨#[]⟩ false (numsA (tC ns)) (sufsA (tS ss sn)) false false ⟨#[]⟩) r) → Ev (fun k => laws_Package_text.f k ns l ss sn h b n) r := by
  intro r hk
  simp only [laws_Package_text.f]
  refine Ev.neg (fun _ => by omega) ?_
  refine Ev.neg (fun _ => by omega) ?_
  refine Ev.neg (fun _ => by omega) ?_
  have : decide ((h.size : Int) > 1200) = false := decide_eq_false (by omega)
  rw [this]
  refine Ev.succ ?_
  simp only [laws_Package_text.j0]
  refine Ev.neg (fun _ => Bool.false_ne_true) ?_
  refine t0_ev ns h1 hne l ss sn h b n _ 0 ⟨#[]⟩ [] rfl (Nat.zero_le _) (Nat.le_refl _) rfl ?_
  intro T' hT' hs'
  rw [if_pos rfl, List.drop_zero] at hT'
  rw [List.nil_append, List.drop_zero]
  refine t3_ev ns l hl ss sn h2 hse hsn h b n _ T' hs' ?_
  intro T2 hT2 hs2
  refine hk T2 ?_ hs2
  rw [hT2, hT']
  rfl
 by_cases hx : ∀ c ∈ bytesOf h, isX c = true
 ·refine ⟨fun _ => ?_, fun hk => absurd ⟨h0, h1, h2, by omega, hx⟩ hk⟩
  refine go ?_
  intro T' hT' hs'
  have hr : ∀ c ∈ textL ns l ss sn (bytesOf h) b n, 0 ≤ c ∧ c ≤ 255 := by
   intro c hc
   unfold textL at hc
   rcases List.mem_append.1 hc with hc | hc
   ·exact B_range T' c (by rw [hT']; exact List.mem_append_left _ hc)
   ·rcases List.mem_append.1 hc with hc | hc
    ·exact B_range T' c (by rw [hT']; exact List.mem_append_right _ (List.mem_append_left _ hc))
    ·rcases List.mem_append.1 hc with hc | hc
     ·exact B_range T' c (by rw [hT']; exact List.mem_append_right _ (List.mem_append_right _ hc))
     ·rcases List.mem_append.1 hc with hc | hc
      ·unfold tH at hc
       split at hc
       ·simp at hc
       ·rcases List.mem_cons.1 hc with e | hc
        ·omega
        ·exact B_range h c hc
      ·unfold tE at hc
       split at hc
       ·rcases List.mem_cons.1 hc with e | hc
        ·omega
        ·rcases List.mem_cons.1 hc with e | hc
         ·omega
         ·exact isD_byte (dec_isD n c hc)
       ·simp at hc
  have := t2_good T' (by omega) ns l ss sn h h3 b n hn (strOfNums (tL l)) (numsA (tC ns)) (sufsA (tS ss sn)) hx (strOfNums (textL ns l ss sn (bytesOf h) b n)) (by
   rw [B_str hr, hT']
   unfold textL
   simp only [List.append_assoc]) _ 0 rfl (Nat.zero_le _)
  exact this
 ·refine ⟨fun hk => absurd hk.2.2.2.2 hx, fun _ => ?_⟩
  refine go ?_
  intro T' hT' hs'
  exact t2_bad T' ns l ss sn h h3 b n (strOfNums (tL l)) (numsA (tC ns)) (sufsA (tS ss sn)) _ 0 rfl (Nat.zero_le _) hx
end Go.Proofs.YtapaijpglfmfgaaDoor.V
end
section -- BF
namespace Go.Proofs.YtapaijpglfmfgaaDoor.V
open Go.RowKit Go.Proofs.YtapaijpglfmfgaaDoor.Q Go.Proofs.YtapaijpglfmfgaaDoorG Go.Proofs.YtapaijpglfmfgaaDoorP Go.Proofs.YtapaijpglfmfgaaDoorH Go.Proofs.YtapaijpglfmfgaaDoorB Go.Proofs.YtapaijpglfmfgaaDoorM Go.Proofs.YtapaijpglfmfgaaDoorW.PrintWords Go.Proofs.YtapaijpglfmfgaaDoorW.PrintLast
set_option linter.unusedVariables false
set_option linter.unusedSimpArgs false
def hd (l : List Int) : Int := l.getD 0 0
theorem hd_nil (b : List Int) : hd ([] ++ b) = hd b := rfl
structure Stop (l : List Int) : Prop where
 d : isD (hd l) = false
 p : hd l ≠ 46
 let_ : isL (hd l) = false
 u : hd l ≠ 95
 t : hd l ≠ 126
theorem Stop.x {l : List Int} (h : Stop l) : isX (hd l) = false := by
 have h1 := h.d
 have h2 := h.let_
 unfold isX
 rw [h1]
 unfold isL at h2
 have := of_decide_eq_false h2
 simp
 omega
theorem run_hd {p : Int → Bool} {a b : List Int} (h : ∀ c ∈ a, p c = true) (hb : p (hd b) = false) : run p (a ++ b) = a.length := run_stop_append h (.inr hb)
theorem numsP_join : ∀ (c : List (List Int)) (n : Nat) (X : List Int), c ≠ [] → (∀ d ∈ c, d ≠ [] ∧ ∀ x ∈ d, isD x = true) → isD (hd X) = false → hd X ≠ 46 → c.length ≤ n → numsP n (joinP c ++ X) = (c, X)
 | [], _, _, h, _, _, _, _ => absurd rfl h
 | _ :: _, 0, _, _, _, _, _, h => by simp at h
 | [d], n + 1, X, _, hc, h1, h2, _ => by
  obtain ⟨d0, d1⟩ := hc d List.mem_cons_self
  have e : joinP [d] ++ X = d ++ X := by simp [joinP]
  have hr : run isD (d ++ X) = d.length := run_hd d1 h1
  have hp : d.length ≠ 0 := by have := List.length_pos_iff.2 d0; omega
  rw [e]
  simp only [numsP]
  rw [hr, if_neg hp, List.drop_left, if_neg (show ¬ X.getD 0 0 = 46 from h2), List.take_left]
 | d :: d' :: r, n + 1, X, _, hc, h1, h2, hn => by
  obtain ⟨d0, d1⟩ := hc d List.mem_cons_self
  have e : joinP (d :: d' :: r) ++ X = d ++ (46 :: (joinP (d' :: r) ++ X)) := by simp [joinP]
  have hr : run isD (d ++ (46 :: (joinP (d' :: r) ++ X))) = d.length := run_hd d1 (show isD 46 = false by decide)
  have hp : d.length ≠ 0 := by have := List.length_pos_iff.2 d0; omega
  have ih := numsP_join (d' :: r) n X (by simp) (fun x hx => hc x (List.mem_cons_of_mem _ hx)) h1 h2 (by simpa using hn)
  rw [e]
  simp only [numsP]
  rw [hr, if_neg hp, List.drop_left, if_pos (show (46 :: (joinP (d' :: r) ++ X)).getD 0 0 = 46 from rfl), List.take_left, ← List.drop_drop, List.drop_left]
  show (d :: (numsP n (joinP (d' :: r) ++ X)).1, (numsP n (joinP (d' :: r) ++ X)).2) = _
  rw [ih]
theorem letterP_at {t Y : List Int} (h : (t = [] ∧ isL (hd Y) = false) ∨ ∃ x, t = [x] ∧ isL x = true) : letterP (t ++ Y) = (t, Y) := by
 unfold letterP
 rcases h with ⟨rfl, h⟩ | ⟨x, rfl, h⟩
 ·have h2 : isL (([] ++ Y).getD 0 0) = false := h
  rw [h2]
  rfl
 ·have h2 : isL (([x] ++ Y).getD 0 0) = true := h
  rw [h2]
  rfl
theorem wordAt_word {w y : List Int} (hw : w ∈ sufWords) (hy : hd y ≠ 114) : wordAt (95 :: (w ++ y)) = some w := by
 unfold wordAt
 rw [if_pos (show (95 :: (w ++ y)).getD 0 0 = 95 from rfl)]
 show sufWords.find? (fun w' => pre w' (w ++ y)) = some w
 simp only [sufWords, List.mem_cons, List.not_mem_nil, or_false] at hw
 rcases hw with rfl | rfl | rfl | rfl | rfl | rfl | rfl | rfl | rfl
 ·simp [sufWords, List.find?_cons, pre]
 ·simp [sufWords, List.find?_cons, pre]
 ·simp [sufWords, List.find?_cons, pre]
 ·simp [sufWords, List.find?_cons, pre]
 ·simp [sufWords, List.find?_cons, pre]
 ·simp [sufWords, List.find?_cons, pre]
 ·simp [sufWords, List.find?_cons, pre]
 ·simp [sufWords, List.find?_cons, pre]
 ·cases y with
  | nil => decide
  | cons a y =>
   have ha : a ≠ 114 := hy
   simp [sufWords, List.find?_cons, pre, ha]
theorem wordAt_no {Z : List Int} (h : hd Z ≠ 95) : wordAt Z = none := by unfold wordAt; rw [if_neg (show ¬ Z.getD 0 0 = 95 from h)]
theorem hd_joinS {s : List (List Int × List Int)} {Z : List Int} (h : s ≠ []) : hd (joinS s ++ Z) = 95 := by
 cases s with
 | nil => exact absurd rfl h
 | cons x s => rfl
theorem sufsP_join : ∀ (s : List (List Int × List Int)) (n : Nat) (Z : List Int), (∀ x ∈ s, x.1 ∈ sufWords ∧ ∀ c ∈ x.2, isD c = true) → hd Z ≠ 95 → hd Z ≠ 114 → isD (hd Z) = false → s.length ≤ n → sufsP n (joinS s ++ Z) = (s, Z)
  | [], n, Z, _, h1, _, _, _ => by
    show sufsP n Z = ([], Z)
    exact sufsP_none (wordAt_no h1) n
  | _ :: _, 0, _, _, _, _, _, h => by simp at h
  | (w, dg) :: s, n + 1, Z, hs, h1, h2, h3, hn => by
    obtain ⟨hw, hdg⟩ := hs _ List.mem_cons_self
    have ih := sufsP_join s n Z (fun x hx => hs x (List.mem_cons_of_mem _ hx)) h1 h2 h3 (by simpa using hn)
    obtain ⟨R, hR⟩ : ∃ R, R = joinS s ++ Z := ⟨_, rfl⟩
    have e : joinS ((w, dg) :: s) ++ Z = 95 :: (w ++ (dg ++ R)) := by rw [hR, joinS_cons]; simp
    have hRh : hd R = 95 ∨ hd R = hd Z := by
      rw [hR]
      by_cases h0 : s = []
      · right; rw [h0]; rfl
      · left; exact hd_joinS h0
    have hRd : isD (hd R) = false := by rcases hRh with e | e <;> rw [e]; · rfl
                                        · exact h3
    have hy : hd (dg ++ R) ≠ 114 := by
      cases dg with
      | nil => rcases hRh with e | e
               · rw [hd_nil, e]; decide
               · rw [hd_nil, e]; exact h2
      | cons a q =>
        have ha := hdg a List.mem_cons_self
        intro e
        have e2 : a = 114 := e
        rw [e2] at ha
        exact absurd ha (by decide)
    rw [e, sufsP_some (wordAt_word hw hy)]
    have ed : (95 :: (w ++ (dg ++ R))).drop (1 + w.length) = dg ++ R := by
      rw [Nat.add_comm, List.drop_succ_cons, List.drop_left]
    rw [ed, run_hd hdg hRd, List.take_left, List.drop_left, hR, ih]
theorem hashP_at {h E : List Int} (hh : (h = [] ∧ hd E ≠ 126) ∨ ∃ x, h = 126 :: x ∧ x ≠ [] ∧ (∀ c ∈ x, isX c = true) ∧ isX (hd E) = false) : hashP (h ++ E) = (h, E) := by
 unfold hashP
 rcases hh with ⟨rfl, h0⟩ | ⟨x, rfl, x0, hx, h0⟩
 ·rw [if_neg (fun e => h0 e.1)]
  rfl
 ·have e : (126 :: x ++ E).drop 1 = x ++ E := rfl
  rw [e, run_hd hx h0]
  have hp : x.length ≠ 0 := by have := List.length_pos_iff.2 x0; omega
  rw [if_pos ⟨rfl, hp⟩]
  have e1 : (126 :: x ++ E).take (1 + x.length) = 126 :: x := by
   rw [Nat.add_comm, List.cons_append, List.take_succ_cons, List.take_left]
  have e2 : (126 :: x ++ E).drop (1 + x.length) = E := by
   rw [Nat.add_comm, List.cons_append, List.drop_succ_cons, List.drop_left]
  rw [e1, e2]
theorem parse_join {c : List (List Int)} {t : List Int} {s : List (List Int × List Int)} {h E : List Int} (hc0 : c ≠ []) (hc : ∀ d ∈ c, d ≠ [] ∧ ∀ x ∈ d, isD x = true) (ht : t = [] ∨ ∃ x, t = [x] ∧ isL x = true)
    (hs : ∀ x ∈ s, x.1 ∈ sufWords ∧ ∀ c ∈ x.2, isD c = true) (hh : h = [] ∨ ∃ x, h = 126 :: x ∧ x ≠ [] ∧ ∀ c ∈ x, isX c = true) (hE : Stop E) :
    parseP (joinP c ++ (t ++ (joinS s ++ (h ++ E)))) = ⟨joinP c ++ (t ++ (joinS s ++ (h ++ E))), c, t, s, h, (buildP E).1, (buildP E).2.1, (buildP E).2.2⟩ ∧ rest3 (joinP c ++ (t ++ (joinS s ++ (h ++ E)))) = h ++ E := by
  -- heads
  have hZ : hd (h ++ E) = 126 ∨ hd (h ++ E) = hd E := by
    rcases hh with rfl | ⟨x, rfl, _, _⟩
    · right; rfl
    · left; rfl
  have hY : hd (joinS s ++ (h ++ E)) = 95 ∨ hd (joinS s ++ (h ++ E)) = hd (h ++ E) := by
    by_cases h0 : s = []
    · right; rw [h0]; rfl
    · left; exact hd_joinS h0
  have hZl : isL (hd (h ++ E)) = false := by rcases hZ with e | e <;> rw [e]; · rfl
                                             · exact hE.let_
  have hZd : isD (hd (h ++ E)) = false := by rcases hZ with e | e <;> rw [e]; · rfl
                                             · exact hE.d
  have hZu : hd (h ++ E) ≠ 95 := by rcases hZ with e | e <;> rw [e]; · decide
                                    · exact hE.u
  have hZp : hd (h ++ E) ≠ 46 := by rcases hZ with e | e <;> rw [e]; · decide
                                    · exact hE.p
  have hYl : isL (hd (joinS s ++ (h ++ E))) = false := by rcases hY with e | e <;> rw [e]; · rfl
                                                          · exact hZl
  have hYd : isD (hd (joinS s ++ (h ++ E))) = false := by rcases hY with e | e <;> rw [e]; · rfl
                                                          · exact hZd
  have hYp : hd (joinS s ++ (h ++ E)) ≠ 46 := by rcases hY with e | e <;> rw [e]; · decide
                                                 · exact hZp
  have hX : isD (hd (t ++ (joinS s ++ (h ++ E)))) = false ∧ hd (t ++ (joinS s ++ (h ++ E))) ≠ 46 := by
    rcases ht with rfl | ⟨x, rfl, hx⟩
    · exact ⟨hYd, hYp⟩
    · have e : hd ([x] ++ (joinS s ++ (h ++ E))) = x := rfl
      rw [e]
      unfold isL at hx
      have := of_decide_eq_true hx
      refine ⟨?_, by omega⟩
      unfold isD
      exact decide_eq_false (by omega)
  have hlenc : c.length ≤ (joinP c ++ (t ++ (joinS s ++ (h ++ E)))).length := by
    have : ∀ r : List (List Int), r.length ≤ (r.flatMap fun x => 46 :: x).length := by
      intro r
      induction r with
      | nil => exact Nat.le_refl _
      | cons a r ih => simp only [List.flatMap_cons, List.length_append, List.length_cons]; omega
    cases c with
    | nil => exact absurd rfl hc0
    | cons d r =>
      have h1 := this r
      have h2 := List.length_pos_iff.2 (hc d List.mem_cons_self).1
      simp only [joinP, List.length_append, List.length_cons]
      omega
  have e1 := numsP_join c _ (t ++ (joinS s ++ (h ++ E))) hc0 hc hX.1 hX.2 hlenc
  have e2 : letterP (t ++ (joinS s ++ (h ++ E))) = (t, joinS s ++ (h ++ E)) := letterP_at (by
    rcases ht with e | ⟨x, e, hx⟩
    · exact .inl ⟨e, hYl⟩
    · exact .inr ⟨x, e, hx⟩)
  have hlens : s.length ≤ (joinS s ++ (h ++ E)).length := by
    have : ∀ r : List (List Int × List Int), r.length ≤ (joinS r).length := by
      intro r
      induction r with
      | nil => exact Nat.le_refl _
      | cons a r ih => rw [joinS_cons]; simp only [List.length_append, List.length_cons]; omega
    have := this s
    rw [List.length_append]
    omega
  have e3 := sufsP_join s _ (h ++ E) hs hZu (fun e => by rw [e] at hZl; exact absurd hZl (by decide)) hZd hlens
  have e4 : hashP (h ++ E) = (h, E) := hashP_at (by
    rcases hh with e | ⟨x, e, x0, hx⟩
    · exact .inl ⟨e, hE.t⟩
    · exact .inr ⟨x, e, x0, hx, hE.x⟩)
  have r1 : rest1 (joinP c ++ (t ++ (joinS s ++ (h ++ E)))) = t ++ (joinS s ++ (h ++ E)) := by unfold rest1; rw [e1]
  have r2 : rest2 (joinP c ++ (t ++ (joinS s ++ (h ++ E)))) = joinS s ++ (h ++ E) := by unfold rest2; rw [r1, e2]
  have r3 : rest3 (joinP c ++ (t ++ (joinS s ++ (h ++ E)))) = h ++ E := by unfold rest3; rw [r2, e3]
  have r4 : rest4 (joinP c ++ (t ++ (joinS s ++ (h ++ E)))) = E := by unfold rest4; rw [r3, e4]
  refine ⟨?_, r3⟩
  unfold parseP
  rw [e1, r1, e2, r2, e3, r3, e4, r4]
theorem Stop.nil : Stop [] := ⟨by decide, by decide, by decide, by decide, by decide⟩
theorem Stop.cons {x : Int} {l : List Int} (h1 : isD x = false) (h2 : x ≠ 46) (h3 : isL x = false) (h4 : x ≠ 95) (h5 : x ≠ 126) : Stop (x :: l) := ⟨h1, h2, h3, h4, h5⟩
theorem stop_E (b : Bool) (n : Int) : Stop (tE b n) := by
 cases b
 ·exact Stop.nil
 ·exact Stop.cons (by decide) (by decide) (by decide) (by decide) (by decide)
theorem build_E (b : Bool) (n : Int) : buildP (tE b n) = (false, tB b n, []) := by
 cases b
 ·rfl
 ·have hr : run isD (dec n) = (dec n).length := run_all (dec_isD n)
  show buildP (45 :: 114 :: dec n) = (false, dec n, [])
  unfold buildP
  rw [if_neg (by simp), if_pos (show List.take 2 (45 :: 114 :: dec n) = [45, 114] from rfl)]
  show (false, (dec n).take (run isD (dec n)), (dec n).drop (run isD (dec n))) = _
  rw [hr, List.take_length, List.drop_length]
theorem tC_good (ns : List Int) : ∀ d ∈ tC ns, d ≠ [] ∧ ∀ x ∈ d, isD x = true := by
 intro d hd
 obtain ⟨x, _, rfl⟩ := List.mem_map.1 hd
 exact ⟨dec_ne x, dec_isD x⟩
theorem tC_ne {ns : List Int} (h : ns ≠ []) : tC ns ≠ [] := by
 intro e
 exact h (List.map_eq_nil_iff.1 e)
theorem tL_good {l : Int} (hl : 0 ≤ l) : tL l = [] ∨ ∃ x, tL l = [x] ∧ isL x = true := by
 unfold tL
 have hm : 0 ≤ Int.tmod l 27 ∧ Int.tmod l 27 < 27 := by rw [Int.tmod_eq_emod_of_nonneg hl]; omega
 split
 ·refine .inr ⟨_, rfl, ?_⟩
  unfold isL
  exact decide_eq_true (by omega)
 ·exact .inl rfl
theorem tS_good {ss sn : List Int} (hse : ∀ x ∈ ss, 0 ≤ x) : ∀ x ∈ tS ss sn, x.1 ∈ sufWords ∧ ∀ c ∈ x.2, isD c = true := by
 intro x hx
 unfold tS tSfrom at hx
 obtain ⟨p, hp, rfl⟩ := List.mem_map.1 hx
 have h1 : p.1 ∈ ss := by
  have := List.mem_map_of_mem (f := Prod.fst) hp
  rwa [List.zipIdx_map_fst] at this
 refine ⟨sW_mem _ (hse _ h1), fun c hc => ?_⟩
 simp only at hc
 split at hc
 ·exact dec_isD _ c hc
 ·simp at hc
theorem tH_good {h : List Int} (hx : ∀ c ∈ h, isX c = true) : tH h = [] ∨ ∃ x, tH h = 126 :: x ∧ x ≠ [] ∧ ∀ c ∈ x, isX c = true := by
 unfold tH
 split
 ·exact .inl rfl
 ·rename_i h0
  exact .inr ⟨h, rfl, h0, hx⟩
theorem parse_text {ns ss sn h : List Int} {l n : Int} {b : Bool} (hk : tOk ns ss h) (hl : 0 ≤ l) (hse : ∀ x ∈ ss, 0 ≤ x) :
  parseP (textL ns l ss sn h b n) = ⟨textL ns l ss sn h b n, tC ns, tL l, tS ss sn, tH h, false, tB b n, []⟩ ∧ rest3 (textL ns l ss sn h b n) = tH h ++ tE b n := by
 obtain ⟨h0, _, _, _, hx⟩ := hk
 have := parse_join (tC_ne h0) (tC_good ns) (tL_good hl) (tS_good (sn := sn) hse) (tH_good hx) (stop_E b n)
 rw [build_E] at this
 exact this
def U8 (a : Int) : Prop := 0 ≤ a ∧ a ≤ 255
theorem u8_of {a : Int} (h : (Lit.int .u8 a).wf = true) : U8 a := by
 unfold U8
 simp [Lit.wf, IntKind.min, IntKind.max, IntKind.signed, IntKind.bits] at h
 omega
theorem joinP_len (c : List (List Int)) (h : ∀ d ∈ c, d.length ≤ 5) : (joinP c).length ≤ 6 * c.length := by
 have aux : ∀ r : List (List Int), (∀ d ∈ r, d.length ≤ 5) → (r.flatMap fun x => 46 :: x).length ≤ 6 * r.length := by
  intro r hr
  induction r with
  | nil => exact Nat.zero_le _
  | cons a r ih =>
   have h1 := hr a List.mem_cons_self
   have h2 := ih (fun d hd => hr d (List.mem_cons_of_mem _ hd))
   simp only [List.flatMap_cons, List.length_append, List.length_cons]
   omega
 cases c with
 | nil => exact Nat.zero_le _
 | cons d r =>
  have h1 := h d List.mem_cons_self
  have h2 := aux r (fun d hd => h d (List.mem_cons_of_mem _ hd))
  simp only [joinP, List.length_append, List.length_cons]
  omega
theorem joinS_len (s : List (List Int × List Int)) (h : ∀ x ∈ s, x.1.length ≤ 5 ∧ x.2.length ≤ 5) : (joinS s).length ≤ 11 * s.length := by
 induction s with
 | nil => exact Nat.zero_le _
 | cons a r ih =>
  have h1 := h a List.mem_cons_self
  have h2 := ih (fun d hd => h d (List.mem_cons_of_mem _ hd))
  rw [joinS_cons]
  simp only [List.length_append, List.length_cons]
  omega
theorem joinP_mem {c : List (List Int)} {x : Int} (h : x ∈ joinP c) : x = 46 ∨ ∃ d ∈ c, x ∈ d := by
 cases c with
 | nil => simp [joinP] at h
 | cons d r =>
  rcases List.mem_append.1 h with h | h
  ·exact .inr ⟨d, List.mem_cons_self, h⟩
  ·obtain ⟨e, he, hx⟩ := List.mem_flatMap.1 h
   rcases List.mem_cons.1 hx with e1 | e1
   ·exact .inl e1
   ·exact .inr ⟨e, List.mem_cons_of_mem _ he, e1⟩
theorem isD_asc {c : Int} (h : isD c = true) : 0 ≤ c ∧ c ≤ 127 := by
 unfold isD at h
 have := of_decide_eq_true h
 omega
theorem textL_good {ns ss sn h : List Int} {l n : Int} {b : Bool} (hk : tOk ns ss h) (hne : ∀ x ∈ ns, U16 x) (hl : 0 ≤ l) (hse : ∀ x ∈ ss, 0 ≤ x) (hsn : ∀ x ∈ sn, U16 x) (hn : U16 n) :
  (∀ c ∈ textL ns l ss sn h b n, 0 ≤ c ∧ c ≤ 127) ∧ (textL ns l ss sn h b n).length ≤ 3000 := by
 obtain ⟨k0, k1, k2, k3, k4⟩ := hk
 have hC := tC_good ns
 have hS := tS_good (sn := sn) hse
 have hS2 : ∀ x ∈ tS ss sn, x.1.length ≤ 5 ∧ x.2.length ≤ 5 := by
  intro x hx
  refine ⟨(sufWords_len (hS x hx).1).2, ?_⟩
  unfold tS tSfrom at hx
  obtain ⟨p, hp, rfl⟩ := List.mem_map.1 hx
  simp only
  split
  ·rename_i h0
   refine dec_len ?_
   by_cases hlt : p.2 < sn.length
   ·rw [List.getD_eq_getElem?_getD, List.getElem?_eq_getElem hlt]
    exact hsn _ (List.getElem_mem hlt)
   ·rw [List.getD_eq_getElem?_getD, List.getElem?_eq_none (by omega)] at h0
    exact absurd h0 (by decide)
  ·exact Nat.zero_le _
 constructor
 ·intro c hc
  unfold textL at hc
  rcases List.mem_append.1 hc with hc | hc
  ·rcases joinP_mem hc with e | ⟨d, hd, hx⟩
   ·omega
   ·exact isD_asc ((hC d hd).2 c hx)
  rcases List.mem_append.1 hc with hc | hc
  ·rcases tL_good hl with e | ⟨x, e, hx⟩
   ·rw [e] at hc; simp at hc
   ·rw [e] at hc
    have e2 : c = x := by simpa using hc
    rw [e2]
    unfold isL at hx
    have := of_decide_eq_true hx
    omega
  rcases List.mem_append.1 hc with hc | hc
  ·obtain ⟨x, hx, hc⟩ := List.mem_flatMap.1 hc
   obtain ⟨h1, h2⟩ := hS x hx
   rcases List.mem_cons.1 hc with e | hc
   ·omega
   rcases List.mem_append.1 hc with hc | hc
   ·have := sufWords_asc h1 c hc; omega
   ·exact isD_asc (h2 c hc)
  rcases List.mem_append.1 hc with hc | hc
  ·unfold tH at hc
   split at hc
   ·simp at hc
   ·rcases List.mem_cons.1 hc with e | hc
    ·omega
    ·have hX := k4 c hc
     have : (48 ≤ c ∧ c ≤ 57) ∨ (97 ≤ c ∧ c ≤ 102) := by simpa [isX, isD] using hX
     omega
  ·unfold tE at hc
   split at hc
   ·rcases List.mem_cons.1 hc with e | hc
    ·omega
    rcases List.mem_cons.1 hc with e | hc
    ·omega
    ·exact isD_asc (dec_isD n c hc)
   ·simp at hc
 ·have h1 := joinP_len (tC ns) (fun d hd => by
   obtain ⟨x, hx, rfl⟩ := List.mem_map.1 hd
   exact dec_len (hne x hx))
  have h2 := joinS_len (tS ss sn) hS2
  have e1 : (tC ns).length = ns.length := by simp [tC]
  have e2 : (tS ss sn).length = ss.length := by simp [tS, tSfrom]
  have h3 : (tL l).length ≤ 1 := by unfold tL; split <;> simp
  have h4 : (tH h).length ≤ 1 + h.length := by unfold tH; split <;> simp; omega
  have h5 : (tE b n).length ≤ 7 := by
   have := dec_len hn
   unfold tE
   split
   ·simp; omega
   ·simp
  unfold textL
  simp only [List.length_append]
  omega
end Go.Proofs.YtapaijpglfmfgaaDoor.V
end
section -- BH
namespace Go.Proofs.YtapaijpglfmfgaaDoor.V
open Go.RowKit Go.Proofs.YtapaijpglfmfgaaDoor.Q Go.Proofs.YtapaijpglfmfgaaDoorG Go.Proofs.YtapaijpglfmfgaaDoorP Go.Proofs.YtapaijpglfmfgaaDoorH Go.Proofs.YtapaijpglfmfgaaDoorB Go.Proofs.YtapaijpglfmfgaaDoorM Go.Proofs.YtapaijpglfmfgaaDoorW.PrintWords Go.Proofs.YtapaijpglfmfgaaDoorW.PrintLast
set_option linter.unusedVariables false
set_option linter.unusedSimpArgs false
theorem cmpN_self (n : Nat) : cmpN n n = 0 := by unfold cmpN; rw [if_neg (by omega), if_neg (by omega)]
theorem rem_self (s : ByteArray) : remCmp s s = 0 := by
 unfold remCmp
 rw [if_neg (fun h => h.2 h.1), if_neg (fun h => h.1 h.2)]
theorem clear_no95 {l : List Int} (h : ∀ c ∈ l, c ≠ 95) : clearB l = true := by
 rw [clearB_iff]
 intro j
 refine wordAt_no ?_
 cases e : l.drop j with
 | nil => decide
 | cons x r =>
  have : x ∈ l := List.mem_of_mem_drop (i := j) (by rw [e]; exact List.mem_cons_self)
  exact h x this
end Go.Proofs.YtapaijpglfmfgaaDoor.V
end
section -- BL0
namespace Go.Proofs.YtapaijpglfmfgaaDoor.V
open Go.RowKit Go.Proofs.YtapaijpglfmfgaaDoor.Q Go.Proofs.YtapaijpglfmfgaaDoorG Go.Proofs.YtapaijpglfmfgaaDoorP Go.Proofs.YtapaijpglfmfgaaDoorH Go.Proofs.YtapaijpglfmfgaaDoorB Go.Proofs.YtapaijpglfmfgaaDoorM Go.Proofs.YtapaijpglfmfgaaDoorW.PrintWords Go.Proofs.YtapaijpglfmfgaaDoorW.PrintLast Go.Proofs.YtapaijpglfmfgaaDoorW.PrintMore
set_option linter.unusedVariables false
set_option linter.unusedSimpArgs false
def Ch (a b c : Int) : Prop := (a ≤ 0 → b ≤ 0 → c ≤ 0 ∧ (c = 0 ↔ a = 0 ∧ b = 0)) ∧ (a ≥ 0 → b ≥ 0 → c ≥ 0 ∧ (c = 0 ↔ a = 0 ∧ b = 0))
theorem Ch.zero : Ch 0 0 0 := ⟨fun _ _ => ⟨Int.le_refl _, by simp⟩, fun _ _ => ⟨Int.le_refl _, by simp⟩⟩
theorem Ch.ne {a1 b1 c1 a2 b2 c2 : Int} (h1 : Ch a1 b1 c1) (h2 : Ch a2 b2 c2) : Ch (firstNe a1 a2) (firstNe b1 b2) (firstNe c1 c2) := by
 obtain ⟨A, B⟩ := h1
 obtain ⟨C, D⟩ := h2
 unfold Ch firstNe
 refine ⟨fun ha hb => ?_, fun ha hb => ?_⟩
 ·have p : a1 ≤ 0 := by split at ha <;> omega
  have q : b1 ≤ 0 := by split at hb <;> omega
  obtain ⟨r1, r2⟩ := A p q
  by_cases x : a1 = 0
  ·by_cases y : b1 = 0
   ·rw [if_pos x] at ha
    rw [if_pos y] at hb
    rw [if_pos x, if_pos y, if_pos (r2.2 ⟨x, y⟩)]
    exact C ha hb
   ·rw [if_pos x, if_neg y, if_neg (fun e => y (r2.1 e).2)]
    exact ⟨r1, fun e => absurd (r2.1 e).2 y, fun e => absurd e.2 y⟩
  ·rw [if_neg x, if_neg (fun e => x (r2.1 e).1)]
   exact ⟨r1, fun e => absurd (r2.1 e).1 x, fun e => absurd e.1 x⟩
 ·have p : a1 ≥ 0 := by split at ha <;> omega
  have q : b1 ≥ 0 := by split at hb <;> omega
  obtain ⟨r1, r2⟩ := B p q
  by_cases x : a1 = 0
  ·by_cases y : b1 = 0
   ·rw [if_pos x] at ha
    rw [if_pos y] at hb
    rw [if_pos x, if_pos y, if_pos (r2.2 ⟨x, y⟩)]
    exact D ha hb
   ·rw [if_pos x, if_neg y, if_neg (fun e => y (r2.1 e).2)]
    exact ⟨r1, fun e => absurd (r2.1 e).2 y, fun e => absurd e.2 y⟩
  ·rw [if_neg x, if_neg (fun e => x (r2.1 e).1)]
   exact ⟨r1, fun e => absurd (r2.1 e).1 x, fun e => absurd e.1 x⟩
theorem fromC_firstNe (d : Nat → Int) (n k : Nat) : fromC d (n + 1) k = firstNe (d k) (fromC d n (k + 1)) := rfl
theorem fromC_ch {d e f : Nat → Int} (h : ∀ k, Ch (d k) (e k) (f k)) : ∀ n k, Ch (fromC d n k) (fromC e n k) (fromC f n k)
 | 0, _ => Ch.zero
 | n + 1, k => by
  rw [fromC_firstNe, fromC_firstNe, fromC_firstNe]
  exact Ch.ne (h k) (fromC_ch h n (k + 1))
theorem fromC_end {d : Nat → Int} : ∀ n k, (∀ j, k ≤ j → d j = 0) → fromC d n k = 0
 | 0, _, _ => rfl
 | n + 1, k, h => by simp only [fromC]; rw [if_pos (h k (Nat.le_refl k))]; exact fromC_end n (k + 1) (fun j hj => h j (by omega))
theorem fromC_more {d : Nat → Int} : ∀ n m k, n ≤ m → (∀ j, k + n ≤ j → d j = 0) → fromC d n k = fromC d m k
 | 0, m, k, _, h => (fromC_end m k h).symm
 | n + 1, 0, k, hn, _ => by omega
 | n + 1, m + 1, k, hn, h => by
  rw [fromC_firstNe, fromC_firstNe, fromC_more n m (k + 1) (by omega) (fun j hj => h j (by omega))]
theorem fromC_congr {d e : Nat → Int} (h : ∀ k, d k = e k) : ∀ n k, fromC d n k = fromC e n k
 | 0, _ => rfl
 | n + 1, k => by rw [fromC_firstNe, fromC_firstNe, h k, fromC_congr h n (k + 1)]
theorem cmpN_ch (a b c : Nat) : Ch (cmpN a b) (cmpN b c) (cmpN a c) := by
 unfold Ch cmpN
 repeat' split
 all_goals omega
theorem sufC_ne (w1 : Int) (n1 : Nat) (w2 : Int) (n2 : Nat) : sufC w1 n1 w2 n2 = firstNe (if w1 > w2 then 1 else if w1 < w2 then -1 else 0) (cmpN n1 n2) := by
 unfold sufC firstNe
 repeat' split
 all_goals first | rfl | (exfalso; omega)
theorem w_ch (a b c : Int) : Ch (if a > b then 1 else if a < b then -1 else 0) (if b > c then 1 else if b < c then -1 else 0) (if a > c then 1 else if a < c then -1 else 0) := by
 unfold Ch
 repeat' split
 all_goals omega
theorem sufD_ch (l m n : List Sx) (k : Nat) : Ch (sufD l m k) (sufD m n k) (sufD l n k) := by
 unfold sufD
 rw [sufC_ne, sufC_ne, sufC_ne]
 exact Ch.ne (w_ch _ _ _) (cmpN_ch _ _ _)
theorem sufD_end (l m : List Sx) (j : Nat) (h : max l.length m.length ≤ j) : sufD l m j = 0 := by
 unfold sufD sxW sxN
 rw [List.getElem?_eq_none (by omega), List.getElem?_eq_none (by omega)]
 rfl
theorem sufsC_more (l m : List Sx) (n : Nat) (h : max l.length m.length ≤ n) : sufsC l m = fromC (sufD l m) n 0 :=
 fromC_more _ _ 0 h (fun j hj => sufD_end l m j (by omega))
theorem sufsC_ch (l m n : List Sx) : Ch (sufsC l m) (sufsC m n) (sufsC l n) := by
 rw [sufsC_more l m (max l.length (max m.length n.length)) (by omega), sufsC_more m n (max l.length (max m.length n.length)) (by omega), sufsC_more l n (max l.length (max m.length n.length)) (by omega)]
 exact fromC_ch (sufD_ch l m n) _ _
theorem cmp_ch : ∀ a b c : List Int, Ch (cmp_ a b) (cmp_ b c) (cmp_ a c)
 | [], [], [] => Ch.zero
 | [], [], _ :: _ => by simp only [cmp_]; unfold Ch; omega
 | [], _ :: _, [] => by simp only [cmp_]; unfold Ch; omega
 | [], y :: b, z :: c => by
  simp only [cmp_]
  unfold Ch
  repeat' split
  all_goals omega
 | _ :: _, [], [] => by simp only [cmp_]; unfold Ch; omega
 | _ :: _, [], _ :: _ => by
  simp only [cmp_]
  unfold Ch
  repeat' split
  all_goals omega
 | x :: a, y :: b, [] => by
  simp only [cmp_]
  unfold Ch
  repeat' split
  all_goals omega
 | x :: a, y :: b, z :: c => by
  have ih := cmp_ch a b c
  simp only [cmp_]
  unfold Ch at *
  repeat' split
  all_goals omega
theorem strCmp_eq (a b : ByteArray) : strCmp a b = cmp_ (bytesOf a) (bytesOf b) := compare_B a b
theorem letters_eq (a b : ByteArray) : lettersCmp a b = cmp_ (bytesOf a) (bytesOf b) := by
 unfold lettersCmp
 rw [strCmp_eq]
 have ha := toList_nil a
 have hb := toList_nil b
 cases ea : bytesOf a with
 | nil =>
  rw [ea] at ha
  cases eb : bytesOf b with
  | nil =>
   rw [eb] at hb
   rw [if_neg (fun h => h.2 (hb.2 rfl)), if_neg (fun h => h.1 (ha.2 rfl))]
  | cons y r =>
   rw [eb] at hb
   rw [if_pos ⟨ha.2 rfl, fun e => by have := hb.1 e; cases this⟩]
   rfl
 | cons x r =>
  rw [ea] at ha
  have ha' : a.toList ≠ [] := fun e => by have := ha.1 e; cases this
  cases eb : bytesOf b with
  | nil =>
   rw [eb] at hb
   rw [if_neg (fun h => ha' h.1), if_pos ⟨ha', hb.2 rfl⟩]
   rfl
  | cons y q =>
   rw [eb] at hb
   rw [if_neg (fun h => ha' h.1), if_neg (fun h => by have := hb.1 h.2; cases this)]
theorem letters_ch (a b c : ByteArray) : Ch (lettersCmp a b) (lettersCmp b c) (lettersCmp a c) := by
 rw [letters_eq, letters_eq, letters_eq]
 exact cmp_ch _ _ _
theorem decD_head (n : Nat) : (n = 0 → decD n = [48]) ∧ (n ≠ 0 → ∃ c r, decD n = c :: r ∧ 49 ≤ c ∧ c ≤ 57) := by
 induction n using Nat.strongRecOn with
 | ind n ih =>
  refine ⟨fun h => by subst h; rw [decD_small (by omega)]; rfl, fun h0 => ?_⟩
  by_cases h : n < 10
  ·rw [decD_small h]
   exact ⟨_, _, rfl, by omega, by omega⟩
  ·obtain ⟨c, r, e, h1, h2⟩ := (ih (n / 10) (by omega)).2 (by omega)
   rw [decD_big h, e]
   exact ⟨c, _, rfl, h1, h2⟩
theorem dec_cmp {a b : Nat} (h : a = 0 ∨ b = 0) : cmp_ (decD a) (decD b) = cmpN a b := by
 have z0 : decD 0 = [48] := (decD_head 0).1 rfl
 by_cases ha : a = 0
 ·subst ha
  by_cases hb : b = 0
  ·subst hb; rw [z0]; rfl
  ·obtain ⟨c, r, e, h1, _⟩ := (decD_head b).2 hb
   rw [z0, e]
   unfold cmpN
   simp only [cmp_]
   rw [if_pos (by omega), if_pos (by omega)]
 ·obtain rfl : b = 0 := by omega
  obtain ⟨c, r, e, h1, _⟩ := (decD_head a).2 ha
  rw [z0, e]
  unfold cmpN
  simp only [cmp_]
  rw [if_neg (by omega), if_pos (by omega), if_neg (by omega), if_pos (by omega)]
def nmsOf (ns : List Int) : List Nm := ((tC ns).map strOfNums).map toNm
theorem nmsOf_get (ns : List Int) (k : Nat) : (nmsOf ns)[k]? = ns[k]?.map (fun a => toNm (strOfNums (dec a))) := by
 unfold nmsOf tC
 simp only [List.getElem?_map, Option.map_map]
 rfl
theorem toNm_dec {a : Int} (h : U16 a) : toNm (strOfNums (dec a)) = ⟨strOfNums (dec a), 0, a.toNat⟩ := by
 unfold toNm
 rw [dv_all, B_digits (dec_isD a), dec_val]
def vN (ns : List Int) (k : Nat) : Nat := (ns.getD k 0).toNat
theorem numD_text {ns ms : List Int} (hn : ∀ x ∈ ns, U16 x) (hm : ∀ x ∈ ms, U16 x) (k : Nat) : numD (nmsOf ns) (nmsOf ms) k = cmpN (vN ns k) (vN ms k) := by
 unfold numD nmO nmI nmN vN
 rw [nmsOf_get, nmsOf_get]
 simp only [List.getD_eq_getElem?_getD]
 cases e1 : ns[k]? with
 | none =>
  cases e2 : ms[k]? with
  | none => rfl
  | some b =>
   simp only [Option.map_none, Option.map_some, Option.getD_none, Option.getD_some]
   unfold numC
   rw [if_neg (fun h => h.1 rfl), toNm_dec (hm b (List.mem_of_getElem? e2))]
   rfl
 | some a =>
  cases e2 : ms[k]? with
  | none =>
   simp only [Option.map_none, Option.map_some, Option.getD_none, Option.getD_some]
   unfold numC
   rw [if_neg (fun h => h.2.1 rfl), toNm_dec (hn a (List.mem_of_getElem? e1))]
   rfl
  | some b =>
   simp only [Option.map_some, Option.getD_some]
   rw [toNm_dec (hn a (List.mem_of_getElem? e1)), toNm_dec (hm b (List.mem_of_getElem? e2))]
   unfold numC
   simp only
   split
   ·rename_i h
    rw [strCmp_eq, B_digits (dec_isD a), B_digits (dec_isD b)]
    refine dec_cmp ?_
    have z : ∀ x : Int, bt (strOfNums (dec x)) 0 = 48 → x.toNat = 0 := by
     intro x hx
     rw [bt_zero, B_digits (dec_isD x)] at hx
     by_cases h0 : x.toNat = 0
     ·exact h0
     ·obtain ⟨c, r, e, q1, _⟩ := (decD_head x.toNat).2 h0
      unfold dec at hx
      rw [e] at hx
      have : c = 48 := hx
      omega
    rcases h.2.2 with h | h
    ·exact .inl (z a h)
    ·exact .inr (z b h)
   ·rfl
theorem compsC_text {ns ms : List Int} (hn : ∀ x ∈ ns, U16 x) (hm : ∀ x ∈ ms, U16 x) (n : Nat) (h1 : ns.length ≤ n) (h2 : ms.length ≤ n) : compsC (nmsOf ns) (nmsOf ms) = fromC (fun k => cmpN (vN ns k) (vN ms k)) n 0 := by
 have l1 : (nmsOf ns).length = ns.length := by simp [nmsOf, tC]
 have l2 : (nmsOf ms).length = ms.length := by simp [nmsOf, tC]
 unfold compsC
 rw [l1, l2, ← fromC_congr (numD_text hn hm)]
 refine fromC_more _ _ 0 (by omega) (fun j hj => ?_)
 rw [numD_text hn hm]
 unfold vN
 rw [List.getD_eq_getElem?_getD, List.getD_eq_getElem?_getD, List.getElem?_eq_none (by omega), List.getElem?_eq_none (by omega)]
 exact cmpN_self _
theorem comps_ch {ns ms ps : List Int} (hn : ∀ x ∈ ns, U16 x) (hm : ∀ x ∈ ms, U16 x) (hp : ∀ x ∈ ps, U16 x) : Ch (compsC (nmsOf ns) (nmsOf ms)) (compsC (nmsOf ms) (nmsOf ps)) (compsC (nmsOf ns) (nmsOf ps)) := by
 rw [compsC_text hn hm (max ns.length (max ms.length ps.length)) (by omega) (by omega), compsC_text hm hp (max ns.length (max ms.length ps.length)) (by omega) (by omega), compsC_text hn hp (max ns.length (max ms.length ps.length)) (by omega) (by omega)]
 exact fromC_ch (fun k => cmpN_ch _ _ _) _ _
def pvT (o : List Int) (ns : List Int) (l : Int) (ss sn h : List Int) (b : Bool) (n : Int) : PV := ⟨o, tC ns, tL l, tS ss sn, tH h, false, tB b n, []⟩
theorem apC_ch {o1 o2 o3 : List Int} {ns1 ns2 ns3 ss1 ss2 ss3 sn1 sn2 sn3 h1 h2 h3 : List Int} {l1 l2 l3 n1 n2 n3 : Int} {b1 b2 b3 : Bool} (u1 : ∀ x ∈ ns1, U16 x) (u2 : ∀ x ∈ ns2, U16 x) (u3 : ∀ x ∈ ns3, U16 x) :
  Ch (apC (apOf (pvT o1 ns1 l1 ss1 sn1 h1 b1 n1)) (apOf (pvT o2 ns2 l2 ss2 sn2 h2 b2 n2))) (apC (apOf (pvT o2 ns2 l2 ss2 sn2 h2 b2 n2)) (apOf (pvT o3 ns3 l3 ss3 sn3 h3 b3 n3))) (apC (apOf (pvT o1 ns1 l1 ss1 sn1 h1 b1 n1)) (apOf (pvT o3 ns3 l3 ss3 sn3 h3 b3 n3))) := by
 unfold apC apOf pvT
 simp only [Bool.false_eq_true, false_and, if_false]
 refine Ch.ne (comps_ch u1 u2 u3) ?_
 refine Ch.ne (letters_ch _ _ _) ?_
 refine Ch.ne (sufsC_ch _ _ _) ?_
 refine Ch.ne (cmpN_ch _ _ _) ?_
 rw [rem_self]
 exact Ch.ne Ch.zero Ch.zero
theorem fits2_ev (ns : List Int) (l : Int) (ss sn : List Int) (h : ByteArray) (b : Bool) (n : Int) : ∃ q, laws_zzFits1.f ns l ss sn h b n = some q := by
 unfold laws_zzFits1.f
 repeat' split
 all_goals exact ⟨_, rfl⟩
theorem alpTexts_any (l : List S54) (hl : l.length ≤ 1000000) : ∀ (m i : Nat), l.length - i = m → i ≤ l.length → ∃ q, Ev (fun k => spec_alpTexts.l0 k l (i : Int)) q := by
 intro m
 induction m with
 | zero =>
  intro i hm hi
  refine ⟨true, Ev.succ ?_⟩
  simp only [spec_alpTexts.l0]
  refine Ev.neg (fun _ => by omega) ?_
  exact Ev.now _
 | succ m ih =>
  intro i hm hi
  obtain ⟨q, hq⟩ := ih (i + 1) (by omega) (by omega)
  by_cases h : ((rd_T54 l (i : Int)).f0).toList = ([] : List UInt8)
  ·refine ⟨false, Ev.succ ?_⟩
   simp only [spec_alpTexts.l0]
   refine Ev.pos (fun _ => by omega) ?_
   refine Ev.pos (fun _ => by omega) ?_
   refine Ev.pos (fun _ => h) ?_
   exact Ev.now _
  ·refine ⟨q, Ev.succ ?_⟩
   simp only [spec_alpTexts.l0]
   refine Ev.pos (fun _ => by omega) ?_
   refine Ev.pos (fun _ => by omega) ?_
   refine Ev.neg (fun _ => h) ?_
   rw [w64 (i := (i : Int) + 1) (by omega) (by omega)]
   exact hq
theorem alpBeyond_any (l : List S58) (hl : l.length ≤ 1000000) : ∀ (m i : Nat), l.length - i = m → i ≤ 1000000 → ∃ q, Ev (fun k => spec_alpBeyond.l0 k l (i : Int)) q := by
 intro m
 induction m with
 | zero =>
  intro i hm hi
  refine ⟨true, Ev.succ ?_⟩
  simp only [spec_alpBeyond.l0]
  refine Ev.neg (fun _ => by omega) ?_
  exact Ev.now _
 | succ m ih =>
  intro i hm hi
  obtain ⟨q, hq⟩ := ih (i + 1) (by omega) (by omega)
  by_cases h : ((rd_T58 l (i : Int)).f0) = 4
  ·refine ⟨false, Ev.succ ?_⟩
   simp only [spec_alpBeyond.l0]
   refine Ev.pos (fun _ => by omega) ?_
   refine Ev.pos (fun _ => by omega) ?_
   refine Ev.pos (fun _ => h) ?_
   exact Ev.now _
  ·by_cases h2 : ((rd_T58 l (i : Int)).f0) = 5
   ·refine ⟨false, Ev.succ ?_⟩
    simp only [spec_alpBeyond.l0]
    refine Ev.pos (fun _ => by omega) ?_
    refine Ev.pos (fun _ => by omega) ?_
    refine Ev.neg (fun _ => h) ?_
    refine Ev.pos (fun _ => h2) ?_
    exact Ev.now _
   ·refine ⟨q, Ev.succ ?_⟩
    simp only [spec_alpBeyond.l0]
    refine Ev.pos (fun _ => by omega) ?_
    refine Ev.pos (fun _ => by omega) ?_
    refine Ev.neg (fun _ => h) ?_
    refine Ev.neg (fun _ => h2) ?_
    rw [w64 (i := (i : Int) + 1) (by omega) (by omega)]
    exact hq
theorem known_any (o r l h : ByteArray) (i : Bool) (ns : List S54) (ss : List S58) (hb ng : Bool) (m : ByteArray) (o' r' l' h' : ByteArray) (i' : Bool) (ns' : List S54) (ss' : List S58) (hb' ng' : Bool) (m' : ByteArray)
  (z1 : ns.length ≤ 1000000) (z2 : ns'.length ≤ 1000000) (z3 : ss.length ≤ 1000000) (z4 : ss'.length ≤ 1000000) : ∃ q, Ev (fun k => spec_AlpineKnown.f k o r l h i ns ss hb ng m o' r' l' h' i' ns' ss' hb' ng' m') q := by
 obtain ⟨q1, e1⟩ := alpTexts_any ns z1 _ 0 rfl (Nat.zero_le _)
 obtain ⟨q2, e2⟩ := alpTexts_any ns' z2 _ 0 rfl (Nat.zero_le _)
 obtain ⟨q3, e3⟩ := alpBeyond_any ss z3 _ ss'.length rfl z4
 obtain ⟨q4, e4⟩ := alpBeyond_any ss' z4 _ ss.length rfl z3
 simp only [spec_AlpineKnown.f, spec_alpTexts.f, spec_alpBeyond.f]
 by_cases c : (i == i') = true
 case neg => exact ⟨false, Ev.neg (fun _ => c) (Ev.now _)⟩
 cases q1
 ·exact ⟨false, Ev.pos (fun _ => c) (Ev.bind e1 (Ev.neg (fun _ => Bool.false_ne_true) (Ev.now _)))⟩
 cases q2
 ·exact ⟨false, Ev.pos (fun _ => c) (Ev.bind e1 (Ev.pos (fun _ => rfl) (Ev.bind e2 (Ev.neg (fun _ => Bool.false_ne_true) (Ev.now _)))))⟩
 cases q3
 ·exact ⟨false, Ev.pos (fun _ => c) (Ev.bind e1 (Ev.pos (fun _ => rfl) (Ev.bind e2 (Ev.pos (fun _ => rfl) (Ev.bind e3 (Ev.neg (fun _ => Bool.false_ne_true) (Ev.now _)))))))⟩
 exact ⟨q4, Ev.pos (fun _ => c) (Ev.bind e1 (Ev.pos (fun _ => rfl) (Ev.bind e2 (Ev.pos (fun _ => rfl) (Ev.bind e3 (Ev.pos (fun _ => rfl) (Ev.bind e4 (Ev.now _))))))))⟩
theorem text_or (ns : List Int) (hne : ∀ x ∈ ns, U16 x) (l : Int) (hl : 0 ≤ l) (ss sn : List Int) (hse : ∀ x ∈ ss, 0 ≤ x) (hsn : ∀ x ∈ sn, U16 x) (h : ByteArray) (b : Bool) (n : Int) (hn : U16 n) :
  ∃ T : Texted, Ev (fun k => laws_Package_text.f k ns l ss sn h b n) T ∧ ((tOk ns ss (bytesOf h) ∧ T = goodT ns l ss sn (bytesOf h) b n) ∨ T = failT) := by
 obtain ⟨t1, t2⟩ := text_ev ns hne l hl ss sn hse hsn h b n (fun _ => hn)
 by_cases hk : tOk ns ss (bytesOf h)
 ·exact ⟨_, t1 hk, .inl ⟨hk, rfl⟩⟩
 ·exact ⟨_, t2 hk, .inr rfl⟩
theorem no95_end {h : List Int} (hx : ∀ c ∈ h, isX c = true) (b : Bool) (n : Int) : ∀ c ∈ tH h ++ tE b n, c ≠ 95 := by
 intro c hc e
 subst e
 rcases List.mem_append.1 hc with hc | hc
 ·unfold tH at hc
  split at hc
  ·simp at hc
  ·rcases List.mem_cons.1 hc with e | hc
   ·omega
   ·exact absurd (hx 95 hc) (by decide)
 ·unfold tE at hc
  split at hc
  ·rcases List.mem_cons.1 hc with e | hc
   ·omega
   rcases List.mem_cons.1 hc with e | hc
   ·omega
   ·exact absurd (dec_isD n 95 hc) (by decide)
  ·simp at hc
theorem text_ok {ns ss sn h : List Int} {l n : Int} {b : Bool} (hk : tOk ns ss h) (hne : ∀ x ∈ ns, U16 x) (hl : 0 ≤ l) (hse : ∀ x ∈ ss, 0 ≤ x) (hsn : ∀ x ∈ sn, U16 x) (hn : U16 n) :
  AOk (strOfNums (textL ns l ss sn h b n)) ∧ parseP (bytesOf (strOfNums (textL ns l ss sn h b n))) = pvT (textL ns l ss sn h b n) ns l ss sn h b n := by
 obtain ⟨hr, hlen⟩ := textL_good (l := l) (sn := sn) (b := b) (n := n) hk hne hl hse hsn hn
 have hB : bytesOf (strOfNums (textL ns l ss sn h b n)) = textL ns l ss sn h b n := B_str (fun c hc => by have := hr c hc; omega)
 obtain ⟨p1, p2⟩ := parse_text (sn := sn) (n := n) (b := b) hk hl hse
 obtain ⟨_, _, _, _, k4⟩ := hk
 refine ⟨⟨by rw [B_size, hB]; omega, ?_⟩, by rw [hB, p1]; rfl⟩
 rw [hB, p2]
 exact clear_no95 (no95_end k4 b n)
theorem cmp_text {X Y : ByteArray} (h1 : AOk X) (h2 : AOk Y) : impl_AlpineCompareText.f X Y = some (apC (apOf (parseP (bytesOf X))) (apOf (parseP (bytesOf Y))), true) := by
 unfold impl_AlpineCompareText.f
 rw [if_pos ⟨h1, h2⟩]
end Go.Proofs.YtapaijpglfmfgaaDoor.V
end
section -- BL
namespace Go.Proofs.YtapaijpglfmfgaaDoor.V
open Go.RowKit Go.Proofs.YtapaijpglfmfgaaDoor.Q Go.Proofs.YtapaijpglfmfgaaDoorG Go.Proofs.YtapaijpglfmfgaaDoorP Go.Proofs.YtapaijpglfmfgaaDoorH Go.Proofs.YtapaijpglfmfgaaDoorB Go.Proofs.YtapaijpglfmfgaaDoorM Go.Proofs.YtapaijpglfmfgaaDoorW.PrintWords Go.Proofs.YtapaijpglfmfgaaDoorW.PrintLast Go.Proofs.YtapaijpglfmfgaaDoorW.PrintMore
set_option linter.unusedVariables false
set_option linter.unusedSimpArgs false
theorem Ch.said {a b c : Int} (h : Ch a b c) : laws_chained.f a b c = some true := by
 obtain ⟨A, B⟩ := h
 unfold laws_chained.f
 have e1 : a < 0 ∨ a = 0 ∨ 0 < a := by omega
 have e2 : b < 0 ∨ b = 0 ∨ 0 < b := by omega
 rcases e1 with e1 | e1 | e1 <;> rcases e2 with e2 | e2 | e2
 ·have k := A (by omega) (by omega)
  have hc : c < 0 := by omega
  clear A B
  simp [show ¬ a = 0 by omega, show a ≤ 0 by omega, show ¬ 0 ≤ a by omega, show ¬ 0 < a by omega, show a < 0 by omega, show ¬ b = 0 by omega, show b ≤ 0 by omega, show ¬ 0 ≤ b by omega, show ¬ 0 < b by omega, show b < 0 by omega, show ¬ c = 0 by omega, show c ≤ 0 by omega, show ¬ 0 ≤ c by omega, show ¬ 0 < c by omega, show c < 0 by omega, show (a == 0) = false from beq_eq_false_iff_ne.2 (by omega), show (b == 0) = false from beq_eq_false_iff_ne.2 (by omega), show (c == 0) = false from beq_eq_false_iff_ne.2 (by omega)]
 ·have k := A (by omega) (by omega)
  have hc : c < 0 := by omega
  clear A B
  simp [show ¬ a = 0 by omega, show a ≤ 0 by omega, show ¬ 0 ≤ a by omega, show ¬ 0 < a by omega, show a < 0 by omega, show b = 0 by omega, show ¬ c = 0 by omega, show c ≤ 0 by omega, show ¬ 0 ≤ c by omega, show ¬ 0 < c by omega, show c < 0 by omega, show (a == 0) = false from beq_eq_false_iff_ne.2 (by omega), show (c == 0) = false from beq_eq_false_iff_ne.2 (by omega)]
 ·skip
  clear A B
  simp [show ¬ a = 0 by omega, show a ≤ 0 by omega, show ¬ 0 ≤ a by omega, show ¬ 0 < a by omega, show a < 0 by omega, show ¬ b = 0 by omega, show ¬ b ≤ 0 by omega, show 0 ≤ b by omega, show 0 < b by omega, show (a == 0) = false from beq_eq_false_iff_ne.2 (by omega), show (b == 0) = false from beq_eq_false_iff_ne.2 (by omega)]
 ·have k := A (by omega) (by omega)
  have hc : c < 0 := by omega
  clear A B
  simp [show a = 0 by omega, show ¬ b = 0 by omega, show b ≤ 0 by omega, show ¬ 0 ≤ b by omega, show ¬ 0 < b by omega, show b < 0 by omega, show ¬ c = 0 by omega, show c ≤ 0 by omega, show ¬ 0 ≤ c by omega, show ¬ 0 < c by omega, show c < 0 by omega, show (b == 0) = false from beq_eq_false_iff_ne.2 (by omega), show (c == 0) = false from beq_eq_false_iff_ne.2 (by omega)]
 ·have k := A (by omega) (by omega)
  have hc : c = 0 := by omega
  clear A B
  simp [show a = 0 by omega, show b = 0 by omega, show c = 0 by omega]
 ·have k := B (by omega) (by omega)
  have hc : c > 0 := by omega
  clear A B
  simp [show a = 0 by omega, show ¬ b = 0 by omega, show ¬ b ≤ 0 by omega, show 0 ≤ b by omega, show 0 < b by omega, show ¬ c = 0 by omega, show ¬ c ≤ 0 by omega, show 0 ≤ c by omega, show 0 < c by omega, show (b == 0) = false from beq_eq_false_iff_ne.2 (by omega), show (c == 0) = false from beq_eq_false_iff_ne.2 (by omega)]
 ·skip
  clear A B
  simp [show ¬ a = 0 by omega, show ¬ a ≤ 0 by omega, show 0 ≤ a by omega, show 0 < a by omega, show ¬ b = 0 by omega, show b ≤ 0 by omega, show ¬ 0 ≤ b by omega, show ¬ 0 < b by omega, show b < 0 by omega, show (a == 0) = false from beq_eq_false_iff_ne.2 (by omega), show (b == 0) = false from beq_eq_false_iff_ne.2 (by omega)]
 ·have k := B (by omega) (by omega)
  have hc : c > 0 := by omega
  clear A B
  simp [show ¬ a = 0 by omega, show ¬ a ≤ 0 by omega, show 0 ≤ a by omega, show 0 < a by omega, show b = 0 by omega, show ¬ c = 0 by omega, show ¬ c ≤ 0 by omega, show 0 ≤ c by omega, show 0 < c by omega, show (a == 0) = false from beq_eq_false_iff_ne.2 (by omega), show (c == 0) = false from beq_eq_false_iff_ne.2 (by omega)]
 ·have k := B (by omega) (by omega)
  have hc : c > 0 := by omega
  clear A B
  simp [show ¬ a = 0 by omega, show ¬ a ≤ 0 by omega, show 0 ≤ a by omega, show 0 < a by omega, show ¬ b = 0 by omega, show ¬ b ≤ 0 by omega, show 0 ≤ b by omega, show 0 < b by omega, show ¬ c = 0 by omega, show ¬ c ≤ 0 by omega, show 0 ≤ c by omega, show 0 < c by omega, show (a == 0) = false from beq_eq_false_iff_ne.2 (by omega), show (b == 0) = false from beq_eq_false_iff_ne.2 (by omega), show (c == 0) = false from beq_eq_false_iff_ne.2 (by omega)]
theorem FnAlpineOrder : laws_FnAlpineOrder.Pure := by
 intro ns1 l1 ss1 sn1 h1 b1 n1 ns2 l2 ss2 sn2 h2 b2 n2 ns3 l3 ss3 sn3 h3 b3 n3 _ a1 a2 _ a3 _ a4 _ a5 _ c1 c2 _ c3 _ c4 _ c5 _ d1 d2 _ d3 _ d4 _ d5
 have N1 : ∀ x ∈ ns1, U16 x := fun x hx => u16_of (a1 x hx)
 have N2 : ∀ x ∈ ns2, U16 x := fun x hx => u16_of (c1 x hx)
 have N3 : ∀ x ∈ ns3, U16 x := fun x hx => u16_of (d1 x hx)
 have L1 := u8_of a2
 have L2 := u8_of c2
 have L3 := u8_of d2
 have S1 : ∀ x ∈ ss1, 0 ≤ x := fun x hx => (u8_of (a3 x hx)).1
 have S2 : ∀ x ∈ ss2, 0 ≤ x := fun x hx => (u8_of (c3 x hx)).1
 have S3 : ∀ x ∈ ss3, 0 ≤ x := fun x hx => (u8_of (d3 x hx)).1
 have E1 : ∀ x ∈ sn1, U16 x := fun x hx => u16_of (a4 x hx)
 have E2 : ∀ x ∈ sn2, U16 x := fun x hx => u16_of (c4 x hx)
 have E3 : ∀ x ∈ sn3, U16 x := fun x hx => u16_of (d4 x hx)
 have B1 := u16_of a5
 have B2 := u16_of c5
 have B3 := u16_of d5
 clear a1 a2 a3 a4 a5 c1 c2 c3 c4 c5 d1 d2 d3 d4 d5
 obtain ⟨T1, t1, g1⟩ := text_or ns1 N1 l1 L1.1 ss1 sn1 S1 E1 h1 b1 n1 B1
 obtain ⟨T2, t2, g2⟩ := text_or ns2 N2 l2 L2.1 ss2 sn2 S2 E2 h2 b2 n2 B2
 obtain ⟨T3, t3, g3⟩ := text_or ns3 N3 l3 L3.1 ss3 sn3 S3 E3 h3 b3 n3 B3
 refine Ev.rounds ?_
 simp only [laws_FnAlpineOrder.f]
 have hout0 : Ev (fun k => laws_FnAlpineOrder.j0 k true ns1 l1 ss1 sn1 h1 b1 n1 ns2 l2 ss2 sn2 h2 b2 n2 ns3 l3 ss3 sn3 h3 b3 n3) true := by
  refine Ev.succ ?_
  simp only [laws_FnAlpineOrder.j0]
  refine Ev.pos (fun _ => by first | rfl | trivial) ?_
  exact Ev.now _
 have hout1 : ∀ (x y z p1 p2 p3 p4 : ByteArray) (p5 : Bool) (p6 : List S54) (p7 : List S58) (p8 p9 : Bool) (p10 q1 q2 q3 q4 : ByteArray) (q5 : Bool) (q6 : List S54) (q7 : List S58) (q8 q9 : Bool) (q10 r1 r2 r3 r4 : ByteArray) (r5 : Bool) (r6 : List S54) (r7 : List S58) (r8 r9 : Bool) (r10 : ByteArray),
   Ev (fun k => laws_FnAlpineOrder.j1 k x y z true p1 p2 p3 p4 p5 p6 p7 p8 p9 p10 q1 q2 q3 q4 q5 q6 q7 q8 q9 q10 r1 r2 r3 r4 r5 r6 r7 r8 r9 r10) true := by
  intros
  refine Ev.succ ?_
  simp only [laws_FnAlpineOrder.j1]
  refine Ev.pos (fun _ => by first | rfl | trivial) ?_
  exact Ev.now _
 have hout2 : ∀ (x y z : ByteArray), Ev (fun k => laws_FnAlpineOrder.j2 k x y z true) true := by
  intros
  refine Ev.succ ?_
  simp only [laws_FnAlpineOrder.j2]
  refine Ev.pos (fun _ => by first | rfl | trivial) ?_
  exact Ev.now _
 obtain ⟨f1, hf1⟩ := fits2_ev ns1 l1 ss1 sn1 h1 b1 n1
 obtain ⟨f2, hf2⟩ := fits2_ev ns2 l2 ss2 sn2 h2 b2 n2
 obtain ⟨f3, hf3⟩ := fits2_ev ns3 l3 ss3 sn3 h3 b3 n3
 refine Ev.bind0 hf1 ?_
 cases f1
 ·exact Ev.neg (fun _ => Bool.false_ne_true) hout0
 refine Ev.pos (fun _ => by first | rfl | trivial) ?_
 refine Ev.bind0 hf2 ?_
 cases f2
 ·exact Ev.neg (fun _ => Bool.false_ne_true) hout0
 refine Ev.pos (fun _ => by first | rfl | trivial) ?_
 refine Ev.bind0 hf3 ?_
 cases f3
 ·exact hout0
 refine Ev.succ ?_
 simp only [laws_FnAlpineOrder.j0]
 refine Ev.neg (fun _ => Bool.false_ne_true) ?_
 refine Ev.bind t1 ?_
 refine Ev.bind t2 ?_
 refine Ev.bind t3 ?_
 rcases g1 with ⟨k1, rfl⟩ | rfl
 case inr => exact Ev.neg (fun _ => Bool.false_ne_true) (hout1 _ _ _ _ _ _ _ _ _ _ _ _ _ _ _ _ _ _ _ _ _ _ _ _ _ _ _ _ _ _ _ _ _)
 refine Ev.pos (fun _ => by first | rfl | trivial) ?_
 rcases g2 with ⟨k2, rfl⟩ | rfl
 case inr => exact Ev.neg (fun _ => Bool.false_ne_true) (hout1 _ _ _ _ _ _ _ _ _ _ _ _ _ _ _ _ _ _ _ _ _ _ _ _ _ _ _ _ _ _ _ _ _)
 refine Ev.pos (fun _ => by first | rfl | trivial) ?_
 rcases g3 with ⟨k3, rfl⟩ | rfl
 case inr => exact Ev.neg (fun _ => Bool.false_ne_true) (hout1 _ _ _ _ _ _ _ _ _ _ _ _ _ _ _ _ _ _ _ _ _ _ _ _ _ _ _ _ _ _ _ _ _)
 refine Ev.pos (fun _ => by first | rfl | trivial) ?_
 obtain ⟨o1, e1⟩ := text_ok (sn := sn1) (b := b1) k1 N1 L1.1 S1 E1 B1
 obtain ⟨o2, e2⟩ := text_ok (sn := sn2) (b := b2) k2 N2 L2.1 S2 E2 B2
 obtain ⟨o3, e3⟩ := text_ok (sn := sn3) (b := b3) k3 N3 L3.1 S3 E3 B3
 obtain ⟨_, m1, m2, m3, _⟩ := k1
 obtain ⟨_, m4, m5, m6, _⟩ := k2
 obtain ⟨_, m7, m8, m9, _⟩ := k3
 rw [← B_size] at m3 m6 m9
 have hrun : ∀ q : Bool, Ev (fun k => laws_FnAlpineOrder.j1 k (strOfNums (textL ns1 l1 ss1 sn1 (bytesOf h1) b1 n1)) (strOfNums (textL ns2 l2 ss2 sn2 (bytesOf h2) b2 n2)) (strOfNums (textL ns3 l3 ss3 sn3 (bytesOf h3) b3 n3)) q
   (strOfNums (textL ns1 l1 ss1 sn1 (bytesOf h1) b1 n1)) ⟨#[]⟩ (strOfNums (tL l1)) (strOfNums (tH (bytesOf h1))) false (numsA (tC ns1)) (sufsA (tS ss1 sn1)) true false (magB (decL (tB b1 n1)))
   (strOfNums (textL ns2 l2 ss2 sn2 (bytesOf h2) b2 n2)) ⟨#[]⟩ (strOfNums (tL l2)) (strOfNums (tH (bytesOf h2))) false (numsA (tC ns2)) (sufsA (tS ss2 sn2)) true false (magB (decL (tB b2 n2)))
   (strOfNums (textL ns3 l3 ss3 sn3 (bytesOf h3) b3 n3)) ⟨#[]⟩ (strOfNums (tL l3)) (strOfNums (tH (bytesOf h3))) false (numsA (tC ns3)) (sufsA (tS ss3 sn3)) true false (magB (decL (tB b3 n3)))) true := by
  intro q
  cases q
  case true => exact hout1 _ _ _ _ _ _ _ _ _ _ _ _ _ _ _ _ _ _ _ _ _ _ _ _ _ _ _ _ _ _ _ _ _
  have zn : ∀ ns : List Int, ns.length ≤ 60 → (numsA (tC ns)).length ≤ 1000000 := fun ns h => by rw [numsA_length]; simp [tC]; omega
  have zs : ∀ ss sn : List Int, ss.length ≤ 60 → (sufsA (tS ss sn)).length ≤ 1000000 := fun ss sn h => by rw [sufsA_length]; simp [tS, tSfrom]; omega
  refine Ev.succ ?_
  simp only [laws_FnAlpineOrder.j1]
  refine Ev.neg (fun _ => Bool.false_ne_true) ?_
  obtain ⟨q1, hq1⟩ := known_any (strOfNums (textL ns1 l1 ss1 sn1 (bytesOf h1) b1 n1)) ⟨#[]⟩ (strOfNums (tL l1)) (strOfNums (tH (bytesOf h1))) false (numsA (tC ns1)) (sufsA (tS ss1 sn1)) true false (magB (decL (tB b1 n1))) (strOfNums (textL ns2 l2 ss2 sn2 (bytesOf h2) b2 n2)) ⟨#[]⟩ (strOfNums (tL l2)) (strOfNums (tH (bytesOf h2))) false (numsA (tC ns2)) (sufsA (tS ss2 sn2)) true false (magB (decL (tB b2 n2))) (zn _ m1) (zn _ m4) (zs _ _ m2) (zs _ _ m5)
  obtain ⟨q2, hq2⟩ := known_any (strOfNums (textL ns2 l2 ss2 sn2 (bytesOf h2) b2 n2)) ⟨#[]⟩ (strOfNums (tL l2)) (strOfNums (tH (bytesOf h2))) false (numsA (tC ns2)) (sufsA (tS ss2 sn2)) true false (magB (decL (tB b2 n2))) (strOfNums (textL ns3 l3 ss3 sn3 (bytesOf h3) b3 n3)) ⟨#[]⟩ (strOfNums (tL l3)) (strOfNums (tH (bytesOf h3))) false (numsA (tC ns3)) (sufsA (tS ss3 sn3)) true false (magB (decL (tB b3 n3))) (zn _ m4) (zn _ m7) (zs _ _ m5) (zs _ _ m8)
  obtain ⟨q3, hq3⟩ := known_any (strOfNums (textL ns1 l1 ss1 sn1 (bytesOf h1) b1 n1)) ⟨#[]⟩ (strOfNums (tL l1)) (strOfNums (tH (bytesOf h1))) false (numsA (tC ns1)) (sufsA (tS ss1 sn1)) true false (magB (decL (tB b1 n1))) (strOfNums (textL ns3 l3 ss3 sn3 (bytesOf h3) b3 n3)) ⟨#[]⟩ (strOfNums (tL l3)) (strOfNums (tH (bytesOf h3))) false (numsA (tC ns3)) (sufsA (tS ss3 sn3)) true false (magB (decL (tB b3 n3))) (zn _ m1) (zn _ m7) (zs _ _ m2) (zs _ _ m8)
  refine Ev.bind hq1 ?_
  cases q1
  ·exact Ev.neg (fun _ => Bool.false_ne_true) (hout2 _ _ _)
  refine Ev.pos (fun _ => by first | rfl | trivial) ?_
  refine Ev.bind hq2 ?_
  cases q2
  ·exact Ev.neg (fun _ => Bool.false_ne_true) (hout2 _ _ _)
  refine Ev.pos (fun _ => by first | rfl | trivial) ?_
  refine Ev.bind hq3 ?_
  cases q3
  ·exact hout2 _ _ _
  refine Ev.succ ?_
  simp only [laws_FnAlpineOrder.j2]
  refine Ev.neg (fun _ => Bool.false_ne_true) ?_
  refine Ev.bind0 (cmp_text o1 o2) ?_
  refine Ev.bind0 (cmp_text o2 o3) ?_
  refine Ev.bind0 (cmp_text o1 o3) ?_
  refine Ev.pos (fun _ => by first | rfl | trivial) ?_
  refine Ev.pos (fun _ => by first | rfl | trivial) ?_
  refine Ev.pos (fun _ => by first | rfl | trivial) ?_
  rw [e1, e2, e3]
  refine Ev.bind0 (apC_ch N1 N2 N3).said ?_
  exact Ev.now _
 by_cases g1 : (ss1.length : Int) = (ss2.length : Int)
 case neg => exact Ev.neg (fun _ => g1) (hrun true)
 refine Ev.pos (fun _ => g1) ?_
 by_cases g2 : (ss2.length : Int) = (ss3.length : Int)
 case neg => exact Ev.neg (fun _ => g2) (hrun true)
 refine Ev.pos (fun _ => g2) ?_
 by_cases g3 : (b1 != b2) = true
 ·exact Ev.pos (fun _ => g3) (hrun true)
 refine Ev.neg (fun _ => g3) ?_
 by_cases g4 : (b2 != b3) = true
 ·exact Ev.pos (fun _ => g4) (hrun true)
 refine Ev.neg (fun _ => g4) ?_
 refine Ev.pos (fun _ => by omega) ?_
 refine Ev.pos (fun _ => by rw [app_size]; omega) ?_
 exact hrun _
end Go.Proofs.YtapaijpglfmfgaaDoor.V
end
section -- PureFnAlpineOrder
namespace Go.Proofs.YtapaijpglfmfgaaDoor.Pure
theorem FnAlpineOrder : Q.laws_FnAlpineOrder.Pure := V.FnAlpineOrder
end Go.Proofs.YtapaijpglfmfgaaDoor.Pure
end
section -- K19
namespace Go.Proofs.YtapaijpglfmfgaaDoorG
open Go.RowKit Go.ChangeShapes Go.Proofs.YtapaijpglfmfgaaDoorW.PrintWords Go.Proofs.YtapaijpglfmfgaaDoorW.PrintLast
set_option linter.unusedVariables false
theorem err_star : "*" ++ "errors.errorString" = "*errors.errorString" := by decide
theorem err_row (u : TypeId) (h : Tryd.prog.typeName? 3 u = some "*errors.errorString") : u = 177 :=
 typeName_ptr_named (nm := "errors.errorString") (by rw [err_star]; kernel_rfl) (by kernel_rfl) (by decide) u (by rw [err_star]; exact h)
theorem sent {n : String} {text : List UInt8} {g : Nat} {W : World} (hg : Tryd.prog.globalNamed n = some g) (ht : (Tryd.prog.globals[g]?).map (·.type) = some 71)
    (h : laidMet Tryd.prog [(n, .iface "*errors.errorString" (.ptr (.agg [.lit (.string text)])))] W) : (∃ a, W.cell? ⟨g, 0, none⟩ = some (ErrV a)) ∧ g < W.heap.size := by
  obtain ⟨a, s, hv, _⟩ := laid_sentinel h hg ht Tryd.underlying71 err_row Tryd.underlying177 Tryd.underlying194 rfl rfl Tryd.underlying9 (by kernel_rfl) (by kernel_rfl)
  have hc : W.cell? ⟨g, 0, none⟩ = some (ErrV a) := by
    have h0 := World.var?_cell hg hv 0
    simpa [ErrV] using h0
  refine ⟨⟨a, hc⟩, ?_⟩
  rcases Nat.lt_or_ge g W.heap.size with hl | hl
  · exact hl
  · unfold World.cell? at hc
    rw [Array.getElem?_eq_none hl] at hc
    cases hc
theorem GL_of {l : List (String × DataW Unit)} {W : World} (hL : laidMetH Tryd.prog l W) (hp : (l.all fun x => x.2.handleName?.isNone) = true)
  (e1 : l.filter (fun x => x.1 == "io.EOF") = [("io.EOF", Go.Proofs.YtapaijpglfmfgaaDoor.Rows.laid_io_EOF)])
  (e2 : l.filter (fun x => x.1 == "pub-primogeniture/pub/bigall.errNoDigits") = [("pub-primogeniture/pub/bigall.errNoDigits", Go.Proofs.YtapaijpglfmfgaaDoor.Rows.laid_pub_primogeniture_pub_bigall_errNoDigits)])
  (e3 : l.filter (fun x => x.1 == "pub-primogeniture/pub/scalibr/semantic.ErrInvalidVersion") = [("pub-primogeniture/pub/scalibr/semantic.ErrInvalidVersion", Go.Proofs.YtapaijpglfmfgaaDoor.Rows.laid_pub_primogeniture_pub_scalibr_semantic_ErrInvalidVersion)]) : GL W := by
 have one : ∀ (n : String) (d : DataW Unit), l.filter (fun x => x.1 == n) = [(n, d)] → d.handleName?.isNone = true → laidMet Tryd.prog [(n, d)] W := by
  intro n d e hd
  have h := hL.filter (fun x => x.1 == n)
  rw [e, MakeChecks.laidMetH_plain _ _ _ (by simp [hd])] at h
  exact h
 obtain ⟨h1, g1⟩ := sent (g := 2) (by kernel_rfl) (by kernel_rfl) (one _ _ e1 (by kernel_rfl))
 obtain ⟨h2, g2⟩ := sent (g := 4) (by kernel_rfl) (by kernel_rfl) (one _ _ e2 (by kernel_rfl))
 obtain ⟨h3, g3⟩ := sent (g := 0) (by kernel_rfl) (by kernel_rfl) (one _ _ e3 (by kernel_rfl))
 exact ⟨by omega, h3, h1, h2⟩
end Go.Proofs.YtapaijpglfmfgaaDoorG
end
