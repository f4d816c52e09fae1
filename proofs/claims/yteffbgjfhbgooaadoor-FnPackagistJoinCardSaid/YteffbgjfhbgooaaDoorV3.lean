/- The plain laws of FnPackagistParse and FnPackagistJoin: the components of a version, cut at points. -/
import Derived.Test.YteffbgjfhbgooaaDoorV2
namespace Go.Proofs.YteffbgjfhbgooaaDoor.V
open Go.RowKit Go.Proofs.YteffbgjfhbgooaaDoor.Q Go.Proofs.YteffbgjfhbgooaaDoorH Go.Proofs.YteffbgjfhbgooaaDoorB Go.Proofs.YteffbgjfhbgooaaDoorW.PrintWords Go.Proofs.YteffbgjfhbgooaaDoorW.PrintLast
set_option linter.unusedVariables false
set_option linter.unusedSimpArgs false

def isPt (c : Int) : Bool := c == 46
theorem isPoint_eq (c : Int) : spec_isPoint.f c = some (isPt c) := rfl
def seg (l : List Int) (a b : Nat) : List Int := (l.drop a).take (b - a)
theorem seg_succ (l : List Int) (a b : Nat) (h : a ≤ b) (hb : b < l.length) : seg l a (b + 1) = seg l a b ++ [l.getD b 0] := by
  unfold seg
  have e : b + 1 - a = (b - a) + 1 := by omega
  have hlen : b - a < (l.drop a).length := by rw [List.length_drop]; omega
  rw [e, List.take_succ_eq_append_getElem hlen]
  congr 2
  simp only [List.getElem_drop]
  have : a + (b - a) = b := by omega
  simp [this, List.getD_eq_getElem?_getD, hb]
theorem seg_nil (l : List Int) (a : Nat) : seg l a a = [] := by unfold seg; rw [Nat.sub_self]; rfl
theorem B_seg (s : ByteArray) (a b : Nat) : bytesOf (s.extract a b) = seg (bytesOf s) a b := B_extract s a b

theorem cut_from (s : ByteArray) (hs : s.size ≤ 1000000) : ∀ (n from_ i : Nat) (out : List ByteArray), s.size - i = n → i ≤ s.size → from_ ≤ i → out.length ≤ i →
    ∃ r, Ev (fun k => spec_cut.l0 k s out from_ i) r ∧ r.map bytesOf = out.map bytesOf ++ glue (seg (bytesOf s) from_ i) (splitP isPt ((bytesOf s).drop i)) := by
  intro n
  induction n with
  | zero =>
    intro f i out hn hi hf ho
    have hi2 : i = s.size := by omega
    refine ⟨out ++ [s.extract f i], Ev.succ ?_, ?_⟩
    · simp only [spec_cut.l0, Int.toNat_natCast]
      refine Ev.pos (fun _ => by first | omega | trivial | assumption) ?_
      refine Ev.pos (fun _ => by first | omega | trivial | assumption) ?_
      refine Ev.pos (fun _ => by first | omega | trivial | assumption) ?_
      refine Ev.pos (fun _ => by first | omega | trivial | assumption) ?_
      refine Ev.pos (fun _ => by first | omega | trivial | assumption) ?_
      rw [w64 (by omega) (by omega)]
      refine Ev.succ ?_
      simp only [spec_cut.l0]
      refine Ev.neg (fun _ => by first | omega | assumption | nofun) ?_
      exact Ev.now _
    · rw [List.drop_of_length_le (by rw [bytesOf_length]; omega), List.map_append, List.map_cons, List.map_nil, B_seg]
      simp [splitP, glue]
  | succ n ih =>
    intro f i out hn hi hf ho
    have hl : i < (bytesOf s).length := by rw [bytesOf_length]; omega
    rw [drop_get _ _ hl]
    simp only [splitP]
    cases hp : isPt ((bytesOf s).getD i 0)
    · obtain ⟨r, hr, h1⟩ := ih f (i + 1) out (by omega) (by omega) (by omega) (by omega)
      refine ⟨r, Ev.succ ?_, ?_⟩
      · simp only [spec_cut.l0, isPoint_eq, Option.bind_some, bt_nat, hp]
        refine Ev.pos (fun _ => by first | omega | trivial | assumption) ?_
        refine Ev.neg (fun _ => by first | omega | assumption | nofun) ?_
        refine Ev.pos (fun _ => by first | omega | trivial | assumption) ?_
        refine Ev.pos (fun _ => by first | omega | trivial | assumption) ?_
        refine Ev.neg (fun _ => by first | omega | assumption | nofun) ?_
        rw [w64 (by omega) (by omega)]
        exact hr
      · rw [h1, if_neg (by simp), glue_glue, seg_succ _ _ _ hf hl]
    · obtain ⟨r, hr, h1⟩ := ih (i + 1) (i + 1) (out ++ [s.extract f i]) (by omega) (by omega) (by omega) (by simp; omega)
      refine ⟨r, Ev.succ ?_, ?_⟩
      · simp only [spec_cut.l0, isPoint_eq, Option.bind_some, bt_nat, hp, Int.toNat_natCast]
        refine Ev.pos (fun _ => by first | omega | trivial | assumption) ?_
        refine Ev.neg (fun _ => by first | omega | assumption | nofun) ?_
        refine Ev.pos (fun _ => by first | omega | trivial | assumption) ?_
        refine Ev.pos (fun _ => by first | omega | trivial | assumption) ?_
        refine Ev.pos (fun _ => by first | omega | trivial | assumption) ?_
        refine Ev.pos (fun _ => by first | omega | trivial | assumption) ?_
        refine Ev.pos (fun _ => by first | omega | trivial | assumption) ?_
        refine Ev.pos (fun _ => by first | omega | trivial | assumption) ?_
        rw [w64 (by omega) (by omega)]
        exact hr
      · rw [h1, if_pos rfl, seg_nil, glue_nil (splitP_ne _ _), List.map_append, List.map_cons, List.map_nil, B_seg]
        simp [glue]
theorem cut_ev (s : ByteArray) (hs : s.size ≤ 1000000) : ∃ r, Ev (fun k => spec_cut.f k s) r ∧ r.map bytesOf = splitP isPt (bytesOf s) := by
  obtain ⟨r, h, h1⟩ := cut_from s hs _ 0 0 [] rfl (by omega) (by omega) (by simp)
  refine ⟨r, h, ?_⟩
  rw [h1, seg_nil, List.drop_zero, glue_nil (splitP_ne _ _)]
  rfl
theorem points_from (s : ByteArray) (hs : s.size ≤ 1000000) : ∀ (n from_ i : Nat) (out : List ByteArray), s.size - i = n → i ≤ s.size → from_ ≤ i → out.length ≤ i →
    ∃ r, Ev (fun k => laws_points.l0 k s out from_ i) r ∧ r.map bytesOf = out.map bytesOf ++ glue (seg (bytesOf s) from_ i) (splitP isPt ((bytesOf s).drop i)) := by
  intro n
  induction n with
  | zero =>
    intro f i out hn hi hf ho
    have hi2 : i = s.size := by omega
    refine ⟨out ++ [s.extract f i], Ev.succ ?_, ?_⟩
    · simp only [laws_points.l0, Int.toNat_natCast]
      refine Ev.pos (fun _ => by first | omega | trivial | assumption) ?_
      refine Ev.pos (fun _ => by first | omega | trivial | assumption) ?_
      refine Ev.pos (fun _ => by first | omega | trivial | assumption) ?_
      refine Ev.pos (fun _ => by first | omega | trivial | assumption) ?_
      refine Ev.pos (fun _ => by first | omega | trivial | assumption) ?_
      rw [w64 (by omega) (by omega)]
      refine Ev.succ ?_
      simp only [laws_points.l0]
      refine Ev.neg (fun _ => by first | omega | assumption | nofun) ?_
      exact Ev.now _
    · rw [List.drop_of_length_le (by rw [bytesOf_length]; omega), List.map_append, List.map_cons, List.map_nil, B_seg]
      simp [splitP, glue]
  | succ n ih =>
    intro f i out hn hi hf ho
    have hl : i < (bytesOf s).length := by rw [bytesOf_length]; omega
    rw [drop_get _ _ hl]
    simp only [splitP]
    cases hp : isPt ((bytesOf s).getD i 0)
    · obtain ⟨r, hr, h1⟩ := ih f (i + 1) out (by omega) (by omega) (by omega) (by omega)
      have hp2 : (bytesOf s).getD i 0 ≠ 46 := by simpa [isPt] using hp
      refine ⟨r, Ev.succ ?_, ?_⟩
      · simp only [laws_points.l0, bt_nat]
        refine Ev.pos (fun _ => by first | omega | trivial | assumption) ?_
        refine Ev.neg (fun _ => by first | omega | assumption | nofun) ?_
        refine Ev.pos (fun _ => by first | omega | trivial | assumption) ?_
        refine Ev.pos (fun _ => by first | omega | trivial | assumption) ?_
        refine Ev.neg (fun _ => by first | omega | assumption | nofun) ?_
        rw [w64 (by omega) (by omega)]
        exact hr
      · rw [h1, if_neg (by simp), glue_glue, seg_succ _ _ _ hf hl]
    · obtain ⟨r, hr, h1⟩ := ih (i + 1) (i + 1) (out ++ [s.extract f i]) (by omega) (by omega) (by omega) (by simp; omega)
      have hp2 : (bytesOf s).getD i 0 = 46 := by simpa [isPt] using hp
      refine ⟨r, Ev.succ ?_, ?_⟩
      · simp only [laws_points.l0, bt_nat, Int.toNat_natCast]
        refine Ev.pos (fun _ => by first | omega | trivial | assumption) ?_
        refine Ev.neg (fun _ => by first | omega | assumption | nofun) ?_
        refine Ev.pos (fun _ => by first | omega | trivial | assumption) ?_
        refine Ev.pos (fun _ => by first | omega | trivial | assumption) ?_
        refine Ev.pos (fun _ => by first | omega | trivial | assumption) ?_
        refine Ev.pos (fun _ => by first | omega | trivial | assumption) ?_
        refine Ev.pos (fun _ => by first | omega | trivial | assumption) ?_
        refine Ev.pos (fun _ => by first | omega | trivial | assumption) ?_
        rw [w64 (by omega) (by omega)]
        exact hr
      · rw [h1, if_pos rfl, seg_nil, glue_nil (splitP_ne _ _), List.map_append, List.map_cons, List.map_nil, B_seg]
        simp [glue]
theorem points_ev (s : ByteArray) (hs : s.size ≤ 1000000) : ∃ r, Ev (fun k => laws_points.f k s) r ∧ r.map bytesOf = splitP isPt (bytesOf s) := by
  obtain ⟨r, h, h1⟩ := points_from s hs _ 0 0 [] rfl (by omega) (by omega) (by simp)
  refine ⟨r, h, ?_⟩
  rw [h1, seg_nil, List.drop_zero, glue_nil (splitP_ne _ _)]
  rfl

def nPt (c : Int) : Bool := !isPt c
theorem index_from (s : ByteArray) (hs : s.size ≤ 1000000) : ∀ (n i : Nat), s.size - i = n → i ≤ s.size →
    Ev (fun k => semantic_zzIndex.l0 k s (⟨#[46]⟩ : ByteArray) i) (if i + run nPt ((bytesOf s).drop i) < s.size then ((i + run nPt ((bytesOf s).drop i) : Nat) : Int) else -1) := by
  have e1 : ((⟨#[46]⟩ : ByteArray).size : Int) = 1 := rfl
  intro n
  induction n with
  | zero =>
    intro i hn hi
    refine Ev.succ ?_
    simp only [semantic_zzIndex.l0]
    rw [e1, w64 (by omega) (by omega)]
    refine Ev.neg (fun _ => by first | omega | assumption | nofun) ?_
    refine Ev.eq (Ev.now _) ?_
    rw [if_neg (by omega)]
  | succ n ih =>
    intro i hn hi
    have hl : i < (bytesOf s).length := by rw [bytesOf_length]; omega
    have hg := drop_get _ _ hl
    have hone : bytesOf (s.extract i (i + 1)) = [(bytesOf s).getD i 0] := by rw [B_extract, hg]; simp
    refine Ev.succ ?_
    simp only [semantic_zzIndex.l0]
    rw [e1, w64 (by omega) (by omega)]
    have e2 : ((i : Int) + 1).toNat = i + 1 := by omega
    rw [e2, Int.toNat_natCast]
    refine Ev.pos (fun _ => by first | omega | trivial | assumption) ?_
    refine Ev.pos (fun _ => by first | omega | trivial | assumption) ?_
    refine Ev.pos (fun _ => by first | omega | trivial | assumption) ?_
    cases hp : isPt ((bytesOf s).getD i 0)
    · refine Ev.neg (fun _ h => ?_) ?_
      · rw [toList_eq_iff, hone] at h
        have h2 : [(bytesOf s).getD i 0] = [46] := h
        injection h2 with h2 _
        rw [h2] at hp
        cases hp
      · refine Ev.eq (ih (i + 1) (by omega) (by omega)) ?_
        rw [hg, run_pos (show nPt ((bytesOf s).getD i 0) = true by unfold nPt; rw [hp]; rfl)]
        have e3 : i + 1 + run nPt ((bytesOf s).drop (i + 1)) = i + (run nPt ((bytesOf s).drop (i + 1)) + 1) := by omega
        rw [e3]
    · refine Ev.pos (fun _ => ?_) ?_
      · rw [toList_eq_iff, hone]
        have : (bytesOf s).getD i 0 = 46 := by simpa [isPt] using hp
        rw [this]
        rfl
      · refine Ev.eq (Ev.now _) ?_
        rw [hg, run_neg (show nPt ((bytesOf s).getD i 0) = false by unfold nPt; rw [hp]; rfl), if_pos (by omega)]
        rfl
theorem split_from : ∀ (n : Nat) (s : ByteArray) (out : List ByteArray), s.size ≤ n → n ≤ 1000000 → out.length + n ≤ 2000000 →
    ∃ r, Ev (fun k => semantic_zzSplit.l1 k s (⟨#[46]⟩ : ByteArray) out) r ∧ r.map bytesOf = out.map bytesOf ++ splitP isPt (bytesOf s) := by
  have e1 : ((⟨#[46]⟩ : ByteArray).size : Int) = 1 := rfl
  intro n
  induction n using Nat.strongRecOn with
  | _ n ih =>
    intro s out hs hn ho
    have hix := index_from s (by omega) _ 0 rfl (by omega)
    have hix2 : Ev (fun k => semantic_zzIndex.f k s (⟨#[46]⟩ : ByteArray)) (if run nPt (bytesOf s) < s.size then ((run nPt (bytesOf s) : Nat) : Int) else -1) := by simpa [semantic_zzIndex.f] using hix
    have hsp := splitP_run isPt (bytesOf s)
    rw [bytesOf_length] at hsp
    have hrun : run (fun c => !isPt c) (bytesOf s) = run nPt (bytesOf s) := rfl
    rw [hrun] at hsp
    by_cases hlt : run nPt (bytesOf s) < s.size
    · rw [if_pos hlt] at hix2 hsp
      obtain ⟨m, hm⟩ : ∃ m, m = run nPt (bytesOf s) := ⟨_, rfl⟩
      rw [← hm] at hix2 hsp hlt
      have hb : bytesOf (s.extract (m + 1) s.size) = (bytesOf s).drop (m + 1) := B_drop _ _
      have hsz : (s.extract (m + 1) s.size).size = s.size - (m + 1) := by rw [B_size, hb, List.length_drop, bytesOf_length]
      obtain ⟨r, hr, h1⟩ := ih (s.size - (m + 1)) (by omega) (s.extract (m + 1) s.size) (out ++ [s.extract 0 m]) (by omega) (by omega) (by simp; omega)
      refine ⟨r, Ev.succ ?_, ?_⟩
      · simp only [semantic_zzSplit.l1]
        refine Ev.bind hix2 ?_
        rw [e1, w64 (i := (m : Int) + 1) (by omega) (by omega)]
        have e2 : ((m : Int) + 1).toNat = m + 1 := by omega
        rw [e2, Int.toNat_natCast]
        refine Ev.neg (fun _ => by first | omega | assumption | nofun) ?_
        refine Ev.pos (fun _ => by first | omega | trivial | assumption) ?_
        refine Ev.pos (fun _ => by first | omega | trivial | assumption) ?_
        refine Ev.pos (fun _ => by first | omega | trivial | assumption) ?_
        refine Ev.pos (fun _ => by first | omega | trivial | assumption) ?_
        refine Ev.pos (fun _ => by first | omega | trivial | assumption) ?_
        exact hr
      · rw [h1, hb, hsp, List.map_append, List.map_cons, List.map_nil, B_take]
        simp
    · rw [if_neg hlt] at hix2 hsp
      refine ⟨out ++ [s], Ev.succ ?_, ?_⟩
      · simp only [semantic_zzSplit.l1]
        refine Ev.bind hix2 ?_
        refine Ev.pos (fun _ => by first | omega | trivial | assumption) ?_
        refine Ev.pos (fun _ => by first | omega | trivial | assumption) ?_
        exact Ev.now _
      · rw [hsp]; simp
theorem split_ev (s : ByteArray) (hs : s.size ≤ 1000000) : ∃ r, Ev (fun k => semantic_zzSplit.f k s (⟨#[46]⟩ : ByteArray)) r ∧ r.map bytesOf = splitP isPt (bytesOf s) := by
  obtain ⟨r, h, h1⟩ := split_from s.size s [] (Nat.le_refl _) hs (by simp; omega)
  refine ⟨r, ?_, by simpa using h1⟩
  simp only [semantic_zzSplit.f]
  refine Ev.neg (fun _ h => by cases h) ?_
  exact h

theorem parse_ev (s : ByteArray) (hs : s.size ≤ 100000) (ha : Asc (bytesOf s)) : ∃ r, Ev (fun k => impl_PackagistParse.f k s) r ∧ r.map bytesOf = splitP isPt (canon (bytesOf s)) := by
  obtain ⟨c, hc, _, hcb⟩ := canonical_ev2 s hs ha
  have hcs : c.size ≤ 2 * s.size := by rw [B_size, hcb, B_size]; exact canon_length _
  obtain ⟨r, hr, h1⟩ := split_ev c (by omega)
  have hrl : r.length ≤ 1000001 := by
    have := congrArg List.length h1
    rw [List.length_map] at this
    rw [this]
    have := splitP_length isPt (bytesOf c)
    rw [bytesOf_length] at this
    omega
  refine ⟨r, ?_, by rw [h1, hcb]⟩
  simp only [impl_PackagistParse.f, semantic_ParsePackagistVersion.f, semantic_ZZPackagistTold.f, Option.bind_some]
  refine Ev.bind (Ev.bind hc (Ev.bind hr (Ev.now _))) ?_
  refine Ev.pos (fun _ => by simp; omega) ?_
  exact Ev.eq (Ev.now _) (by simp)
theorem parse_length {r : List ByteArray} {l : List Int} (h : r.map bytesOf = splitP isPt l) : 0 < r.length ∧ r.length ≤ l.length + 1 := by
  have h1 := congrArg List.length h
  rw [List.length_map] at h1
  have h2 := splitP_length isPt l
  have h3 := List.length_pos_iff.2 (splitP_ne isPt l)
  omega

theorem FnPackagistParse : laws_FnPackagistParse.Pure := by
  intro s hs
  refine Ev.rounds (r := true) (g := fun k => laws_FnPackagistParse.f k s) ?_
  simp only [laws_FnPackagistParse.f]
  by_cases hbig : (s.size : Int) > 2147483647
  · refine Ev.pos (fun _ => by first | omega | trivial | assumption) ?_
    exact Ev.now _
  · refine Ev.neg (fun _ => by first | omega | assumption | nofun) ?_
    refine Ev.bind (short_one s) ?_
    have yes : Ev (fun k => laws_FnPackagistParse.j0 k s true) true := by
      refine Ev.succ ?_
      simp only [laws_FnPackagistParse.j0]
      refine Ev.pos (fun _ => by first | omega | trivial | assumption) ?_
      exact Ev.now _
    by_cases hsh : s.size ≤ 1200
    · refine Ev.pos (fun _ => decide_eq_true hsh) ?_
      simp only [spec_PackagistTextKnown.f]
      refine Ev.bind (Ev.bind (ascii_ev s (by omega)) (Ev.now _)) ?_
      by_cases ha : ∀ x ∈ bytesOf s, x ≤ 127
      · rw [decide_eq_true ha]
        have hA := Asc.of ha
        obtain ⟨r, hr, h1⟩ := parse_ev s (by omega) hA
        obtain ⟨c, hc, hcb⟩ := spec_canonical_ev s (by omega) hA
        obtain ⟨d, hd, hdb⟩ := canonical_ev s (by omega) hA
        have hcs : c.size ≤ 2 * s.size := by rw [B_size, hcb, B_size]; exact canon_length _
        have hds : d.size ≤ 2 * s.size := by rw [B_size, hdb, B_size]; exact canon_length _
        have hcl := canon_length (bytesOf s)
        rw [bytesOf_length] at hcl
        obtain ⟨r2, hr2, h2⟩ := cut_ev c (by omega)
        obtain ⟨r3, hr3, h3⟩ := points_ev d (by omega)
        rw [hcb] at h2
        rw [hdb] at h3
        obtain rfl : r = r2 := map_B_inj (h1.trans h2.symm)
        obtain rfl : r = r3 := map_B_inj (h1.trans h3.symm)
        have hrl := parse_length h1
        have ht := texts_ev r (by omega)
        refine Ev.succ ?_
        simp only [laws_FnPackagistParse.j0, Bool.not_true, spec_PackagistParse.f]
        refine Ev.neg (fun _ => by first | omega | assumption | nofun) ?_
        refine Ev.bind hr ?_
        refine Ev.pos (fun _ => by first | omega | trivial | assumption) ?_
        refine Ev.bind (Ev.bind hc (Ev.bind hr2 (Ev.now _))) (Ev.bind ht ?_)
        refine Ev.pos (fun _ => by first | omega | trivial | assumption) ?_
        exact Ev.bind hd (Ev.bind hr3 (Ev.bind ht (Ev.now _)))
      · rw [decide_eq_false ha]
        exact yes
    · refine Ev.neg (fun _ => by simpa using hsh) ?_
      exact yes

theorem join_from (s : ByteArray) (x3 l : List ByteArray) (hl : l.length ≤ 1000000) (hall : ∀ w ∈ l, w.size ≤ 1000000) (q : Bool) : ∀ (n i : Nat) (t : ByteArray), l.length - i = n → i ≤ l.length → 0 < i → t.size ≤ 1000001 * i →
    ∃ u, bytesOf u = bytesOf t ++ ((l.map bytesOf).drop i).flatMap (fun w => 46 :: w) ∧
      (∀ (r : Bool), Ev (fun k => if (x3.length : Int) = 0 then laws_FnPackagistJoin.j2 k x3 u true else (impl_PackagistCanonical.f k s).bind fun t216 => laws_FnPackagistJoin.j2 k x3 u (u.toList != t216.toList)) r → Ev (fun k => laws_FnPackagistJoin.l0 k s x3 t l l.length i) r) := by
  intro n
  induction n with
  | zero =>
    intro i t hn hi h0 ht
    refine ⟨t, ?_, fun r hr => Ev.succ ?_⟩
    · rw [List.drop_of_length_le (by rw [List.length_map]; omega)]
      simp
    · simp only [laws_FnPackagistJoin.l0]
      refine Ev.neg (fun _ => by first | omega | assumption | nofun) ?_
      exact hr
  | succ n ih =>
    intro i t hn hi h0 ht
    have hi2 : i < (l.map bytesOf).length := by rw [List.length_map]; omega
    have hw := rdOf_B l i
    have hws : (rdOf ByteArray.empty l (i : Nat)).size ≤ 1000000 := by
      have hmem : rdOf ByteArray.empty l (i : Nat) ∈ l := by
        simp only [rdOf, Int.toNat_natCast, List.getD_eq_getElem?_getD]
        rw [List.getElem?_eq_getElem (by omega)]
        exact List.getElem_mem _
      exact hall _ hmem
    have hp : bytesOf (⟨#[46]⟩ : ByteArray) = [46] := rfl
    have hs1 : (t ++ (⟨#[46]⟩ : ByteArray)).size = t.size + 1 := by rw [B_size, B_append, List.length_append, hp, bytesOf_length]; rfl
    have hs2 : ((t ++ (⟨#[46]⟩ : ByteArray)) ++ rdOf ByteArray.empty l (i : Nat)).size = t.size + 1 + (rdOf ByteArray.empty l (i : Nat)).size := by rw [B_size, B_append, List.length_append, bytesOf_length, bytesOf_length, hs1]
    have hmul : 1000001 * (i + 1) = 1000001 * i + 1000001 := Nat.mul_succ _ _
    obtain ⟨u, hu, hc⟩ := ih (i + 1) ((t ++ (⟨#[46]⟩ : ByteArray)) ++ rdOf ByteArray.empty l (i : Nat)) (by omega) (by omega) (by omega) (by omega)
    have hbig : 1000001 * i ≤ 1000001 * 1000000 := Nat.mul_le_mul_left _ (by omega)
    refine ⟨u, ?_, fun r hr => Ev.succ ?_⟩
    · rw [hu, B_append, B_append, hp, hw, drop_get_list _ _ hi2]
      simp
    · simp only [laws_FnPackagistJoin.l0]
      rw [w64 (i := (i : Int) + 1) (by omega) (by omega)]
      refine Ev.pos (fun _ => by first | omega | trivial | assumption) ?_
      refine Ev.pos (fun _ => by first | omega | trivial | assumption) ?_
      refine Ev.pos (fun _ => by first | omega | trivial | assumption) ?_
      refine Ev.pos (fun _ => by first | omega | trivial | assumption) ?_
      refine Ev.pos (fun _ => by first | omega | trivial | assumption) ?_
      refine Ev.pos (fun _ => by first | omega | trivial | assumption) ?_
      exact hc r hr

theorem FnPackagistJoin : laws_FnPackagistJoin.Pure := by
  intro s hs
  refine Ev.rounds (r := true) (g := fun k => laws_FnPackagistJoin.f k s) ?_
  simp only [laws_FnPackagistJoin.f]
  by_cases hbig : (s.size : Int) > 2147483647
  · refine Ev.pos (fun _ => by first | omega | trivial | assumption) ?_
    exact Ev.now _
  · refine Ev.neg (fun _ => by first | omega | assumption | nofun) ?_
    refine Ev.bind (short_one s) ?_
    have yes : Ev (fun k => laws_FnPackagistJoin.j0 k s true) true := by
      refine Ev.succ ?_
      simp only [laws_FnPackagistJoin.j0]
      refine Ev.pos (fun _ => by first | omega | trivial | assumption) ?_
      exact Ev.now _
    by_cases hsh : s.size ≤ 1200
    · refine Ev.pos (fun _ => decide_eq_true hsh) ?_
      simp only [spec_PackagistTextKnown.f]
      refine Ev.bind (Ev.bind (ascii_ev s (by omega)) (Ev.now _)) ?_
      by_cases ha : ∀ x ∈ bytesOf s, x ≤ 127
      · rw [decide_eq_true ha]
        have hA := Asc.of ha
        obtain ⟨l, hl, h1⟩ := parse_ev s (by omega) hA
        obtain ⟨c, hc, hcb⟩ := canonical_ev s (by omega) hA
        have hcA : Asc (bytesOf c) := by rw [hcb]; exact canon_asc hA
        have hcs : c.size ≤ 2 * s.size := by rw [B_size, hcb, B_size]; exact canon_length _
        have hcl := canon_length (bytesOf s)
        rw [bytesOf_length] at hcl
        have hll := parse_length h1
        obtain ⟨h, t, hsp, hj⟩ := splitP_join isPt 46 (fun c hc => by simpa [isPt] using hc) (canon (bytesOf s))
        have hparts : ∀ w ∈ l, w.size ≤ 2 * s.size := by
          intro w hw
          rw [B_size]
          have hm : bytesOf w ∈ h :: t := by rw [← hsp, ← h1]; exact List.mem_map_of_mem hw
          have hle : (bytesOf w).length ≤ (canon (bytesOf s)).length := by
            rw [← hj, List.length_append]
            rcases List.mem_cons.1 hm with e | e
            · rw [e]; omega
            · have hsub : ∀ (t : List (List Int)) (x : List Int), x ∈ t → x.length ≤ (t.flatMap (fun w => (46 : Int) :: w)).length := by
                intro t
                induction t with
                | nil => intro x hx; cases hx
                | cons a r ih =>
                  intro x hx
                  rw [List.flatMap_cons, List.length_append]
                  rcases List.mem_cons.1 hx with rfl | hx
                  · simp only [List.length_cons]; omega
                  · have := ih x hx; omega
              have := hsub t _ e
              omega
          omega
        have hl0 : 0 < (l.map bytesOf).length := by rw [List.length_map]; exact hll.1
        have hfirst : bytesOf (rdOf ByteArray.empty l ((0 : Nat) : Int)) = h := by rw [rdOf_B, h1, hsp]; rfl
        have hfirst2 : rdOf ByteArray.empty l ((0 : Nat) : Int) ∈ l := by
          simp only [rdOf, Int.toNat_natCast, List.getD_eq_getElem?_getD]
          rw [List.getElem?_eq_getElem hll.1]
          exact List.getElem_mem _
        have hfs := hparts _ hfirst2
        have he : ((⟨#[]⟩ : ByteArray) ++ rdOf ByteArray.empty l ((0 : Nat) : Int)).size = (rdOf ByteArray.empty l ((0 : Nat) : Int)).size := by rw [B_size, B_append, B_size]; rfl
        obtain ⟨u, hu, hcont⟩ := join_from s l l (by omega) (fun w hw => by have := hparts w hw; omega) true _ 1 ((⟨#[]⟩ : ByteArray) ++ rdOf ByteArray.empty l ((0 : Nat) : Int)) rfl (by omega) (by omega) (by omega)
        have hub : bytesOf u = canon (bytesOf s) := by
          rw [hu, B_append, hfirst, h1, hsp]
          have : bytesOf (⟨#[]⟩ : ByteArray) = [] := rfl
          rw [this]
          simpa using hj
        obtain rfl : u = c := B_inj (hub.trans hcb.symm)
        have start : ∀ r, Ev (fun k => laws_FnPackagistJoin.l0 k s l ((⟨#[]⟩ : ByteArray) ++ rdOf ByteArray.empty l ((0 : Nat) : Int)) l l.length ((1 : Nat) : Int)) r → Ev (fun k => laws_FnPackagistJoin.l0 k s l (⟨#[]⟩ : ByteArray) l l.length 0) r := by
          intro r hr
          have e0 : (⟨#[]⟩ : ByteArray).size = 0 := rfl
          refine Ev.succ ?_
          simp only [laws_FnPackagistJoin.l0]
          have e1 : wrap64 (0 + 1) = ((1 : Nat) : Int) := by rw [w64 (by omega) (by omega)]; rfl
          rw [e1, e0]
          refine Ev.pos (fun _ => by first | omega | trivial | assumption) ?_
          refine Ev.pos (fun _ => by first | omega | trivial | assumption) ?_
          refine Ev.pos (fun _ => by first | omega | trivial | assumption) ?_
          refine Ev.neg (fun _ => by first | omega | assumption | nofun) ?_
          have hfs2 : (rdOf ByteArray.empty l 0).size ≤ 2 * s.size := hfs
          refine Ev.pos (fun _ => by first | omega | trivial | assumption) ?_
          exact hr
        refine Ev.succ ?_
        simp only [laws_FnPackagistJoin.j0, Bool.not_true]
        refine Ev.neg (fun _ => by first | omega | assumption | nofun) ?_
        refine Ev.bind hl (start true (hcont true ?_))
        refine Ev.neg (fun _ => by first | omega | assumption | nofun) ?_
        refine Ev.bind hc ?_
        have hneq : (u.toList != u.toList) = false := by simp
        rw [hneq]
        refine Ev.succ ?_
        simp only [laws_FnPackagistJoin.j2]
        refine Ev.neg (fun _ => by first | omega | assumption | nofun) ?_
        by_cases hn : bytesOf u = []
        · refine Ev.pos (fun _ => (toList_nil u).2 hn) ?_
          exact Ev.now _
        · have hpos : 0 < u.size := by rw [B_size]; exact List.length_pos_iff.2 hn
          refine Ev.neg (fun _ h => hn ((toList_nil u).1 h)) ?_
          refine Ev.pos (fun _ => by first | omega | trivial | assumption) ?_
          rw [bt_zero]
          by_cases h118 : (bytesOf u).getD 0 0 = 118
          · refine Ev.pos (fun _ => by first | omega | trivial | assumption) ?_
            exact Ev.now _
          · refine Ev.neg (fun _ => by first | omega | assumption | nofun) ?_
            by_cases h86 : (bytesOf u).getD 0 0 = 86
            · refine Ev.pos (fun _ => by first | omega | trivial | assumption) ?_
              exact Ev.now _
            · refine Ev.neg (fun _ => by first | omega | assumption | nofun) ?_
              obtain ⟨r, hr, h2⟩ := parse_ev u (by omega) hcA
              rw [hub, canon_fix _ (by rw [← hub]; exact h118) (by rw [← hub]; exact h86)] at h2
              obtain rfl : l = r := map_B_inj (h1.trans h2.symm)
              refine Ev.bind hr (Ev.bind (texts_ev l (by omega)) (Ev.now _))
      · rw [decide_eq_false ha]
        exact yes
    · refine Ev.neg (fun _ => by simpa using hsh) ?_
      exact yes

end Go.Proofs.YteffbgjfhbgooaaDoor.V
