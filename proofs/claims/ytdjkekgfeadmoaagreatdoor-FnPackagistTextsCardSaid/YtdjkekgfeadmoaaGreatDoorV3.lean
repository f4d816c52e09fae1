/- The plain laws of FnPackagistParse and FnPackagistJoin: the components of a version, cut at points. -/
import Derived.Test.YtdjkekgfeadmoaaGreatDoorV2
namespace Go.Proofs.YtdjkekgfeadmoaaGreatDoor.V
open Go.RowKit Go.Proofs.YtdjkekgfeadmoaaGreatDoor.Q Go.Proofs.YtdjkekgfeadmoaaGreatDoorH Go.Proofs.YtdjkekgfeadmoaaGreatDoorB Go.Proofs.YtdjkekgfeadmoaaGreatDoorW.PrintWords Go.Proofs.YtdjkekgfeadmoaaGreatDoorW.PrintLast
set_option linter.unusedVariables false
set_option linter.unusedSimpArgs false

def isPt (c : Int) : Bool := c == 46
theorem isPoint_eq (c : Int) : spec_isPoint.f c = some (isPt c) := rfl
def seg (l : List Int) (a b : Nat) : List Int := (l.drop a).take (b - a)
theorem seg_succ (l : List Int) (a b : Nat) (h : a ≤ b) (hb : b < l.length) : seg l a (b + 1) = seg l a b ++ [l.getD b 0] := by
  unfold seg
  have e : b + 1 - a = (b - a) + 1 := by omega
  have hlen : b - a < (l.drop a).length := by rw [List.length_drop]; omega
  rw [e, List.take_succ_eq_append_getElem hlen]
  congr 2
  simp only [List.getElem_drop]
  have : a + (b - a) = b := by omega
  simp [this, List.getD_eq_getElem?_getD, hb]
theorem seg_nil (l : List Int) (a : Nat) : seg l a a = [] := by unfold seg; rw [Nat.sub_self]; rfl
theorem B_seg (s : ByteArray) (a b : Nat) : bytesOf (s.extract a b) = seg (bytesOf s) a b := B_extract s a b

theorem cut_from (s : ByteArray) (hs : s.size ≤ 1000000) : ∀ (n from_ i : Nat) (out : List ByteArray), s.size - i = n → i ≤ s.size → from_ ≤ i → out.length ≤ i →
    ∃ r, Ev (fun k => spec_cut.l0 k s out from_ i) r ∧ r.map bytesOf = out.map bytesOf ++ glue (seg (bytesOf s) from_ i) (splitP isPt ((bytesOf s).drop i)) := by
  intro n
  induction n with
  | zero =>
    intro f i out hn hi hf ho
    have hi2 : i = s.size := by omega
    refine ⟨out ++ [s.extract f i], Ev.succ ?_, ?_⟩
    · simp only [spec_cut.l0, Int.toNat_natCast]
      refine Ev.pos (fun _ => by first | omega | trivial | assumption) ?_
      refine Ev.pos (fun _ => by first | omega | trivial | assumption) ?_
      refine Ev.pos (fun _ => by first | omega | trivial | assumption) ?_
      refine Ev.pos (fun _ => by first | omega | trivial | assumption) ?_
      refine Ev.pos (fun _ => by first | omega | trivial | assumption) ?_
      rw [w64 (by omega) (by omega)]
      refine Ev.succ ?_
      simp only [spec_cut.l0]
      refine Ev.neg (fun _ => by first | omega | assumption | nofun) ?_
      exact Ev.now _
    · rw [List.drop_of_length_le (by rw [bytesOf_length]; omega), List.map_append, List.map_cons, List.map_nil, B_seg]
      simp [splitP, glue]
  | succ n ih =>
    intro f i out hn hi hf ho
    have hl : i < (bytesOf s).length := by rw [bytesOf_length]; omega
    rw [drop_get _ _ hl]
    simp only [splitP]
    cases hp : isPt ((bytesOf s).getD i 0)
    · obtain ⟨r, hr, h1⟩ := ih f (i + 1) out (by omega) (by omega) (by omega) (by omega)
      refine ⟨r, Ev.succ ?_, ?_⟩
      · simp only [spec_cut.l0, isPoint_eq, Option.bind_some, bt_nat, hp]
        refine Ev.pos (fun _ => by first | omega | trivial | assumption) ?_
        refine Ev.neg (fun _ => by first | omega | assumption | nofun) ?_
        refine Ev.pos (fun _ => by first | omega | trivial | assumption) ?_
        refine Ev.pos (fun _ => by first | omega | trivial | assumption) ?_
        refine Ev.neg (fun _ => by first | omega | assumption | nofun) ?_
        rw [w64 (by omega) (by omega)]
        exact hr
      · rw [h1, if_neg (by simp), glue_glue, seg_succ _ _ _ hf hl]
    · obtain ⟨r, hr, h1⟩ := ih (i + 1) (i + 1) (out ++ [s.extract f i]) (by omega) (by omega) (by omega) (by simp; omega)
      refine ⟨r, Ev.succ ?_, ?_⟩
      · simp only [spec_cut.l0, isPoint_eq, Option.bind_some, bt_nat, hp, Int.toNat_natCast]
        refine Ev.pos (fun _ => by first | omega | trivial | assumption) ?_
        refine Ev.neg (fun _ => by first | omega | assumption | nofun) ?_
        refine Ev.pos (fun _ => by first | omega | trivial | assumption) ?_
        refine Ev.pos (fun _ => by first | omega | trivial | assumption) ?_
        refine Ev.pos (fun _ => by first | omega | trivial | assumption) ?_
        refine Ev.pos (fun _ => by first | omega | trivial | assumption) ?_
        refine Ev.pos (fun _ => by first | omega | trivial | assumption) ?_
        refine Ev.pos (fun _ => by first | omega | trivial | assumption) ?_
        rw [w64 (by omega) (by omega)]
        exact hr
      · rw [h1, if_pos rfl, seg_nil, glue_nil (splitP_ne _ _), List.map_append, List.map_cons, List.map_nil, B_seg]
        simp [glue]
theorem cut_ev (s : ByteArray) (hs : s.size ≤ 1000000) : ∃ r, Ev (fun k => spec_cut.f k s) r ∧ r.map bytesOf = splitP isPt (bytesOf s) := by
  obtain ⟨r, h, h1⟩ := cut_from s hs _ 0 0 [] rfl (by omega) (by omega) (by simp)
  refine ⟨r, h, ?_⟩
  rw [h1, seg_nil, List.drop_zero, glue_nil (splitP_ne _ _)]
  rfl
def nPt (c : Int) : Bool := !isPt c
theorem index_from (s : ByteArray) (hs : s.size ≤ 1000000) : ∀ (n i : Nat), s.size - i = n → i ≤ s.size →
    Ev (fun k => semantic_zzIndex.l0 k s (⟨#[46]⟩ : ByteArray) i) (if i + run nPt ((bytesOf s).drop i) < s.size then ((i + run nPt ((bytesOf s).drop i) : Nat) : Int) else -1) := by
  have e1 : ((⟨#[46]⟩ : ByteArray).size : Int) = 1 := rfl
  intro n
  induction n with
  | zero =>
    intro i hn hi
    refine Ev.succ ?_
    simp only [semantic_zzIndex.l0]
    rw [e1, w64 (by omega) (by omega)]
    refine Ev.neg (fun _ => by first | omega | assumption | nofun) ?_
    refine Ev.eq (Ev.now _) ?_
    rw [if_neg (by omega)]
  | succ n ih =>
    intro i hn hi
    have hl : i < (bytesOf s).length := by rw [bytesOf_length]; omega
    have hg := drop_get _ _ hl
    have hone : bytesOf (s.extract i (i + 1)) = [(bytesOf s).getD i 0] := by rw [B_extract, hg]; simp
    refine Ev.succ ?_
    simp only [semantic_zzIndex.l0]
    rw [e1, w64 (by omega) (by omega)]
    have e2 : ((i : Int) + 1).toNat = i + 1 := by omega
    rw [e2, Int.toNat_natCast]
    refine Ev.pos (fun _ => by first | omega | trivial | assumption) ?_
    refine Ev.pos (fun _ => by first | omega | trivial | assumption) ?_
    refine Ev.pos (fun _ => by first | omega | trivial | assumption) ?_
    cases hp : isPt ((bytesOf s).getD i 0)
    · refine Ev.neg (fun _ h => ?_) ?_
      · rw [toList_eq_iff, hone] at h
        have h2 : [(bytesOf s).getD i 0] = [46] := h
        injection h2 with h2 _
        rw [h2] at hp
        cases hp
      · refine Ev.eq (ih (i + 1) (by omega) (by omega)) ?_
        rw [hg, run_pos (show nPt ((bytesOf s).getD i 0) = true by unfold nPt; rw [hp]; rfl)]
        have e3 : i + 1 + run nPt ((bytesOf s).drop (i + 1)) = i + (run nPt ((bytesOf s).drop (i + 1)) + 1) := by omega
        rw [e3]
    · refine Ev.pos (fun _ => ?_) ?_
      · rw [toList_eq_iff, hone]
        have : (bytesOf s).getD i 0 = 46 := by simpa [isPt] using hp
        rw [this]
        rfl
      · refine Ev.eq (Ev.now _) ?_
        rw [hg, run_neg (show nPt ((bytesOf s).getD i 0) = false by unfold nPt; rw [hp]; rfl), if_pos (by omega)]
        rfl
theorem split_from : ∀ (n : Nat) (s : ByteArray) (out : List ByteArray), s.size ≤ n → n ≤ 1000000 → out.length + n ≤ 2000000 →
    ∃ r, Ev (fun k => semantic_zzSplit.l1 k s (⟨#[46]⟩ : ByteArray) out) r ∧ r.map bytesOf = out.map bytesOf ++ splitP isPt (bytesOf s) := by
  have e1 : ((⟨#[46]⟩ : ByteArray).size : Int) = 1 := rfl
  intro n
  induction n using Nat.strongRecOn with
  | _ n ih =>
    intro s out hs hn ho
    have hix := index_from s (by omega) _ 0 rfl (by omega)
    have hix2 : Ev (fun k => semantic_zzIndex.f k s (⟨#[46]⟩ : ByteArray)) (if run nPt (bytesOf s) < s.size then ((run nPt (bytesOf s) : Nat) : Int) else -1) := by simpa [semantic_zzIndex.f] using hix
    have hsp := splitP_run isPt (bytesOf s)
    rw [bytesOf_length] at hsp
    have hrun : run (fun c => !isPt c) (bytesOf s) = run nPt (bytesOf s) := rfl
    rw [hrun] at hsp
    by_cases hlt : run nPt (bytesOf s) < s.size
    · rw [if_pos hlt] at hix2 hsp
      obtain ⟨m, hm⟩ : ∃ m, m = run nPt (bytesOf s) := ⟨_, rfl⟩
      rw [← hm] at hix2 hsp hlt
      have hb : bytesOf (s.extract (m + 1) s.size) = (bytesOf s).drop (m + 1) := B_drop _ _
      have hsz : (s.extract (m + 1) s.size).size = s.size - (m + 1) := by rw [B_size, hb, List.length_drop, bytesOf_length]
      obtain ⟨r, hr, h1⟩ := ih (s.size - (m + 1)) (by omega) (s.extract (m + 1) s.size) (out ++ [s.extract 0 m]) (by omega) (by omega) (by simp; omega)
      refine ⟨r, Ev.succ ?_, ?_⟩
      · simp only [semantic_zzSplit.l1]
        refine Ev.bind hix2 ?_
        rw [e1, w64 (i := (m : Int) + 1) (by omega) (by omega)]
        have e2 : ((m : Int) + 1).toNat = m + 1 := by omega
        rw [e2, Int.toNat_natCast]
        refine Ev.neg (fun _ => by first | omega | assumption | nofun) ?_
        refine Ev.pos (fun _ => by first | omega | trivial | assumption) ?_
        refine Ev.pos (fun _ => by first | omega | trivial | assumption) ?_
        refine Ev.pos (fun _ => by first | omega | trivial | assumption) ?_
        refine Ev.pos (fun _ => by first | omega | trivial | assumption) ?_
        refine Ev.pos (fun _ => by first | omega | trivial | assumption) ?_
        exact hr
      · rw [h1, hb, hsp, List.map_append, List.map_cons, List.map_nil, B_take]
        simp
    · rw [if_neg hlt] at hix2 hsp
      refine ⟨out ++ [s], Ev.succ ?_, ?_⟩
      · simp only [semantic_zzSplit.l1]
        refine Ev.bind hix2 ?_
        refine Ev.pos (fun _ => by first | omega | trivial | assumption) ?_
        refine Ev.pos (fun _ => by first | omega | trivial | assumption) ?_
        exact Ev.now _
      · rw [hsp]; simp
theorem split_ev (s : ByteArray) (hs : s.size ≤ 1000000) : ∃ r, Ev (fun k => semantic_zzSplit.f k s (⟨#[46]⟩ : ByteArray)) r ∧ r.map bytesOf = splitP isPt (bytesOf s) := by
  obtain ⟨r, h, h1⟩ := split_from s.size s [] (Nat.le_refl _) hs (by simp; omega)
  refine ⟨r, ?_, by simpa using h1⟩
  simp only [semantic_zzSplit.f]
  refine Ev.neg (fun _ h => by cases h) ?_
  exact h

theorem parse_length {r : List ByteArray} {l : List Int} (h : r.map bytesOf = splitP isPt l) : 0 < r.length ∧ r.length ≤ l.length + 1 := by
  have h1 := congrArg List.length h
  rw [List.length_map] at h1
  have h2 := splitP_length isPt l
  have h3 := List.length_pos_iff.2 (splitP_ne isPt l)
  omega
end Go.Proofs.YtdjkekgfeadmoaaGreatDoor.V
