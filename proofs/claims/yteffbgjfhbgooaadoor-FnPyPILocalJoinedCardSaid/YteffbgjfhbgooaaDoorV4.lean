/- The plain law of FnPyPILocalParts, and what FnPyPILocalJoined needs too: a local version's parts. -/
import Derived.Test.YteffbgjfhbgooaaDoorRx
import Derived.Test.YteffbgjfhbgooaaDoorB
namespace Go.Proofs.YteffbgjfhbgooaaDoor.VR
open Go.RowKit Go.Proofs.YteffbgjfhbgooaaDoor.R Go.Proofs.YteffbgjfhbgooaaDoorH Go.Proofs.YteffbgjfhbgooaaDoorB Go.Proofs.YteffbgjfhbgooaaDoorW.PrintWords Go.Proofs.YteffbgjfhbgooaaDoorW.PrintLast
set_option linter.unusedVariables false
set_option linter.unusedSimpArgs false

theorem short_one (s : ByteArray) : Ev (fun k => laws_short.f k [s]) (decide (s.size ≤ 1200)) := by
  refine Ev.succ ?_
  simp only [laws_short.f, laws_short.l0, List.length_cons, List.length_nil]
  refine Ev.pos (fun _ => by omega) ?_
  refine Ev.pos (fun _ => by omega) ?_
  refine Ev.pos (fun _ => by omega) ?_
  have e : rdOf ByteArray.empty [s] 0 = s := rfl
  rw [e]
  by_cases h : s.size ≤ 1200
  · refine Ev.neg (fun _ => by omega) ?_
    refine Ev.succ ?_
    simp only [laws_short.l0]
    refine Ev.neg (fun _ => by unfold wrap64; omega) ?_
    exact Ev.eq (Ev.now _) (by simp [h])
  · refine Ev.pos (fun _ => by omega) ?_
    exact Ev.eq (Ev.now _) (by simp [h])
theorem ascii_from (s : ByteArray) (hs : s.size ≤ 2000000000) : ∀ (n i : Nat), s.size - i = n → i ≤ s.size →
    Ev (fun k => laws_ascii.l1 k s i [s] 1 0) (decide (∀ x ∈ (bytesOf s).drop i, x ≤ 127)) := by
  intro n
  induction n with
  | zero =>
    intro i hn hi
    refine Ev.succ ?_
    simp only [laws_ascii.l1]
    refine Ev.neg (fun _ => by omega) ?_
    refine Ev.succ ?_
    simp only [laws_ascii.l0]
    refine Ev.neg (fun _ => by unfold wrap64; omega) ?_
    refine Ev.eq (Ev.now _) ?_
    rw [List.drop_of_length_le (by rw [bytesOf_length]; omega)]
    simp
  | succ n ih =>
    intro i hn hi
    have hl : i < (bytesOf s).length := by rw [bytesOf_length]; omega
    refine Ev.succ ?_
    simp only [laws_ascii.l1]
    refine Ev.pos (fun _ => by omega) ?_
    refine Ev.pos (fun _ => by omega) ?_
    rw [bt_nat, drop_get _ _ hl]
    by_cases h : (bytesOf s).getD i 0 > 127
    · refine Ev.pos (fun _ => h) ?_
      refine Ev.eq (Ev.now _) ?_
      symm
      simp only [decide_eq_false_iff_not]
      intro hx
      have := hx _ List.mem_cons_self
      omega
    · refine Ev.neg (fun _ => h) ?_
      rw [w64 (by omega) (by omega)]
      refine Ev.eq (ih (i + 1) (by omega) (by omega)) ?_
      rw [decide_eq_decide]
      simp only [List.mem_cons, forall_eq_or_imp]
      exact ⟨fun hx => ⟨by omega, hx⟩, fun hx => hx.2⟩
theorem ascii_ev (s : ByteArray) (hs : s.size ≤ 2000000000) : Ev (fun k => laws_ascii.f k [s]) (decide (∀ x ∈ bytesOf s, x ≤ 127)) := by
  have h := ascii_from s hs _ 0 rfl (Nat.zero_le _)
  refine Ev.succ ?_
  simp only [laws_ascii.f, laws_ascii.l0, List.length_cons, List.length_nil]
  have e : rdOf ByteArray.empty [s] 0 = s := rfl
  rw [e]
  refine Ev.pos (fun _ => by first | omega | trivial | assumption) ?_
  refine Ev.pos (fun _ => by first | omega | trivial | assumption) ?_
  refine Ev.pos (fun _ => by first | omega | trivial | assumption) ?_
  simpa using h
theorem texts_refl (l : List ByteArray) (hb : l.length ≤ 2000000000) : ∀ (n i : Nat), l.length - i = n → i ≤ l.length → Ev (fun k => laws_texts.l0 k l l l.length i) true := by
  intro n
  induction n with
  | zero =>
    intro i hn hi
    refine Ev.succ ?_
    simp only [laws_texts.l0]
    (repeat (first | refine Ev.pos (fun _ => by first | omega | trivial | assumption) ?_ | refine Ev.neg (fun _ => by first | omega | assumption | nofun) ?_))
    exact Ev.now _
  | succ n ih =>
    intro i hn hi
    refine Ev.succ ?_
    simp only [laws_texts.l0]
    (repeat (first | refine Ev.pos (fun _ => by first | omega | trivial | assumption) ?_ | refine Ev.neg (fun _ => by first | omega | assumption | nofun) ?_))
    rw [w64 (by omega) (by omega)]
    exact ih (i + 1) (by omega) (by omega)
theorem texts_ev (l : List ByteArray) (hb : l.length ≤ 2000000000) : Ev (fun k => laws_texts.f k l l) true := by
  simp only [laws_texts.f]
  refine Ev.pos (fun _ => by first | omega | trivial | assumption) ?_
  exact texts_refl l hb _ 0 rfl (Nat.zero_le _)

def seg (l : List Int) (a b : Nat) : List Int := (l.drop a).take (b - a)
theorem seg_succ (l : List Int) (a b : Nat) (h : a ≤ b) (hb : b < l.length) : seg l a (b + 1) = seg l a b ++ [l.getD b 0] := by
  unfold seg
  have e : b + 1 - a = (b - a) + 1 := by omega
  have hlen : b - a < (l.drop a).length := by rw [List.length_drop]; omega
  rw [e, List.take_succ_eq_append_getElem hlen]
  congr 2
  simp only [List.getElem_drop]
  have : a + (b - a) = b := by omega
  simp [this, List.getD_eq_getElem?_getD, hb]
theorem seg_nil (l : List Int) (a : Nat) : seg l a a = [] := by unfold seg; rw [Nat.sub_self]; rfl
theorem B_seg (s : ByteArray) (a b : Nat) : bytesOf (s.extract a b) = seg (bytesOf s) a b := B_extract s a b

def isMk (c : Int) : Bool := decide (c = 46 ∨ c = 95 ∨ c = 45)
theorem pypiMark_eq (c : Int) : spec_pypiMark.f c = some (isMk c) := by
  unfold spec_pypiMark.f isMk
  by_cases h1 : c = 46
  · rw [if_pos h1]; simp [h1]
  · rw [if_neg h1]
    by_cases h2 : c = 95
    · rw [if_pos h2]; simp [h2]
    · rw [if_neg h2]
      have e : (c == 45) = decide (c = 46 ∨ c = 95 ∨ c = 45) := by
        rw [Bool.eq_iff_iff, beq_iff_eq, decide_eq_true_iff]
        omega
      rw [e]
theorem isMk_low (c : Int) : isMk (low c) = isMk c := by
  unfold isMk low
  rw [decide_eq_decide]
  split <;> omega
theorem low_le {c : Int} (h : 0 ≤ c ∧ c ≤ 127) : 0 ≤ low c ∧ low c ≤ 127 := by unfold low; split <;> omega
theorem map_glue (f : Int → Int) (a : List Int) (L : List (List Int)) : (glue a L).map (List.map f) = glue (a.map f) (L.map (List.map f)) := by cases L <;> simp [glue]
theorem splitP_map (p : Int → Bool) (f : Int → Int) (h : ∀ c, p (f c) = p c) : ∀ l : List Int, splitP p (l.map f) = (splitP p l).map (List.map f) := by
  intro l
  induction l with
  | nil => rfl
  | cons c r ih =>
    simp only [List.map_cons, splitP, h, ih]
    split
    · rfl
    · rw [map_glue]; rfl
theorem splitP_mem (p : Int → Bool) : ∀ (l : List Int), ∀ w ∈ splitP p l, ∀ x ∈ w, x ∈ l := by
  intro l
  induction l with
  | nil => intro w hw x hx; simp [splitP] at hw; subst hw; cases hx
  | cons c r ih =>
    intro w hw x hx
    simp only [splitP] at hw
    split at hw
    · rcases List.mem_cons.1 hw with rfl | hw
      · cases hx
      · exact List.mem_cons_of_mem _ (ih w hw x hx)
    · cases hL : splitP p r with
      | nil => exact absurd hL (splitP_ne p r)
      | cons y L =>
        rw [hL] at hw
        simp only [glue, List.mem_cons] at hw
        rcases hw with rfl | hw
        · rcases List.mem_append.1 hx with hx | hx
          · rw [List.mem_singleton.1 hx]; exact List.mem_cons_self
          · exact List.mem_cons_of_mem _ (ih y (by rw [hL]; exact List.mem_cons_self) x hx)
        · exact List.mem_cons_of_mem _ (ih w (by rw [hL]; exact List.mem_cons_of_mem _ hw) x hx)

theorem splitP_size (p : Int → Bool) : ∀ (l : List Int), ∀ w ∈ splitP p l, w.length ≤ l.length := by
  intro l
  induction l with
  | nil => intro w hw; simp [splitP] at hw; subst hw; simp
  | cons c r ih =>
    intro w hw
    simp only [splitP] at hw
    split at hw
    · rcases List.mem_cons.1 hw with rfl | hw
      · simp
      · have := ih w hw; simp; omega
    · cases hL : splitP p r with
      | nil => exact absurd hL (splitP_ne p r)
      | cons y L =>
        rw [hL] at hw
        simp only [glue, List.mem_cons] at hw
        rcases hw with rfl | hw
        · have := ih y (by rw [hL]; exact List.mem_cons_self)
          simp; omega
        · have := ih w (by rw [hL]; exact List.mem_cons_of_mem _ hw)
          simp; omega

theorem cut_from (s : ByteArray) (hs : s.size ≤ 1000000) : ∀ (n from_ i : Nat) (out : List ByteArray), s.size - i = n → i ≤ s.size → from_ ≤ i → out.length ≤ i →
    ∃ r, Ev (fun k => spec_cut.l0 k s out from_ i) r ∧ r.map bytesOf = out.map bytesOf ++ glue (seg (bytesOf s) from_ i) (splitP isMk ((bytesOf s).drop i)) := by
  intro n
  induction n with
  | zero =>
    intro f i out hn hi hf ho
    have hi2 : i = s.size := by omega
    refine ⟨out ++ [s.extract f i], Ev.succ ?_, ?_⟩
    · simp only [spec_cut.l0, Int.toNat_natCast]
      refine Ev.pos (fun _ => by first | omega | trivial | assumption) ?_
      refine Ev.pos (fun _ => by first | omega | trivial | assumption) ?_
      refine Ev.pos (fun _ => by first | omega | trivial | assumption) ?_
      refine Ev.pos (fun _ => by first | omega | trivial | assumption) ?_
      refine Ev.pos (fun _ => by first | omega | trivial | assumption) ?_
      rw [w64 (by omega) (by omega)]
      refine Ev.succ ?_
      simp only [spec_cut.l0]
      refine Ev.neg (fun _ => by first | omega | assumption | nofun) ?_
      exact Ev.now _
    · rw [List.drop_of_length_le (by rw [bytesOf_length]; omega), List.map_append, List.map_cons, List.map_nil, B_seg]
      simp [splitP, glue]
  | succ n ih =>
    intro f i out hn hi hf ho
    have hl : i < (bytesOf s).length := by rw [bytesOf_length]; omega
    rw [drop_get _ _ hl]
    simp only [splitP]
    cases hp : isMk ((bytesOf s).getD i 0)
    · obtain ⟨r, hr, h1⟩ := ih f (i + 1) out (by omega) (by omega) (by omega) (by omega)
      refine ⟨r, Ev.succ ?_, ?_⟩
      · simp only [spec_cut.l0, pypiMark_eq, Option.bind_some, bt_nat, hp]
        refine Ev.pos (fun _ => by first | omega | trivial | assumption) ?_
        refine Ev.neg (fun _ => by first | omega | assumption | nofun) ?_
        refine Ev.pos (fun _ => by first | omega | trivial | assumption) ?_
        refine Ev.pos (fun _ => by first | omega | trivial | assumption) ?_
        refine Ev.neg (fun _ => by first | omega | assumption | nofun) ?_
        rw [w64 (by omega) (by omega)]
        exact hr
      · rw [h1, if_neg (by simp), glue_glue, seg_succ _ _ _ hf hl]
    · obtain ⟨r, hr, h1⟩ := ih (i + 1) (i + 1) (out ++ [s.extract f i]) (by omega) (by omega) (by omega) (by simp; omega)
      refine ⟨r, Ev.succ ?_, ?_⟩
      · simp only [spec_cut.l0, pypiMark_eq, Option.bind_some, bt_nat, hp, Int.toNat_natCast]
        refine Ev.pos (fun _ => by first | omega | trivial | assumption) ?_
        refine Ev.neg (fun _ => by first | omega | assumption | nofun) ?_
        refine Ev.pos (fun _ => by first | omega | trivial | assumption) ?_
        refine Ev.pos (fun _ => by first | omega | trivial | assumption) ?_
        refine Ev.pos (fun _ => by first | omega | trivial | assumption) ?_
        refine Ev.pos (fun _ => by first | omega | trivial | assumption) ?_
        refine Ev.pos (fun _ => by first | omega | trivial | assumption) ?_
        refine Ev.pos (fun _ => by first | omega | trivial | assumption) ?_
        rw [w64 (by omega) (by omega)]
        exact hr
      · rw [h1, if_pos rfl, seg_nil, glue_nil (splitP_ne _ _), List.map_append, List.map_cons, List.map_nil, B_seg]
        simp [glue]
theorem cut_ev (s : ByteArray) (hs : s.size ≤ 1000000) : ∃ r, Ev (fun k => spec_cut.f k s) r ∧ r.map bytesOf = splitP isMk (bytesOf s) := by
  obtain ⟨r, h, h1⟩ := cut_from s hs _ 0 0 [] rfl (by omega) (by omega) (by simp)
  refine ⟨r, h, ?_⟩
  rw [h1, seg_nil, List.drop_zero, glue_nil (splitP_ne _ _)]
  rfl
theorem parts_from (s : ByteArray) (hs : s.size ≤ 1000000) : ∀ (n from_ i : Nat) (out : List ByteArray), s.size - i = n → i ≤ s.size → from_ ≤ i → out.length ≤ i →
    ∃ r, Ev (fun k => semantic_zzLocalSplit.l0 k s out from_ i) r ∧ r.map bytesOf = out.map bytesOf ++ glue (seg (bytesOf s) from_ i) (splitP isMk ((bytesOf s).drop i)) := by
  intro n
  induction n with
  | zero =>
    intro f i out hn hi hf ho
    have hi2 : i = s.size := by omega
    refine ⟨out ++ [s.extract f s.size], Ev.succ ?_, ?_⟩
    · simp only [semantic_zzLocalSplit.l0, Int.toNat_natCast]
      refine Ev.neg (fun _ => by first | omega | assumption | nofun) ?_
      refine Ev.pos (fun _ => by first | omega | trivial | assumption) ?_
      refine Ev.pos (fun _ => by first | omega | trivial | assumption) ?_
      refine Ev.pos (fun _ => by first | omega | trivial | assumption) ?_
      exact Ev.now _
    · rw [List.drop_of_length_le (by rw [bytesOf_length]; omega), List.map_append, List.map_cons, List.map_nil, B_seg, ← hi2]
      simp [splitP, glue]
  | succ n ih =>
    intro f i out hn hi hf ho
    have hl : i < (bytesOf s).length := by rw [bytesOf_length]; omega
    rw [drop_get _ _ hl]
    simp only [splitP]
    cases hp : isMk ((bytesOf s).getD i 0)
    · obtain ⟨r, hr, h1⟩ := ih f (i + 1) out (by omega) (by omega) (by omega) (by omega)
      have hp2 : ¬ ((bytesOf s).getD i 0 = 46 ∨ (bytesOf s).getD i 0 = 95 ∨ (bytesOf s).getD i 0 = 45) := of_decide_eq_false hp
      refine ⟨r, Ev.succ ?_, ?_⟩
      · simp only [semantic_zzLocalSplit.l0, bt_nat]
        refine Ev.pos (fun _ => by first | omega | trivial | assumption) ?_
        refine Ev.pos (fun _ => by first | omega | trivial | assumption) ?_
        refine Ev.neg (fun _ => by first | omega | assumption | nofun) ?_
        refine Ev.neg (fun _ => by first | omega | assumption | nofun) ?_
        refine Ev.neg (fun _ => by first | omega | assumption | nofun) ?_
        rw [w64 (by omega) (by omega)]
        exact hr
      · rw [h1, if_neg (by simp), glue_glue, seg_succ _ _ _ hf hl]
    · obtain ⟨r, hr, h1⟩ := ih (i + 1) (i + 1) (out ++ [s.extract f i]) (by omega) (by omega) (by omega) (by simp; omega)
      have hp2 : (bytesOf s).getD i 0 = 46 ∨ (bytesOf s).getD i 0 = 95 ∨ (bytesOf s).getD i 0 = 45 := of_decide_eq_true hp
      refine ⟨r, Ev.succ ?_, ?_⟩
      · simp only [semantic_zzLocalSplit.l0, bt_nat, Int.toNat_natCast]
        refine Ev.pos (fun _ => by first | omega | trivial | assumption) ?_
        refine Ev.pos (fun _ => by first | omega | trivial | assumption) ?_
        rcases hp2 with h | h | h
        · (repeat (first | refine Ev.pos (fun _ => by first | omega | trivial | assumption) ?_ | refine Ev.neg (fun _ => by first | omega | assumption | nofun) ?_))
          rw [w64 (by omega) (by omega)]
          exact hr
        · (repeat (first | refine Ev.pos (fun _ => by first | omega | trivial | assumption) ?_ | refine Ev.neg (fun _ => by first | omega | assumption | nofun) ?_))
          rw [w64 (by omega) (by omega)]
          exact hr
        · (repeat (first | refine Ev.pos (fun _ => by first | omega | trivial | assumption) ?_ | refine Ev.neg (fun _ => by first | omega | assumption | nofun) ?_))
          rw [w64 (by omega) (by omega)]
          exact hr
      · rw [h1, if_pos rfl, seg_nil, glue_nil (splitP_ne _ _), List.map_append, List.map_cons, List.map_nil, B_seg]
        simp [glue]
theorem parts_ev (s : ByteArray) (hs : s.size ≤ 1000000) : ∃ r, Ev (fun k => semantic_zzLocalSplit.f k s) r ∧ r.map bytesOf = splitP isMk (bytesOf s) := by
  obtain ⟨r, h, h1⟩ := parts_from s hs _ 0 0 [] rfl (by omega) (by omega) (by simp)
  refine ⟨r, h, ?_⟩
  rw [h1, seg_nil, List.drop_zero, glue_nil (splitP_ne _ _)]
  rfl

theorem toLower_eq (s : ByteArray) (hs : s.size ≤ 2000000000) (ha : ∀ x ∈ bytesOf s, x ≤ 127) : ∃ r, strings_ToLower.f s = some r ∧ bytesOf r = (bytesOf s).map low := by
  refine ⟨_, ?_, toLower_B s⟩
  unfold strings_ToLower.f
  rw [if_pos ⟨by omega, ha⟩]
theorem rdOf_mem {l : List ByteArray} {i : Nat} (h : i < l.length) : rdOf ByteArray.empty l i ∈ l := by
  simp only [rdOf, Int.toNat_natCast, List.getD_eq_getElem?_getD, List.getElem?_eq_getElem h, Option.getD_some]
  exact List.getElem_mem h
theorem drop_rd {l : List ByteArray} {i : Nat} (h : i < l.length) : l.drop i = rdOf ByteArray.empty l i :: l.drop (i + 1) := by
  rw [List.drop_eq_getElem_cons h]
  simp [rdOf, List.getD_eq_getElem?_getD, h]
theorem lows_from (l : List ByteArray) (hl : l.length ≤ 2000000) (ha : ∀ w ∈ l, w.size ≤ 2000000000 ∧ ∀ x ∈ bytesOf w, x ≤ 127) : ∀ (n i : Nat) (out : List ByteArray), l.length - i = n → i ≤ l.length → out.length ≤ i →
    ∃ r, Ev (fun k => semantic_parseLocalVersion.l0 k out l l.length i) r ∧ r.map bytesOf = out.map bytesOf ++ ((l.drop i).map bytesOf).map (List.map low) := by
  intro n
  induction n with
  | zero =>
    intro i out hn hi ho
    refine ⟨out, Ev.succ ?_, by rw [List.drop_of_length_le (by omega)]; simp⟩
    simp only [semantic_parseLocalVersion.l0]
    refine Ev.neg (fun _ => by first | omega | assumption | nofun) ?_
    exact Ev.now _
  | succ n ih =>
    intro i out hn hi ho
    have hil : i < l.length := by omega
    obtain ⟨h1, h2⟩ := ha _ (rdOf_mem hil)
    obtain ⟨t, ht, htb⟩ := toLower_eq _ h1 h2
    obtain ⟨r, hr, hb⟩ := ih (i + 1) (out ++ [t]) (by omega) (by omega) (by simp; omega)
    refine ⟨r, Ev.succ ?_, ?_⟩
    · simp only [semantic_parseLocalVersion.l0]
      refine Ev.pos (fun _ => by first | omega | trivial | assumption) ?_
      refine Ev.pos (fun _ => by first | omega | trivial | assumption) ?_
      refine Ev.pos (fun _ => by first | omega | trivial | assumption) ?_
      refine Ev.bind0 ht ?_
      refine Ev.pos (fun _ => by first | omega | trivial | assumption) ?_
      rw [w64 (by omega) (by omega)]
      exact hr
    · rw [hb, drop_rd hil, List.map_append, List.map_cons, List.map_nil, htb]
      simp
/-- What the program answers: the parts, cut at marks, in small letters. -/
theorem local_ev (s : ByteArray) (hs : s.size ≤ 1000000) (ha : ∀ x ∈ bytesOf s, x ≤ 127) : ∃ r, Ev (fun k => impl_PyPILocalParts.f k s) r ∧ r.map bytesOf = (splitP isMk (bytesOf s)).map (List.map low) := by
  obtain ⟨p, hp, hb⟩ := parts_ev s hs
  have hpl : p.length ≤ 1000001 := by
    have h := congrArg List.length hb
    rw [List.length_map] at h
    have := splitP_length isMk (bytesOf s)
    rw [bytesOf_length] at this
    omega
  have hall : ∀ w ∈ p, w.size ≤ 2000000000 ∧ ∀ x ∈ bytesOf w, x ≤ 127 := by
    intro w hw
    have hm : bytesOf w ∈ splitP isMk (bytesOf s) := by rw [← hb]; exact List.mem_map_of_mem hw
    refine ⟨?_, fun x hx => ha x (splitP_mem _ _ _ hm x hx)⟩
    have h := splitP_size isMk (bytesOf s) _ hm
    rw [bytesOf_length, bytesOf_length] at h
    omega
  obtain ⟨r, hr, hrb⟩ := lows_from p (by omega) hall _ 0 [] rfl (by omega) (by simp)
  have hrl : r.length = p.length := by
    have h := congrArg List.length hrb
    simpa using h
  refine ⟨r, ?_, by rw [hrb, List.drop_zero, hb]; simp⟩
  simp only [impl_PyPILocalParts.f, semantic_ZZPyPILocalParts.f, semantic_parseLocalVersion.f]
  refine Ev.bind (Ev.bind (Ev.bind hp hr) (Ev.now _)) ?_
  refine Ev.pos (fun _ => by simp; omega) ?_
  exact Ev.eq (Ev.now _) (by simp)
theorem spec_ev (s : ByteArray) (hs : s.size ≤ 1000000) (ha : ∀ x ∈ bytesOf s, x ≤ 127) : ∃ r, Ev (fun k => spec_PyPILocalParts.f k s) r ∧ r.map bytesOf = (splitP isMk (bytesOf s)).map (List.map low) := by
  have hb : bytesOf (strOfNums ((bytesOf s).map low)) = (bytesOf s).map low := by
    refine B_str (fun x hx => ?_)
    obtain ⟨y, hy, rfl⟩ := List.mem_map.1 hx
    have h1 := B_range s y hy
    have := low_le ⟨h1.1, ha y hy⟩
    omega
  have hsz : (strOfNums ((bytesOf s).map low)).size = s.size := by rw [B_size, hb, List.length_map, bytesOf_length]
  obtain ⟨r, hr, h1⟩ := cut_ev (strOfNums ((bytesOf s).map low)) (by omega)
  refine ⟨r, ?_, by rw [h1, hb, splitP_map _ _ isMk_low]⟩
  simp only [spec_PyPILocalParts.f]
  refine Ev.bind0 (a := strOfNums ((bytesOf s).map low)) (by unfold spec_lower.f; rw [if_pos (by omega)]) ?_
  exact Ev.bind hr (Ev.now _)
theorem FnPyPILocalParts : laws_FnPyPILocalParts.Pure := by
  intro s hs
  refine Ev.rounds (r := true) (g := fun k => laws_FnPyPILocalParts.f k s) ?_
  simp only [laws_FnPyPILocalParts.f]
  by_cases hbig : (s.size : Int) > 2147483647
  · refine Ev.pos (fun _ => by first | omega | trivial | assumption) ?_
    exact Ev.now _
  · refine Ev.neg (fun _ => by first | omega | assumption | nofun) ?_
    refine Ev.bind (short_one s) ?_
    have yes : Ev (fun k => laws_FnPyPILocalParts.j0 k s true) true := by
      refine Ev.succ ?_
      simp only [laws_FnPyPILocalParts.j0]
      refine Ev.pos (fun _ => by first | omega | trivial | assumption) ?_
      exact Ev.now _
    by_cases hsh : s.size ≤ 1200
    · refine Ev.pos (fun _ => decide_eq_true hsh) ?_
      refine Ev.bind (ascii_ev s (by omega)) ?_
      by_cases ha : ∀ x ∈ bytesOf s, x ≤ 127
      · rw [decide_eq_true ha]
        obtain ⟨r, hr, h1⟩ := local_ev s (by omega) ha
        obtain ⟨r2, hr2, h2⟩ := spec_ev s (by omega) ha
        obtain rfl : r = r2 := map_B_inj (h1.trans h2.symm)
        have hlen := congrArg List.length h1
        rw [List.length_map, List.length_map] at hlen
        have h3 := splitP_length isMk (bytesOf s)
        have h4 := List.length_pos_iff.2 (splitP_ne isMk (bytesOf s))
        rw [bytesOf_length] at h3
        refine Ev.succ ?_
        simp only [laws_FnPyPILocalParts.j0, Bool.not_true]
        refine Ev.neg (fun _ => by first | omega | assumption | nofun) ?_
        refine Ev.bind hr ?_
        refine Ev.pos (fun _ => by first | omega | trivial | assumption) ?_
        exact Ev.bind hr2 (Ev.bind (texts_ev r (by omega)) (Ev.now _))
      · rw [decide_eq_false ha]
        exact yes
    · refine Ev.neg (fun _ => by simpa using hsh) ?_
      exact yes
end Go.Proofs.YteffbgjfhbgooaaDoor.VR
