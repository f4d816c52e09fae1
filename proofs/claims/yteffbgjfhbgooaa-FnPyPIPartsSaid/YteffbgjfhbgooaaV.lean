/- The plain laws: what the printed functions of this seat answer, told of lists of numbers. -/
import Derived.Test.YteffbgjfhbgooaaQx
import Derived.Test.YteffbgjfhbgooaaB
namespace Go.Proofs.Yteffbgjfhbgooaa.V
open Go.RowKit Go.Proofs.Yteffbgjfhbgooaa.Q Go.Proofs.YteffbgjfhbgooaaH Go.Proofs.YteffbgjfhbgooaaB Go.Proofs.YteffbgjfhbgooaaW.PrintWords Go.Proofs.YteffbgjfhbgooaaW.PrintLast
set_option linter.unusedVariables false
set_option linter.unusedSimpArgs false

theorem short_one (s : ByteArray) : Ev (fun k => laws_short.f k [s]) (decide (s.size ≤ 1200)) := by
  refine Ev.succ ?_
  simp only [laws_short.f, laws_short.l0, List.length_cons, List.length_nil]
  refine Ev.pos (fun _ => by omega) ?_
  refine Ev.pos (fun _ => by omega) ?_
  refine Ev.pos (fun _ => by omega) ?_
  have e : rdOf ByteArray.empty [s] 0 = s := rfl
  rw [e]
  by_cases h : s.size ≤ 1200
  · refine Ev.neg (fun _ => by omega) ?_
    refine Ev.succ ?_
    simp only [laws_short.l0]
    refine Ev.neg (fun _ => by unfold wrap64; omega) ?_
    exact Ev.eq (Ev.now _) (by simp [h])
  · refine Ev.pos (fun _ => by omega) ?_
    exact Ev.eq (Ev.now _) (by simp [h])

theorem ascii_from (s : ByteArray) (hs : s.size ≤ 2000000000) : ∀ (n i : Nat), s.size - i = n → i ≤ s.size →
    Ev (fun k => spec_Ascii.l0 k s i) (decide (∀ x ∈ (bytesOf s).drop i, x ≤ 127)) := by
  intro n
  induction n with
  | zero =>
    intro i hn hi
    refine Ev.succ ?_
    simp only [spec_Ascii.l0]
    refine Ev.neg (fun _ => by omega) ?_
    refine Ev.eq (Ev.now _) ?_
    rw [List.drop_of_length_le (by rw [bytesOf_length]; omega)]
    simp
  | succ n ih =>
    intro i hn hi
    have hl : i < (bytesOf s).length := by rw [bytesOf_length]; omega
    refine Ev.succ ?_
    simp only [spec_Ascii.l0]
    refine Ev.pos (fun _ => by omega) ?_
    refine Ev.pos (fun _ => by omega) ?_
    rw [bt_nat, drop_get _ _ hl]
    by_cases h : (bytesOf s).getD i 0 > 127
    · refine Ev.pos (fun _ => h) ?_
      refine Ev.eq (Ev.now _) ?_
      symm
      simp only [decide_eq_false_iff_not]
      intro hx
      have := hx _ List.mem_cons_self
      omega
    · refine Ev.neg (fun _ => h) ?_
      rw [w64 (by omega) (by omega)]
      refine Ev.eq (ih (i + 1) (by omega) (by omega)) ?_
      rw [decide_eq_decide]
      simp only [List.mem_cons, forall_eq_or_imp]
      exact ⟨fun hx => ⟨by omega, hx⟩, fun hx => hx.2⟩
theorem ascii_ev (s : ByteArray) (hs : s.size ≤ 2000000000) : Ev (fun k => spec_Ascii.f k s) (decide (∀ x ∈ bytesOf s, x ≤ 127)) := by
  have h := ascii_from s hs _ 0 rfl (Nat.zero_le _)
  simpa [spec_Ascii.f] using h

theorem zzDigit_eq (c : Int) : semantic_zzDigit.f c = some (isD c) := by
  unfold semantic_zzDigit.f isD
  by_cases h : c ≥ 48
  · rw [if_pos h]; simp; omega
  · rw [if_neg h]; simp; omega
theorem isDigit_eq (c : Int) : spec_isDigit.f c = some (isD c) := by
  unfold spec_isDigit.f isD
  by_cases h : c ≥ 48
  · rw [if_pos h]; simp; omega
  · rw [if_neg h]; simp; omega
theorem isASCIIDigit_eq (c : Int) : semantic_isASCIIDigit.f c = some (isD c) := by
  unfold semantic_isASCIIDigit.f isD
  by_cases h : c ≥ 48
  · rw [if_pos h]; simp; omega
  · rw [if_neg h]; simp; omega

theorem digits_from (s : ByteArray) (hs : s.size ≤ 2000000000) : ∀ (n i : Nat), s.size - i = n → i ≤ s.size →
    Ev (fun k => semantic_zzDigits.l0 k s i) ((i + run isD ((bytesOf s).drop i) : Nat) : Int) := by
  intro n
  induction n with
  | zero =>
    intro i hn hi
    refine Ev.succ ?_
    simp only [semantic_zzDigits.l0]
    refine Ev.neg (fun _ => by omega) ?_
    refine Ev.eq (Ev.now _) ?_
    rw [List.drop_of_length_le (by rw [bytesOf_length]; omega)]
    simp [run_nil]
  | succ n ih =>
    intro i hn hi
    have hl : i < (bytesOf s).length := by rw [bytesOf_length]; omega
    refine Ev.succ ?_
    simp only [semantic_zzDigits.l0]
    refine Ev.pos (fun _ => by omega) ?_
    refine Ev.pos (fun _ => by omega) ?_
    rw [bt_nat, zzDigit_eq, drop_get _ _ hl]
    simp only [Option.bind_some]
    cases h : isD ((bytesOf s).getD i 0)
    · refine Ev.neg (fun _ => by simp) ?_
      rw [run_neg h]
      exact Ev.now _
    · refine Ev.pos (fun _ => rfl) ?_
      rw [w64 (by omega) (by omega), run_pos h]
      refine Ev.eq (ih (i + 1) (by omega) (by omega)) ?_
      omega
theorem digits_ev (s : ByteArray) (hs : s.size ≤ 2000000000) (i : Nat) (hi : i ≤ s.size) : Ev (fun k => semantic_zzDigits.f k s i) ((i + run isD ((bytesOf s).drop i) : Nat) : Int) :=
  digits_from s hs _ i rfl hi

/-! ### Into which parts a text falls -/
def toks : Nat → List Int → List (List Int)
  | 0, _ => []
  | _ + 1, [] => []
  | n + 1, c :: r =>
    if isD c then (c :: r).take (run isD (c :: r)) :: toks n ((c :: r).drop (run isD (c :: r)))
    else if isL c then (c :: r).take (run isL (c :: r)) :: toks n ((c :: r).drop (run isL (c :: r)))
    else if c = 46 ∨ c = 45 then [c] :: toks n r
    else toks n r

theorem legacy_l1 (s : ByteArray) (hs : s.size ≤ 2000000000) (out : List ByteArray) (i : Nat) (r : List ByteArray) : ∀ (n j : Nat), s.size - j = n → j ≤ s.size →
    Ev (fun k => semantic_zzLegacyParts.j2 k s out i ((j + run isL ((bytesOf s).drop j) : Nat) : Int)) r → Ev (fun k => semantic_zzLegacyParts.l1 k s out i j) r := by
  intro n
  induction n with
  | zero =>
    intro j hn hj h
    rw [List.drop_of_length_le (by rw [bytesOf_length]; omega)] at h
    refine Ev.succ ?_
    simp only [semantic_zzLegacyParts.l1]
    refine Ev.neg (fun _ => by omega) ?_
    simpa [run_nil] using h
  | succ n ih =>
    intro j hn hj h
    have hl : j < (bytesOf s).length := by rw [bytesOf_length]; omega
    rw [drop_get _ _ hl] at h
    refine Ev.succ ?_
    simp only [semantic_zzLegacyParts.l1]
    refine Ev.pos (fun _ => by omega) ?_
    refine Ev.pos (fun _ => by omega) ?_
    rw [bt_nat]
    cases hc : isL ((bytesOf s).getD j 0)
    · rw [run_neg hc] at h
      simp only [isL, decide_eq_false_iff_not] at hc
      by_cases h1 : (bytesOf s).getD j 0 ≥ 97
      · refine Ev.pos (fun _ => h1) ?_
        refine Ev.neg (fun _ => by omega) ?_
        simpa using h
      · refine Ev.neg (fun _ => h1) ?_
        simpa using h
    · rw [run_pos hc] at h
      simp only [isL, decide_eq_true_eq] at hc
      refine Ev.pos (fun _ => by omega) ?_
      refine Ev.pos (fun _ => by omega) ?_
      rw [w64 (by omega) (by omega)]
      refine ih (j + 1) (by omega) (by omega) ?_
      rw [show j + 1 + run isL ((bytesOf s).drop (j + 1)) = j + (run isL ((bytesOf s).drop (j + 1)) + 1) by omega]
      exact h

theorem legacy_from (s : ByteArray) (hs : s.size ≤ 2000000000) : ∀ (n i : Nat) (out : List ByteArray), s.size - i ≤ n → i ≤ s.size → out.length ≤ i →
    ∃ r, Ev (fun k => semantic_zzLegacyParts.l0 k s out i) r ∧ r.map bytesOf = out.map bytesOf ++ toks n ((bytesOf s).drop i) ∧ r.length ≤ s.size := by
  intro n
  induction n with
  | zero =>
    intro i out hn hi ho
    refine ⟨out, Ev.succ ?_, by simp [toks], by omega⟩
    simp only [semantic_zzLegacyParts.l0]
    refine Ev.neg (fun _ => by omega) ?_
    exact Ev.now _
  | succ n ih =>
    intro i out hn hi ho
    by_cases hlt : i < s.size
    · have hl : i < (bytesOf s).length := by rw [bytesOf_length]; omega
      have hd := digits_ev s hs i hi
      have hle := run_le isD ((bytesOf s).drop i)
      have hleL := run_le isL ((bytesOf s).drop i)
      rw [List.length_drop, bytesOf_length] at hle hleL
      have hg := drop_get _ _ hl
      cases hc : isD ((bytesOf s).getD i 0)
      · rw [hg, run_neg hc] at hd
        have hj2 : ∀ (j : Nat) (r : List ByteArray), j = i + run isL ((bytesOf s).drop i) → Ev (fun k => semantic_zzLegacyParts.j2 k s out i j) r → Ev (fun k => semantic_zzLegacyParts.l0 k s out i) r := by
          intro j r hj hr
          refine Ev.succ ?_
          simp only [semantic_zzLegacyParts.l0]
          refine Ev.pos (fun _ => by omega) ?_
          refine Ev.bind hd ?_
          refine Ev.pos (fun _ => by omega) ?_
          refine legacy_l1 s hs out i r _ i rfl hi ?_
          rw [← hj]
          exact hr
        cases hL : isL ((bytesOf s).getD i 0)
        · have h0 : run isL ((bytesOf s).drop i) = 0 := by rw [hg]; exact run_neg hL
          rw [h0, Nat.add_zero] at hj2
          by_cases hp : (bytesOf s).getD i 0 = 46 ∨ (bytesOf s).getD i 0 = 45
          · obtain ⟨r, hr, h1, h2⟩ := ih (i + 1) (out ++ [s.extract i (i + 1)]) (by omega) (by omega) (by simp; omega)
            refine ⟨r, hj2 i r rfl ?_, ?_, h2⟩
            · have hj3 : Ev (fun k => semantic_zzLegacyParts.j3 k s out i i true) r := by
                refine Ev.succ ?_
                simp only [semantic_zzLegacyParts.j3]
                refine Ev.pos (fun _ => trivial) ?_
                rw [w64 (i := (i : Int) + 1) (by omega) (by omega)]
                refine Ev.neg (fun _ => by omega) ?_
                refine Ev.pos (fun _ => by omega) ?_
                refine Ev.pos (fun _ => by omega) ?_
                refine Ev.pos (fun _ => by omega) ?_
                refine Ev.pos (fun _ => by omega) ?_
                exact hr
              refine Ev.succ ?_
              simp only [semantic_zzLegacyParts.j2]
              refine Ev.pos (fun _ => trivial) ?_
              refine Ev.pos (fun _ => by omega) ?_
              refine Ev.pos (fun _ => by omega) ?_
              rw [bt_nat]
              by_cases h46 : (bytesOf s).getD i 0 = 46
              · refine Ev.pos (fun _ => h46) ?_
                exact hj3
              · refine Ev.neg (fun _ => h46) ?_
                have h45 : (bytesOf s).getD i 0 = 45 := by omega
                rw [h45]
                exact hj3
            · rw [h1, hg, List.map_append]
              simp only [toks, hc, hL, Bool.false_eq_true, if_false]
              rw [if_pos hp]
              simp [B_extract, hg]
          · obtain ⟨r, hr, h1, h2⟩ := ih (i + 1) out (by omega) (by omega) (by omega)
            refine ⟨r, hj2 i r rfl ?_, ?_, h2⟩
            · have hj3 : Ev (fun k => semantic_zzLegacyParts.j3 k s out i i false) r := by
                refine Ev.succ ?_
                simp only [semantic_zzLegacyParts.j3]
                refine Ev.neg (fun _ => by simp) ?_
                refine Ev.pos (fun _ => trivial) ?_
                rw [w64 (by omega) (by omega)]
                exact hr
              refine Ev.succ ?_
              simp only [semantic_zzLegacyParts.j2]
              refine Ev.pos (fun _ => trivial) ?_
              refine Ev.pos (fun _ => by omega) ?_
              refine Ev.pos (fun _ => by omega) ?_
              rw [bt_nat]
              refine Ev.neg (fun _ => by omega) ?_
              have : ((bytesOf s).getD i 0 == 45) = false := by simp only [beq_eq_false_iff_ne, ne_eq]; intro h; exact hp (Or.inr h)
              rw [this]
              exact hj3
            · rw [h1, hg]
              simp only [toks, hc, hL, Bool.false_eq_true, if_false]
              rw [if_neg hp]
        · have h0 : 0 < run isL ((bytesOf s).drop i) := by rw [hg, run_pos hL]; omega
          obtain ⟨j, hj⟩ : ∃ j, j = i + run isL ((bytesOf s).drop i) := ⟨_, rfl⟩
          obtain ⟨r, hr, h1, h2⟩ := ih j (out ++ [s.extract i j]) (by omega) (by omega) (by simp; omega)
          refine ⟨r, hj2 j r hj ?_, ?_, h2⟩
          · have hj3 : Ev (fun k => semantic_zzLegacyParts.j3 k s out i j false) r := by
              refine Ev.succ ?_
              simp only [semantic_zzLegacyParts.j3]
              refine Ev.neg (fun _ => by simp) ?_
              refine Ev.neg (fun _ => by omega) ?_
              refine Ev.pos (fun _ => by omega) ?_
              refine Ev.pos (fun _ => by omega) ?_
              refine Ev.pos (fun _ => by omega) ?_
              refine Ev.pos (fun _ => by omega) ?_
              exact hr
            refine Ev.succ ?_
            simp only [semantic_zzLegacyParts.j2]
            refine Ev.neg (fun _ => by omega) ?_
            exact hj3
          · rw [h1, List.map_append, hj, ← List.drop_drop]
            rw [hg]
            simp only [toks, hc, hL, Bool.false_eq_true, if_false, if_true]
            simp [B_extract, hg]
      · have h0 : 0 < run isD ((bytesOf s).drop i) := by rw [hg, run_pos hc]; omega
        obtain ⟨j, hj⟩ : ∃ j, j = i + run isD ((bytesOf s).drop i) := ⟨_, rfl⟩
        rw [← hj] at hd
        obtain ⟨r, hr, h1, h2⟩ := ih j (out ++ [s.extract i j]) (by omega) (by omega) (by simp; omega)
        refine ⟨r, ?_, ?_, h2⟩
        · have hj3 : Ev (fun k => semantic_zzLegacyParts.j3 k s out i j false) r := by
            refine Ev.succ ?_
            simp only [semantic_zzLegacyParts.j3]
            refine Ev.neg (fun _ => by simp) ?_
            refine Ev.neg (fun _ => by omega) ?_
            refine Ev.pos (fun _ => by omega) ?_
            refine Ev.pos (fun _ => by omega) ?_
            refine Ev.pos (fun _ => by omega) ?_
            refine Ev.pos (fun _ => by omega) ?_
            exact hr
          refine Ev.succ ?_
          simp only [semantic_zzLegacyParts.l0]
          refine Ev.pos (fun _ => by omega) ?_
          refine Ev.bind hd ?_
          refine Ev.neg (fun _ => by omega) ?_
          refine Ev.succ ?_
          simp only [semantic_zzLegacyParts.j2]
          refine Ev.neg (fun _ => by omega) ?_
          exact hj3
        · rw [h1, List.map_append, hj, ← List.drop_drop]
          rw [hg]
          simp only [toks, hc, if_true]
          simp [B_extract, hg]
    · refine ⟨out, Ev.succ ?_, ?_, by omega⟩
      · simp only [semantic_zzLegacyParts.l0]
        refine Ev.neg (fun _ => by omega) ?_
        exact Ev.now _
      · rw [List.drop_of_length_le (by rw [bytesOf_length]; omega)]
        simp [toks]
theorem legacy_ev (s : ByteArray) (hs : s.size ≤ 2000000000) :
    ∃ r, Ev (fun k => semantic_zzLegacyParts.f k s) r ∧ r.map bytesOf = toks s.size (bytesOf s) ∧ r.length ≤ s.size := by
  obtain ⟨r, h, h1, h2⟩ := legacy_from s hs s.size 0 [] (by omega) (by omega) (by simp)
  exact ⟨r, h, by simpa using h1, h2⟩

/-! ### The same, as the reference has it -/
def runs : Nat → List Int → List (List Int)
  | 0, _ => []
  | _ + 1, [] => []
  | n + 1, c :: r =>
    if isD c then (c :: r).take (run isD (c :: r)) :: runs n ((c :: r).drop (run isD (c :: r)))
    else if isL c then (c :: r).take (run isL (c :: r)) :: runs n ((c :: r).drop (run isL (c :: r)))
    else if c = 45 then [c] :: runs n r
    else runs n r

theorem run_d1 (s : ByteArray) (hs : s.size ≤ 2000000000) (out : List ByteArray) (i : Nat) (ho : out.length ≤ i) (r : List ByteArray) : ∀ (n j : Nat), s.size - j = n → j ≤ s.size → i ≤ j →
    Ev (fun k => spec_pypiRuns.l0 k s (out ++ [s.extract i (j + run isD ((bytesOf s).drop j))]) ((j + run isD ((bytesOf s).drop j) : Nat) : Int)) r → Ev (fun k => spec_pypiRuns.l1 k s out i j true false) r := by
  intro n
  induction n with
  | zero =>
    intro j hn hj hij h
    rw [List.drop_of_length_le (by rw [bytesOf_length]; omega)] at h
    refine Ev.succ ?_
    simp only [spec_pypiRuns.l1]
    (repeat (first | refine Ev.pos (fun _ => by first | omega | trivial | assumption) ?_ | refine Ev.neg (fun _ => by first | omega | assumption | nofun) ?_))
    simpa [run_nil] using h
  | succ n ih =>
    intro j hn hj hij h
    have hl : j < (bytesOf s).length := by rw [bytesOf_length]; omega
    rw [drop_get _ _ hl] at h
    refine Ev.succ ?_
    simp only [spec_pypiRuns.l1, isDigit_eq, Option.bind_some, bt_nat]
    cases hc : isD ((bytesOf s).getD j 0)
    · rw [run_neg hc] at h
      (repeat (first | refine Ev.pos (fun _ => by first | omega | trivial | assumption) ?_ | refine Ev.neg (fun _ => by first | omega | assumption | nofun) ?_))
      simpa using h
    · rw [run_pos hc] at h
      (repeat (first | refine Ev.pos (fun _ => by first | omega | trivial | assumption) ?_ | refine Ev.neg (fun _ => by first | omega | assumption | nofun) ?_))
      rw [w64 (by omega) (by omega)]
      refine ih (j + 1) (by omega) (by omega) (by omega) ?_
      rw [show j + 1 + run isD ((bytesOf s).drop (j + 1)) = j + (run isD ((bytesOf s).drop (j + 1)) + 1) by omega]
      exact h
theorem run_l1 (s : ByteArray) (hs : s.size ≤ 2000000000) (out : List ByteArray) (i : Nat) (ho : out.length ≤ i) (r : List ByteArray) : ∀ (n j : Nat), s.size - j = n → j ≤ s.size → i ≤ j →
    Ev (fun k => spec_pypiRuns.l0 k s (out ++ [s.extract i (j + run isL ((bytesOf s).drop j))]) ((j + run isL ((bytesOf s).drop j) : Nat) : Int)) r → Ev (fun k => spec_pypiRuns.l1 k s out i j false true) r := by
  intro n
  induction n with
  | zero =>
    intro j hn hj hij h
    rw [List.drop_of_length_le (by rw [bytesOf_length]; omega)] at h
    refine Ev.succ ?_
    simp only [spec_pypiRuns.l1]
    (repeat (first | refine Ev.pos (fun _ => by first | omega | trivial | assumption) ?_ | refine Ev.neg (fun _ => by first | omega | assumption | nofun) ?_))
    simpa [run_nil] using h
  | succ n ih =>
    intro j hn hj hij h
    have hl : j < (bytesOf s).length := by rw [bytesOf_length]; omega
    rw [drop_get _ _ hl] at h
    refine Ev.succ ?_
    simp only [spec_pypiRuns.l1, isDigit_eq, Option.bind_some, bt_nat]
    cases hc : isL ((bytesOf s).getD j 0)
    · rw [run_neg hc] at h
      simp only [isL, decide_eq_false_iff_not] at hc
      by_cases h1 : (bytesOf s).getD j 0 ≥ 97
      · (repeat (first | refine Ev.pos (fun _ => by first | omega | trivial | assumption) ?_ | refine Ev.neg (fun _ => by first | omega | assumption | nofun) ?_))
        simpa using h
      · (repeat (first | refine Ev.pos (fun _ => by first | omega | trivial | assumption) ?_ | refine Ev.neg (fun _ => by first | omega | assumption | nofun) ?_))
        simpa using h
    · rw [run_pos hc] at h
      simp only [isL, decide_eq_true_eq] at hc
      (repeat (first | refine Ev.pos (fun _ => by first | omega | trivial | assumption) ?_ | refine Ev.neg (fun _ => by first | omega | assumption | nofun) ?_))
      rw [w64 (by omega) (by omega)]
      refine ih (j + 1) (by omega) (by omega) (by omega) ?_
      rw [show j + 1 + run isL ((bytesOf s).drop (j + 1)) = j + (run isL ((bytesOf s).drop (j + 1)) + 1) by omega]
      exact h

theorem runs_from (s : ByteArray) (hs : s.size ≤ 2000000000) : ∀ (n i : Nat) (out : List ByteArray), s.size - i ≤ n → i ≤ s.size → out.length ≤ i →
    ∃ r, Ev (fun k => spec_pypiRuns.l0 k s out i) r ∧ r.map bytesOf = out.map bytesOf ++ runs n ((bytesOf s).drop i) ∧ r.length ≤ s.size := by
  intro n
  induction n with
  | zero =>
    intro i out hn hi ho
    refine ⟨out, Ev.succ ?_, by simp [runs], by omega⟩
    simp only [spec_pypiRuns.l0]
    (repeat (first | refine Ev.pos (fun _ => by first | omega | trivial | assumption) ?_ | refine Ev.neg (fun _ => by first | omega | assumption | nofun) ?_))
    exact Ev.now _
  | succ n ih =>
    intro i out hn hi ho
    by_cases hlt : i < s.size
    · have hl : i < (bytesOf s).length := by rw [bytesOf_length]; omega
      have hle := run_le isD ((bytesOf s).drop i)
      have hleL := run_le isL ((bytesOf s).drop i)
      rw [List.length_drop, bytesOf_length] at hle hleL
      have hg := drop_get _ _ hl
      have start : ∀ (d l : Bool) (r : List ByteArray), isD ((bytesOf s).getD i 0) = d → isL ((bytesOf s).getD i 0) = l → Ev (fun k => spec_pypiRuns.l1 k s out i ((i + 1 : Nat) : Int) d l) r → Ev (fun k => spec_pypiRuns.l0 k s out i) r := by
        intro d l r hd hL hr
        have hj1 : Ev (fun k => spec_pypiRuns.j1 k s out i ((i + 1 : Nat) : Int) d l) r := by
          refine Ev.succ ?_
          simp only [spec_pypiRuns.j1]
          exact hr
        refine Ev.succ ?_
        simp only [spec_pypiRuns.l0, isDigit_eq, Option.bind_some, bt_nat]
        rw [w64 (by omega) (by omega)]
        rw [hd]
        refine Ev.pos (fun _ => by first | omega | trivial | assumption) ?_
        refine Ev.pos (fun _ => by first | omega | trivial | assumption) ?_
        by_cases h1 : (bytesOf s).getD i 0 ≥ 97
        · refine Ev.pos (fun _ => by first | omega | trivial | assumption) ?_
          have : decide ((bytesOf s).getD i 0 ≤ 122) = l := by rw [← hL]; simp only [isL]; rw [decide_eq_decide]; omega
          rw [this]
          exact hj1
        · refine Ev.neg (fun _ => by first | omega | assumption | nofun) ?_
          have : l = false := by rw [← hL]; simp only [isL, decide_eq_false_iff_not]; omega
          rw [← this]
          exact hj1
      cases hc : isD ((bytesOf s).getD i 0)
      · cases hL : isL ((bytesOf s).getD i 0)
        · by_cases hp : (bytesOf s).getD i 0 = 45
          · obtain ⟨r, hr, h1, h2⟩ := ih (i + 1) (out ++ [s.extract i (i + 1)]) (by omega) (by omega) (by simp; omega)
            refine ⟨r, start _ _ r hc hL ?_, ?_, h2⟩
            · refine Ev.succ ?_
              simp only [spec_pypiRuns.l1, isDigit_eq, Option.bind_some, bt_nat]
              by_cases hj : i + 1 < s.size
              · (repeat (first | refine Ev.pos (fun _ => by first | omega | trivial | assumption) ?_ | refine Ev.neg (fun _ => by first | omega | assumption | nofun) ?_))
                exact hr
              · (repeat (first | refine Ev.pos (fun _ => by first | omega | trivial | assumption) ?_ | refine Ev.neg (fun _ => by first | omega | assumption | nofun) ?_))
                exact hr
            · rw [h1, hg, List.map_append]
              simp only [runs, hc, hL, Bool.false_eq_true, if_false]
              rw [if_pos hp]
              simp [B_extract, hg]
          · obtain ⟨r, hr, h1, h2⟩ := ih (i + 1) out (by omega) (by omega) (by omega)
            refine ⟨r, start _ _ r hc hL ?_, ?_, h2⟩
            · refine Ev.succ ?_
              simp only [spec_pypiRuns.l1, isDigit_eq, Option.bind_some, bt_nat]
              by_cases hj : i + 1 < s.size
              · (repeat (first | refine Ev.pos (fun _ => by first | omega | trivial | assumption) ?_ | refine Ev.neg (fun _ => by first | omega | assumption | nofun) ?_))
                exact hr
              · (repeat (first | refine Ev.pos (fun _ => by first | omega | trivial | assumption) ?_ | refine Ev.neg (fun _ => by first | omega | assumption | nofun) ?_))
                exact hr
            · rw [h1, hg]
              simp only [runs, hc, hL, Bool.false_eq_true, if_false]
              rw [if_neg hp]
        · have h0 : run isL ((bytesOf s).drop i) = run isL ((bytesOf s).drop (i + 1)) + 1 := by rw [hg, run_pos hL]
          obtain ⟨j, hj⟩ : ∃ j, j = i + run isL ((bytesOf s).drop i) := ⟨_, rfl⟩
          obtain ⟨r, hr, h1, h2⟩ := ih j (out ++ [s.extract i j]) (by omega) (by omega) (by simp; omega)
          refine ⟨r, start _ _ r hc hL (run_l1 s hs out i ho r _ (i + 1) rfl (by omega) (by omega) ?_), ?_, h2⟩
          · rw [show i + 1 + run isL ((bytesOf s).drop (i + 1)) = j by omega]
            exact hr
          · rw [h1, List.map_append, hj, ← List.drop_drop]
            rw [hg]
            simp only [runs, hc, hL, Bool.false_eq_true, if_false, if_true]
            simp [B_extract, hg]
      · have hL : isL ((bytesOf s).getD i 0) = false := by simp only [isD, decide_eq_true_eq] at hc; simp only [isL, decide_eq_false_iff_not]; omega
        have h0 : run isD ((bytesOf s).drop i) = run isD ((bytesOf s).drop (i + 1)) + 1 := by rw [hg, run_pos hc]
        obtain ⟨j, hj⟩ : ∃ j, j = i + run isD ((bytesOf s).drop i) := ⟨_, rfl⟩
        obtain ⟨r, hr, h1, h2⟩ := ih j (out ++ [s.extract i j]) (by omega) (by omega) (by simp; omega)
        refine ⟨r, start _ _ r hc hL (run_d1 s hs out i ho r _ (i + 1) rfl (by omega) (by omega) ?_), ?_, h2⟩
        · rw [show i + 1 + run isD ((bytesOf s).drop (i + 1)) = j by omega]
          exact hr
        · rw [h1, List.map_append, hj, ← List.drop_drop]
          rw [hg]
          simp only [runs, hc, if_true]
          simp [B_extract, hg]
    · refine ⟨out, Ev.succ ?_, ?_, by omega⟩
      · simp only [spec_pypiRuns.l0]
        (repeat (first | refine Ev.pos (fun _ => by first | omega | trivial | assumption) ?_ | refine Ev.neg (fun _ => by first | omega | assumption | nofun) ?_))
        exact Ev.now _
      · rw [List.drop_of_length_le (by rw [bytesOf_length]; omega)]
        simp [runs]
theorem runs_ev (s : ByteArray) (hs : s.size ≤ 2000000000) :
    ∃ r, Ev (fun k => spec_pypiRuns.f k s) r ∧ r.map bytesOf = runs s.size (bytesOf s) ∧ r.length ≤ s.size := by
  obtain ⟨r, h, h1, h2⟩ := runs_from s hs s.size 0 [] (by omega) (by omega) (by simp)
  exact ⟨r, h, by simpa using h1, h2⟩

theorem run_head {p : Int → Bool} {c : Int} {r : List Int} (h : p c = true) : (c :: r).take (run p (c :: r)) = c :: r.take (run p r) := by rw [run_pos h]; rfl
/-- What a part is like. -/
def Tok (t : List Int) : Prop := t = [46] ∨ t = [45] ∨ (t ≠ [] ∧ ∀ x ∈ t, isD x = true) ∨ (t ≠ [] ∧ ∀ x ∈ t, isL x = true)
theorem take_run_all (p : Int → Bool) (l : List Int) : ∀ x ∈ l.take (run p l), p x = true := by
  rw [take_run]
  induction l with
  | nil => intro x hx; simp at hx
  | cons c l ih =>
    intro x hx
    cases h : p c
    · simp [h] at hx
    · simp only [List.takeWhile_cons, h, if_true, List.mem_cons] at hx
      rcases hx with rfl | hx
      · exact h
      · exact ih x hx
theorem toks_tok : ∀ (n : Nat) (l : List Int), ∀ t ∈ toks n l, Tok t ∧ t.length ≤ l.length := by
  intro n
  induction n with
  | zero => intro l t ht; simp [toks] at ht
  | succ n ih =>
    intro l t ht
    cases l with
    | nil => simp [toks] at ht
    | cons c r =>
      simp only [toks] at ht
      by_cases hc : isD c = true
      · rw [if_pos hc, List.mem_cons] at ht
        rcases ht with rfl | ht
        · exact ⟨.inr (.inr (.inl ⟨by rw [run_head hc]; simp, take_run_all _ _⟩)), by rw [List.length_take]; exact Nat.min_le_right _ _⟩
        · have h := ih _ _ ht
          exact ⟨h.1, Nat.le_trans h.2 (by rw [List.length_drop]; omega)⟩
      · rw [if_neg hc] at ht
        by_cases hL : isL c = true
        · rw [if_pos hL, List.mem_cons] at ht
          rcases ht with rfl | ht
          · exact ⟨.inr (.inr (.inr ⟨by rw [run_head hL]; simp, take_run_all _ _⟩)), by rw [List.length_take]; exact Nat.min_le_right _ _⟩
          · have h := ih _ _ ht
            exact ⟨h.1, Nat.le_trans h.2 (by rw [List.length_drop]; omega)⟩
        · rw [if_neg hL] at ht
          by_cases hp : c = 46 ∨ c = 45
          · rw [if_pos hp, List.mem_cons] at ht
            rcases ht with rfl | ht
            · exact ⟨by rcases hp with rfl | rfl <;> simp [Tok], by simp⟩
            · have h := ih _ _ ht
              exact ⟨h.1, Nat.le_trans h.2 (by simp)⟩
          · rw [if_neg hp] at ht
            have h := ih _ _ ht
            exact ⟨h.1, Nat.le_trans h.2 (by simp)⟩
theorem runs_toks : ∀ (n : Nat) (l : List Int), runs n l = (toks n l).filter (fun t => decide (t ≠ [46])) := by
  intro n
  induction n with
  | zero => intro l; rfl
  | succ n ih =>
    intro l
    cases l with
    | nil => rfl
    | cons c r =>
      simp only [toks, runs]
      by_cases hc : isD c = true
      · rw [if_pos hc, if_pos hc, ih, List.filter_cons, if_pos]
        rw [run_head hc]
        simp only [decide_eq_true_eq]
        intro h
        injection h with h _
        subst h
        simp [isD] at hc
      · rw [if_neg hc, if_neg hc]
        by_cases hL : isL c = true
        · rw [if_pos hL, if_pos hL, ih, List.filter_cons, if_pos]
          rw [run_head hL]
          simp only [decide_eq_true_eq]
          intro h
          injection h with h _
          subst h
          simp [isL] at hL
        · rw [if_neg hL, if_neg hL]
          by_cases h45 : c = 45
          · subst h45
            rw [if_pos rfl, if_pos (by simp), ih]
            simp
          · rw [if_neg h45]
            by_cases h46 : c = 46
            · subst h46
              rw [if_pos (by simp), ih]
              simp
            · rw [if_neg (by omega), ih]

/-! ### A part in its final spelling; what it makes of the parts before it -/
def pad : Nat → List Int → List Int
  | 0, l => l
  | n + 1, l => pad n (48 :: l)
def norm (t : List Int) : List Int :=
  if t = [112, 114, 101] ∨ t = [112, 114, 101, 118, 105, 101, 119] ∨ t = [114, 99] then [42, 99]
  else if t = [45] then [42, 102, 105, 110, 97, 108, 45]
  else if t = [100, 101, 118] then [42, 64]
  else if isD (t.getD 0 0) = true then pad (8 - t.length) t
  else 42 :: t
theorem B_zero (x : ByteArray) : bytesOf ((⟨#[48]⟩ : ByteArray) ++ x) = 48 :: bytesOf x := by rw [B_append]; rfl
theorem B_star (x : ByteArray) : bytesOf ((⟨#[42]⟩ : ByteArray) ++ x) = 42 :: bytesOf x := by rw [B_append]; rfl
theorem size_zero (x : ByteArray) : ((⟨#[48]⟩ : ByteArray) ++ x).size = x.size + 1 := by rw [B_size, B_zero, B_size]; rfl

theorem padded_from : ∀ (n : Nat) (x : ByteArray), x.size ≤ 2000000000 → n = 8 - x.size → ∀ (j : Nat), j = x.size →
    ∃ r, Ev (fun k => semantic_zzPadded.l0 k x j) r ∧ bytesOf r = pad n (bytesOf x) := by
  intro n
  induction n with
  | zero =>
    intro x hx hn j hj
    refine ⟨x, Ev.succ ?_, rfl⟩
    simp only [semantic_zzPadded.l0]
    (repeat (first | refine Ev.pos (fun _ => by first | omega | trivial | assumption) ?_ | refine Ev.neg (fun _ => by first | omega | assumption | nofun) ?_))
    exact Ev.now _
  | succ n ih =>
    intro x hx hn j hj
    obtain ⟨r, hr, h⟩ := ih ((⟨#[48]⟩ : ByteArray) ++ x) (by rw [size_zero]; omega) (by rw [size_zero]; omega) (j + 1) (by rw [size_zero]; omega)
    refine ⟨r, Ev.succ ?_, by rw [h, B_zero]; rfl⟩
    simp only [semantic_zzPadded.l0]
    (repeat (first | refine Ev.pos (fun _ => by first | omega | trivial | assumption) ?_ | refine Ev.neg (fun _ => by first | omega | assumption | nofun) ?_))
    rw [w64 (by omega) (by omega)]
    exact hr
theorem padded_ev (x : ByteArray) (hx : x.size ≤ 2000000000) : ∃ r, Ev (fun k => semantic_zzPadded.f k x) r ∧ bytesOf r = pad (8 - (bytesOf x).length) (bytesOf x) := by
  rw [bytesOf_length]
  exact padded_from _ x hx rfl _ rfl
theorem padded2_from : ∀ (n : Nat) (x : ByteArray), x.size ≤ 2000000000 → n = 8 - x.size →
    ∃ r, Ev (fun k => spec_pypiPart.l0 k x) r ∧ bytesOf r = pad n (bytesOf x) := by
  intro n
  induction n with
  | zero =>
    intro x hx hn
    refine ⟨x, Ev.succ ?_, rfl⟩
    simp only [spec_pypiPart.l0]
    (repeat (first | refine Ev.pos (fun _ => by first | omega | trivial | assumption) ?_ | refine Ev.neg (fun _ => by first | omega | assumption | nofun) ?_))
    exact Ev.now _
  | succ n ih =>
    intro x hx hn
    obtain ⟨r, hr, h⟩ := ih ((⟨#[48]⟩ : ByteArray) ++ x) (by rw [size_zero]; omega) (by rw [size_zero]; omega)
    refine ⟨r, Ev.succ ?_, by rw [h, B_zero]; rfl⟩
    simp only [spec_pypiPart.l0]
    (repeat (first | refine Ev.pos (fun _ => by first | omega | trivial | assumption) ?_ | refine Ev.neg (fun _ => by first | omega | assumption | nofun) ?_))
    exact hr

theorem norm_j0 (x : ByteArray) (hx : x.size ≤ 2000000000) (h0 : bytesOf x ≠ []) :
    ∃ r, Ev (fun k => semantic_normalizePyPILegacyPart.j0 k x) r ∧ bytesOf r = (if isD ((bytesOf x).getD 0 0) = true then pad (8 - (bytesOf x).length) (bytesOf x) else 42 :: bytesOf x) := by
  have hpos : 0 < (bytesOf x).length := List.length_pos_iff.2 h0
  rw [bytesOf_length] at hpos
  have hr := bt_range x 0
  obtain ⟨p, hp, hpb⟩ := padded_ev x hx
  cases hc : isD ((bytesOf x).getD 0 0)
  · refine ⟨(⟨#[42]⟩ : ByteArray) ++ x, Ev.succ ?_, by rw [B_star]; simp⟩
    simp only [semantic_normalizePyPILegacyPart.j0]
    rw [w32 (by omega) (by omega), bt_zero, isASCIIDigit_eq, hc]
    simp only [Option.bind_some]
    (repeat (first | refine Ev.pos (fun _ => by first | omega | trivial | assumption) ?_ | refine Ev.neg (fun _ => by first | omega | assumption | nofun) ?_))
    exact Ev.now _
  · refine ⟨p, Ev.succ ?_, by rw [hpb, bytesOf_length]; simp⟩
    simp only [semantic_normalizePyPILegacyPart.j0]
    rw [w32 (by omega) (by omega), bt_zero, isASCIIDigit_eq, hc]
    simp only [Option.bind_some]
    refine Ev.pos (fun _ => by first | omega | trivial | assumption) ?_
    refine Ev.pos (fun _ => by first | omega | trivial | assumption) ?_
    exact Ev.bind hp (Ev.now _)

theorem norm_ev (x : ByteArray) (hx : x.size ≤ 2000000000) (h0 : bytesOf x ≠ []) :
    ∃ r, Ev (fun k => semantic_normalizePyPILegacyPart.f k x) r ∧ bytesOf r = norm (bytesOf x) := by
  simp only [semantic_normalizePyPILegacyPart.f, toList_lit]
  simp only [List.map_cons, List.map_nil, UInt8.reduceToNat]
  obtain ⟨r, hr, hb⟩ := norm_j0 x hx h0
  obtain ⟨r1, hr1, hb1⟩ := norm_j0 ⟨#[99]⟩ (by decide) (by decide)
  obtain ⟨r2, hr2, hb2⟩ := norm_j0 ⟨#[102, 105, 110, 97, 108, 45]⟩ (by decide) (by decide)
  obtain ⟨r3, hr3, hb3⟩ := norm_j0 ⟨#[64]⟩ (by decide) (by decide)
  have e1 : bytesOf r1 = [42, 99] := hb1.trans (by decide)
  have e2 : bytesOf r2 = [42, 102, 105, 110, 97, 108, 45] := hb2.trans (by decide)
  have e3 : bytesOf r3 = [42, 64] := hb3.trans (by decide)
  unfold norm
  by_cases h1 : bytesOf x = [112, 114, 101]
  · rw [if_pos (.inl h1)]
    exact ⟨r1, Ev.pos (fun _ => h1) hr1, e1⟩
  · by_cases h2 : bytesOf x = [112, 114, 101, 118, 105, 101, 119]
    · rw [if_pos (.inr (.inl h2))]
      exact ⟨r1, Ev.neg (fun _ => h1) (Ev.pos (fun _ => h2) hr1), e1⟩
    · by_cases h3 : bytesOf x = [45]
      · rw [if_neg (by rw [h3]; decide), if_pos h3]
        exact ⟨r2, Ev.neg (fun _ => h1) (Ev.neg (fun _ => h2) (Ev.pos (fun _ => h3) hr2)), e2⟩
      · by_cases h4 : bytesOf x = [114, 99]
        · rw [if_pos (.inr (.inr h4))]
          exact ⟨r1, Ev.neg (fun _ => h1) (Ev.neg (fun _ => h2) (Ev.neg (fun _ => h3) (Ev.pos (fun _ => h4) hr1))), e1⟩
        · rw [if_neg (by simp [h1, h2, h4]), if_neg h3]
          by_cases h5 : bytesOf x = [100, 101, 118]
          · rw [if_pos h5]
            exact ⟨r3, Ev.neg (fun _ => h1) (Ev.neg (fun _ => h2) (Ev.neg (fun _ => h3) (Ev.neg (fun _ => h4) (Ev.pos (fun _ => h5) hr3)))), e3⟩
          · rw [if_neg h5]
            exact ⟨r, Ev.neg (fun _ => h1) (Ev.neg (fun _ => h2) (Ev.neg (fun _ => h3) (Ev.neg (fun _ => h4) (Ev.neg (fun _ => h5) hr)))), hb⟩

theorem allDigits_from (s : ByteArray) (hs : s.size ≤ 2000000000) : ∀ (n i : Nat), s.size - i = n → i ≤ s.size →
    Ev (fun k => spec_allDigits.l0 k s i) (decide (∀ x ∈ (bytesOf s).drop i, isD x = true) && decide (0 < s.size)) := by
  intro n
  induction n with
  | zero =>
    intro i hn hi
    refine Ev.succ ?_
    simp only [spec_allDigits.l0]
    (repeat (first | refine Ev.pos (fun _ => by first | omega | trivial | assumption) ?_ | refine Ev.neg (fun _ => by first | omega | assumption | nofun) ?_))
    refine Ev.eq (Ev.now _) ?_
    rw [List.drop_of_length_le (by rw [bytesOf_length]; omega)]
    simp
  | succ n ih =>
    intro i hn hi
    have hl : i < (bytesOf s).length := by rw [bytesOf_length]; omega
    refine Ev.succ ?_
    simp only [spec_allDigits.l0, isDigit_eq, Option.bind_some, bt_nat]
    rw [drop_get _ _ hl]
    cases h : isD ((bytesOf s).getD i 0)
    · (repeat (first | refine Ev.pos (fun _ => by first | omega | trivial | assumption) ?_ | refine Ev.neg (fun _ => by first | omega | assumption | nofun) ?_))
      refine Ev.eq (Ev.now _) ?_
      simp only [List.mem_cons, forall_eq_or_imp, h, Bool.false_eq_true, false_and, decide_false, Bool.false_and]
    · (repeat (first | refine Ev.pos (fun _ => by first | omega | trivial | assumption) ?_ | refine Ev.neg (fun _ => by first | omega | assumption | nofun) ?_))
      rw [w64 (by omega) (by omega)]
      refine Ev.eq (ih (i + 1) (by omega) (by omega)) ?_
      simp only [List.mem_cons, forall_eq_or_imp, h, true_and]
theorem allDigits_ev (s : ByteArray) (hs : s.size ≤ 2000000000) : Ev (fun k => spec_allDigits.f k s) (decide (∀ x ∈ bytesOf s, isD x = true) && decide (0 < s.size)) := by
  have h := allDigits_from s hs _ 0 rfl (Nat.zero_le _)
  simpa [spec_allDigits.f] using h

theorem part_ev (x : ByteArray) (hx : x.size ≤ 2000000000) (h0 : Tok (bytesOf x)) :
    ∃ r, Ev (fun k => spec_pypiPart.f k x) r ∧ bytesOf r = norm (bytesOf x) := by
  have had := allDigits_ev x hx
  have hne : bytesOf x ≠ [] := by rcases h0 with h | h | h | h <;> (first | (rw [h]; decide) | exact h.1)
  have hpos : 0 < (bytesOf x).length := List.length_pos_iff.2 hne
  have hpos2 := hpos
  rw [bytesOf_length] at hpos2
  simp only [spec_pypiPart.f]
  have hmem : (bytesOf x).getD 0 0 ∈ bytesOf x := by
    rw [List.getD_eq_getElem?_getD, List.getElem?_eq_getElem hpos]
    exact List.getElem_mem hpos
  by_cases hd : ∀ y ∈ bytesOf x, isD y = true
  · obtain ⟨r, hr, hb⟩ := padded2_from _ x hx rfl
    refine ⟨r, ?_, ?_⟩
    · refine Ev.bind had ?_
      refine Ev.pos (fun _ => by rw [Bool.and_eq_true]; exact ⟨decide_eq_true hd, decide_eq_true hpos2⟩) ?_
      exact hr
    · rw [hb, ← bytesOf_length]
      have hg := hd _ hmem
      unfold norm
      have no : ∀ l : List Int, isD (l.getD 0 0) = false → bytesOf x ≠ l := fun l hl e => by rw [e] at hg; rw [hg] at hl; cases hl
      rw [if_neg, if_neg (no _ (by decide)), if_neg (no _ (by decide)), if_pos hg]
      rintro (h | h | h)
      · exact no _ (by decide) h
      · exact no _ (by decide) h
      · exact no _ (by decide) h
  · have hgd : isD ((bytesOf x).getD 0 0) = false := by
      rcases h0 with h | h | h | h
      · rw [h]; decide
      · rw [h]; decide
      · exact absurd h.2 hd
      · have := h.2 _ hmem
        simp only [isL, decide_eq_true_eq] at this
        simp only [isD, decide_eq_false_iff_not]
        omega
    have start : ∀ (r : ByteArray), Ev (fun k => if x.toList = ([112, 114, 101] : List UInt8) then (spec_pypiPart.j1 k x x (x.toList == ([112, 114, 101] : List UInt8))) else (if x.toList = ([112, 114, 101, 118, 105, 101, 119] : List UInt8) then (spec_pypiPart.j1 k x x (x.toList == ([112, 114, 101, 118, 105, 101, 119] : List UInt8))) else (spec_pypiPart.j1 k x x (x.toList == ([114, 99] : List UInt8))))) r →
        Ev (fun k => (spec_allDigits.f k x).bind fun t => if t = true then spec_pypiPart.l0 k x else (if x.toList = ([112, 114, 101] : List UInt8) then (spec_pypiPart.j1 k x x (x.toList == ([112, 114, 101] : List UInt8))) else (if x.toList = ([112, 114, 101, 118, 105, 101, 119] : List UInt8) then (spec_pypiPart.j1 k x x (x.toList == ([112, 114, 101, 118, 105, 101, 119] : List UInt8))) else (spec_pypiPart.j1 k x x (x.toList == ([114, 99] : List UInt8)))))) r := by
      intro r hr
      refine Ev.bind had ?_
      refine Ev.neg (fun _ => by simp [hd]) ?_
      exact hr
    have yes : Ev (fun k => spec_pypiPart.j1 k x x true) (⟨#[42, 99]⟩ : ByteArray) := by
      refine Ev.succ ?_
      simp only [spec_pypiPart.j1]
      refine Ev.pos (fun _ => by first | omega | trivial | assumption) ?_
      exact Ev.now _
    have no : ∃ r, Ev (fun k => spec_pypiPart.j1 k x x false) r ∧ bytesOf r = (if bytesOf x = [45] then [42, 102, 105, 110, 97, 108, 45] else if bytesOf x = [100, 101, 118] then [42, 64] else 42 :: bytesOf x) := by
      by_cases h3 : bytesOf x = [45]
      · refine ⟨⟨#[42, 102, 105, 110, 97, 108, 45]⟩, Ev.succ ?_, by rw [if_pos h3]; rfl⟩
        simp only [spec_pypiPart.j1, toList_lit]
        refine Ev.neg (fun _ => by first | omega | assumption | nofun) ?_
        refine Ev.pos (fun _ => h3) ?_
        exact Ev.now _
      · by_cases h5 : bytesOf x = [100, 101, 118]
        · refine ⟨⟨#[42, 64]⟩, Ev.succ ?_, by rw [if_neg h3, if_pos h5]; rfl⟩
          simp only [spec_pypiPart.j1, toList_lit]
          refine Ev.neg (fun _ => by first | omega | assumption | nofun) ?_
          refine Ev.neg (fun _ => h3) ?_
          refine Ev.pos (fun _ => h5) ?_
          exact Ev.now _
        · refine ⟨_, Ev.succ ?_, by rw [if_neg h3, if_neg h5, B_star]⟩
          simp only [spec_pypiPart.j1, toList_lit]
          refine Ev.neg (fun _ => by first | omega | assumption | nofun) ?_
          refine Ev.neg (fun _ => h3) ?_
          refine Ev.neg (fun _ => h5) ?_
          refine Ev.pos (fun _ => by first | omega | trivial | assumption) ?_
          exact Ev.now _
    unfold norm
    by_cases h1 : bytesOf x = [112, 114, 101]
    · rw [if_pos (.inl h1)]
      refine ⟨⟨#[42, 99]⟩, start _ ?_, rfl⟩
      refine Ev.pos (fun _ => (toList_lit _ _).2 h1) ?_
      have : (x.toList == ([112, 114, 101] : List UInt8)) = true := by rw [beq_iff_eq]; exact (toList_lit _ _).2 h1
      rw [this]
      exact yes
    · by_cases h2 : bytesOf x = [112, 114, 101, 118, 105, 101, 119]
      · rw [if_pos (.inr (.inl h2))]
        refine ⟨⟨#[42, 99]⟩, start _ ?_, rfl⟩
        refine Ev.neg (fun _ h => h1 ((toList_lit _ _).1 h)) ?_
        refine Ev.pos (fun _ => (toList_lit _ _).2 h2) ?_
        have : (x.toList == ([112, 114, 101, 118, 105, 101, 119] : List UInt8)) = true := by rw [beq_iff_eq]; exact (toList_lit _ _).2 h2
        rw [this]
        exact yes
      · by_cases h4 : bytesOf x = [114, 99]
        · rw [if_pos (.inr (.inr h4))]
          refine ⟨⟨#[42, 99]⟩, start _ ?_, rfl⟩
          refine Ev.neg (fun _ h => h1 ((toList_lit _ _).1 h)) ?_
          refine Ev.neg (fun _ h => h2 ((toList_lit _ _).1 h)) ?_
          have : (x.toList == ([114, 99] : List UInt8)) = true := by rw [beq_iff_eq]; exact (toList_lit _ _).2 h4
          rw [this]
          exact yes
        · obtain ⟨r, hr, hb⟩ := no
          refine ⟨r, start _ ?_, ?_⟩
          · refine Ev.neg (fun _ h => h1 ((toList_lit _ _).1 h)) ?_
            refine Ev.neg (fun _ h => h2 ((toList_lit _ _).1 h)) ?_
            have : (x.toList == ([114, 99] : List UInt8)) = false := by rw [beq_eq_false_iff_ne]; exact fun h => h4 ((toList_lit _ _).1 h)
            rw [this]
            exact hr
          · have hn : ¬ (bytesOf x = [112, 114, 101] ∨ bytesOf x = [112, 114, 101, 118, 105, 101, 119] ∨ bytesOf x = [114, 99]) := by
              rintro (h | h | h)
              · exact h1 h
              · exact h2 h
              · exact h4 h
            rw [hb, if_neg hn, hgd]
            simp

end Go.Proofs.Yteffbgjfhbgooaa.V
