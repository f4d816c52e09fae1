/- Plain laws of the versions that the laws build: numbers with points between, decimal numerals, and what hangs behind. -/
import Derived.Test.YtdjkekgfeadmoaaDoorY1
namespace Go.Proofs.YtdjkekgfeadmoaaDoor.V
open Go.RowKit Go.Proofs.YtdjkekgfeadmoaaDoor.Q Go.Proofs.YtdjkekgfeadmoaaDoorH Go.Proofs.YtdjkekgfeadmoaaDoorB Go.Proofs.YtdjkekgfeadmoaaDoorG Go.Proofs.YtdjkekgfeadmoaaDoorW.PrintWords Go.Proofs.YtdjkekgfeadmoaaDoorW.PrintLast
set_option linter.unusedVariables false
set_option linter.unusedSimpArgs false

theorem digits_from (s : ByteArray) (hs : s.size ≤ 2000000000) : ∀ (n i : Nat), s.size - i = n → i ≤ s.size →
    Ev (fun k => laws_digits.l0 k s i) (decide (bytesOf s ≠ [] ∧ ∀ c ∈ (bytesOf s).drop i, isD c = true)) := by
  intro n
  induction n with
  | zero =>
    intro i hn hi
    refine Ev.succ ?_
    simp only [laws_digits.l0]
    refine Ev.neg (fun _ => by omega) ?_
    refine Ev.eq (Ev.now _) ?_
    rw [List.drop_of_length_le (by rw [bytesOf_length]; omega), Bool.eq_iff_iff, bne_iff_ne, decide_eq_true_iff, ne_eq, toList_nil]
    simp
  | succ n ih =>
    intro i hn hi
    have hl : i < (bytesOf s).length := by rw [bytesOf_length]; omega
    refine Ev.succ ?_
    simp only [laws_digits.l0]
    refine Ev.pos (fun _ => by omega) ?_
    refine Ev.pos (fun _ => by omega) ?_
    rw [bt_nat, drop_get _ _ hl]
    have hf : ∀ x : Int, (x < 48 ∨ 57 < x) → isD x = false := fun x hx => by unfold isD; apply decide_eq_false; omega
    by_cases h : (bytesOf s).getD i 0 < 48
    · refine Ev.pos (fun _ => h) ?_
      refine Ev.eq (Ev.now _) ?_
      symm
      simp only [decide_eq_false_iff_not]
      rintro ⟨_, hx⟩
      have h2 := hx _ List.mem_cons_self
      rw [hf _ (.inl h)] at h2
      cases h2
    · refine Ev.neg (fun _ => h) ?_
      by_cases h2 : (bytesOf s).getD i 0 > 57
      · refine Ev.pos (fun _ => h2) ?_
        refine Ev.eq (Ev.now _) ?_
        symm
        simp only [decide_eq_false_iff_not]
        rintro ⟨_, hx⟩
        have h3 := hx _ List.mem_cons_self
        rw [hf _ (.inr h2)] at h3
        cases h3
      · refine Ev.neg (fun _ => h2) ?_
        rw [w64 (by omega) (by omega)]
        refine Ev.eq (ih (i + 1) (by omega) (by omega)) ?_
        rw [decide_eq_decide]
        simp only [List.mem_cons, forall_eq_or_imp]
        exact ⟨fun hx => ⟨hx.1, by unfold isD; apply decide_eq_true; omega, hx.2⟩, fun hx => ⟨hx.1, hx.2.2⟩⟩
theorem digits_ev (s : ByteArray) (hs : s.size ≤ 2000000000) : Ev (fun k => laws_digits.f k s) (decide (bytesOf s ≠ [] ∧ ∀ c ∈ bytesOf s, isD c = true)) := by
  have h := digits_from s hs _ 0 rfl (Nat.zero_le _)
  simpa [laws_digits.f] using h

/-! ### Numbers with points between -/
def okPart (m : List Int) : Prop := m ≠ [] ∧ (∀ c ∈ m, isD c = true) ∧ m.length ≤ 15
def Core (l : List Int) : Prop := ∀ m ∈ splitP isPt l, okPart m
theorem num_from (s : ByteArray) (hs : s.size ≤ 1000000) : ∀ (n f i c : Nat), s.size + 1 - i = n → i ≤ s.size + 1 → f ≤ i → c ≤ i + 1 →
    ∃ b, Ev (fun k => laws_numbered.l0 k s 8 c f i) b ∧ (b = true → i ≤ s.size → ∀ m ∈ glue (seg (bytesOf s) f i) (splitP isPt ((bytesOf s).drop i)), okPart m) := by
  intro n
  induction n with
  | zero =>
    intro f i c hn hi hf hc
    refine ⟨decide (c ≤ 8), Ev.succ ?_, fun _ h => by omega⟩
    simp only [laws_numbered.l0]
    refine Ev.neg (fun _ => by omega) ?_
    refine Ev.eq (Ev.now _) ?_
    rw [decide_eq_decide]
    omega
  | succ n ih =>
    intro f i c hn hi hf hc
    have fin : ∀ q : Bool, ∃ b, Ev (fun k => laws_numbered.j2 k s 8 c i q) b ∧ (b = true → q = false ∧ (i < s.size → ∀ m ∈ splitP isPt ((bytesOf s).drop (i + 1)), okPart m)) := by
      intro q
      cases q with
      | true =>
        refine ⟨false, Ev.succ ?_, fun h => by cases h⟩
        simp only [laws_numbered.j2]
        refine Ev.pos (fun _ => by first | rfl | trivial) ?_
        exact Ev.now _
      | false =>
        by_cases hlt : i < s.size
        · obtain ⟨b, hb, hok⟩ := ih (i + 1) (i + 1) (c + 1) (by omega) (by omega) (by omega) (by omega)
          refine ⟨b, Ev.succ ?_, fun h => ⟨rfl, fun _ => ?_⟩⟩
          · simp only [laws_numbered.j2]
            refine Ev.neg (fun _ => by simp) ?_
            refine Ev.pos (fun _ => by omega) ?_
            rw [w64 (by omega) (by omega), w64 (by omega) (by omega)]
            exact hb
          · have h2 := hok h (by omega)
            rw [seg_nil, glue_nil (splitP_ne _ _)] at h2
            exact h2
        · obtain ⟨b, hb, _⟩ := ih (i + 1) (i + 1) c (by omega) (by omega) (by omega) (by omega)
          refine ⟨b, Ev.succ ?_, fun h => ⟨rfl, fun h => absurd h hlt⟩⟩
          simp only [laws_numbered.j2]
          refine Ev.neg (fun _ => by simp) ?_
          refine Ev.neg (fun _ => by omega) ?_
          rw [w64 (by omega) (by omega)]
          exact hb
    have cutp : ∃ b, Ev (fun k => laws_numbered.j1 k s 8 c f i false) b ∧ (b = true → i ≤ s.size → okPart (seg (bytesOf s) f i) ∧ (i < s.size → ∀ m ∈ splitP isPt ((bytesOf s).drop (i + 1)), okPart m)) := by
      by_cases hle : i ≤ s.size
      · have hB := B_seg s f i
        have hsz : (s.extract f i).size ≤ 1000000 := by rw [ByteArray.size_extract]; omega
        have hd := digits_ev (s.extract f i) (by omega)
        rw [hB] at hd
        have hlen : (s.extract f i).size = (seg (bytesOf s) f i).length := by rw [B_size, hB]
        by_cases hdig : seg (bytesOf s) f i ≠ [] ∧ ∀ c ∈ seg (bytesOf s) f i, isD c = true
        · rw [decide_eq_true hdig] at hd
          obtain ⟨b, hb, hok⟩ := fin (decide (((s.extract f i).size : Int) > 15))
          obtain ⟨b2, hb2, hok2⟩ := fin true
          have ok : b = true → i ≤ s.size → okPart (seg (bytesOf s) f i) ∧ (i < s.size → ∀ m ∈ splitP isPt ((bytesOf s).drop (i + 1)), okPart m) := by
            intro h _
            obtain ⟨h1, h2⟩ := hok h
            have h3 := of_decide_eq_false h1
            exact ⟨⟨hdig.1, hdig.2, by omega⟩, h2⟩
          by_cases h1 : ((s.extract f i).size : Int) > 1
          · by_cases h0 : bt (s.extract f i) 0 = 48
            · refine ⟨b2, Ev.succ ?_, fun h => absurd (hok2 h).1 (by simp)⟩
              simp only [laws_numbered.j1, Int.toNat_natCast, Option.bind_some]
              refine Ev.neg (fun _ => by simp) ?_
              refine Ev.pos (fun _ => by omega) ?_
              refine Ev.pos (fun _ => by omega) ?_
              refine Ev.pos (fun _ => by omega) ?_
              refine Ev.bind hd ?_
              refine Ev.pos (fun _ => by first | rfl | trivial) ?_
              refine Ev.pos (fun _ => h1) ?_
              refine Ev.pos (fun _ => by omega) ?_
              refine Ev.pos (fun _ => h0) ?_
              exact hb2
            · refine ⟨b, Ev.succ ?_, ok⟩
              simp only [laws_numbered.j1, Int.toNat_natCast, Option.bind_some]
              refine Ev.neg (fun _ => by simp) ?_
              refine Ev.pos (fun _ => by omega) ?_
              refine Ev.pos (fun _ => by omega) ?_
              refine Ev.pos (fun _ => by omega) ?_
              refine Ev.bind hd ?_
              refine Ev.pos (fun _ => by first | rfl | trivial) ?_
              refine Ev.pos (fun _ => h1) ?_
              refine Ev.pos (fun _ => by omega) ?_
              refine Ev.neg (fun _ => h0) ?_
              exact hb
          · refine ⟨b, Ev.succ ?_, ok⟩
            simp only [laws_numbered.j1, Int.toNat_natCast, Option.bind_some]
            refine Ev.neg (fun _ => by simp) ?_
            refine Ev.pos (fun _ => by omega) ?_
            refine Ev.pos (fun _ => by omega) ?_
            refine Ev.pos (fun _ => by omega) ?_
            refine Ev.bind hd ?_
            refine Ev.pos (fun _ => by first | rfl | trivial) ?_
            refine Ev.neg (fun _ => h1) ?_
            exact hb
        · rw [decide_eq_false hdig] at hd
          obtain ⟨b2, hb2, hok2⟩ := fin true
          refine ⟨b2, Ev.succ ?_, fun h => absurd (hok2 h).1 (by simp)⟩
          simp only [laws_numbered.j1, Int.toNat_natCast, Option.bind_some]
          refine Ev.neg (fun _ => by simp) ?_
          refine Ev.pos (fun _ => by omega) ?_
          refine Ev.pos (fun _ => by omega) ?_
          refine Ev.pos (fun _ => by omega) ?_
          refine Ev.bind hd ?_
          refine Ev.neg (fun _ => by simp) ?_
          exact hb2
      · omega
    obtain ⟨bc, hbc, hokc⟩ := cutp
    by_cases hlt : i < s.size
    · have hl : i < (bytesOf s).length := by rw [bytesOf_length]; omega
      rw [drop_get _ _ hl]
      simp only [splitP]
      cases hp : isPt ((bytesOf s).getD i 0)
      · have h46 : (bytesOf s).getD i 0 ≠ 46 := by simpa [isPt] using hp
        obtain ⟨b, hb, hok⟩ := ih f (i + 1) c (by omega) (by omega) (by omega) (by omega)
        refine ⟨b, Ev.succ ?_, fun h _ => ?_⟩
        · simp only [laws_numbered.l0]
          refine Ev.pos (fun _ => by omega) ?_
          refine Ev.pos (fun _ => by omega) ?_
          refine Ev.pos (fun _ => by omega) ?_
          rw [bt_nat, show ((bytesOf s).getD i 0 != 46) = true by simpa using h46]
          refine Ev.succ ?_
          simp only [laws_numbered.j1]
          refine Ev.pos (fun _ => by first | rfl | trivial) ?_
          rw [w64 (by omega) (by omega)]
          exact hb
        · rw [if_neg (by simp), glue_glue, ← seg_succ _ _ _ hf hl]
          exact hok h (by omega)
      · have h46 : (bytesOf s).getD i 0 = 46 := by simpa [isPt] using hp
        refine ⟨bc, Ev.succ ?_, fun h _ => ?_⟩
        · simp only [laws_numbered.l0]
          refine Ev.pos (fun _ => by omega) ?_
          refine Ev.pos (fun _ => by omega) ?_
          refine Ev.pos (fun _ => by omega) ?_
          rw [bt_nat, show ((bytesOf s).getD i 0 != 46) = false by simpa using h46]
          exact hbc
        · rw [if_pos rfl]
          obtain ⟨h1, h2⟩ := hokc h (by omega)
          intro m hm
          simp only [glue, List.append_nil] at hm
          rcases List.mem_cons.1 hm with e | hm
          · rw [e]; exact h1
          · exact h2 hlt m hm
    · have hi2 : i = s.size := by omega
      refine ⟨bc, Ev.succ ?_, fun h _ => ?_⟩
      · simp only [laws_numbered.l0]
        refine Ev.pos (fun _ => by omega) ?_
        refine Ev.neg (fun _ => by omega) ?_
        exact hbc
      · obtain ⟨h1, _⟩ := hokc h (by omega)
        rw [List.drop_of_length_le (by rw [bytesOf_length]; omega)]
        intro m hm
        simp only [splitP, glue, List.append_nil, List.mem_singleton] at hm
        rw [hm]; exact h1
theorem numbered_ev (s : ByteArray) (hs : s.size ≤ 1000000) : ∃ b, Ev (fun k => laws_numbered.f k s 8) b ∧ (b = true → Core (bytesOf s)) := by
  obtain ⟨b, hb, hok⟩ := num_from s hs _ 0 0 1 rfl (by omega) (by omega) (by omega)
  refine ⟨b, hb, fun h => ?_⟩
  have h2 := hok h (by omega)
  rw [seg_nil, glue_nil (splitP_ne _ _), List.drop_zero] at h2
  exact h2

/-! ### Decimal numerals -/
def decL (n : Nat) : List Int := if n < 10 then [48 + (n : Int)] else decL (n / 10) ++ [48 + ((n % 10 : Nat) : Int)]
theorem decL_small {n : Nat} (h : n < 10) : decL n = [48 + (n : Int)] := by rw [decL, if_pos h]
theorem decL_big {n : Nat} (h : ¬ n < 10) : decL n = decL (n / 10) ++ [48 + ((n % 10 : Nat) : Int)] := by rw [decL, if_neg h]
theorem decL_spec (n : Nat) : decL n ≠ [] ∧ (∀ c ∈ decL n, isD c = true) ∧ dvL (decL n) = n := by
  induction n using Nat.strongRecOn with
  | ind n ih =>
    by_cases h : n < 10
    · rw [decL_small h]
      refine ⟨by simp, fun c hc => ?_, ?_⟩
      · have e : c = 48 + (n : Int) := by simpa using hc
        rw [e]; unfold isD; apply decide_eq_true; omega
      · simp [dvL]; omega
    · rw [decL_big h]
      obtain ⟨_, h2, h3⟩ := ih (n / 10) (by omega)
      refine ⟨by simp, fun c hc => ?_, ?_⟩
      · rcases List.mem_append.1 hc with hc | hc
        · exact h2 c hc
        · have e : c = 48 + ((n % 10 : Nat) : Int) := by simpa using hc
          rw [e]; unfold isD; apply decide_eq_true; omega
      · rw [dvL_snoc, h3]; omega
theorem decL_len : ∀ (k n : Nat), n < 10 ^ (k + 1) → (decL n).length ≤ k + 1
  | 0, n, h => by rw [decL_small (by simpa using h)]; simp
  | k + 1, n, h => by
    by_cases h0 : n < 10
    · rw [decL_small h0]; simp
    · rw [decL_big h0]
      have := decL_len k (n / 10) (by rw [Nat.pow_succ] at h; omega)
      simp; omega
theorem wrap_u16 {x : Int} (h0 : 0 ≤ x) (h1 : x ≤ 65535) : IntKind.u16.wrap x = x := by
  simp [IntKind.wrap, IntKind.signed, IntKind.bits]
  omega
theorem decimal_from (n : Nat) : n ≤ 65535 → ∀ acc : ByteArray, acc.size + (decL n).length ≤ 1000 → ∃ r, Ev (fun k => laws_decimal.l0 k n acc) r ∧ bytesOf r = decL n ++ bytesOf acc := by
  induction n using Nat.strongRecOn with
  | ind n ih =>
    intro hn acc hacc
    have e1 : Int.tmod (n : Int) 10 = ((n % 10 : Nat) : Int) := by rw [Int.tmod_eq_emod_of_nonneg (by omega)]; omega
    have e2 : Int.tdiv (n : Int) 10 = ((n / 10 : Nat) : Int) := by rw [Int.tdiv_eq_ediv_of_nonneg (by omega)]; omega
    have e3 : IntKind.u16.wrap (48 + ((n % 10 : Nat) : Int)) = 48 + ((n % 10 : Nat) : Int) := wrap_u16 (by omega) (by omega)
    have e4 : IntKind.u16.wrap ((n / 10 : Nat) : Int) = ((n / 10 : Nat) : Int) := wrap_u16 (by omega) (by omega)
    have e5 : wrap32 (48 + ((n % 10 : Nat) : Int)) = 48 + ((n % 10 : Nat) : Int) := w32 (by omega) (by omega)
    have hb : bytesOf (Utf8.encode (48 + ((n % 10 : Nat) : Int))) = [48 + ((n % 10 : Nat) : Int)] := B_encode (by omega) (by omega)
    have hsz : (Utf8.encode (48 + ((n % 10 : Nat) : Int))).size = 1 := by rw [B_size, hb]; rfl
    by_cases h : n < 10
    · refine ⟨Utf8.encode (48 + ((n % 10 : Nat) : Int)) ++ acc, Ev.succ ?_, ?_⟩
      · simp only [laws_decimal.l0, e1, e2, e3, e4, e5]
        refine Ev.pos (fun _ => by rw [hsz]; omega) ?_
        refine Ev.pos (fun _ => by omega) ?_
        exact Ev.now _
      · rw [B_append, hb, decL_small h, Nat.mod_eq_of_lt h]
    · rw [decL_big h, List.length_append, List.length_singleton] at hacc
      have hs2 : (Utf8.encode (48 + ((n % 10 : Nat) : Int)) ++ acc).size = 1 + acc.size := by rw [ByteArray.size_append, hsz]
      obtain ⟨r, hr, h1⟩ := ih (n / 10) (by omega) (by omega) (Utf8.encode (48 + ((n % 10 : Nat) : Int)) ++ acc) (by omega)
      refine ⟨r, Ev.succ ?_, ?_⟩
      · simp only [laws_decimal.l0, e1, e2, e3, e4, e5]
        refine Ev.pos (fun _ => by rw [hsz]; omega) ?_
        refine Ev.neg (fun _ => by omega) ?_
        exact hr
      · rw [h1, B_append, hb, decL_big h, List.append_assoc]
theorem decimal_ev {a : Int} (h : (Lit.int .u16 a).wf = true) : ∃ (n : Nat) (r : ByteArray), a = (n : Int) ∧ n ≤ 65535 ∧ Ev (fun k => laws_decimal.f k a) r ∧ bytesOf r = decL n ∧ r.size ≤ 5 := by
  have hw : 0 ≤ a ∧ a ≤ 65535 := by
    simp [Lit.wf, IntKind.min, IntKind.max, IntKind.signed, IntKind.bits] at h
    omega
  obtain ⟨n, rfl⟩ : ∃ n : Nat, a = (n : Int) := ⟨a.toNat, by omega⟩
  have hn : n ≤ 65535 := by omega
  have hl := decL_len 4 n (by have e : (10 : Nat) ^ (4 + 1) = 100000 := by decide
                              omega)
  obtain ⟨r, hr, h1⟩ := decimal_from n hn (⟨#[]⟩ : ByteArray) (by have e : (⟨#[]⟩ : ByteArray).size = 0 := rfl
                                                                  omega)
  have e0 : bytesOf (⟨#[]⟩ : ByteArray) = [] := rfl
  rw [e0, List.append_nil] at h1
  exact ⟨n, r, rfl, hn, hr, h1, by rw [B_size, h1]; exact hl⟩
end Go.Proofs.YtdjkekgfeadmoaaDoor.V
