/- Plain facts on texts as lists of numbers, and on functions with a number of rounds: what the plain laws of this seat rest on. No program stands in it. -/
import Derived.Test.YtdjkekgfeadmoaaGreatDoorWWords
import Derived.Lib.Strings
import Derived.Lib.Bytealg
import Derived.Laws.Strings
import Derived.Laws.Runes
namespace Go.Proofs.YtdjkekgfeadmoaaGreatDoorB
open Go.RowKit Go.Proofs.YtdjkekgfeadmoaaGreatDoorW.PrintWords
set_option linter.unusedVariables false
set_option linter.unusedSimpArgs false

/-! ### Rounds -/
section
variable {α β : Type} {g f : Nat → Option α} {r : α}
theorem Ev.succ (h : Ev (fun k => g (k + 1)) r) : Ev g r := Ev.step (fun _ => rfl) h
theorem Ev.pos {c : Nat → Prop} [∀ k, Decidable (c k)] (hc : ∀ k, c k) (h : Ev g r) : Ev (fun k => if c k then g k else f k) r := Ev.congr (fun k => if_pos (hc k)) h
theorem Ev.neg {c : Nat → Prop} [∀ k, Decidable (c k)] (hc : ∀ k, ¬ c k) (h : Ev f r) : Ev (fun k => if c k then g k else f k) r := Ev.congr (fun k => if_neg (hc k)) h
theorem Ev.bind0 {a : α} {q : β} {o : Option α} {F : Nat → α → Option β} (h : o = some a) (k : Ev (fun n => F n a) q) : Ev (fun n => o.bind (F n)) q := by
  subst h; exact k
theorem Ev.const {o : Option α} (h : o = some r) : Ev (fun _ => o) r := ⟨0, fun _ _ => h⟩
theorem Ev.eq {r' : α} (h : Ev g r) (e : r = r') : Ev g r' := e ▸ h
end

/-! ### Numbers that wrap -/
theorem w64 {i : Int} (h0 : -9223372036854775808 ≤ i) (h1 : i ≤ 9223372036854775807) : wrap64 i = i := by unfold wrap64; omega
theorem w32 {i : Int} (h0 : -2147483648 ≤ i) (h1 : i ≤ 2147483647) : wrap32 i = i := by unfold wrap32; omega

/-! ### Texts as lists of numbers -/
theorem B_size (s : ByteArray) : s.size = (bytesOf s).length := (bytesOf_length s).symm
theorem bt_nat (s : ByteArray) (i : Nat) : bt s i = (bytesOf s).getD i 0 := by
  have h := rd_bytesOf s i
  simpa [rd] using h.symm
theorem bt_zero (s : ByteArray) : bt s 0 = (bytesOf s).getD 0 0 := bt_nat s 0
theorem B_append (s t : ByteArray) : bytesOf (s ++ t) = bytesOf s ++ bytesOf t := by
  simp [bytesOf, ByteArray.toList_data_append]
theorem B_extract (s : ByteArray) (a b : Nat) : bytesOf (s.extract a b) = ((bytesOf s).drop a).take (b - a) := by
  simp [bytesOf, Lib.extract_data, List.map_drop, List.map_take]
theorem B_drop (s : ByteArray) (a : Nat) : bytesOf (s.extract a s.size) = (bytesOf s).drop a := by
  rw [B_extract, B_size, List.take_of_length_le]
  simp
theorem B_take (s : ByteArray) (b : Nat) : bytesOf (s.extract 0 b) = (bytesOf s).take b := by
  rw [B_extract]; simp
theorem B_range (s : ByteArray) : ∀ x ∈ bytesOf s, 0 ≤ x ∧ x ≤ 255 := by
  intro x hx
  simp only [bytesOf, List.mem_map] at hx
  obtain ⟨b, _, rfl⟩ := hx
  have := b.toNat_lt
  omega
theorem B_inj {s t : ByteArray} (h : bytesOf s = bytesOf t) : s = t := by
  have h1 : s.data.toList = t.data.toList := by
    have hinj : ∀ (a b : List UInt8), a.map (fun b : UInt8 => (b.toNat : Int)) = b.map (fun b : UInt8 => (b.toNat : Int)) → a = b := by
      intro a
      induction a with
      | nil => intro b hb; cases b with
        | nil => rfl
        | cons => simp at hb
      | cons x a ih =>
        intro b hb
        cases b with
        | nil => simp at hb
        | cons y b =>
          simp only [List.map_cons, List.cons.injEq] at hb
          have : x = y := UInt8.toNat_inj.1 (by omega)
          rw [this, ih b hb.2]
    exact hinj _ _ h
  have h2 : s.data = t.data := Array.toList_inj.1 h1
  cases s; cases t; simp_all
theorem B_toList (s : ByteArray) : s.toList = s.data.toList := ByteArray.toList_eq s
theorem toList_eq_iff (s t : ByteArray) : s.toList = t.toList ↔ bytesOf s = bytesOf t := by
  rw [B_toList, B_toList]
  constructor
  · intro h; simp [bytesOf, h]
  · intro h; rw [B_inj h]
theorem toList_lit (s : ByteArray) (l : List UInt8) : s.toList = l ↔ bytesOf s = l.map (fun b => (b.toNat : Int)) := by
  have h := toList_eq_iff s ⟨l.toArray⟩
  have h2 : (⟨l.toArray⟩ : ByteArray).toList = l := by rw [B_toList]
  have h3 : bytesOf (⟨l.toArray⟩ : ByteArray) = l.map (fun b => (b.toNat : Int)) := by simp [bytesOf]
  rw [h2, h3] at h
  exact h
theorem toList_nil (s : ByteArray) : s.toList = [] ↔ bytesOf s = [] := by
  rw [toList_lit]; rfl
theorem size_nil (s : ByteArray) : s.size = 0 ↔ bytesOf s = [] := by
  rw [B_size, List.length_eq_zero_iff]
theorem B_mk (a : Array UInt8) : bytesOf ⟨a⟩ = a.toList.map (fun b => (b.toNat : Int)) := rfl

theorem B_str {l : List Int} (h : ∀ x ∈ l, 0 ≤ x ∧ x ≤ 255) : bytesOf (strOfNums l) = l := by
  have : ∀ (l : List Int), (∀ x ∈ l, 0 ≤ x ∧ x ≤ 255) → (l.map fun n => UInt8.ofNat n.toNat).map (fun b => (b.toNat : Int)) = l := by
    intro l
    induction l with
    | nil => intro _; rfl
    | cons a l ih =>
      intro h
      have ha := h a List.mem_cons_self
      rw [List.map_cons, List.map_cons, ih (fun x hx => h x (List.mem_cons_of_mem _ hx))]
      congr 1
      rw [UInt8.toNat_ofNat_of_lt' (by show a.toNat < 256; omega)]
      omega
  simpa [strOfNums, bytesOf] using this l h
theorem str_B (s : ByteArray) : strOfNums (bytesOf s) = s := B_inj (B_str (B_range s))
theorem B_encode {c : Int} (h0 : 0 ≤ c) (h1 : c < 128) : bytesOf (Utf8.encode c) = [c] := by
  unfold Utf8.encode
  have hv : Utf8.valid c = true := by
    simp [Utf8.valid]; omega
  simp only [hv, if_true]
  rw [if_pos (by omega)]
  simp only [bytesOf]
  have : (UInt8.ofNat c.toNat).toNat = c.toNat := UInt8.toNat_ofNat_of_lt' (by show c.toNat < 256; omega)
  simp [this]
  omega

/-! ### Order of texts -/
def lt_ : List Int → List Int → Bool
  | _, [] => false
  | [], _ :: _ => true
  | a :: x, b :: y => decide (a < b) || (decide (a = b) && lt_ x y)
theorem bytesLess_B (s t : ByteArray) : Op.bytesLess s.toList t.toList = lt_ (bytesOf s) (bytesOf t) := by
  rw [B_toList, B_toList]
  simp only [bytesOf]
  generalize s.data.toList = a
  generalize t.data.toList = b
  induction a generalizing b with
  | nil => cases b <;> simp [Op.bytesLess, lt_]
  | cons x a ih =>
    cases b with
    | nil => simp [Op.bytesLess, lt_]
    | cons y b =>
      simp only [Op.bytesLess, lt_, List.map_cons, ih b]
      have e1 : decide (x < y) = decide ((x.toNat : Int) < (y.toNat : Int)) := by
        rw [decide_eq_decide, UInt8.lt_iff_toNat_lt]; omega
      have e2 : (x == y) = decide ((x.toNat : Int) = (y.toNat : Int)) := by
        rw [Bool.eq_iff_iff, beq_iff_eq, decide_eq_true_iff, ← UInt8.toNat_inj]; omega
      rw [e1, e2]
def cmp_ : List Int → List Int → Int
  | [], [] => 0
  | [], _ :: _ => -1
  | _ :: _, [] => 1
  | a :: as, b :: bs => if a < b then -1 else if b < a then 1 else cmp_ as bs
theorem compare_B (s t : ByteArray) : Lib.compareBytes s.data.toList t.data.toList = cmp_ (bytesOf s) (bytesOf t) := by
  simp only [bytesOf]
  generalize s.data.toList = a
  generalize t.data.toList = b
  induction a generalizing b with
  | nil => cases b <;> simp [Lib.compareBytes, cmp_]
  | cons x a ih =>
    cases b with
    | nil => simp [Lib.compareBytes, cmp_]
    | cons y b =>
      simp only [Lib.compareBytes, cmp_, List.map_cons, ih b, UInt8.lt_iff_toNat_lt]
      have : ∀ a b : Nat, (a < b) = ((a : Int) < (b : Int)) := fun a b => by simp
      simp only [this]
theorem cmp_lt (a b : List Int) : cmp_ a b < 0 ↔ lt_ a b = true := by
  induction a generalizing b with
  | nil => cases b <;> simp [cmp_, lt_]
  | cons x a ih =>
    cases b with
    | nil => simp [cmp_, lt_]
    | cons y b =>
      simp only [cmp_, lt_]
      by_cases h : x < y
      · simp [h]
      · by_cases h2 : y < x
        · have : ¬ x = y := by omega
          simp [h, h2, this]
        · have : x = y := by omega
          subst this
          simp [ih b]

/-! ### Lists of texts -/
theorem B_empty : bytesOf ByteArray.empty = [] := rfl
theorem rdOf_B (l : List ByteArray) (i : Nat) : bytesOf (rdOf ByteArray.empty l i) = (l.map bytesOf).getD i [] := by
  simp only [rdOf, Int.toNat_natCast, List.getD_eq_getElem?_getD, List.getElem?_map]
  cases l[i]? <;> simp [B_empty]
theorem map_B_inj {l m : List ByteArray} (h : l.map bytesOf = m.map bytesOf) : l = m := by
  induction l generalizing m with
  | nil => cases m with
    | nil => rfl
    | cons => simp at h
  | cons x l ih =>
    cases m with
    | nil => simp at h
    | cons y m =>
      simp only [List.map_cons, List.cons.injEq] at h
      rw [B_inj h.1, ih h.2]
theorem drop_get (l : List Int) (i : Nat) (h : i < l.length) : l.drop i = l.getD i 0 :: l.drop (i + 1) := by
  rw [List.drop_eq_getElem_cons h]
  simp [List.getD_eq_getElem?_getD, h]
theorem drop_get_list (l : List (List Int)) (i : Nat) (h : i < l.length) : l.drop i = l.getD i [] :: l.drop (i + 1) := by
  rw [List.drop_eq_getElem_cons h]
  simp [List.getD_eq_getElem?_getD, h]

/-! ### Runs of bytes of a kind -/
def isD (c : Int) : Bool := decide (48 ≤ c ∧ c ≤ 57)
def isL (c : Int) : Bool := decide (97 ≤ c ∧ c ≤ 122)
def isU (c : Int) : Bool := decide (65 ≤ c ∧ c ≤ 90)
def low (c : Int) : Int := if 65 ≤ c ∧ c ≤ 90 then c + 32 else c
def run (p : Int → Bool) (l : List Int) : Nat := (l.takeWhile p).length
theorem run_nil (p : Int → Bool) : run p [] = 0 := rfl
theorem run_pos {p : Int → Bool} {c : Int} {l : List Int} (h : p c = true) : run p (c :: l) = run p l + 1 := by simp [run, h]
theorem run_neg {p : Int → Bool} {c : Int} {l : List Int} (h : p c = false) : run p (c :: l) = 0 := by simp [run, h]
theorem run_le (p : Int → Bool) (l : List Int) : run p l ≤ l.length := by
  unfold run
  exact List.IsPrefix.length_le (List.takeWhile_prefix p)
theorem take_run (p : Int → Bool) (l : List Int) : l.take (run p l) = l.takeWhile p := by
  induction l with
  | nil => rfl
  | cons c l ih => cases h : p c <;> simp [run, h] at ih ⊢; exact ih
theorem drop_run (p : Int → Bool) (l : List Int) : l.drop (run p l) = l.dropWhile p := by
  induction l with
  | nil => rfl
  | cons c l ih => cases h : p c <;> simp [run, h] at ih ⊢; exact ih

/-! ### A text cut at bytes of a kind -/
def glue (a : List Int) : List (List Int) → List (List Int)
  | [] => [a]
  | h :: t => (a ++ h) :: t
def splitP (p : Int → Bool) : List Int → List (List Int)
  | [] => [[]]
  | c :: r => if p c = true then [] :: splitP p r else glue [c] (splitP p r)
theorem glue_glue (a b : List Int) (L : List (List Int)) : glue a (glue b L) = glue (a ++ b) L := by cases L <;> simp [glue]
theorem glue_ne (a : List Int) (L : List (List Int)) : glue a L ≠ [] := by cases L <;> simp [glue]
theorem splitP_ne (p : Int → Bool) (l : List Int) : splitP p l ≠ [] := by
  cases l with
  | nil => simp [splitP]
  | cons c r =>
    simp only [splitP]
    split
    · simp
    · exact glue_ne _ _
theorem glue_nil {L : List (List Int)} (h : L ≠ []) : glue [] L = L := by cases L with
  | nil => exact absurd rfl h
  | cons x r => simp [glue]
theorem splitP_run (p : Int → Bool) : ∀ (l : List Int), splitP p l = if run (fun c => !p c) l < l.length then l.take (run (fun c => !p c) l) :: splitP p (l.drop (run (fun c => !p c) l + 1)) else [l] := by
  intro l
  induction l with
  | nil => rfl
  | cons c r ih =>
    simp only [splitP]
    cases h : p c
    · rw [if_neg (by simp), run_pos (by simp [h])]
      have hle := run_le (fun c => !p c) r
      rw [ih]
      by_cases hlt : run (fun c => !p c) r < r.length
      · rw [if_pos hlt, if_pos (by simp; omega)]
        simp [glue]
      · rw [if_neg hlt, if_neg (by simp; omega)]
        rfl
    · rw [if_pos rfl, run_neg (by simp [h]), if_pos (by simp)]
      simp
theorem splitP_length (p : Int → Bool) : ∀ (l : List Int), (splitP p l).length ≤ l.length + 1 := by
  intro l
  induction l with
  | nil => simp [splitP]
  | cons c r ih =>
    simp only [splitP]
    split
    · simp; omega
    · have : ∀ (a : List Int) (L : List (List Int)), L ≠ [] → (glue a L).length = L.length := by
        intro a L hL
        cases L with
        | nil => exact absurd rfl hL
        | cons x r => simp [glue]
      rw [this _ _ (splitP_ne p r)]
      simp; omega
/-- The pieces with the mark between are the text again. -/
theorem splitP_join (p : Int → Bool) (m : Int) (hp : ∀ c, p c = true → c = m) : ∀ (l : List Int), ∃ h t, splitP p l = h :: t ∧ h ++ t.flatMap (fun w => m :: w) = l := by
  intro l
  induction l with
  | nil => exact ⟨[], [], rfl, rfl⟩
  | cons c r ih =>
    obtain ⟨h, t, e, j⟩ := ih
    simp only [splitP]
    by_cases hc : p c = true
    · rw [if_pos hc, e]
      have := hp c hc
      subst this
      refine ⟨[], h :: t, rfl, ?_⟩
      simp only [List.flatMap_cons, List.nil_append, List.cons_append, j]
    · rw [if_neg hc, e]
      exact ⟨c :: h, t, rfl, by simp [j]⟩

end Go.Proofs.YtdjkekgfeadmoaaGreatDoorB
