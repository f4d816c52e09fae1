/- The plain law FnPackagistTexts. -/
import Derived.Test.YtdjkekgfeadmoaaGreatDoorY1
namespace Go.Proofs.YtdjkekgfeadmoaaGreatDoor.V
open Go.RowKit Go.Proofs.YtdjkekgfeadmoaaGreatDoor.Q Go.Proofs.YtdjkekgfeadmoaaGreatDoorH Go.Proofs.YtdjkekgfeadmoaaGreatDoorB Go.Proofs.YtdjkekgfeadmoaaGreatDoorG Go.Proofs.YtdjkekgfeadmoaaGreatDoorW.PrintWords Go.Proofs.YtdjkekgfeadmoaaGreatDoorW.PrintLast
set_option linter.unusedVariables false
set_option linter.unusedSimpArgs false

/-! ### The reference's own functions -/
theorem spec_parse_ev (s : ByteArray) (hs : s.size ≤ 100000) (ha : Asc (bytesOf s)) : Ev (fun k => spec_PackagistParse.f k s) (comps (bytesOf s)) := by
  obtain ⟨c, hc, hcb⟩ := spec_canonical_ev s hs ha
  have hcs : c.size ≤ 2 * s.size := by rw [B_size, hcb, B_size]; exact canon_length _
  obtain ⟨r, hr, h1⟩ := cut_ev c (by omega)
  rw [hcb] at h1
  rw [← comps_of h1]
  simp only [spec_PackagistParse.f]
  exact Ev.bind hc (Ev.bind hr (Ev.now _))
theorem parse_ev (s : ByteArray) (hs : s.size ≤ 100000) (ha : Asc (bytesOf s)) : Ev (fun k => impl_PackagistParse.f k s) (comps (bytesOf s)) := by
  have g := (comps_goods ha (by rw [← B_size]; exact hs)).2.1
  simp only [impl_PackagistParse.f, semantic_ZZPackagistTold.f, Option.bind_some]
  refine Ev.bind (comps_ev s hs ha) ?_
  refine Ev.pos (fun _ => by simp; omega) ?_
  exact Ev.eq (Ev.now _) (by simp)
theorem allDigits_from (s : ByteArray) (hs : s.size ≤ 2000000000) : ∀ (n i : Nat), s.size - i = n → i ≤ s.size →
    Ev (fun k => spec_allDigits.l0 k s (i : Int)) (decide (0 < s.size ∧ ∀ c ∈ (bytesOf s).drop i, isD c = true)) := by
  intro n
  induction n with
  | zero =>
    intro i hn hi
    refine Ev.succ ?_
    simp only [spec_allDigits.l0]
    refine Ev.neg (fun _ => by omega) ?_
    refine Ev.eq (Ev.now _) (decide_eq_decide.2 ?_)
    rw [List.drop_of_length_le (by rw [bytesOf_length]; omega)]
    simp
  | succ n ih =>
    intro i hn hi
    have hl : i < (bytesOf s).length := by rw [bytesOf_length]; omega
    have hdr := drop_get _ _ hl
    refine Ev.succ ?_
    simp only [spec_allDigits.l0, isDigit_eq, Option.bind_some, bt_nat]
    refine Ev.pos (fun _ => by omega) ?_
    refine Ev.pos (fun _ => by omega) ?_
    cases hd : isD ((bytesOf s).getD i 0) with
    | false =>
      refine Ev.neg (fun _ => by simp) ?_
      refine Ev.eq (Ev.now _) ?_
      symm
      apply decide_eq_false
      rintro ⟨_, hx⟩
      have h2 := hx _ (by rw [hdr]; exact List.mem_cons_self)
      rw [hd] at h2
      cases h2
    | true =>
      refine Ev.pos (fun _ => by first | rfl | trivial) ?_
      rw [w64 (by omega) (by omega)]
      refine Ev.eq (ih (i + 1) (by omega) (by omega)) (decide_eq_decide.2 ?_)
      rw [hdr]
      simp only [List.mem_cons, forall_eq_or_imp]
      exact ⟨fun hx => ⟨hx.1, hd, hx.2⟩, fun hx => ⟨hx.1, hx.2.2⟩⟩
theorem allDigits_ev (s : ByteArray) (hs : s.size ≤ 2000000000) : Ev (fun k => spec_allDigits.f k s) (decide (AllDig s)) := by
  have h := allDigits_from s hs _ 0 rfl (Nat.zero_le _)
  simp only [spec_allDigits.f]
  refine Ev.eq h (decide_eq_decide.2 ?_)
  rw [allDig_iff, List.drop_zero, B_size, List.length_pos_iff]
theorem known_from (l : List ByteArray) (hl : Goods l) : ∀ (n i : Nat), l.length - i = n → i ≤ l.length →
    ∃ b, Ev (fun k => spec_PackagistKnown.l0 k l (i : Int)) b ∧ (b = true → ∀ x ∈ l.drop i, Small x) := by
  intro n
  induction n with
  | zero =>
    intro i hn hi
    refine ⟨true, Ev.succ ?_, fun _ x hx => by rw [List.drop_of_length_le (by omega)] at hx; simp at hx⟩
    simp only [spec_PackagistKnown.l0]
    refine Ev.neg (fun _ => by omega) ?_
    exact Ev.now _
  | succ n ih =>
    intro i hn hi
    obtain ⟨b, hb, hok⟩ := ih (i + 1) (by omega) (by omega)
    have hlt : i < l.length := by omega
    have hlen := hl.2.1
    have hdr := rd_drop hlt
    obtain ⟨p1, p2, p3⟩ := hl.2.2 _ (rd_mem hlt)
    have hq := allDigits_ev (rdOf ByteArray.empty l (i : Int)) (by omega)
    have hnext : Ev (fun k => spec_PackagistKnown.l0 k l (wrap64 ((i : Int) + 1))) b := by rw [w64 (by omega) (by omega)]; exact hb
    by_cases hd : AllDig (rdOf ByteArray.empty l (i : Int))
    · rw [decide_eq_true hd] at hq
      by_cases h18 : ((rdOf ByteArray.empty l (i : Int)).size : Int) > 18
      · refine ⟨false, Ev.succ ?_, fun h => by cases h⟩
        simp only [spec_PackagistKnown.l0]
        refine Ev.pos (fun _ => by omega) ?_
        refine Ev.pos (fun _ => by omega) ?_
        refine Ev.bind hq ?_
        refine Ev.pos (fun _ => by first | rfl | trivial) ?_
        refine Ev.pos (fun _ => h18) ?_
        exact Ev.now _
      · refine ⟨b, Ev.succ ?_, fun h x hx => ?_⟩
        · simp only [spec_PackagistKnown.l0]
          refine Ev.pos (fun _ => by omega) ?_
          refine Ev.pos (fun _ => by omega) ?_
          refine Ev.bind hq ?_
          refine Ev.pos (fun _ => by first | rfl | trivial) ?_
          refine Ev.neg (fun _ => h18) ?_
          by_cases h1 : ((rdOf ByteArray.empty l (i : Int)).size : Int) > 1
          · refine Ev.pos (fun _ => h1) ?_
            refine Ev.pos (fun _ => by omega) ?_
            refine Ev.neg (fun _ => p2) ?_
            refine Ev.neg (fun _ => p3) ?_
            exact hnext
          · refine Ev.neg (fun _ => h1) ?_
            exact hnext
        · rw [hdr] at hx
          rcases List.mem_cons.1 hx with e | hx
          · rw [e]; exact fun _ => by omega
          · exact hok h x hx
    · rw [decide_eq_false hd] at hq
      refine ⟨b, Ev.succ ?_, fun h x hx => ?_⟩
      · simp only [spec_PackagistKnown.l0]
        refine Ev.pos (fun _ => by omega) ?_
        refine Ev.pos (fun _ => by omega) ?_
        refine Ev.bind hq ?_
        refine Ev.neg (fun _ => by simp) ?_
        by_cases h1 : ((rdOf ByteArray.empty l (i : Int)).size : Int) > 1
        · refine Ev.pos (fun _ => h1) ?_
          refine Ev.pos (fun _ => by omega) ?_
          refine Ev.neg (fun _ => p2) ?_
          refine Ev.neg (fun _ => p3) ?_
          exact hnext
        · refine Ev.neg (fun _ => h1) ?_
          exact hnext
      · rw [hdr] at hx
        rcases List.mem_cons.1 hx with e | hx
        · rw [e]; exact fun h2 => absurd h2 hd
        · exact hok h x hx
theorem known_ev (l : List ByteArray) (hl : Goods l) : ∃ b, Ev (fun k => spec_PackagistKnown.f k l) b ∧ (b = true → ∀ x ∈ l, Small x) := by
  obtain ⟨b, hb, hok⟩ := known_from l hl _ 0 rfl (by omega)
  exact ⟨b, hb, fun h => by have := hok h; rw [List.drop_zero] at this; exact this⟩
theorem pw_step (s : ByteArray) (x3 : List ByteArray) (x4 : List Int) (i : Nat) (r : Int) (h3 : i < x3.length) (h4 : i < x4.length) (hm : x3.length ≤ 100) (hy : preB s (rdOf ByteArray.empty x3 (i : Int)) = true → rd x4 (i : Int) = r)
    (hn : preB s (rdOf ByteArray.empty x3 (i : Int)) = false → Ev (fun k => spec_packWeight.l0 k s x3 x4 ((i + 1 : Nat) : Int)) r) : Ev (fun k => spec_packWeight.l0 k s x3 x4 (i : Int)) r := by
  have e : wrap64 ((i : Int) + 1) = ((i + 1 : Nat) : Int) := by rw [w64 (by omega) (by omega)]; omega
  refine Ev.succ ?_
  simp only [spec_packWeight.l0, e, Int.toNat_natCast]
  refine Ev.pos (fun _ => by omega) ?_
  refine Ev.pos (fun _ => by omega) ?_
  by_cases hsz : (rdOf ByteArray.empty x3 (i : Int)).size ≤ s.size
  · refine Ev.pos (fun _ => by omega) ?_
    refine Ev.pos (fun _ => by omega) ?_
    refine Ev.pos (fun _ => by omega) ?_
    by_cases he : (s.extract 0 (rdOf ByteArray.empty x3 (i : Int)).size).toList = (rdOf ByteArray.empty x3 (i : Int)).toList
    · refine Ev.pos (fun _ => he) ?_
      refine Ev.pos (fun _ => by omega) ?_
      refine Ev.eq (Ev.now _) (hy ?_)
      unfold preB
      rw [decide_eq_true hsz, he]
      simp
    · refine Ev.neg (fun _ => he) ?_
      refine hn ?_
      unfold preB
      rw [decide_eq_true hsz]
      simpa using he
  · refine Ev.neg (fun _ => by omega) ?_
    refine hn ?_
    unfold preB
    rw [decide_eq_false hsz]
    rfl
theorem packWeight_ev (s : ByteArray) : Ev (fun k => spec_packWeight.f k s) (weigh s) := by
  simp only [spec_packWeight.f]
  refine pw_step s _ _ 0 _ (by decide) (by decide) (by decide) (fun h => ?_) (fun h0 => ?_)
  · unfold weigh; rw [if_pos (show preB s ⟨#[82, 67]⟩ = true from h)]; rfl
  refine pw_step s _ _ 1 _ (by decide) (by decide) (by decide) (fun h => ?_) (fun h1 => ?_)
  · unfold weigh; rw [if_neg (by rw [show preB s ⟨#[82, 67]⟩ = false from h0]; simp), if_pos (show preB s ⟨#[100, 101, 118]⟩ = true from h)]; rfl
  refine pw_step s _ _ 2 _ (by decide) (by decide) (by decide) (fun h => ?_) (fun h2 => ?_)
  · unfold weigh; rw [if_neg (by rw [show preB s ⟨#[82, 67]⟩ = false from h0]; simp), if_neg (by rw [show preB s ⟨#[100, 101, 118]⟩ = false from h1]; simp), if_pos (show preB s ⟨#[97]⟩ = true from h)]; rfl
  refine pw_step s _ _ 3 _ (by decide) (by decide) (by decide) (fun h => ?_) (fun h3 => ?_)
  · unfold weigh; rw [if_neg (by rw [show preB s ⟨#[82, 67]⟩ = false from h0]; simp), if_neg (by rw [show preB s ⟨#[100, 101, 118]⟩ = false from h1]; simp), if_neg (by rw [show preB s ⟨#[97]⟩ = false from h2]; simp), if_pos (show preB s ⟨#[98]⟩ = true from h)]; rfl
  refine pw_step s _ _ 4 _ (by decide) (by decide) (by decide) (fun h => ?_) (fun h4 => ?_)
  · unfold weigh; rw [if_neg (by rw [show preB s ⟨#[82, 67]⟩ = false from h0]; simp), if_neg (by rw [show preB s ⟨#[100, 101, 118]⟩ = false from h1]; simp), if_neg (by rw [show preB s ⟨#[97]⟩ = false from h2]; simp), if_neg (by rw [show preB s ⟨#[98]⟩ = false from h3]; simp), if_pos (show preB s ⟨#[114, 99]⟩ = true from h)]; rfl
  refine pw_step s _ _ 5 _ (by decide) (by decide) (by decide) (fun h => ?_) (fun h5 => ?_)
  · unfold weigh; rw [if_neg (by rw [show preB s ⟨#[82, 67]⟩ = false from h0]; simp), if_neg (by rw [show preB s ⟨#[100, 101, 118]⟩ = false from h1]; simp), if_neg (by rw [show preB s ⟨#[97]⟩ = false from h2]; simp), if_neg (by rw [show preB s ⟨#[98]⟩ = false from h3]; simp), if_neg (by rw [show preB s ⟨#[114, 99]⟩ = false from h4]; simp), if_pos (show preB s ⟨#[35]⟩ = true from h)]; rfl
  refine pw_step s _ _ 6 _ (by decide) (by decide) (by decide) (fun h => ?_) (fun h6 => ?_)
  · unfold weigh; rw [if_neg (by rw [show preB s ⟨#[82, 67]⟩ = false from h0]; simp), if_neg (by rw [show preB s ⟨#[100, 101, 118]⟩ = false from h1]; simp), if_neg (by rw [show preB s ⟨#[97]⟩ = false from h2]; simp), if_neg (by rw [show preB s ⟨#[98]⟩ = false from h3]; simp), if_neg (by rw [show preB s ⟨#[114, 99]⟩ = false from h4]; simp), if_neg (by rw [show preB s ⟨#[35]⟩ = false from h5]; simp), if_pos (show preB s ⟨#[112]⟩ = true from h)]; rfl
  refine Ev.succ ?_
  simp only [spec_packWeight.l0]
  refine Ev.neg (fun _ => by decide) ?_
  refine Ev.eq (Ev.now _) ?_
  unfold weigh
  rw [if_neg (by rw [show preB s ⟨#[82, 67]⟩ = false from h0]; simp), if_neg (by rw [show preB s ⟨#[100, 101, 118]⟩ = false from h1]; simp), if_neg (by rw [show preB s ⟨#[97]⟩ = false from h2]; simp), if_neg (by rw [show preB s ⟨#[98]⟩ = false from h3]; simp), if_neg (by rw [show preB s ⟨#[114, 99]⟩ = false from h4]; simp), if_neg (by rw [show preB s ⟨#[35]⟩ = false from h5]; simp), if_neg (by rw [show preB s ⟨#[112]⟩ = false from h6]; simp)]
theorem orderInts_eq (a b : Int) : spec_orderInts.f a b = some (cmpI a b) := by
  unfold spec_orderInts.f cmpI
  by_cases h1 : a < b
  · rw [if_pos h1, if_neg (by omega), if_pos h1]
  · by_cases h2 : b < a
    · rw [if_neg h1, if_pos h2, if_pos h2]
    · rw [if_neg h1, if_neg h2, if_neg h2, if_neg h1]
theorem special_ev (x y : ByteArray) : Ev (fun k => spec_PackagistSpecial.f k x y) (special x y) := by
  simp only [spec_PackagistSpecial.f, orderInts_eq, Option.bind_some]
  refine Ev.bind (packWeight_ev x) (Ev.bind (packWeight_ev y) ?_)
  exact Ev.now _

/-! ### Numbers by their digits -/
theorem dvA (l : List Int) : ∀ a : Nat, l.foldl (fun a c => a * 10 + (c - 48).toNat) a = a * 10 ^ l.length + dvL l := by
  induction l with
  | nil => intro a; simp [dvL]
  | cons c l ih =>
    intro a
    have e : dvL (c :: l) = (c - 48).toNat * 10 ^ l.length + dvL l := by
      have := ih (0 * 10 + (c - 48).toNat)
      simp only [dvL, List.foldl_cons] at this ⊢
      rw [this]
      simp
    rw [List.foldl_cons, ih, e, List.length_cons, Nat.pow_succ, Nat.add_mul, Nat.mul_assoc, Nat.mul_comm 10, Nat.add_assoc]
theorem dvL_cons (c : Int) (l : List Int) : dvL (c :: l) = (c - 48).toNat * 10 ^ l.length + dvL l := by
  have := dvA l (0 * 10 + (c - 48).toNat)
  simp only [dvL, List.foldl_cons] at this ⊢
  rw [this]
  simp
theorem dvL_lt {l : List Int} (h : ∀ c ∈ l, isD c = true) : dvL l < 10 ^ l.length := by
  induction l with
  | nil => simp [dvL]
  | cons c l ih =>
    have hc := of_decide_eq_true (h c List.mem_cons_self)
    have hl := ih (fun x hx => h x (List.mem_cons_of_mem _ hx))
    rw [dvL_cons, List.length_cons, Nat.pow_succ]
    have h9 : (c - 48).toNat ≤ 9 := by omega
    have : (c - 48).toNat * 10 ^ l.length ≤ 9 * 10 ^ l.length := Nat.mul_le_mul_right _ h9
    omega
theorem dvL_low {c : Int} {l : List Int} (hc : isD c = true) (h0 : c ≠ 48) : 10 ^ l.length ≤ dvL (c :: l) := by
  have hc2 := of_decide_eq_true hc
  rw [dvL_cons]
  have h1 : 1 ≤ (c - 48).toNat := by omega
  have : 1 * 10 ^ l.length ≤ (c - 48).toNat * 10 ^ l.length := Nat.mul_le_mul_right _ h1
  omega
theorem lt_dvL : ∀ (a b : List Int), a.length = b.length → (∀ c ∈ a, isD c = true) → (∀ c ∈ b, isD c = true) → lt_ a b = decide (dvL a < dvL b)
  | [], [], _, _, _ => by simp [lt_, dvL]
  | [], _ :: _, h, _, _ => by simp at h
  | _ :: _, [], h, _, _ => by simp at h
  | x :: a, y :: b, h, ha, hb => by
    have hl : a.length = b.length := by simpa using h
    have hx := of_decide_eq_true (ha x List.mem_cons_self)
    have hy := of_decide_eq_true (hb y List.mem_cons_self)
    have ih := lt_dvL a b hl (fun c hc => ha c (List.mem_cons_of_mem _ hc)) (fun c hc => hb c (List.mem_cons_of_mem _ hc))
    have la := dvL_lt (fun c hc => ha c (List.mem_cons_of_mem _ hc) : ∀ c ∈ a, isD c = true)
    have lb := dvL_lt (fun c hc => hb c (List.mem_cons_of_mem _ hc) : ∀ c ∈ b, isD c = true)
    simp only [lt_]
    rw [ih, dvL_cons, dvL_cons, hl]
    rw [hl] at la
    by_cases h1 : x < y
    · have h2 : (x - 48).toNat + 1 ≤ (y - 48).toNat := by omega
      have h3 : ((x - 48).toNat + 1) * 10 ^ b.length ≤ (y - 48).toNat * 10 ^ b.length := Nat.mul_le_mul_right _ h2
      rw [Nat.add_mul] at h3
      rw [decide_eq_true h1, Bool.true_or]
      symm
      apply decide_eq_true
      omega
    · by_cases h2 : x = y
      · subst h2
        rw [decide_eq_false (by omega), decide_eq_true rfl, Bool.false_or, Bool.true_and]
        exact decide_eq_decide.2 (by omega)
      · have h4 : (y - 48).toNat + 1 ≤ (x - 48).toNat := by omega
        have h3 : ((y - 48).toNat + 1) * 10 ^ b.length ≤ (x - 48).toNat * 10 ^ b.length := Nat.mul_le_mul_right _ h4
        rw [Nat.add_mul] at h3
        rw [decide_eq_false h1, decide_eq_false h2, Bool.false_or, Bool.false_and]
        symm
        apply decide_eq_false
        omega
/-- Digits without a nought ahead. -/
def Bare (l : List Int) : Prop := (∀ c ∈ l, isD c = true) ∧ l.head? ≠ some 48
theorem bare_shorter {a b : List Int} (ha : Bare a) (hb : Bare b) (h : a.length < b.length) : dvL a < dvL b := by
  cases b with
  | nil => simp at h
  | cons y b =>
    have h1 := dvL_lt ha.1
    have h2 := dvL_low (l := b) (hb.1 y List.mem_cons_self) (fun e => hb.2 (by rw [e]; rfl))
    have h3 : 10 ^ a.length ≤ 10 ^ b.length := Nat.pow_le_pow_right (by omega) (by simp at h; omega)
    omega
theorem order_eq {a b : ByteArray} (ha : Bare (bytesOf a)) (hb : Bare (bytesOf b)) (h : a.size = b.size) : spec_order.f a b = some (cmpN (dvL (bytesOf a)) (dvL (bytesOf b))) := by
  have hl : (bytesOf a).length = (bytesOf b).length := by rw [← B_size, ← B_size, h]
  unfold spec_order.f cmpN
  rw [bytesLess_B, bytesLess_B, lt_dvL _ _ hl ha.1 hb.1, lt_dvL _ _ hl.symm hb.1 ha.1]
  by_cases h1 : dvL (bytesOf a) < dvL (bytesOf b)
  · rw [if_pos (decide_eq_true h1), if_pos h1]
  · by_cases h2 : dvL (bytesOf b) < dvL (bytesOf a)
    · rw [if_neg (by simpa using h1), if_pos (decide_eq_true h2), if_neg h1, if_pos h2]
    · rw [if_neg (by simpa using h1), if_neg (by simpa using h2), if_neg h1, if_neg h2]
theorem on_j3 (a b : ByteArray) (ha : Bare (bytesOf a)) (hb : Bare (bytesOf b)) : Ev (fun k => spec_orderNumbers.j3 k a b) (cmpN (dvL (bytesOf a)) (dvL (bytesOf b))) := by
  refine Ev.succ ?_
  simp only [spec_orderNumbers.j3]
  by_cases h : (a.size : Int) = (b.size : Int)
  · refine Ev.pos (fun _ => h) ?_
    rw [order_eq ha hb (by omega)]
    exact Ev.now _
  · refine Ev.neg (fun _ => h) ?_
    rw [orderInts_eq]
    refine Ev.eq (Ev.now _) ?_
    unfold cmpI cmpN
    by_cases h2 : a.size < b.size
    · have := bare_shorter ha hb (by rw [← B_size, ← B_size]; exact h2)
      rw [if_neg (by omega), if_pos (by omega), if_pos this]
    · have := bare_shorter hb ha (by rw [← B_size, ← B_size]; omega)
      rw [if_pos (by omega), if_neg (by omega), if_pos this]
theorem zero_head {l : List Int} (h : l ≠ []) (h0 : l.getD 0 0 = 48) : dvL (l.drop 1) = dvL l := by
  cases l with
  | nil => exact absurd rfl h
  | cons c l =>
    have e : c = 48 := h0
    subst e
    rw [dvL_cons]
    simp
theorem on_l1 (a : ByteArray) (ha : Bare (bytesOf a)) : ∀ (n : Nat) (b : ByteArray), b.size = n → (∀ c ∈ bytesOf b, isD c = true) → Ev (fun k => spec_orderNumbers.l1 k a b) (cmpN (dvL (bytesOf a)) (dvL (bytesOf b)))
  | 0, b, hb, hd => by
    have e : bytesOf b = [] := (size_nil b).1 hb
    refine Ev.succ ?_
    simp only [spec_orderNumbers.l1]
    refine Ev.neg (fun _ => by omega) ?_
    exact on_j3 a b ha ⟨hd, by rw [e]; simp⟩
  | n + 1, b, hb, hd => by
    have hne : bytesOf b ≠ [] := fun e => by have := (size_nil b).2 e; omega
    refine Ev.succ ?_
    simp only [spec_orderNumbers.l1, bt_zero]
    refine Ev.pos (fun _ => by omega) ?_
    refine Ev.pos (fun _ => by omega) ?_
    by_cases h48 : (bytesOf b).getD 0 0 = 48
    · refine Ev.pos (fun _ => h48) ?_
      refine Ev.pos (fun _ => by omega) ?_
      have eb : bytesOf (b.extract 1 b.size) = (bytesOf b).drop 1 := B_drop b 1
      have ih := on_l1 a ha n (b.extract 1 b.size) (by rw [ByteArray.size_extract]; omega) (fun c hc => hd c (by rw [eb] at hc; exact List.mem_of_mem_drop hc))
      rw [eb, zero_head hne h48] at ih
      exact ih
    · refine Ev.neg (fun _ => h48) ?_
      refine on_j3 a b ha ⟨hd, fun e => h48 ?_⟩
      cases hm : bytesOf b with
      | nil => exact absurd hm hne
      | cons c l => rw [hm] at e; simpa using e
theorem on_l0 (b : ByteArray) (hbd : ∀ c ∈ bytesOf b, isD c = true) : ∀ (n : Nat) (a : ByteArray), a.size = n → (∀ c ∈ bytesOf a, isD c = true) → Ev (fun k => spec_orderNumbers.l0 k a b) (cmpN (dvL (bytesOf a)) (dvL (bytesOf b)))
  | 0, a, ha, hd => by
    have e : bytesOf a = [] := (size_nil a).1 ha
    refine Ev.succ ?_
    simp only [spec_orderNumbers.l0]
    refine Ev.neg (fun _ => by omega) ?_
    refine Ev.succ ?_
    simp only [spec_orderNumbers.j1]
    exact on_l1 a ⟨hd, by rw [e]; simp⟩ _ b rfl hbd
  | n + 1, a, ha, hd => by
    have hne : bytesOf a ≠ [] := fun e => by have := (size_nil a).2 e; omega
    refine Ev.succ ?_
    simp only [spec_orderNumbers.l0, bt_zero]
    refine Ev.pos (fun _ => by omega) ?_
    refine Ev.pos (fun _ => by omega) ?_
    by_cases h48 : (bytesOf a).getD 0 0 = 48
    · refine Ev.pos (fun _ => h48) ?_
      refine Ev.pos (fun _ => by omega) ?_
      have ea : bytesOf (a.extract 1 a.size) = (bytesOf a).drop 1 := B_drop a 1
      have ih := on_l0 b hbd n (a.extract 1 a.size) (by rw [ByteArray.size_extract]; omega) (fun c hc => hd c (by rw [ea] at hc; exact List.mem_of_mem_drop hc))
      rw [ea, zero_head hne h48] at ih
      exact ih
    · refine Ev.neg (fun _ => h48) ?_
      refine Ev.succ ?_
      simp only [spec_orderNumbers.j1]
      refine on_l1 a ⟨hd, fun e => h48 ?_⟩ _ b rfl hbd
      cases hm : bytesOf a with
      | nil => exact absurd hm hne
      | cons c l => rw [hm] at e; simpa using e
theorem orderNumbers_ev (a b : ByteArray) (ha : AllDig a) (hb : AllDig b) : Ev (fun k => spec_orderNumbers.f k a b) (cmpN (dv a a.size) (dv b b.size)) := by
  rw [dv_dvL, dv_dvL]
  exact on_l0 b ((allDig_iff b).1 hb).2 _ a rfl ((allDig_iff a).1 ha).2
theorem packPair_ev (a b : ByteArray) (ha : a.size ≤ 1000000) (hb : b.size ≤ 1000000) : Ev (fun k => spec_packPair.f k a b) (cmpOne a b) := by
  simp only [spec_packPair.f]
  refine Ev.bind (allDigits_ev a (by omega)) (Ev.bind (allDigits_ev b (by omega)) ?_)
  unfold cmpOne
  by_cases h1 : AllDig a
  · by_cases h2 : AllDig b
    · rw [decide_eq_true h1, decide_eq_true h2, if_pos h1, if_pos h2]
      refine Ev.pos (fun _ => by first | rfl | trivial) ?_
      refine Ev.succ ?_
      simp only [spec_packPair.j0]
      refine Ev.pos (fun _ => by first | rfl | trivial) ?_
      exact Ev.bind (orderNumbers_ev a b h1 h2) (Ev.now _)
    · rw [decide_eq_true h1, decide_eq_false h2, if_pos h1, if_neg h2]
      refine Ev.pos (fun _ => by first | rfl | trivial) ?_
      refine Ev.succ ?_
      simp only [spec_packPair.j0]
      refine Ev.neg (fun _ => by simp) ?_
      refine Ev.pos (fun _ => by first | rfl | trivial) ?_
      exact Ev.bind (special_ev _ b) (Ev.now _)
  · by_cases h2 : AllDig b
    · rw [decide_eq_false h1, decide_eq_true h2, if_neg h1, if_pos h2]
      refine Ev.neg (fun _ => by simp) ?_
      refine Ev.succ ?_
      simp only [spec_packPair.j0]
      refine Ev.neg (fun _ => by simp) ?_
      refine Ev.neg (fun _ => by simp) ?_
      refine Ev.pos (fun _ => by first | rfl | trivial) ?_
      exact Ev.bind (special_ev a _) (Ev.now _)
    · rw [decide_eq_false h1, decide_eq_false h2, if_neg h1, if_neg h2]
      refine Ev.neg (fun _ => by simp) ?_
      refine Ev.succ ?_
      simp only [spec_packPair.j0]
      refine Ev.neg (fun _ => by simp) ?_
      refine Ev.neg (fun _ => by simp) ?_
      refine Ev.neg (fun _ => by simp) ?_
      exact Ev.bind (special_ev a b) (Ev.now _)
theorem packRest_from (l : List ByteArray) (hl : l.length ≤ 1000000) (hz : ∀ x ∈ l, x.size ≤ 1000000) : ∀ (n i : Nat), l.length - i = n → i ≤ l.length → Ev (fun k => spec_packRest.l0 k l (i : Int)) (prest (l.drop i)) := by
  intro n
  induction n with
  | zero =>
    intro i hn hi
    refine Ev.succ ?_
    simp only [spec_packRest.l0]
    refine Ev.neg (fun _ => by omega) ?_
    rw [List.drop_of_length_le (by omega)]
    exact Ev.now _
  | succ n ih =>
    intro i hn hi
    have hlt : i < l.length := by omega
    have h2 := ih (i + 1) (by omega) (by omega)
    refine Ev.succ ?_
    simp only [spec_packRest.l0]
    rw [rd_drop hlt]
    refine Ev.pos (fun _ => by omega) ?_
    refine Ev.pos (fun _ => by omega) ?_
    refine Ev.bind (allDigits_ev _ (by have := hz _ (rd_mem hlt); omega)) ?_
    simp only [prest]
    by_cases hd : AllDig (rdOf ByteArray.empty l (i : Int))
    · refine Ev.pos (fun _ => decide_eq_true hd) ?_
      rw [if_pos hd]
      exact Ev.now _
    · refine Ev.neg (fun _ => by simpa using hd) ?_
      rw [if_neg hd]
      refine Ev.bind (special_ev _ hash) ?_
      by_cases h0 : special (rdOf ByteArray.empty l (i : Int)) hash = 0
      · refine Ev.pos (fun _ => h0) ?_
        rw [if_pos h0, w64 (by omega) (by omega)]
        exact h2
      · refine Ev.neg (fun _ => h0) ?_
        rw [if_neg h0]
        exact Ev.now _
theorem packRest_ev (l : List ByteArray) (hl : l.length ≤ 1000000) (hz : ∀ x ∈ l, x.size ≤ 1000000) : Ev (fun k => spec_packRest.f k l) (prest l) := packRest_from l hl hz _ 0 rfl (by omega)
theorem cmpI_anti (a b : Int) : cmpI b a = - cmpI a b := by
  unfold cmpI
  repeat' split
  all_goals omega
theorem special_anti (x y : ByteArray) : special y x = - special x y := cmpI_anti _ _
theorem nrest_prest : ∀ l, nrest l = - prest l
  | [] => rfl
  | x :: l => by
    simp only [nrest, prest]
    split
    · rfl
    · rw [special_anti x hash]
      by_cases h : special x hash = 0
      · rw [if_pos (by omega), if_pos h, nrest_prest l]
      · rw [if_neg (by omega), if_neg h]
theorem prest_sign : ∀ l, prest l = 0 ∨ prest l = 1 ∨ prest l = -1
  | [] => .inl rfl
  | x :: l => by
    simp only [prest]
    split
    · exact .inr (.inl rfl)
    · split
      · exact prest_sign l
      · exact special_sign x hash
theorem cmpN_anti (a b : Nat) : cmpN b a = - cmpN a b := by
  unfold cmpN
  repeat' split
  all_goals omega
theorem cmpOne_anti (x y : ByteArray) : cmpOne y x = - cmpOne x y := by
  unfold cmpOne
  by_cases h1 : AllDig x
  · by_cases h2 : AllDig y
    · rw [if_pos h1, if_pos h2, if_pos h2, if_pos h1]; exact cmpN_anti _ _
    · rw [if_neg h2, if_pos h1, if_pos h1, if_neg h2]; exact special_anti _ _
  · by_cases h2 : AllDig y
    · rw [if_pos h2, if_neg h1, if_neg h1, if_pos h2]; exact special_anti _ _
    · rw [if_neg h2, if_neg h1, if_neg h1, if_neg h2]; exact special_anti _ _
theorem pcmp_anti : ∀ (a b : List ByteArray), pcmp b a = - pcmp a b
  | [], [] => rfl
  | [], y :: b => by
    show prest (y :: b) = - nrest (y :: b)
    rw [nrest_prest]; omega
  | x :: a, [] => by
    show nrest (x :: a) = - prest (x :: a)
    exact nrest_prest _
  | x :: a, y :: b => by
    simp only [pcmp]
    rw [cmpOne_anti x y]
    by_cases h : cmpOne x y = 0
    · rw [if_pos (by omega), if_pos h, pcmp_anti a b]
    · rw [if_neg (by omega), if_neg h]
theorem pcmp_sign : ∀ (a b : List ByteArray), pcmp a b = 0 ∨ pcmp a b = 1 ∨ pcmp a b = -1
  | [], b => by
    show nrest b = 0 ∨ nrest b = 1 ∨ nrest b = -1
    rw [nrest_prest]
    rcases prest_sign b with h | h | h <;> omega
  | x :: a, [] => prest_sign (x :: a)
  | x :: a, y :: b => by
    simp only [pcmp]
    split
    · exact pcmp_sign a b
    · exact cmpOne_sign x y
theorem compare_from (a b : List ByteArray) (ha : Goods a) (hb : Goods b) : ∀ (n i : Nat), min a.length b.length - i = n → i ≤ min a.length b.length →
    Ev (fun k => spec_PackagistCompare.l0 k a b (i : Int)) (pcmp (a.drop i) (b.drop i)) := by
  have hal := ha.2.1
  have hbl := hb.2.1
  have hz : ∀ {l : List ByteArray}, Goods l → ∀ m, ∀ x ∈ l.drop m, x.size ≤ 1000000 := fun h m x hx => (h.2.2 x (List.mem_of_mem_drop hx)).1
  have rest : ∀ i : Nat, i = min a.length b.length → Ev (fun k => spec_PackagistCompare.j1 k a b (i : Int) false) (pcmp (a.drop i) (b.drop i)) := by
    intro i hi
    refine Ev.succ ?_
    simp only [spec_PackagistCompare.j1, Int.toNat_natCast]
    refine Ev.neg (fun _ => by simp) ?_
    by_cases h1 : a.length > b.length
    · have e : i = b.length := by omega
      refine Ev.pos (fun _ => by omega) ?_
      refine Ev.pos (fun _ => by omega) ?_
      refine Ev.pos (fun _ => by omega) ?_
      rw [e, List.drop_of_length_le (Nat.le_refl b.length), pcmp_nil]
      exact Ev.bind (packRest_ev _ (by rw [List.length_drop]; omega) (hz ha _)) (Ev.now _)
    · refine Ev.neg (fun _ => by omega) ?_
      by_cases h2 : a.length < b.length
      · have e : i = a.length := by omega
        refine Ev.pos (fun _ => by omega) ?_
        refine Ev.pos (fun _ => by omega) ?_
        refine Ev.pos (fun _ => by omega) ?_
        rw [e, List.drop_of_length_le (Nat.le_refl a.length)]
        refine Ev.bind (packRest_ev _ (by rw [List.length_drop]; omega) (hz hb _)) ?_
        refine Ev.eq (Ev.now _) ?_
        show wrap64 (-prest (b.drop a.length)) = nrest (b.drop a.length)
        rw [nrest_prest]
        have := prest_sign (b.drop a.length)
        exact w64 (by omega) (by omega)
      · refine Ev.neg (fun _ => by omega) ?_
        rw [List.drop_of_length_le (by omega), List.drop_of_length_le (by omega)]
        exact Ev.now _
  intro n
  induction n with
  | zero =>
    intro i hn hi
    have hr := rest i (by omega)
    refine Ev.succ ?_
    simp only [spec_PackagistCompare.l0]
    by_cases h1 : i < a.length
    · refine Ev.pos (fun _ => by omega) ?_
      rw [decide_eq_false (by omega)]
      exact hr
    · refine Ev.neg (fun _ => by omega) ?_
      exact hr
  | succ n ih =>
    intro i hn hi
    have h1 : i < a.length := by omega
    have h2 : i < b.length := by omega
    have hnext := ih (i + 1) (by omega) (by omega)
    refine Ev.succ ?_
    simp only [spec_PackagistCompare.l0]
    refine Ev.pos (fun _ => by omega) ?_
    rw [decide_eq_true (by omega)]
    refine Ev.succ ?_
    simp only [spec_PackagistCompare.j1]
    refine Ev.pos (fun _ => by first | rfl | trivial) ?_
    refine Ev.pos (fun _ => by omega) ?_
    refine Ev.pos (fun _ => by omega) ?_
    refine Ev.pos (fun _ => by omega) ?_
    rw [rd_drop h1, rd_drop h2]
    refine Ev.bind (packPair_ev _ _ (ha.2.2 _ (rd_mem h1)).1 (hb.2.2 _ (rd_mem h2)).1) ?_
    simp only [pcmp]
    by_cases h0 : cmpOne (rdOf ByteArray.empty a (i : Int)) (rdOf ByteArray.empty b (i : Int)) = 0
    · refine Ev.pos (fun _ => h0) ?_
      rw [if_pos h0, w64 (by omega) (by omega)]
      exact hnext
    · refine Ev.neg (fun _ => h0) ?_
      rw [if_neg h0]
      exact Ev.now _
theorem spec_compare_ev (a b : List ByteArray) (ha : Goods a) (hb : Goods b) : Ev (fun k => spec_PackagistCompare.f k a b) (pcmp a b) := compare_from a b ha hb _ 0 rfl (by omega)
theorem short_two (s t : ByteArray) : Ev (fun k => laws_short.f k [s, t]) (decide (s.size ≤ 1200 ∧ t.size ≤ 1200)) := by
  have e0 : rdOf ByteArray.empty [s, t] 0 = s := rfl
  have e1 : rdOf ByteArray.empty [s, t] 1 = t := rfl
  have w0 : wrap64 (0 + 1) = 1 := w64 (by omega) (by omega)
  have w1 : wrap64 (1 + 1) = 2 := w64 (by omega) (by omega)
  refine Ev.succ ?_
  simp only [laws_short.f, laws_short.l0, List.length_cons, List.length_nil]
  refine Ev.pos (fun _ => by omega) ?_
  refine Ev.pos (fun _ => by omega) ?_
  refine Ev.pos (fun _ => by omega) ?_
  rw [e0, w0]
  by_cases h : s.size ≤ 1200
  · refine Ev.neg (fun _ => by omega) ?_
    refine Ev.succ ?_
    simp only [laws_short.l0, List.length_cons, List.length_nil]
    refine Ev.pos (fun _ => by omega) ?_
    refine Ev.pos (fun _ => by omega) ?_
    refine Ev.pos (fun _ => by omega) ?_
    rw [e1, w1]
    by_cases h2 : t.size ≤ 1200
    · refine Ev.neg (fun _ => by omega) ?_
      refine Ev.succ ?_
      simp only [laws_short.l0]
      refine Ev.neg (fun _ => by omega) ?_
      exact Ev.eq (Ev.now _) (by simp [h, h2])
    · refine Ev.pos (fun _ => by omega) ?_
      exact Ev.eq (Ev.now _) (by simp [h2])
  · refine Ev.pos (fun _ => by omega) ?_
    exact Ev.eq (Ev.now _) (by simp [h])
theorem texts_main (s t : ByteArray) (hs : s.size ≤ 1200) (ht : t.size ≤ 1200) (ha : Asc (bytesOf s)) (hb : Asc (bytesOf t)) : Ev (fun k => laws_FnPackagistTexts.j1 k s t false) true := by
  have ga := comps_goods ha (by rw [← B_size]; omega)
  have gb := comps_goods hb (by rw [← B_size]; omega)
  have stop : Ev (fun k => laws_FnPackagistTexts.j2 k s t (comps (bytesOf s)) (comps (bytesOf t)) true) true := by
    refine Ev.succ ?_
    simp only [laws_FnPackagistTexts.j2]
    refine Ev.pos (fun _ => by first | rfl | trivial) ?_
    exact Ev.now _
  obtain ⟨p, hp, hpk⟩ := known_ev _ ga
  obtain ⟨q, hq, hqk⟩ := known_ev _ gb
  refine Ev.succ ?_
  simp only [laws_FnPackagistTexts.j1]
  refine Ev.neg (fun _ => by simp) ?_
  refine Ev.bind (spec_parse_ev s (by omega) ha) (Ev.bind (spec_parse_ev t (by omega) hb) (Ev.bind hp ?_))
  cases p with
  | false =>
    refine Ev.neg (fun _ => by simp) ?_
    exact stop
  | true =>
    refine Ev.pos (fun _ => by first | rfl | trivial) ?_
    refine Ev.bind hq ?_
    cases q with
    | false => exact stop
    | true =>
      have hf : Fits (comps (bytesOf s)) (comps (bytesOf t)) := ⟨ga, gb, .inr ⟨hpk rfl, hqk rfl⟩⟩
      have hf2 : Fits (comps (bytesOf t)) (comps (bytesOf s)) := ⟨gb, ga, .inr ⟨hqk rfl, hpk rfl⟩⟩
      have c1 := compare_ev s t (by omega) (by omega) ha hb hf
      have c2 := compare_ev t s (by omega) (by omega) hb ha hf2
      refine Ev.succ ?_
      simp only [laws_FnPackagistTexts.j2, Bool.not_true]
      refine Ev.neg (fun _ => by simp) ?_
      refine Ev.bind c1 (Ev.bind (parse_ev s (by omega) ha) (Ev.bind (parse_ev t (by omega) hb) ?_))
      refine Ev.bind (a := pcmp (comps (bytesOf s)) (comps (bytesOf t))) ?_ ?_
      · simp only [impl_PackagistCompare.f, semantic_ZZPackagist.f, semantic_comparePackagistComponents.f, if_pos hf, Option.bind_some]
        exact Ev.now _
      · refine Ev.bind c2 ?_
        refine Ev.pos (fun _ => by first | rfl | trivial) ?_
        refine Ev.pos (fun _ => by first | rfl | trivial) ?_
        refine Ev.bind (spec_compare_ev _ _ ga gb) ?_
        refine Ev.pos (fun _ => by first | rfl | trivial) ?_
        refine Ev.pos (fun _ => by first | rfl | trivial) ?_
        have hsg := pcmp_sign (comps (bytesOf s)) (comps (bytesOf t))
        have hanti := pcmp_anti (comps (bytesOf s)) (comps (bytesOf t))
        have hturn : laws_turned.f (pcmp (comps (bytesOf s)) (comps (bytesOf t))) (pcmp (comps (bytesOf t)) (comps (bytesOf s))) = some true := by
          unfold laws_turned.f
          rw [hanti, w64 (by omega) (by omega), if_pos (by omega), if_pos (by omega)]
          rw [decide_eq_true (by omega)]
        simp only [hturn, Option.bind_some]
        exact Ev.now _
theorem FnPackagistTexts : laws_FnPackagistTexts.Pure := by
  intro s t hs ht
  refine Ev.rounds (r := true) (g := fun k => laws_FnPackagistTexts.f k s t) ?_
  have y0 : Ev (fun k => laws_FnPackagistTexts.j0 k s t true) true := by
    refine Ev.succ ?_
    simp only [laws_FnPackagistTexts.j0]
    refine Ev.pos (fun _ => by first | rfl | trivial) ?_
    exact Ev.now _
  have y1 : Ev (fun k => laws_FnPackagistTexts.j1 k s t true) true := by
    refine Ev.succ ?_
    simp only [laws_FnPackagistTexts.j1]
    refine Ev.pos (fun _ => by first | rfl | trivial) ?_
    exact Ev.now _
  simp only [laws_FnPackagistTexts.f]
  by_cases hbig : (s.size : Int) > 2147483647
  · refine Ev.pos (fun _ => hbig) ?_
    exact y0
  · refine Ev.neg (fun _ => hbig) ?_
    by_cases hbig2 : (t.size : Int) > 2147483647
    · rw [decide_eq_true hbig2]
      exact y0
    · rw [decide_eq_false hbig2]
      refine Ev.succ ?_
      simp only [laws_FnPackagistTexts.j0]
      refine Ev.neg (fun _ => by simp) ?_
      refine Ev.bind (short_two s t) ?_
      by_cases hsh : s.size ≤ 1200 ∧ t.size ≤ 1200
      · refine Ev.pos (fun _ => decide_eq_true hsh) ?_
        refine Ev.bind (a := decide (∀ x ∈ bytesOf s, x ≤ 127)) ?_ ?_
        · simp only [spec_PackagistTextKnown.f]
          exact Ev.bind (ascii_ev s (by omega)) (Ev.now _)
        · by_cases hasc : ∀ x ∈ bytesOf s, x ≤ 127
          · refine Ev.pos (fun _ => decide_eq_true hasc) ?_
            refine Ev.bind (a := decide (∀ x ∈ bytesOf t, x ≤ 127)) ?_ ?_
            · simp only [spec_PackagistTextKnown.f]
              exact Ev.bind (ascii_ev t (by omega)) (Ev.now _)
            · by_cases hasc2 : ∀ x ∈ bytesOf t, x ≤ 127
              · rw [decide_eq_true hasc2]
                exact texts_main s t hsh.1 hsh.2 (Asc.of hasc) (Asc.of hasc2)
              · rw [decide_eq_false hasc2]
                exact y1
          · refine Ev.neg (fun _ => by simpa using hasc) ?_
            exact y1
      · refine Ev.neg (fun _ => by simpa using hsh) ?_
        exact y1
end Go.Proofs.YtdjkekgfeadmoaaGreatDoor.V
