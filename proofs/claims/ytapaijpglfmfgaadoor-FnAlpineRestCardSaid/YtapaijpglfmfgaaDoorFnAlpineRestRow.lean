/- Proved here: each Go function that is named in this text, called as its theorem 'calls' says, returns what its Lean function 'f' tells, and of the memory that was there nothing is changed (a row of a law: the law returns true). Conditions: those that stand in each theorem; where 'f' tells none, nothing is said. Laid by a program of this seat's prover out of the translation; Lean checks it. -/
import Derived.Test.YtapaijpglfmfgaaDoorFnAlpineRestF
import Derived.Test.YtapaijpglfmfgaaDoorCards
import Derived.Test.YtapaijpglfmfgaaDoorTie
import Derived.SliceStrings
import Derived.WalkKit
import Derived.LaidMore
import Derived.Lay
import Derived.SevenTiedAt
import Derived.Stop.Joined
import Derived.ProofKit
import Derived.OpenShut
import Derived.ShutString
import Derived.ChangeOld
import Derived.Below
import Derived.SizedLaws
namespace Go.Proofs.YtapaijpglfmfgaaDoor.fnAlpineRest
open Go.ChangeShapes Go.WideShapes Go.ChangeAt Go.RowKit
open Go.ChangeMaps (open_string shut_string)
set_option linter.unusedVariables false
theorem own : ownKnob Tryd.prog.godebug = none := by kernel_rfl
theorem zcf {H : Type} {enc : TypeId × Value → H} {P : Program} {w : World} {base : Nat} {spare : Nat → Bool} {held : Bool} {n t off c j : Nat} {xs : List (DataW H × List MemPlace)} {cs : List Value} {v : Value} (hl : j < xs.length) (hq : DataW.trod enc P w base spare held n t ((cs.drop off).take c) = xs[j]?) (hc : (cs.drop off).take c = [v]) :
    ∃ y, DataW.trod enc P w base spare held n t [v] = some y := ⟨xs[j], by rw [← hc, hq]; exact List.getElem?_eq_getElem hl⟩
theorem arr7 {cs : Array Value} (h : cs.size = 7) : ∃ v0 v1 v2 v3 v4 v5 v6, cs = #[v0, v1, v2, v3, v4, v5, v6] := by
  obtain ⟨l⟩ := cs
  match l, h with
  | [v0, v1, v2, v3, v4, v5, v6], _ => exact ⟨_, _, _, _, _, _, _, rfl⟩
theorem laidOut : laidOutB Tryd.prog = true := by kernel_rfl
def IsRow (k : IntKind) (w : World) (a : Option Addr) (len cap : Nat) (zs : List Int) : Prop :=
  (a = none ∧ len = 0 ∧ cap = 0 ∧ zs = []) ∨
  ∃ x, a = some x ∧ len ≤ cap ∧ cap ≤ maxLen ∧ zs.length = cap ∧ (∀ i, i < zs.length → w.cell? (x.add i) = some (.int k (zs.getD i 0))) ∧ ∀ n ∈ zs, (Lit.int k n).wf = true
set_option maxRecDepth 100000 in
theorem lifted (os : Os) (started : os.Started) (H : Type) (enc : TypeId × Value → H) :
    ReturnsInHanded {} Tryd.checked os 5 .any (fun w args => (Rows.fnAlpineRestSpec.pre enc Tryd.prog Tryd.f5 Rows.fnAlpineRestRow.domain false w args ∧ laidMetH Tryd.prog Rows.fnAlpineRestRow.laid w) ∧ sizedMet enc Tryd.prog Tryd.f5 (OpenSpec.ofChange Rows.fnAlpineRestSpec) false w args)
      (Rows.fnAlpineRestSpec.post enc Tryd.prog Tryd.f5 false true false false) := by
  refine returnsInHanded_of_change_and (C := Tryd.checked) (X := fun w _ => laidMetH Tryd.prog Rows.fnAlpineRestRow.laid w) (fun _ _ _ hh h => h.of_heap hh) own started (by kernel_rfl) Tryd.func5
    (ChangeSpec.witness_shaped (enc := enc) (C := Tryd.checked) (os := os) (X := fun w _ => laidMetH Tryd.prog Rows.fnAlpineRestRow.laid w) false (World.laidAll Tryd.prog os Rows.fnAlpineRestRow.laid) #[.agg #[.slice none 0 0, .int .u8 0, .slice none 0 0, .slice none 0 0, .string ByteArray.empty, .bool false, .int .u16 0], .string ByteArray.empty] 8 (World.laidAll_os _ _ _)
      (World.shaped_of_ZipB (by kernel_rfl) (by kernel_rfl)) (by kernel_rfl) (by kernel_rfl) (by kernel_rfl)
      (by rw [MakeChecks.laidMetH_plain _ _ _ (by kernel_rfl)]; exact laidMet_laidAll _ (by kernel_rfl) (by kernel_rfl))) ?_
  intro W base args ds gs before hval0 hW hcnd hsz0 hL _
  have hsz : (DataW.weightsEach Tryd.prog (Tryd.f5.params.toList ++ Rows.fnAlpineRestSpec.plain.varTypes Tryd.prog) (ds ++ gs)).all (· ≤ reachBytes) = true := hsz0
  have hval : ∀ (j : Nat) t v, Tryd.f5.params[j]? = some t → args[j]? = some v → Value.okWide Tryd.prog W .any base t v := hval0
  have hW' := hW
  obtain ⟨p, q, hA0, hV, rfl, hfz, hnd⟩ := hW
  have hA : DataW.TrodAll enc Tryd.prog W 0 (fun _ => true) true Tryd.f5.params.toList args.toList ds p := hA0
  rw [Tryd.params5] at hA hval hsz
  obtain ⟨v0, vs0, d0, ds0, p0, q0, hargs, rfl, rfl, h0, r0⟩ := trodAll_cons hA
  obtain ⟨v1, vs1, d1, ds1, p1, q1, rfl, rfl, rfl, h1, r1⟩ := trodAll_cons r0
  obtain ⟨rfl, rfl, rfl⟩ := trodAll_nil r1
  obtain rfl : args = #[v0, v1] := by cases args; simp_all
  obtain ⟨rfl, rfl⟩ := trodVars_none hV
  obtain ⟨cs0, rfl, sz0⟩ := okWide_struct Tryd.underlying26 (hval 0 26 v0 rfl rfl)
  have k0 := h0
  have lt0 : ∀ x ∈ p0, x.block < W.heap.size := by obtain ⟨m, hm⟩ := k0; exact DataW.trod_lt m _ _ _ hm
  obtain ⟨v0_0, v0_1, v0_2, v0_3, v0_4, v0_5, v0_6, rfl⟩ := arr7 (sz0.trans (by kernel_rfl))
  obtain ⟨fuel0, hf0⟩ := h0
  obtain ⟨xs0, n0, _, _, _, hx0, hq0⟩ := DataW.trod_struct Tryd.underlying26 hf0
  obtain ⟨y0_0, hy0_0⟩ := zcf (v := v0_0) (by rw [hx0]; show 0 < 7; omega) (hq0 0 _ rfl) (by show List.take (Tryd.prog.cellsOf 22) (List.drop 0 [v0_0, v0_1, v0_2, v0_3, v0_4, v0_5, v0_6]) = [v0_0]; rw [show Tryd.prog.cellsOf 22 = 1 by kernel_rfl]; rfl)
  obtain ⟨a0_0, len0_0, cap0_0, z0_0, rfl, w0_0⟩ : ∃ (a : Option Addr) (len cap : Nat) (zs : List Int), v0_0 = .slice a len cap ∧ ((a = none ∧ len = 0 ∧ cap = 0 ∧ zs = []) ∨ ∃ x, a = some x ∧ len ≤ cap ∧ cap ≤ maxLen ∧ zs.length = cap ∧ (∀ i, i < zs.length → W.cell? (x.add i) = some (.int .u16 (zs.getD i 0))) ∧ ∀ n ∈ zs, (Lit.int .u16 n).wf = true) := by
    rcases open_ints Tryd.underlying22 Tryd.underlying24 (by kernel_rfl) hy0_0 with ⟨hcs, _⟩ | ⟨x, l, c, zs, hcs, _, hl, hm, hz, _, hcell, hwz⟩
    · exact ⟨none, 0, 0, [], by simpa using hcs, .inl ⟨rfl, rfl, rfl, rfl⟩⟩
    · exact ⟨some x, l, c, zs, by simpa using hcs, .inr ⟨_, rfl, hl, hm, by simpa using hz, hcell, hwz⟩⟩
  obtain ⟨y0_1, hy0_1⟩ := zcf (v := v0_1) (by rw [hx0]; show 1 < 7; omega) (hq0 1 _ rfl) (by show List.take (Tryd.prog.cellsOf 5) (List.drop 1 [_, v0_1, v0_2, v0_3, v0_4, v0_5, v0_6]) = [v0_1]; rw [show Tryd.prog.cellsOf 5 = 1 by kernel_rfl]; rfl)
  obtain ⟨a0_1, hc0_1, _, w0_1⟩ := DataW.trod_int Tryd.underlying5 hy0_1
  obtain rfl : v0_1 = .int .u8 a0_1 := by simpa using hc0_1
  obtain ⟨y0_2, hy0_2⟩ := zcf (v := v0_2) (by rw [hx0]; show 2 < 7; omega) (hq0 2 _ rfl) (by show List.take (Tryd.prog.cellsOf 23) (List.drop 2 [_, _, v0_2, v0_3, v0_4, v0_5, v0_6]) = [v0_2]; rw [show Tryd.prog.cellsOf 23 = 1 by kernel_rfl]; rfl)
  obtain ⟨a0_2, len0_2, cap0_2, z0_2, rfl, w0_2⟩ : ∃ (a : Option Addr) (len cap : Nat) (zs : List Int), v0_2 = .slice a len cap ∧ ((a = none ∧ len = 0 ∧ cap = 0 ∧ zs = []) ∨ ∃ x, a = some x ∧ len ≤ cap ∧ cap ≤ maxLen ∧ zs.length = cap ∧ (∀ i, i < zs.length → W.cell? (x.add i) = some (.int .u8 (zs.getD i 0))) ∧ ∀ n ∈ zs, (Lit.int .u8 n).wf = true) := by
    rcases open_ints Tryd.underlying23 Tryd.underlying5 (by kernel_rfl) hy0_2 with ⟨hcs, _⟩ | ⟨x, l, c, zs, hcs, _, hl, hm, hz, _, hcell, hwz⟩
    · exact ⟨none, 0, 0, [], by simpa using hcs, .inl ⟨rfl, rfl, rfl, rfl⟩⟩
    · exact ⟨some x, l, c, zs, by simpa using hcs, .inr ⟨_, rfl, hl, hm, by simpa using hz, hcell, hwz⟩⟩
  obtain ⟨y0_3, hy0_3⟩ := zcf (v := v0_3) (by rw [hx0]; show 3 < 7; omega) (hq0 3 _ rfl) (by show List.take (Tryd.prog.cellsOf 22) (List.drop 3 [_, _, _, v0_3, v0_4, v0_5, v0_6]) = [v0_3]; rw [show Tryd.prog.cellsOf 22 = 1 by kernel_rfl]; rfl)
  obtain ⟨a0_3, len0_3, cap0_3, z0_3, rfl, w0_3⟩ : ∃ (a : Option Addr) (len cap : Nat) (zs : List Int), v0_3 = .slice a len cap ∧ ((a = none ∧ len = 0 ∧ cap = 0 ∧ zs = []) ∨ ∃ x, a = some x ∧ len ≤ cap ∧ cap ≤ maxLen ∧ zs.length = cap ∧ (∀ i, i < zs.length → W.cell? (x.add i) = some (.int .u16 (zs.getD i 0))) ∧ ∀ n ∈ zs, (Lit.int .u16 n).wf = true) := by
    rcases open_ints Tryd.underlying22 Tryd.underlying24 (by kernel_rfl) hy0_3 with ⟨hcs, _⟩ | ⟨x, l, c, zs, hcs, _, hl, hm, hz, _, hcell, hwz⟩
    · exact ⟨none, 0, 0, [], by simpa using hcs, .inl ⟨rfl, rfl, rfl, rfl⟩⟩
    · exact ⟨some x, l, c, zs, by simpa using hcs, .inr ⟨_, rfl, hl, hm, by simpa using hz, hcell, hwz⟩⟩
  obtain ⟨y0_4, hy0_4⟩ := zcf (v := v0_4) (by rw [hx0]; show 4 < 7; omega) (hq0 4 _ rfl) (by show List.take (Tryd.prog.cellsOf 9) (List.drop 4 [_, _, _, _, v0_4, v0_5, v0_6]) = [v0_4]; rw [show Tryd.prog.cellsOf 9 = 1 by kernel_rfl]; rfl)
  obtain ⟨a0_4, hc0_4, _, w0_4⟩ := DataW.trod_string Tryd.underlying9 hy0_4
  obtain rfl : v0_4 = .string a0_4 := by simpa using hc0_4
  obtain ⟨y0_5, hy0_5⟩ := zcf (v := v0_5) (by rw [hx0]; show 5 < 7; omega) (hq0 5 _ rfl) (by show List.take (Tryd.prog.cellsOf 4) (List.drop 5 [_, _, _, _, _, v0_5, v0_6]) = [v0_5]; rw [show Tryd.prog.cellsOf 4 = 1 by kernel_rfl]; rfl)
  obtain ⟨a0_5, hc0_5, _⟩ := DataW.trod_bool Tryd.underlying4 hy0_5
  obtain rfl : v0_5 = .bool a0_5 := by simpa using hc0_5
  obtain ⟨y0_6, hy0_6⟩ := zcf (v := v0_6) (by rw [hx0]; show 6 < 7; omega) (hq0 6 _ rfl) (by show List.take (Tryd.prog.cellsOf 24) (List.drop 6 [_, _, _, _, _, _, v0_6]) = [v0_6]; rw [show Tryd.prog.cellsOf 24 = 1 by kernel_rfl]; rfl)
  obtain ⟨a0_6, hc0_6, _, w0_6⟩ := DataW.trod_int Tryd.underlying24 hy0_6
  obtain rfl : v0_6 = .int .u16 a0_6 := by simpa using hc0_6
  obtain ⟨a1, rfl, rfl, rfl, y1⟩ := open_string Tryd.underlying9 (hval 1 9 v1 rfl rfl) h1
  have w1 : a1.size ≤ 140737488351232 := by
    have z := sized_string hsz (j := 1) (t := 9) rfl rfl
    rw [Array.length_toList] at z
    exact z
  clear hA0 hval0 hsz0 hsz
  refine (Q.zc.walk Pure.FnAlpineRest a0_0 len0_0 cap0_0 z0_0 a0_1 a0_2 len0_2 cap0_2 z0_2 a0_3 len0_3 cap0_3 z0_3 a0_4 a0_5 a0_6 a1 W w0_0 w0_1 w0_2 w0_3 w0_4 w0_6 w1 (Go.Proofs.YtapaijpglfmfgaaDoorG.GL_of hL (by kernel_rfl) (by kernel_rfl) (by kernel_rfl) (by kernel_rfl))).mono fun e W' ⟨he, bel⟩ => ?_
  subst he
  exact ⟨_, rfl, _, _, _, [], _, [], hW', trodAll_mk1 (shut_bool Tryd.underlying4 _), (trodAll_cons_mk (Below.trod laidOut (by kernel_rfl) (of_decide_eq_true (by kernel_rfl)) k0 bel lt0) (trodAll_cons_mk (shut_string Tryd.underlying9 y1) trodAll_mk0)), rfl, bel.frame _, fun h => by cases h⟩
theorem over : Rows.fnAlpineRestRow.holds Tryd.pinned (OpenSpec.ofChange Rows.fnAlpineRestSpec) :=
  OpenClaim.holds_of_wide 5 Tryd.f5 rfl rfl rfl rfl rfl rfl rfl ⟨rfl, rfl, rfl, rfl, rfl⟩ rfl rfl rfl rfl rfl (by kernel_rfl) Tryd.func5 (by kernel_rfl)
    (of_decide_eq_true (by kernel_rfl)) (by unfold Func.isWrapper; first | (rw [if_pos (by decide +kernel)]; kernel_rfl) | (rw [if_neg (by decide +kernel)]; exact ⟨rfl, rfl⟩))
    (fun os started H enc _ => lifted os started H enc)
theorem proved : Rows.FnAlpineRestSaid := over
theorem plain (f : FuncId) (fn : Func) (hf : Tryd.pinned.checked.prog.funcNamed "pub-primogeniture/laws.FnAlpineRest" = some f) (hfn : Tryd.pinned.checked.prog.funcs[f]? = some fn) :
    true = Tryd.pinned.checked.prog.looks [] ∧ ∀ (j : Nat) t, fn.params[j]? = some t → Tryd.pinned.checked.prog.wantsStandIn t = false := by
  obtain rfl : f = 5 := Option.some.inj ((show Tryd.prog.funcNamed "pub-primogeniture/laws.FnAlpineRest" = some 5 by kernel_rfl).symm.trans hf) |>.symm
  obtain rfl : fn = Tryd.f5 := (Option.some.inj (Tryd.func5.symm.trans hfn)).symm
  refine ⟨by kernel_rfl, fun j t ht => ?_⟩
  rw [Tryd.params5] at ht
  have hm : t ∈ [26, 9] := by simpa using Array.mem_of_getElem? ht
  have hall : ([26, 9].all fun u => !Tryd.prog.wantsStandIn u) = true := by kernel_rfl
  exact (show Tryd.prog.wantsStandIn t = false by simpa using List.all_eq_true.1 hall t hm)
theorem card : Rows.FnAlpineRestCardSaid :=
  Claim7.holds_tied_plain_at .later [] _ _ _ _ over (fun _ h => by cases h) (by kernel_rfl) (fun _ h => by cases h) fnAlpineRest_row_tie rfl ⟨rfl, rfl⟩ (by kernel_rfl) rfl plain (by kernel_rfl)
#print axioms card
end Go.Proofs.YtapaijpglfmfgaaDoor.fnAlpineRest
namespace Go.Proofs.YtapaijpglfmfgaaDoor
/-- The row, under a short name, for the claim. -/
theorem fnAlpineRest_holds : Rows.FnAlpineRestCardSaid := fnAlpineRest.card
end Go.Proofs.YtapaijpglfmfgaaDoor
