/- Proved here: each Go function that is named in this text, called as its theorem 'calls' says, returns what its Lean function 'f' tells, and of the memory that was there nothing is changed (a row of a law: the law returns true). Conditions: those that stand in each theorem; where 'f' tells none, nothing is said. Laid by a program of this seat's prover out of the translation; Lean checks it. -/
import Derived.Test.YtlijjnjpomnphaaGreatDoorFnPyPIBuiltF
import Derived.Test.YtlijjnjpomnphaaGreatDoorCards
import Derived.Test.YtlijjnjpomnphaaGreatDoorTie
import Derived.SliceStrings
import Derived.WalkKit
import Derived.LaidMore
import Derived.Lay
import Derived.SevenTiedAt
import Derived.Stop.Joined
import Derived.ProofKit
import Derived.OpenShut
import Derived.ShutString
import Derived.ChangeOld
import Derived.Below
import Derived.SizedLaws
namespace Go.Proofs.YtlijjnjpomnphaaGreatDoor.fnPyPIBuilt
open Go.ChangeShapes Go.WideShapes Go.ChangeAt Go.RowKit
open Go.ChangeMaps (open_string shut_string)
set_option linter.unusedVariables false
theorem own : ownKnob Tryz.prog.godebug = none := by kernel_rfl
theorem zud {H : Type} {enc : TypeId × Value → H} {P : Program} {w : World} {base : Nat} {spare : Nat → Bool} {held : Bool} {n t off c j : Nat} {xs : List (DataW H × List MemPlace)} {cs : List Value} {v : Value} (hl : j < xs.length) (hq : DataW.trod enc P w base spare held n t ((cs.drop off).take c) = xs[j]?) (hc : (cs.drop off).take c = [v]) :
    ∃ y, DataW.trod enc P w base spare held n t [v] = some y := ⟨xs[j], by rw [← hc, hq]; exact List.getElem?_eq_getElem hl⟩
theorem arr9 {cs : Array Value} (h : cs.size = 9) : ∃ v0 v1 v2 v3 v4 v5 v6 v7 v8, cs = #[v0, v1, v2, v3, v4, v5, v6, v7, v8] := by
  obtain ⟨l⟩ := cs
  match l, h with
  | [v0, v1, v2, v3, v4, v5, v6, v7, v8], _ => exact ⟨_, _, _, _, _, _, _, _, _, rfl⟩
theorem laidOut : laidOutB Tryz.prog = true := by kernel_rfl
def IsRow (k : IntKind) (w : World) (a : Option Addr) (len cap : Nat) (zs : List Int) : Prop :=
  (a = none ∧ len = 0 ∧ cap = 0 ∧ zs = []) ∨
  ∃ x, a = some x ∧ len ≤ cap ∧ cap ≤ maxLen ∧ zs.length = cap ∧ (∀ i, i < zs.length → w.cell? (x.add i) = some (.int k (zs.getD i 0))) ∧ ∀ n ∈ zs, (Lit.int k n).wf = true
set_option maxRecDepth 100000 in
theorem lifted (os : Os) (started : os.Started) (H : Type) (enc : TypeId × Value → H) :
    ReturnsInHanded {} Tryz.checked os 3 .any (fun w args => (Rows.fnPyPIBuiltSpec.pre enc Tryz.prog Tryz.f3 Rows.fnPyPIBuiltRow.domain false w args ∧ laidMetH Tryz.prog Rows.fnPyPIBuiltRow.laid w) ∧ sizedMet enc Tryz.prog Tryz.f3 (OpenSpec.ofChange Rows.fnPyPIBuiltSpec) false w args)
      (Rows.fnPyPIBuiltSpec.post enc Tryz.prog Tryz.f3 false true false false) := by
  refine returnsInHanded_of_change_and (C := Tryz.checked) (X := fun w _ => laidMetH Tryz.prog Rows.fnPyPIBuiltRow.laid w) (fun _ _ _ hh h => h.of_heap hh) own started (by kernel_rfl) Tryz.func3
    (ChangeSpec.witness_shaped (enc := enc) (C := Tryz.checked) (os := os) (X := fun w _ => laidMetH Tryz.prog Rows.fnPyPIBuiltRow.laid w) false (World.laidAll Tryz.prog os Rows.fnPyPIBuiltRow.laid) #[.agg #[.int .u16 0, .slice none 0 0, .int .u8 0, .int .u16 0, .int .u16 0, .int .u16 0, .bool false, .bool false, .slice none 0 0]] 8 (World.laidAll_os _ _ _)
      (World.shaped_of_ZipB (by kernel_rfl) (by kernel_rfl)) (by kernel_rfl) (by kernel_rfl) (by kernel_rfl)
      (by rw [MakeChecks.laidMetH_plain _ _ _ (by kernel_rfl)]; exact laidMet_laidAll _ (by kernel_rfl) (by kernel_rfl))) ?_
  intro W base args ds gs before hval0 hW hcnd hsz0 hL _
  have hsz : (DataW.weightsEach Tryz.prog (Tryz.f3.params.toList ++ Rows.fnPyPIBuiltSpec.plain.varTypes Tryz.prog) (ds ++ gs)).all (· ≤ reachBytes) = true := hsz0
  have hval : ∀ (j : Nat) t v, Tryz.f3.params[j]? = some t → args[j]? = some v → Value.okWide Tryz.prog W .any base t v := hval0
  have hW' := hW
  obtain ⟨p, q, hA0, hV, rfl, hfz, hnd⟩ := hW
  have hA : DataW.TrodAll enc Tryz.prog W 0 (fun _ => true) true Tryz.f3.params.toList args.toList ds p := hA0
  rw [Tryz.params3] at hA hval hsz
  obtain ⟨v0, vs0, d0, ds0, p0, q0, hargs, rfl, rfl, h0, r0⟩ := trodAll_cons hA
  obtain ⟨rfl, rfl, rfl⟩ := trodAll_nil r0
  obtain rfl : args = #[v0] := by cases args; simp_all
  obtain ⟨rfl, rfl⟩ := trodVars_none hV
  obtain ⟨cs0, rfl, sz0⟩ := okWide_struct Tryz.underlying26 (hval 0 26 v0 rfl rfl)
  have k0 := h0
  have lt0 : ∀ x ∈ p0, x.block < W.heap.size := by obtain ⟨m, hm⟩ := k0; exact DataW.trod_lt m _ _ _ hm
  obtain ⟨v0_0, v0_1, v0_2, v0_3, v0_4, v0_5, v0_6, v0_7, v0_8, rfl⟩ := arr9 (sz0.trans (by kernel_rfl))
  obtain ⟨fuel0, hf0⟩ := h0
  obtain ⟨xs0, n0, _, _, _, hx0, hq0⟩ := DataW.trod_struct Tryz.underlying26 hf0
  obtain ⟨y0_0, hy0_0⟩ := zud (v := v0_0) (by rw [hx0]; show 0 < 9; omega) (hq0 0 _ rfl) (by show List.take (Tryz.prog.cellsOf 22) (List.drop 0 [v0_0, v0_1, v0_2, v0_3, v0_4, v0_5, v0_6, v0_7, v0_8]) = [v0_0]; rw [show Tryz.prog.cellsOf 22 = 1 by kernel_rfl]; rfl)
  obtain ⟨a0_0, hc0_0, _, w0_0⟩ := DataW.trod_int Tryz.underlying22 hy0_0
  obtain rfl : v0_0 = .int .u16 a0_0 := by simpa using hc0_0
  obtain ⟨y0_1, hy0_1⟩ := zud (v := v0_1) (by rw [hx0]; show 1 < 9; omega) (hq0 1 _ rfl) (by show List.take (Tryz.prog.cellsOf 23) (List.drop 1 [_, v0_1, v0_2, v0_3, v0_4, v0_5, v0_6, v0_7, v0_8]) = [v0_1]; rw [show Tryz.prog.cellsOf 23 = 1 by kernel_rfl]; rfl)
  obtain ⟨a0_1, len0_1, cap0_1, z0_1, rfl, w0_1⟩ : ∃ (a : Option Addr) (len cap : Nat) (zs : List Int), v0_1 = .slice a len cap ∧ ((a = none ∧ len = 0 ∧ cap = 0 ∧ zs = []) ∨ ∃ x, a = some x ∧ len ≤ cap ∧ cap ≤ maxLen ∧ zs.length = cap ∧ (∀ i, i < zs.length → W.cell? (x.add i) = some (.int .u16 (zs.getD i 0))) ∧ ∀ n ∈ zs, (Lit.int .u16 n).wf = true) := by
    rcases open_ints Tryz.underlying23 Tryz.underlying22 (by kernel_rfl) hy0_1 with ⟨hcs, _⟩ | ⟨x, l, c, zs, hcs, _, hl, hm, hz, _, hcell, hwz⟩
    · exact ⟨none, 0, 0, [], by simpa using hcs, .inl ⟨rfl, rfl, rfl, rfl⟩⟩
    · exact ⟨some x, l, c, zs, by simpa using hcs, .inr ⟨_, rfl, hl, hm, by simpa using hz, hcell, hwz⟩⟩
  obtain ⟨y0_2, hy0_2⟩ := zud (v := v0_2) (by rw [hx0]; show 2 < 9; omega) (hq0 2 _ rfl) (by show List.take (Tryz.prog.cellsOf 5) (List.drop 2 [_, _, v0_2, v0_3, v0_4, v0_5, v0_6, v0_7, v0_8]) = [v0_2]; rw [show Tryz.prog.cellsOf 5 = 1 by kernel_rfl]; rfl)
  obtain ⟨a0_2, hc0_2, _, w0_2⟩ := DataW.trod_int Tryz.underlying5 hy0_2
  obtain rfl : v0_2 = .int .u8 a0_2 := by simpa using hc0_2
  obtain ⟨y0_3, hy0_3⟩ := zud (v := v0_3) (by rw [hx0]; show 3 < 9; omega) (hq0 3 _ rfl) (by show List.take (Tryz.prog.cellsOf 22) (List.drop 3 [_, _, _, v0_3, v0_4, v0_5, v0_6, v0_7, v0_8]) = [v0_3]; rw [show Tryz.prog.cellsOf 22 = 1 by kernel_rfl]; rfl)
  obtain ⟨a0_3, hc0_3, _, w0_3⟩ := DataW.trod_int Tryz.underlying22 hy0_3
  obtain rfl : v0_3 = .int .u16 a0_3 := by simpa using hc0_3
  obtain ⟨y0_4, hy0_4⟩ := zud (v := v0_4) (by rw [hx0]; show 4 < 9; omega) (hq0 4 _ rfl) (by show List.take (Tryz.prog.cellsOf 22) (List.drop 4 [_, _, _, _, v0_4, v0_5, v0_6, v0_7, v0_8]) = [v0_4]; rw [show Tryz.prog.cellsOf 22 = 1 by kernel_rfl]; rfl)
  obtain ⟨a0_4, hc0_4, _, w0_4⟩ := DataW.trod_int Tryz.underlying22 hy0_4
  obtain rfl : v0_4 = .int .u16 a0_4 := by simpa using hc0_4
  obtain ⟨y0_5, hy0_5⟩ := zud (v := v0_5) (by rw [hx0]; show 5 < 9; omega) (hq0 5 _ rfl) (by show List.take (Tryz.prog.cellsOf 22) (List.drop 5 [_, _, _, _, _, v0_5, v0_6, v0_7, v0_8]) = [v0_5]; rw [show Tryz.prog.cellsOf 22 = 1 by kernel_rfl]; rfl)
  obtain ⟨a0_5, hc0_5, _, w0_5⟩ := DataW.trod_int Tryz.underlying22 hy0_5
  obtain rfl : v0_5 = .int .u16 a0_5 := by simpa using hc0_5
  obtain ⟨y0_6, hy0_6⟩ := zud (v := v0_6) (by rw [hx0]; show 6 < 9; omega) (hq0 6 _ rfl) (by show List.take (Tryz.prog.cellsOf 4) (List.drop 6 [_, _, _, _, _, _, v0_6, v0_7, v0_8]) = [v0_6]; rw [show Tryz.prog.cellsOf 4 = 1 by kernel_rfl]; rfl)
  obtain ⟨a0_6, hc0_6, _⟩ := DataW.trod_bool Tryz.underlying4 hy0_6
  obtain rfl : v0_6 = .bool a0_6 := by simpa using hc0_6
  obtain ⟨y0_7, hy0_7⟩ := zud (v := v0_7) (by rw [hx0]; show 7 < 9; omega) (hq0 7 _ rfl) (by show List.take (Tryz.prog.cellsOf 4) (List.drop 7 [_, _, _, _, _, _, _, v0_7, v0_8]) = [v0_7]; rw [show Tryz.prog.cellsOf 4 = 1 by kernel_rfl]; rfl)
  obtain ⟨a0_7, hc0_7, _⟩ := DataW.trod_bool Tryz.underlying4 hy0_7
  obtain rfl : v0_7 = .bool a0_7 := by simpa using hc0_7
  obtain ⟨y0_8, hy0_8⟩ := zud (v := v0_8) (by rw [hx0]; show 8 < 9; omega) (hq0 8 _ rfl) (by show List.take (Tryz.prog.cellsOf 24) (List.drop 8 [_, _, _, _, _, _, _, _, v0_8]) = [v0_8]; rw [show Tryz.prog.cellsOf 24 = 1 by kernel_rfl]; rfl)
  obtain ⟨a0_8, len0_8, cap0_8, z0_8, rfl, w0_8⟩ : ∃ (a : Option Addr) (len cap : Nat) (zs : List ByteArray), v0_8 = .slice a len cap ∧ ((a = none ∧ len = 0 ∧ cap = 0 ∧ zs = []) ∨ ∃ x, a = some x ∧ len ≤ cap ∧ cap ≤ maxLen ∧ zs.length = cap ∧ (∀ i, i < zs.length → W.cell? (x.add i) = some (.string (zs.getD i ByteArray.empty))) ∧ ∀ s ∈ zs, s.size ≤ maxLen) := by
    rcases open_strings Tryz.underlying24 Tryz.underlying9 (by kernel_rfl) hy0_8 with ⟨hcs, _⟩ | ⟨x, l, c, zs, hcs, _, hl, hm, hz, _, hcell, hwz⟩
    · exact ⟨none, 0, 0, [], by simpa using hcs, .inl ⟨rfl, rfl, rfl, rfl⟩⟩
    · exact ⟨some x, l, c, zs, by simpa using hcs, .inr ⟨_, rfl, hl, hm, by simpa using hz, hcell, hwz⟩⟩
  clear hA0 hval0 hsz0 hsz
  refine (V.FnPyPIBuilt_walk a0_0 a0_1 len0_1 cap0_1 z0_1 a0_2 a0_3 a0_4 a0_5 a0_6 a0_7 a0_8 len0_8 cap0_8 z0_8 W w0_0 w0_1 w0_2 w0_3 w0_4 w0_5 w0_8 (Go.Proofs.YtlijjnjpomnphaaGreatDoorG.GL_of hL (by kernel_rfl) (by kernel_rfl) (by kernel_rfl) (by kernel_rfl))).mono fun e W' ⟨he, bel⟩ => ?_
  subst he
  exact ⟨_, rfl, _, _, _, [], _, [], hW', trodAll_mk1 (shut_bool Tryz.underlying4 _), (trodAll_cons_mk (Below.trod laidOut (by kernel_rfl) (of_decide_eq_true (by kernel_rfl)) k0 bel lt0) trodAll_mk0), rfl, bel.frame _, fun h => by cases h⟩
theorem over : Rows.fnPyPIBuiltRow.holds Tryz.pinned (OpenSpec.ofChange Rows.fnPyPIBuiltSpec) :=
  OpenClaim.holds_of_wide 3 Tryz.f3 rfl rfl rfl rfl rfl rfl rfl ⟨rfl, rfl, rfl, rfl, rfl⟩ rfl rfl rfl rfl rfl (by kernel_rfl) Tryz.func3 (by kernel_rfl)
    (of_decide_eq_true (by kernel_rfl)) (by unfold Func.isWrapper; first | (rw [if_pos (by decide +kernel)]; kernel_rfl) | (rw [if_neg (by decide +kernel)]; exact ⟨rfl, rfl⟩))
    (fun os started H enc _ => lifted os started H enc)
theorem proved : Rows.FnPyPIBuiltSaid := over
theorem plain (f : FuncId) (fn : Func) (hf : Tryz.pinned.checked.prog.funcNamed "pub-primogeniture/laws.FnPyPIBuilt" = some f) (hfn : Tryz.pinned.checked.prog.funcs[f]? = some fn) :
    true = Tryz.pinned.checked.prog.looks [] ∧ ∀ (j : Nat) t, fn.params[j]? = some t → Tryz.pinned.checked.prog.wantsStandIn t = false := by
  obtain rfl : f = 3 := Option.some.inj ((show Tryz.prog.funcNamed "pub-primogeniture/laws.FnPyPIBuilt" = some 3 by kernel_rfl).symm.trans hf) |>.symm
  obtain rfl : fn = Tryz.f3 := (Option.some.inj (Tryz.func3.symm.trans hfn)).symm
  refine ⟨by kernel_rfl, fun j t ht => ?_⟩
  rw [Tryz.params3] at ht
  have hm : t ∈ [26] := by simpa using Array.mem_of_getElem? ht
  have hall : ([26].all fun u => !Tryz.prog.wantsStandIn u) = true := by kernel_rfl
  exact (show Tryz.prog.wantsStandIn t = false by simpa using List.all_eq_true.1 hall t hm)
theorem card : Rows.FnPyPIBuiltCardSaid :=
  Claim7.holds_tied_plain_at .later [] _ _ _ _ over (fun _ h => by cases h) (by kernel_rfl) (fun _ h => by cases h) fnPyPIBuilt_row_tie rfl ⟨rfl, rfl⟩ (by kernel_rfl) rfl plain (by kernel_rfl)
#print axioms card
end Go.Proofs.YtlijjnjpomnphaaGreatDoor.fnPyPIBuilt
namespace Go.Proofs.YtlijjnjpomnphaaGreatDoor
/-- The row, under a short name, for the claim. -/
theorem fnPyPIBuilt_holds : Rows.FnPyPIBuiltCardSaid := fnPyPIBuilt.card
end Go.Proofs.YtlijjnjpomnphaaGreatDoor
