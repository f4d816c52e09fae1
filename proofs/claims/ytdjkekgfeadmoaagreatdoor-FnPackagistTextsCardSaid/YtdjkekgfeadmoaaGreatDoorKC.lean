/- Contracts of math/big's Cmp, of strconv.Atoi and of comparePackagistComponents; each as its theorem says. -/
import Derived.Test.YtdjkekgfeadmoaaGreatDoorKB
import Derived.Shelf.Strconv.ErrVarAll
import Derived.LaidEqlPtr
import Derived.Test.YtdjkekgfeadmoaaGreatDoorSx1
import Derived.StillTailTactics
namespace Go.Proofs.YtdjkekgfeadmoaaGreatDoorG
open Go.RowKit Go.Proofs.YtdjkekgfeadmoaaGreatDoorW.PrintWords Go.Proofs.YtdjkekgfeadmoaaGreatDoorW.PrintLast
set_option linter.unusedVariables false
set_option linter.unusedSimpArgs false

set_option maxRecDepth 100000 in
theorem scanSign_e (w : World) (b : Nat) (s : ByteArray) (p : Int) (EP : Addr) (h : Rd w b s 0 p) (h0 : s.size = 0) (hE : w.cell? ⟨3, 0, none⟩ = some (ErrV EP)) (hbg : 3 < b) :
  Calls Tryz.prog 65 #[.iface 68 (.pointer (some ⟨b, 0, none⟩))] w fun e w' => e = .returned (.tuple #[.bool false, ErrV EP]) ∧ w.grownBy w' (some b) := by
 have hr := readByte_end w b s p (ErrV EP) (by rw [h0]; exact h) hE (by omega) (by omega)
 simp only [ErrV] at hr ⊢
 have HR := Aside0.mk hr
 have i1 := inv_ReadByte (some ⟨b, 0, none⟩)
 have i3 := ent_ReadByte
 clear h h0 hE hbg hr
 go_enter Tryz.func65, Tryz.ntmps65
 go_wp2_with (first
  | (go_at_call 123; refine HR.out.mono ?_; rintro e' w1 ⟨rfl, r1, g1⟩; have G1 := Aside0.mk g1; clear r1 g1))
 go_ret2
 exact ⟨rfl, G1.out⟩
set_option maxRecDepth 100000 in
theorem intScan_e (w : World) (a b : Nat) (s : ByteArray) (p : Int) (EP : Addr) (h : Rd w b s 0 p) (h0 : s.size = 0) (hE : w.cell? ⟨3, 0, none⟩ = some (ErrV EP)) (hbg : 3 < b) :
  Calls Tryz.prog 60 #[.pointer (some ⟨a, 0, none⟩), .iface 68 (.pointer (some ⟨b, 0, none⟩)), .int .i64 10] w fun e w' => e = .returned (.tuple #[.pointer none, .int .i64 0, ErrV EP]) ∧ w.grownBy w' (some b) := by
 have hr := scanSign_e w b s p EP h h0 hE hbg
 simp only [ErrV] at hr ⊢
 have HR := Aside0.mk hr
 clear h h0 hE hbg hr
 go_enter Tryz.func60, Tryz.ntmps60
 go_wp2_with (first
  | (go_at_call 65; refine HR.out.mono ?_; rintro e' w1 ⟨rfl, g1⟩; have G1 := Aside0.mk g1; clear g1))
 go_ret3
 exact ⟨rfl, G1.out⟩
set_option maxRecDepth 100000 in
theorem setFromScanner_e (w : World) (a b : Nat) (s : ByteArray) (p : Int) (EP : Addr) (h : Rd w b s 0 p) (h0 : s.size = 0) (hE : w.cell? ⟨3, 0, none⟩ = some (ErrV EP)) (hbg : 3 < b) :
  Calls Tryz.prog 52 #[.pointer (some ⟨a, 0, none⟩), .iface 68 (.pointer (some ⟨b, 0, none⟩)), .int .i64 10] w fun e w' => e = .returned (.tuple #[.pointer none, .bool false]) ∧ w.grownBy w' (some b) := by
 have hr := intScan_e w a b s p EP h h0 hE hbg
 simp only [ErrV] at hr
 have HR := Aside0.mk hr
 clear h h0 hE hbg hr
 go_enter Tryz.func52, Tryz.ntmps52
 go_wp2_with (first
  | (go_at_call 60; refine HR.out.mono ?_; rintro e' w1 ⟨rfl, g1⟩; have G1 := Aside0.mk g1; clear g1))
 go_ret2
 exact ⟨rfl, G1.out⟩
set_option maxRecDepth 100000 in
theorem setString_e (w : World) (a : Nat) (s : ByteArray) (EP : Addr) (h0 : s.size = 0) (hE : w.cell? ⟨3, 0, none⟩ = some (ErrV EP)) (hg0 : 3 < w.heap.size) :
  Calls Tryz.prog 45 #[.pointer (some ⟨a, 0, none⟩), .string s, .int .i64 10] w fun e w' => e = .returned (.tuple #[.pointer none, .bool false]) ∧ Below w.heap.size w w' := by
 obtain ⟨w1, hw1⟩ : ∃ w1, w1 = w.alloc (.cells #[.string s, .int .i64 0, .int .i64 (-1)] 89) := ⟨_, rfl⟩
 have hold : ∀ k, k < w.heap.size → w1.heap[k]? = w.heap[k]? := fun k hk => by rw [hw1]; exact alloc_old _ _ hk
 have hrd : Rd w1 w.heap.size s 0 (-1) := by unfold Rd; rw [hw1]; exact alloc_at _ _
 have hcon := setFromScanner_e w1 a w.heap.size s (-1) EP hrd h0 ((World.cell?_of_block (hold _ (by show 3 < _; omega))).trans hE) hg0
 have HB : Aside0 (∀ w2, w1.grownBy w2 (some w.heap.size) → Below w.heap.size w w2) := ⟨fun w2 g => by
  have hb : Below w.heap.size w w1 := by rw [hw1]; exact below_alloc_ _ (Nat.le_refl _)
  have hsz : w1.heap.size = w.heap.size + 1 := by rw [hw1]; exact alloc_size _ _
  exact hb.grown g (by omega) (fun k hk => by cases hk; exact Nat.le_refl _)⟩
 have HCON := Aside0.mk hcon
 have HNEW := Aside0.mk (newReader_ w s)
 have HW1 := Aside0.mk hw1
 clear h0 hE hg0 hold hrd hcon hw1
 go_enter Tryz.func45, Tryz.ntmps45
 go_wp2_with (first
  | (go_at_call 53; refine HNEW.out.mono ?_; rintro e' w2 ⟨rfl, hw2⟩; have hw3 := hw2.trans HW1.out.symm; clear hw2; subst hw3)
  | (go_at_call 52; refine HCON.out.mono ?_; rintro e' w3 ⟨rfl, hst⟩; have ST := Aside0.mk hst; clear hst))
 go_ret2
 exact ⟨rfl, HB.out _ ST.out⟩
set_option maxRecDepth 100000 in
theorem convert_e (w : World) (s : ByteArray) (EV EP : Addr) (h0 : s.size = 0)
  (hV : w.cell? ⟨0, 0, none⟩ = some (ErrV EV)) (hE : w.cell? ⟨3, 0, none⟩ = some (ErrV EP)) (hg0 : 3 < w.heap.size) :
  Calls Tryz.prog 35 #[.string s] w fun e w' => e = .returned (.tuple #[.pointer none, ErrV EV]) ∧ Below w.heap.size w w' := by
 obtain ⟨w1, hw1⟩ : ∃ w1, w1 = w.alloc (.cells #[.bool false, .slice none 0 0] 62) := ⟨_, rfl⟩
 have hsz : w1.heap.size = w.heap.size + 1 := by rw [hw1]; exact alloc_size _ _
 have hold : ∀ k, k < w.heap.size → w1.heap[k]? = w.heap[k]? := fun k hk => by rw [hw1]; exact alloc_old _ _ hk
 have hcon := setString_e w1 w.heap.size s EP h0 ((World.cell?_of_block (hold _ (by show 3 < _; omega))).trans hE) (by omega)
 have hbel : Below w.heap.size w w1 := by rw [hw1]; exact below_alloc_ _ (Nat.le_refl _)
 have HB : Aside0 (∀ w2, Below w1.heap.size w1 w2 → Below w.heap.size w w2) := ⟨fun w2 h => hbel.trans ⟨h.os, h.tape, h.output, h.size, fun k hk => h.block k (by omega)⟩⟩
 have hV2 : ∀ w2, Below w1.heap.size w1 w2 → w2.cell? ⟨0, 0, none⟩ = some (ErrV EV) := fun w2 h => ((World.cell?_of_block (h.block 0 (by omega))).trans (World.cell?_of_block (hold _ (by show 0 < _; omega)))).trans hV
 simp only [ErrV] at hV2 ⊢
 rw [hw1] at hcon HB hV2
 have HCON := Aside0.mk hcon
 have HV := Aside0.mk hV2
 clear h0 hV hE hg0 hsz hold hcon hbel hw1 hV2
 go_enter Tryz.func35, Tryz.ntmps35
 go_wp2_with (first
  | (go_at_call 45; refine HCON.out.mono ?_; rintro e' w3 ⟨rfl, hst⟩; have ST := Aside0.mk hst; have cv := HV.out w3 hst; clear hst))
 go_quiet (fail)
 go_wp2
 go_ret2
 exact ⟨rfl, by first | exact HB.out _ ST.out | (apply pw_below_drewN; exact HB.out _ ST.out)⟩
/-- A text that convertToBigInt's contract speaks of. -/
def Plain (s : ByteArray) : Prop := s.size ≤ 1000000 ∧ bt s 0 ≠ 45 ∧ bt s 0 ≠ 43
instance (s : ByteArray) : Decidable (Plain s) := inferInstanceAs (Decidable (_ ∧ _ ∧ _))
/-- The sentinels that the reading of numbers meets. -/
def GLe (w : World) : Prop := 7 < w.heap.size ∧ (∃ a, w.cell? ⟨0, 0, none⟩ = some (ErrV a)) ∧ (∃ a, w.cell? ⟨3, 0, none⟩ = some (ErrV a)) ∧ ∃ a, w.cell? ⟨7, 0, none⟩ = some (ErrV a)
theorem GLe.below {w w' : World} {B : Nat} (h : GLe w) (hb : Below B w w') (hB : w.heap.size ≤ B) : GLe w' := by
 obtain ⟨h1, ⟨a1, h2⟩, ⟨a2, h3⟩, a3, h4⟩ := h
 have ge : ∀ g : Nat, g ≤ 7 → w'.heap[g]? = w.heap[g]? := fun g hg => hb.block g (by omega)
 have hs := hb.size
 exact ⟨by omega, ⟨a1, (World.cell?_of_block (ge _ (by decide))).trans h2⟩, ⟨a2, (World.cell?_of_block (ge _ (by decide))).trans h3⟩, a3, (World.cell?_of_block (ge _ (by decide))).trans h4⟩
theorem convert_all (w : World) (s : ByteArray) (hp : Plain s) (hG : GLe w) : ∃ EV, Calls Tryz.prog 35 #[.string s] w (fun e w' => Conv s EV w w' e) := by
 obtain ⟨hs, h1, h2⟩ := hp
 obtain ⟨g1, ⟨EV, hV⟩, ⟨EP, hE⟩, NP, hN⟩ := hG
 refine ⟨EV, ?_⟩
 by_cases h0 : s.size = 0
 ·refine (convert_e w s EV EP h0 hV hE (by omega)).mono ?_
  rintro e w' ⟨rfl, hb⟩
  exact ⟨fun h => absurd h.1 (by omega), fun _ => rfl, hb⟩
 ·exact convert_ w s EV EP NP (by omega) hs h1 h2 hV hE hN g1

end Go.Proofs.YtdjkekgfeadmoaaGreatDoorG

/- Which of two rows of words without zeros at the end is the greater number; strconv.Atoi at a text without a sign: whether it answers an error. -/
namespace Go.Proofs
open Go.Shelf
def Tryz.laysC172_ren : Go.Shelf.Ren := ⟨fun | 172 => 38 | 244 => 48 | 245 => 49 | 247 => 55 | 279 => 56 | 280 => 57 | 281 => 58 | 282 => 59 | 287 => 61 | 316 => 62 | 171 => 64 | 205 => 63 | 321 => 67 | 322 => 68 | 243 => 69 | 246 => 76 | 283 => 84 | 284 => 85 | 285 => 86 | 286 => 87 | 129 => 91 | 317 => 90 | 318 => 92 | 319 => 93 | 320 => 94 | 337 => 96 | 338 => 97 | n => n, fun | 9 => 9 | 3 => 3 | 75 => 36 | 76 => 37 | 4 => 4 | 5 => 5 | 167 => 72 | 37 => 45 | 0 => 0 | 85 => 73 | 2 => 2 | 168 => 75 | 53 => 90 | 175 => 91 | 46 => 70 | 210 => 94 | 127 => 102 | 145 => 105 | 143 => 103 | 21 => 21 | 171 => 121 | 173 => 124 | 212 => 129 | 51 => 130 | 20 => 20 | 213 => 131 | 232 => 140 | 233 => 141 | 80 => 148 | n => n, fun | 15 => 4 | 16 => 5 | 17 => 8 | 18 => 9 | 19 => 10 | n => n⟩
theorem Tryz.laysC172 : Go.Proofs.LaysC.n172 Tryz.prog Tryz.laysC172_ren := {
 mixed := by kernel_rfl
 f129 := Tryz.func91.trans (congrArg some (by kernel_rfl))
 f171 := Tryz.func64.trans (congrArg some (by kernel_rfl))
 f172 := Tryz.func38.trans (congrArg some (by kernel_rfl))
 f205 := Tryz.func63.trans (congrArg some (by kernel_rfl))
 f243 := Tryz.func69.trans (congrArg some (by kernel_rfl))
 f244 := Tryz.func48.trans (congrArg some (by kernel_rfl))
 f245 := Tryz.func49.trans (congrArg some (by kernel_rfl))
 f246 := Tryz.func76.trans (congrArg some (by kernel_rfl))
 f247 := Tryz.func55.trans (congrArg some (by kernel_rfl))
 f279 := Tryz.func56.trans (congrArg some (by kernel_rfl))
 f280 := Tryz.func57.trans (congrArg some (by kernel_rfl))
 f281 := Tryz.func58.trans (congrArg some (by kernel_rfl))
 f282 := Tryz.func59.trans (congrArg some (by kernel_rfl))
 f283 := Tryz.func84.trans (congrArg some (by kernel_rfl))
 f284 := Tryz.func85.trans (congrArg some (by kernel_rfl))
 f285 := Tryz.func86.trans (congrArg some (by kernel_rfl))
 f286 := Tryz.func87.trans (congrArg some (by kernel_rfl))
 f287 := Tryz.func61.trans (congrArg some (by kernel_rfl))
 f316 := Tryz.func62.trans (congrArg some (by kernel_rfl))
 f317 := Tryz.func90.trans (congrArg some (by kernel_rfl))
 f318 := Tryz.func92.trans (congrArg some (by kernel_rfl))
 f319 := Tryz.func93.trans (congrArg some (by kernel_rfl))
 f320 := Tryz.func94.trans (congrArg some (by kernel_rfl))
 f321 := Tryz.func67.trans (congrArg some (by kernel_rfl))
 f322 := Tryz.func68.trans (congrArg some (by kernel_rfl))
 f337 := Tryz.func96.trans (congrArg some (by kernel_rfl))
 f338 := Tryz.func97.trans (congrArg some (by kernel_rfl))
 t0 := Tryz.underlying0
 a0 := Tryz.isAgg0
 z0 := Tryz.sizeOf0
 v0 := Tryz.zeroValue0
 t2 := Tryz.underlying2
 a2 := Tryz.isAgg2
 z2 := Tryz.sizeOf2
 v2 := Tryz.zeroValue2
 t3 := Tryz.underlying3
 a3 := Tryz.isAgg3
 z3 := Tryz.sizeOf3
 v3 := Tryz.zeroValue3
 t4 := Tryz.underlying4
 a4 := Tryz.isAgg4
 z4 := Tryz.sizeOf4
 v4 := Tryz.zeroValue4
 t5 := Tryz.underlying5
 a5 := Tryz.isAgg5
 z5 := Tryz.sizeOf5
 v5 := Tryz.zeroValue5
 t9 := Tryz.underlying9
 a9 := Tryz.isAgg9
 z9 := Tryz.sizeOf9
 v9 := Tryz.zeroValue9
 t20 := Tryz.underlying20
 a20 := Tryz.isAgg20
 z20 := Tryz.sizeOf20
 v20 := Tryz.zeroValue20
 t21 := Tryz.underlying21
 a21 := Tryz.isAgg21
 z21 := Tryz.sizeOf21
 v21 := Tryz.zeroValue21
 t37 := Tryz.underlying45
 a37 := Tryz.isAgg45
 z37 := Tryz.sizeOf45
 v37 := Tryz.zeroValue45
 t46 := Tryz.underlying70
 a46 := Tryz.isAgg70
 z46 := Tryz.sizeOf70
 v46 := Tryz.zeroValue70
 t51 := Tryz.underlying130
 a51 := Tryz.isAgg130
 z51 := Tryz.sizeOf130
 v51 := Tryz.zeroValue130
 t53 := Tryz.underlying90
 a53 := Tryz.isAgg90
 z53 := Tryz.sizeOf90
 v53 := Tryz.zeroValue90
 t75 := Tryz.underlying36
 a75 := Tryz.isAgg36
 z75 := Tryz.sizeOf36
 v75 := Tryz.zeroValue36
 t76 := Tryz.underlying37
 a76 := Tryz.isAgg37
 z76 := Tryz.sizeOf37
 v76 := Tryz.zeroValue37
 t85 := Tryz.underlying73
 a85 := Tryz.isAgg73
 z85 := Tryz.sizeOf73
 v85 := Tryz.zeroValue73
 t127 := Tryz.underlying102
 a127 := Tryz.isAgg102
 z127 := Tryz.sizeOf102
 v127 := Tryz.zeroValue102
 t143 := Tryz.underlying103
 a143 := Tryz.isAgg103
 z143 := Tryz.sizeOf103
 v143 := Tryz.zeroValue103
 t145 := Tryz.underlying105
 a145 := Tryz.isAgg105
 z145 := Tryz.sizeOf105
 v145 := Tryz.zeroValue105
 t167 := Tryz.underlying72
 a167 := Tryz.isAgg72
 z167 := Tryz.sizeOf72
 v167 := Tryz.zeroValue72
 t168 := Tryz.underlying75
 a168 := Tryz.isAgg75
 z168 := Tryz.sizeOf75
 v168 := Tryz.zeroValue75
 t171 := Tryz.underlying121
 a171 := Tryz.isAgg121
 z171 := Tryz.sizeOf121
 v171 := Tryz.zeroValue121
 t173 := Tryz.underlying124
 a173 := Tryz.isAgg124
 z173 := Tryz.sizeOf124
 v173 := Tryz.zeroValue124
 t175 := Tryz.underlying91
 a175 := Tryz.isAgg91
 z175 := Tryz.sizeOf91
 v175 := Tryz.zeroValue91
 t210 := Tryz.underlying94
 a210 := Tryz.isAgg94
 z210 := Tryz.sizeOf94
 v210 := Tryz.zeroValue94
 t212 := Tryz.underlying129
 a212 := Tryz.isAgg129
 z212 := Tryz.sizeOf129
 v212 := Tryz.zeroValue129
 t213 := Tryz.underlying131
 a213 := Tryz.isAgg131
 z213 := Tryz.sizeOf131
 t232 := Tryz.underlying140
 a232 := Tryz.isAgg140
 z232 := Tryz.sizeOf140
 v232 := Tryz.zeroValue140
 t233 := Tryz.underlying141
 a233 := Tryz.isAgg141
 z233 := Tryz.sizeOf141
 v233 := Tryz.zeroValue141
 g15 := by kernel_rfl
 g16 := by kernel_rfl
 g17 := by kernel_rfl
 g18 := by kernel_rfl
 g19 := by kernel_rfl
 t80 := Tryz.underlying148
 a80 := Tryz.isAgg148
 z80 := Tryz.sizeOf148
 v80 := Tryz.zeroValue148
 i0 := by kernel_rfl
 i2 := by kernel_rfl
 i3 := by kernel_rfl
 i4 := by kernel_rfl
 i5 := by kernel_rfl
 i9 := by kernel_rfl
 i20 := by kernel_rfl
 i21 := by kernel_rfl
 i37 := by kernel_rfl
 i46 := by kernel_rfl
 i51 := by kernel_rfl
 i53 := by kernel_rfl
 i75 := by kernel_rfl
 i76 := by kernel_rfl
 i80 := by kernel_rfl
 i85 := by kernel_rfl
 i127 := by kernel_rfl
 i143 := by kernel_rfl
 i145 := by kernel_rfl
 i167 := by kernel_rfl
 i168 := by kernel_rfl
 i171 := by kernel_rfl
 i173 := by kernel_rfl
 i175 := by kernel_rfl
 i210 := by kernel_rfl
 i212 := by kernel_rfl
 i232 := by kernel_rfl
 i233 := by kernel_rfl
 m15 := by kernel_rfl
 m16 := by kernel_rfl
 m17 := by kernel_rfl
 m18 := by kernel_rfl
 m19 := by kernel_rfl
 c0 := by kernel_rfl
 c2 := by kernel_rfl
 c3 := by kernel_rfl
 c4 := by kernel_rfl
 c5 := by kernel_rfl
 c9 := by kernel_rfl
 c20 := by kernel_rfl
 c21 := by kernel_rfl
 c37 := by kernel_rfl
 c46 := by kernel_rfl
 c51 := by kernel_rfl
 c53 := by kernel_rfl
 c75 := by kernel_rfl
 c76 := by kernel_rfl
 c80 := by kernel_rfl
 c85 := by kernel_rfl
 c127 := by kernel_rfl
 c143 := by kernel_rfl
 c145 := by kernel_rfl
 c167 := by kernel_rfl
 c168 := by kernel_rfl
 c171 := by kernel_rfl
 c173 := by kernel_rfl
 c175 := by kernel_rfl
 c210 := by kernel_rfl
 c212 := by kernel_rfl
 c213 := by kernel_rfl
 c232 := by kernel_rfl
 c233 := by kernel_rfl }
open Go.RowKit in
/-- strconv.Atoi, AT EVERY STRING THAT SPELLS AN int ('Lib.atoiAll .. = .ok v'; of whatever length: leading zeros count): v, AND NO ERROR. The world: as it was, or with the one new row that '[]byte(..)' lays. (LAID: no walk: one application.) -/
theorem Tryz.strconv_Atoi_ok (s : ByteArray) (hmax : s.size ≤ 9223372036854775806) (v : Int) (h : Lib.atoiAll s.data.toList = .ok v) (w : World) :
  Calls Tryz.prog 38 #[.string s] w fun e w' => e = .returned (.tuple #[.int .i64 v, .nilIface]) ∧ (w' = w ∨ ∃ t, w' = Lib.bytesWorld w 5 t) := Any.strconv_Atoi_ok Tryz.laysC172 s hmax v h w
end Go.Proofs
namespace Go.Proofs.YtdjkekgfeadmoaaGreatDoorG
open Go.RowKit Go.Shelf Go.Proofs.YtdjkekgfeadmoaaGreatDoorW.PrintWords Go.Proofs.YtdjkekgfeadmoaaGreatDoorW.PrintLast
set_option linter.unusedVariables false
set_option linter.unusedSimpArgs false

/-! ### Numbers -/
theorem W64_pos : 0 < W64 := by unfold W64; omega
theorem step_lt {x y a b : Nat} (hx : x < W64) (h : a < b) : x + W64 * a < y + W64 * b := by
 have h2 : W64 * (a + 1) ≤ W64 * b := Nat.mul_le_mul (Nat.le_refl _) h
 have h1 : W64 * (a + 1) = W64 * a + W64 := Nat.mul_succ _ _
 generalize W64 * a = p at *
 generalize W64 * b = q at *
 generalize W64 * (a + 1) = r at *
 omega
theorem getD_cons_succ (x : Nat) (l : List Nat) (i : Nat) : (x :: l).getD (i + 1) 0 = l.getD i 0 := by simp [List.getD_eq_getElem?_getD]
theorem getD_cons_zero (x : Nat) (l : List Nat) : (x :: l).getD 0 0 = x := by simp [List.getD_eq_getElem?_getD]
theorem rows_eq : ∀ (lx ly : List Nat), lx.length = ly.length → (∀ j, j < lx.length → lx.getD j 0 = ly.getD j 0) → lx = ly
 | [], [], _, _ => rfl
 | [], _ :: _, h, _ => by simp at h
 | _ :: _, [], h, _ => by simp at h
 | x :: l, y :: m, h, hj => by
  have h0 := hj 0 (by simp)
  rw [getD_cons_zero, getD_cons_zero] at h0
  rw [h0, rows_eq l m (by simpa using h) (fun j hl => by have := hj (j + 1) (by simpa using hl); rw [getD_cons_succ, getD_cons_succ] at this; exact this)]
theorem num_lt : ∀ (lx ly : List Nat), lx.length = ly.length → (∀ x ∈ lx, IsW x) → ∀ i, i < lx.length → (∀ j, i < j → j < lx.length → lx.getD j 0 = ly.getD j 0) → lx.getD i 0 < ly.getD i 0 → num lx < num ly
 | [], _, _, _, i, hi, _, _ => by simp at hi
 | _ :: _, [], h, _, _, _, _, _ => by simp at h
 | x :: l, y :: m, h, hw, 0, hi, hj, hlt => by
  rw [getD_cons_zero, getD_cons_zero] at hlt
  have e : l = m := rows_eq l m (by simpa using h) (fun j hl => by have := hj (j + 1) (by omega) (by simpa using hl); rw [getD_cons_succ, getD_cons_succ] at this; exact this)
  simp only [num, e]
  omega
 | x :: l, y :: m, h, hw, i + 1, hi, hj, hlt => by
  rw [getD_cons_succ, getD_cons_succ] at hlt
  have ih := num_lt l m (by simpa using h) (fun z hz => hw z (by simp [hz])) i (by simpa using hi) (fun j h1 h2 => by have := hj (j + 1) (by omega) (by simpa using h2); rw [getD_cons_succ, getD_cons_succ] at this; exact this) hlt
  simp only [num]
  exact step_lt (hw x (by simp)) ih
theorem num_bound : ∀ (l : List Nat), (∀ x ∈ l, IsW x) → num l < W64 ^ l.length
 | [], _ => by simp [num]
 | x :: l, hw => by
  have ih := num_bound l (fun z hz => hw z (by simp [hz]))
  simp only [num, List.length_cons, Nat.pow_succ]
  have h := step_lt (y := 0) (hw x (by simp)) ih
  rw [Nat.mul_comm (W64 ^ l.length) W64]
  omega
theorem num_snoc : ∀ (l : List Nat) (x : Nat), num (l ++ [x]) = num l + W64 ^ l.length * x
 | [], x => by simp [num]
 | y :: l, x => by
  simp only [List.cons_append, num, num_snoc l x, List.length_cons, Nat.pow_succ, Nat.mul_add]
  rw [← Nat.mul_assoc, Nat.mul_comm W64 (W64 ^ l.length), Nat.add_assoc]
theorem trimW_le (l : List Nat) : (trimW l).length ≤ l.length := by
 unfold trimW
 have h := (List.dropWhile_sublist (fun x => decide (x = 0)) (l := l.reverse)).length_le
 rw [List.length_reverse] at h ⊢
 exact h
theorem num_low (l : List Nat) (h : l = trimW l) (h0 : 0 < l.length) : W64 ^ (l.length - 1) ≤ num l := by
 obtain ⟨m, x, rfl⟩ : ∃ m x, l = m ++ [x] := by
  rcases List.eq_nil_or_concat l with e | ⟨m, x, e⟩
  ·rw [e] at h0; simp at h0
  ·exact ⟨m, x, by simpa using e⟩
 have hx : x ≠ 0 := by
  intro e
  subst e
  rw [trimW_snoc_zero] at h
  have := trimW_le m
  have h2 := congrArg List.length h
  simp at h2
  omega
 rw [num_snoc]
 have e : (m ++ [x]).length - 1 = m.length := by simp
 rw [e]
 have : W64 ^ m.length * 1 ≤ W64 ^ m.length * x := Nat.mul_le_mul (Nat.le_refl _) (Nat.pos_of_ne_zero hx)
 omega
theorem num_shorter {lx ly : List Nat} (hw : ∀ x ∈ lx, IsW x) (hy : ly = trimW ly) (h : lx.length < ly.length) : num lx < num ly := by
 have h1 := num_bound lx hw
 have h2 := num_low ly hy (by omega)
 have h3 : W64 ^ lx.length ≤ W64 ^ (ly.length - 1) := Nat.pow_le_pow_right W64_pos (by omega)
 omega
/-- How two numbers compare. -/
def cmpN (a b : Nat) : Int := if a < b then -1 else if b < a then 1 else 0
theorem cmpAt_num {lx ly : List Nat} {r : Int} (h : CmpAt lx ly r) (hx : lx = trimW lx) (hy : ly = trimW ly) (wx : ∀ x ∈ lx, IsW x) (wy : ∀ x ∈ ly, IsW x) : r = cmpN (num lx) (num ly) := by
 unfold cmpN
 rcases h with ⟨h, rfl⟩ | ⟨h, rfl⟩ | ⟨h, h0, rfl⟩ | ⟨h, i, hi, hj, h0, rfl⟩
 ·rw [if_pos (num_shorter wx hy h)]
 ·have := num_shorter wy hx h
  rw [if_neg (by omega), if_pos this]
 ·have e1 : lx = [] := List.length_eq_zero_iff.1 h0
  have e2 : ly = [] := List.length_eq_zero_iff.1 (by omega)
  rw [e1, e2]
  simp
 ·by_cases h1 : lx.getD i 0 < ly.getD i 0
  ·rw [if_pos h1, if_pos (num_lt lx ly h wx i hi hj h1)]
  ·by_cases h2 : ly.getD i 0 < lx.getD i 0
   ·have := num_lt ly lx h.symm wy i (by omega) (fun j k1 k2 => (hj j k1 (by omega)).symm) h2
    rw [if_neg h1, if_pos h2, if_neg (by omega), if_pos this]
   ·have he : lx.getD i 0 = ly.getD i 0 := by omega
    rcases h0 with h0 | h0
    ·have e : lx = ly := rows_eq lx ly h (fun j k => by
      rcases Nat.eq_or_lt_of_le (Nat.zero_le j) with e | e
      ·have e0 : j = i := by omega
       rw [e0]; exact he
      ·exact hj j (by omega) k)
     rw [if_neg h1, if_neg h2, e]
     simp
    ·exact absurd he h0
theorem NatS.words {w : World} {B : Nat} {v : Value} {l : List Nat} (h : NatS w B v l) : ∀ x ∈ l, IsW x := by
 rcases h with ⟨rfl, rfl⟩ | ⟨g, full, h1, h2, h3, h4, h5, h6, h7⟩
 ·intro x hx; simp at hx
 ·intro x hx
  rw [← h4] at hx
  exact h7 x (List.mem_of_mem_take hx)
theorem dv_lt (s : ByteArray) : ∀ k : Nat, (∀ j : Nat, j < k → Dig (bt s j)) → dv s k < 10 ^ k
 | 0, _ => by simp [dv]
 | k + 1, h => by
  have ih := dv_lt s k (fun j hj => h j (by omega))
  have hd := h k (by omega)
  have h1 := hd.1
  have h2 := hd.2
  simp only [dv, Nat.pow_succ]
  omega
theorem num_len {l : List Nat} {s : ByteArray} (h : l = trimW l) (hd : AllDig s) (e : num l = dv s s.size) : l.length ≤ s.size := by
 by_cases h0 : l.length = 0
 ·omega
 ·have h1 := num_low l h (by omega)
  have h2 := dv_lt s s.size hd.2
  have h3 : 10 ^ s.size ≤ W64 ^ s.size := Nat.pow_le_pow_left (by unfold W64; omega) _
  rcases Nat.lt_or_ge s.size l.length with h4 | h4
  ·have h5 : W64 ^ s.size ≤ W64 ^ (l.length - 1) := Nat.pow_le_pow_right W64_pos (by omega)
   omega
  ·exact h4

/-! ### strconv.Atoi -/
theorem bt_list (s : ByteArray) (j : Nat) (h : j < s.data.toList.length) : bt s j = ((s.data.toList[j]'h).toNat : Int) := by
 have h2 : j < s.size := by simpa using h
 rw [← bt_at s j h2]
 simp [ByteArray.getElem_eq_getElem_data]
theorem allDig_list {s : ByteArray} (h : AllDig s) : ∀ c ∈ s.data.toList, 48 ≤ c.toNat ∧ c.toNat ≤ 57 := by
 intro c hc
 obtain ⟨j, hj, rfl⟩ := List.mem_iff_getElem.1 hc
 have := h.2 j (by simpa using hj)
 rw [bt_list s j hj] at this
 have h1 := this.1
 have h2 := this.2
 omega
theorem list_allDig {s : ByteArray} (h0 : 0 < s.size) (h : ∀ c ∈ s.data.toList, 48 ≤ c.toNat ∧ c.toNat ≤ 57) : AllDig s := by
 refine ⟨h0, fun j hj => ?_⟩
 have hj' : j < s.data.toList.length := by simpa using hj
 have := h _ (List.getElem_mem hj')
 rw [bt_list s j hj']
 exact ⟨by omega, by omega⟩
theorem parse_ok : ∀ (l : List UInt8) (acc k : Nat), (∀ c ∈ l, 48 ≤ c.toNat ∧ c.toNat ≤ 57) → acc < 10 ^ k → l.length + k ≤ 18 → ∃ u, Lib.parseUint10 acc l = .ok u ∧ u < 1000000000000000000
 | [], acc, k, _, h, hl => ⟨acc, rfl, by
  have hp : 10 ^ k ≤ 10 ^ 18 := Nat.pow_le_pow_right (by decide) (by simpa using hl)
  have e : (10 : Nat) ^ 18 = 1000000000000000000 := by decide
  omega⟩
 | c :: r, acc, k, hd, h, hl => by
  have hl' : r.length + 1 + k ≤ 18 := by simpa using hl
  have hp : 10 ^ k ≤ 10 ^ 17 := Nat.pow_le_pow_right (by decide) (by omega)
  have e17 : (10 : Nat) ^ 17 = 100000000000000000 := by decide
  have hc := hd c (by simp)
  simp only [Lib.parseUint10, if_pos hc]
  rw [if_neg (by omega), if_neg (by omega)]
  exact parse_ok r _ (k + 1) (fun x hx => hd x (by simp [hx])) (by rw [Nat.pow_succ]; omega) (by omega)
theorem parse_digits : ∀ (l : List UInt8) (acc u : Nat), Lib.parseUint10 acc l = .ok u → ∀ c ∈ l, 48 ≤ c.toNat ∧ c.toNat ≤ 57
 | [], _, _, _ => by simp
 | c :: r, acc, u, h => by
  simp only [Lib.parseUint10] at h
  split at h
  ·rename_i hc
   split at h
   ·cases h
   ·split at h
    ·cases h
    ·intro x hx
     rcases List.mem_cons.1 hx with e | e
     ·rw [e]; exact hc
     ·exact parse_digits r _ u h x e
  ·cases h
theorem atoi_yes (s : ByteArray) (h : AllDig s) (hl : s.size ≤ 18) : ∃ v, Lib.atoiAll s.data.toList = .ok v := by
 have hd := allDig_list h
 have hlen : s.data.toList.length = s.size := by simp
 have h0 := h.1
 obtain ⟨u, hu, hb⟩ := parse_ok s.data.toList 0 0 hd (by simp) (by omega)
 cases hs : s.data.toList with
 | nil => rw [hs] at hlen; simp at hlen; omega
 | cons c r =>
  rw [hs] at hu hd
  have hc := hd c (by simp)
  have e : Lib.parseMag (c :: r) = .ok u := by simp [Lib.parseMag, hu]
  refine ⟨u, ?_⟩
  simp only [Lib.atoiAll]
  rw [if_neg (by omega), e]
  simp only
  rw [if_neg (by omega), if_neg (by omega), if_neg (by omega)]
theorem atoi_not (s : ByteArray) (h : ¬ AllDig s) (h1 : bt s 0 ≠ 45) (h2 : bt s 0 ≠ 43) (v : Int) : Lib.atoiAll s.data.toList ≠ .ok v := by
 intro hv
 have hlen : s.data.toList.length = s.size := by simp
 cases hs : s.data.toList with
 | nil => rw [hs] at hv; simp [Lib.atoiAll] at hv
 | cons c r =>
  have hj : 0 < s.data.toList.length := by rw [hs]; simp
  have e : bt s 0 = ((s.data.toList[0]'hj).toNat : Int) := bt_list s 0 hj
  have hc : s.data.toList[0]'hj = c := by simp [hs]
  rw [hc] at e
  rw [hs] at hv
  simp only [Lib.atoiAll] at hv
  rw [if_neg (by omega)] at hv
  have hm : ∃ u, Lib.parseMag (c :: r) = .ok u := by
   rcases hp : Lib.parseMag (c :: r) with u | _ | _
   ·exact ⟨u, rfl⟩
   ·rw [hp] at hv; simp at hv
   ·rw [hp] at hv; simp at hv
  obtain ⟨u, hu⟩ := hm
  have hu2 : Lib.parseUint10 0 (c :: r) = .ok u := by simpa [Lib.parseMag] using hu
  have hd := parse_digits _ _ _ hu2
  rw [← hs] at hd
  exact h (list_allDig (by omega) hd)
/-- The sentinels that Atoi meets. -/
def GLa (w : World) : Prop := 5 < w.heap.size ∧ (∃ t p, w.cell? ⟨4, 0, none⟩ = some (.iface t p)) ∧ ∃ t p, w.cell? ⟨5, 0, none⟩ = some (.iface t p)
theorem GLa.below {w w' : World} {B : Nat} (h : GLa w) (hb : Below B w w') (hB : w.heap.size ≤ B) : GLa w' := by
 obtain ⟨h1, ⟨a1, p1, h2⟩, a2, p2, h3⟩ := h
 have ge : ∀ g : Nat, g ≤ 5 → w'.heap[g]? = w.heap[g]? := fun g hg => hb.block g (by omega)
 have hs := hb.size
 exact ⟨by omega, ⟨a1, p1, (World.cell?_of_block (ge _ (by decide))).trans h2⟩, a2, p2, (World.cell?_of_block (ge _ (by decide))).trans h3⟩
theorem atoi_ok_ (w : World) (s : ByteArray) (h : AllDig s) (hl : s.size ≤ 18) : ∃ v, Calls Tryz.prog 38 #[.string s] w fun e w' => e = .returned (.tuple #[.int .i64 v, .nilIface]) ∧ Below w.heap.size w w' := by
 obtain ⟨v, hv⟩ := atoi_yes s h hl
 refine ⟨v, (Tryz.strconv_Atoi_ok s (by omega) v hv w).mono ?_⟩
 rintro e w' ⟨rfl, hw⟩
 refine ⟨rfl, ?_⟩
 rcases hw with rfl | ⟨t, rfl⟩
 ·exact Below.refl _ _
 ·exact bytes_below (Below.refl _ _) (Nat.le_refl _) 5 t
theorem atoi_err_ (w : World) (s : ByteArray) (h : ¬ AllDig s) (hs : s.size ≤ 1000000) (h1 : bt s 0 ≠ 45) (h2 : bt s 0 ≠ 43) (hG : GLa w) : ∃ v, Calls Tryz.prog 38 #[.string s] w fun e w' => ∃ N, e = .returned (.tuple #[.int .i64 v, .iface 75 (.pointer (some ⟨N, 0, none⟩))]) ∧ Below w.heap.size w w' := by
 obtain ⟨g1, ⟨t1, p1, e1⟩, t2, p2, e2⟩ := hG
 rcases hv : Lib.atoiAll s.data.toList with v | _ | _
 ·exact absurd hv (atoi_not s h h1 h2 v)
 ·have h0 : Calls Tryz.prog 38 #[.string s] w fun e w' => ∃ N, e = .returned (.tuple #[.int .i64 0, .iface 75 (.pointer (some ⟨N, 0, none⟩))]) ∧ w.heap.size ≤ N ∧ w'.heap[N]? = some (.cells #[.string ⟨#[65, 116, 111, 105]⟩, .string s, .iface t1 p1] 94 (0, 0)) ∧ Below w.heap.size w w' :=
   Any.strconv_Atoi_syntax Tryz.laysC172 s (by omega) hv _ w e1 (.inr ⟨t1, p1, rfl⟩)
  refine ⟨0, h0.mono ?_⟩
  rintro e w' ⟨N, rfl, _, _, hb⟩
  exact ⟨N, rfl, hb⟩
 ·have h0 : Calls Tryz.prog 38 #[.string s] w fun e w' => ∃ N, e = .returned (.tuple #[.int .i64 (Lib.atoiSat s.data.toList), .iface 75 (.pointer (some ⟨N, 0, none⟩))]) ∧ w.heap.size ≤ N ∧ w'.heap[N]? = some (.cells #[.string ⟨#[65, 116, 111, 105]⟩, .string s, .iface t2 p2] 94 (0, 0)) ∧ Below w.heap.size w w' :=
   Any.strconv_Atoi_range Tryz.laysC172 s (by omega) hv _ w e2 (.inr ⟨t2, p2, rfl⟩)
  refine ⟨Lib.atoiSat s.data.toList, h0.mono ?_⟩
  rintro e w' ⟨N, rfl, _, _, hb⟩
  exact ⟨N, rfl, hb⟩
end Go.Proofs.YtdjkekgfeadmoaaGreatDoorG

/- Contract of math/big's Cmp at numbers that are not negative. -/
namespace Go.Proofs.YtdjkekgfeadmoaaGreatDoorG
open Go.RowKit Go.Proofs.YtdjkekgfeadmoaaGreatDoorW.PrintWords Go.Proofs.YtdjkekgfeadmoaaGreatDoorW.PrintLast
set_option linter.unusedVariables false
set_option linter.unusedSimpArgs false

theorem natCmpN (w : World) (Bx By : Nat) (vx vy : Value) (lx ly : List Nat) (hx : NatS w Bx vx lx) (hy : NatS w By vy ly) (tx : lx = trimW lx) (ty : ly = trimW ly) (hlx : lx.length ≤ 1000000) (hly : ly.length ≤ 1000000) :
  Calls Tryz.prog 46 #[vx, vy] w fun e w' => e = .returned (.int .i64 (cmpN (num lx) (num ly))) ∧ Drawn0 w w' := by
 refine (natCmp_ w Bx By vx vy lx ly hx hy hlx hly).mono ?_
 rintro e w' ⟨r, rfl, h, hd⟩
 exact ⟨by rw [cmpAt_num h tx ty hx.words hy.words], hd⟩
/-! ### Cmp -/
theorem intPointee : ∃ j, Tryz.prog.info? 62 = some j ∧ j.size ≠ 0 := by
 have h : (Tryz.prog.info? 62).map (fun i => i.size != 0) = some true := by kernel_rfl
 obtain ⟨j, hj, hz⟩ := Option.map_eq_some_iff.1 h
 exact ⟨j, hj, by simpa using hz⟩
theorem eq_ints {w : World} {a b : Nat} {va vb : Value} (ha : Bg w a false va) (hb : Bg w b false vb) (hab : a ≠ b) : (binOp .eql 50 (.pointer (some ⟨a, 0, none⟩)) (.pointer (some ⟨b, 0, none⟩))).run Tryz.prog w = .ok (.bool false) w := by
 obtain ⟨j, hj, hz⟩ := intPointee
 exact run_eql_ptr_other w Tryz.underlying50 hj hz (fun e => hab (by simpa using congrArg Addr.block e)) ha hb
set_option maxRecDepth 100000 in
set_option maxHeartbeats 4000000 in
theorem intCmp_ (w : World) (a b Bx By : Nat) (vx vy : Value) (lx ly : List Nat) (ha : Bg w a false vx) (hb : Bg w b false vy) (hab : a ≠ b) (hx : NatS w Bx vx lx) (hy : NatS w By vy ly) (tx : lx = trimW lx) (ty : ly = trimW ly) (hlx : lx.length ≤ 1000000) (hly : ly.length ≤ 1000000) :
  Calls Tryz.prog 36 #[.pointer (some ⟨a, 0, none⟩), .pointer (some ⟨b, 0, none⟩)] w fun e w' => e = .returned (.int .i64 (cmpN (num lx) (num ly))) ∧ Drawn0 w w' := by
 have e1 := eq_ints ha hb hab
 have a0 := ha.c0
 have a1 := ha.c1
 have b0 := hb.c0
 have b1 := hb.c1
 have HC := Aside0.mk (fun (W : World) (hW : W.heap = w.heap) => natCmpN W Bx By vx vy lx ly (hx.other (fun k _ _ => by rw [hW])) (hy.other (fun k _ _ => by rw [hW])) tx ty hlx hly)
 obtain ⟨px, cx, rfl⟩ := hx.shape
 obtain ⟨py, cy, rfl⟩ := hy.shape
 have HA := Aside0.mk (And.intro ha hb)
 clear ha hb hab hx hy hlx hly tx ty
 go_enter Tryz.func36, Tryz.ntmps36
 go_wp2
 go_quiet (fail)
 go_wp2
 go_quiet (first | (go_at_call 46; (refine (HC.out _ (by rfl)).mono ?_); rintro e w' ⟨rfl, ⟨nd, rfl⟩⟩; (try first | exact ⟨rfl, _, World.drewN_drewN _ _ _⟩ | exact ⟨rfl, _, Eq.trans (World.drewN_drewN _ _ _) (congrArg (World.drewN _) (Nat.add_assoc _ _ _))⟩)))
 go_wp2
 go_ret
 exact ⟨rfl, by repeat (first | exact Drawn0.refl _ | apply Drawn0.step)⟩
end Go.Proofs.YtdjkekgfeadmoaaGreatDoorG

/- How two components of a Packagist version compare: the plain order; the contracts of what the comparison calls, in the form that its walk uses. -/
namespace Go.Proofs.YtdjkekgfeadmoaaGreatDoorG
open Go.RowKit Go.Proofs.YtdjkekgfeadmoaaGreatDoorW.PrintWords Go.Proofs.YtdjkekgfeadmoaaGreatDoorW.PrintLast
set_option linter.unusedVariables false
set_option linter.unusedSimpArgs false

instance (s : ByteArray) : Decidable (AllDig s) := by
 unfold AllDig
 exact inferInstanceAs (Decidable (_ ∧ _))

/-! ### The plain order -/
def preB (s p : ByteArray) : Bool := decide (p.size ≤ s.size) && ((s.extract 0 p.size).toList == p.toList)
def weigh (s : ByteArray) : Int :=
 if preB s ⟨#[82, 67]⟩ then 3 else if preB s ⟨#[100, 101, 118]⟩ then 0 else if preB s ⟨#[97]⟩ then 1 else if preB s ⟨#[98]⟩ then 2 else if preB s ⟨#[114, 99]⟩ then 3 else if preB s ⟨#[35]⟩ then 4 else if preB s ⟨#[112]⟩ then 5 else 0
def cmpI (a b : Int) : Int := if b < a then 1 else if a < b then -1 else 0
def special (x y : ByteArray) : Int := cmpI (weigh x) (weigh y)
def hash : ByteArray := ⟨#[35]⟩
def cmpOne (x y : ByteArray) : Int :=
 if AllDig x then (if AllDig y then cmpN (dv x x.size) (dv y y.size) else special hash y) else (if AllDig y then special x hash else special x y)
/-- What is left over on the first side, on the second. -/
def prest : List ByteArray → Int
 | [] => 0
 | x :: l => if AllDig x then 1 else if special x hash = 0 then prest l else special x hash
def nrest : List ByteArray → Int
 | [] => 0
 | x :: l => if AllDig x then -1 else if special hash x = 0 then nrest l else special hash x
def pcmp : List ByteArray → List ByteArray → Int
 | [], m => nrest m
 | x :: l, [] => prest (x :: l)
 | x :: l, y :: m => if cmpOne x y = 0 then pcmp l m else cmpOne x y
theorem hash_no : ¬ AllDig hash := fun h => by
 have h2 := h.2 0 (by decide)
 have e : bt hash 0 = 35 := by decide
 exact absurd h2.1 (by show ¬ (48 ≤ bt hash 0); rw [e]; decide)
theorem pcmp_nil (l : List ByteArray) : pcmp l [] = prest l := by
 cases l with
 | nil => rfl
 | cons x l => rfl
theorem prest_cons {x : ByteArray} (l : List ByteArray) (h : ¬ AllDig x) : pcmp (x :: l) [hash] = prest (x :: l) := by
 simp only [pcmp, prest, cmpOne, if_neg h, if_neg hash_no, pcmp_nil]
theorem nrest_cons {x : ByteArray} (l : List ByteArray) (h : ¬ AllDig x) : pcmp [hash] (x :: l) = nrest (x :: l) := by
 simp only [pcmp, nrest, cmpOne, if_neg h, if_neg hash_no]
theorem cmpN_sign (a b : Nat) : cmpN a b = 0 ∨ cmpN a b = 1 ∨ cmpN a b = -1 := by
 unfold cmpN
 split
 ·exact .inr (.inr rfl)
 ·split
  ·exact .inr (.inl rfl)
  ·exact .inl rfl
theorem special_sign (x y : ByteArray) : special x y = 0 ∨ special x y = 1 ∨ special x y = -1 := by
 unfold special cmpI
 split
 ·exact .inr (.inl rfl)
 ·split
  ·exact .inr (.inr rfl)
  ·exact .inl rfl
theorem cmpOne_sign (x y : ByteArray) : cmpOne x y = 0 ∨ cmpOne x y = 1 ∨ cmpOne x y = -1 := by
 unfold cmpOne
 split
 ·split
  ·exact cmpN_sign _ _
  ·exact special_sign _ _
 ·split
  ·exact special_sign _ _
  ·exact special_sign _ _
/-- What a component that may be left over must be: at most 18 digits, where it is a number. -/
def Small (s : ByteArray) : Prop := AllDig s → s.size ≤ 18
instance (s : ByteArray) : Decidable (Small s) := inferInstanceAs (Decidable (_ → _))
theorem hash_plain : Plain hash := ⟨by decide, by decide, by decide⟩
theorem hash_small : Small hash := fun h => absurd h hash_no

/-! ### The contract of the weights -/
theorem hasPrefix_pre (s p : ByteArray) : Go.Proofs.YtdjkekgfeadmoaaGreatDoor.S.strings_HasPrefix.f s p = some (preB s p) := by
 unfold Go.Proofs.YtdjkekgfeadmoaaGreatDoor.S.strings_HasPrefix.f Go.Proofs.YtdjkekgfeadmoaaGreatDoor.S.stringslite_HasPrefix.f preB
 by_cases h : p.size ≤ s.size
 ·rw [if_pos (show (s.size : Int) ≥ (p.size : Int) by omega), if_pos (show (0 : Int) ≤ (p.size : Int) by omega), if_pos (show (p.size : Int) ≤ (s.size : Int) by omega), decide_eq_true h]
  simp
 ·rw [if_neg (show ¬ (s.size : Int) ≥ (p.size : Int) by omega), decide_eq_false h]
  rfl
theorem weigh_f (s : ByteArray) : Go.Proofs.YtdjkekgfeadmoaaGreatDoor.S.semantic_weighPackagistBuildCharacter.f 8 s = some (weigh s) := by
 unfold Go.Proofs.YtdjkekgfeadmoaaGreatDoor.S.semantic_weighPackagistBuildCharacter.f weigh
 rw [hasPrefix_pre]
 simp only [Option.bind_some]
 split
 ·rfl
 ·simp only [Go.Proofs.YtdjkekgfeadmoaaGreatDoor.S.semantic_weighPackagistBuildCharacter.l0, hasPrefix_pre, Option.bind_some, List.length_cons, List.length_nil]
  have w1 : wrap64 (0 + 1) = 1 := by unfold wrap64; omega
  have w2 : wrap64 (1 + 1) = 2 := by unfold wrap64; omega
  have w3 : wrap64 (2 + 1) = 3 := by unfold wrap64; omega
  have w4 : wrap64 (3 + 1) = 4 := by unfold wrap64; omega
  have w5 : wrap64 (4 + 1) = 5 := by unfold wrap64; omega
  have w6 : wrap64 (5 + 1) = 6 := by unfold wrap64; omega
  simp only [w1, w2, w3, w4, w5, w6, rdOf]
  simp
  repeat' split
  all_goals first | rfl | simp_all
theorem special_f (x y : ByteArray) : Go.Proofs.YtdjkekgfeadmoaaGreatDoor.S.semantic_comparePackagistSpecialVersions.f 8 x y = some (special x y) := by
 unfold Go.Proofs.YtdjkekgfeadmoaaGreatDoor.S.semantic_comparePackagistSpecialVersions.f special cmpI
 rw [weigh_f, weigh_f]
 simp only [Option.bind_some, gt_iff_lt]
 split
 ·rfl
 ·split
  ·rfl
  ·rfl
theorem special_ (w : World) (x y : ByteArray) : Calls Tryz.prog 37 #[.string x, .string y] w fun e w' => e = .returned (.int .i64 (special x y)) ∧ Below w.heap.size w w' :=
 Go.Proofs.YtdjkekgfeadmoaaGreatDoor.S.semantic_comparePackagistSpecialVersions.calls 8 x y (special x y) w (special_f x y)

/-! ### The contracts of the numbers -/
def BigAt (w : World) (a n : Nat) : Prop := ∃ v l, Bg w a false v ∧ NatS w a v l ∧ num l = n ∧ l = trimW l ∧ l.length ≤ 1000000
theorem NatS.lt {w : World} {B : Nat} {v : Value} {l : List Nat} (h : NatS w B v l) {w' : World} (hb : Below w.heap.size w w') : NatS w' B v l := by
 refine h.other (fun k _ hk => hb.block k hk)
theorem BigAt.below {w w' : World} {a n : Nat} (h : BigAt w a n) (hb : Below w.heap.size w w') : BigAt w' a n := by
 obtain ⟨v, l, h1, h2, h3⟩ := h
 exact ⟨v, l, h1.same (hb.block a h1.lt), h2.lt hb, h3⟩
theorem BigAt.lt {w : World} {a n : Nat} (h : BigAt w a n) : a < w.heap.size := by
 obtain ⟨v, l, h1, _⟩ := h
 exact h1.lt
theorem conv_yes (w : World) (s : ByteArray) (hp : Plain s) (hG : GLe w) (hd : AllDig s) :
  Calls Tryz.prog 35 #[.string s] w fun e w' => e = .returned (.tuple #[.pointer (some ⟨w.heap.size, 0, none⟩), .nilIface]) ∧ BigAt w' w.heap.size (dv s s.size) ∧ Below w.heap.size w w' := by
 obtain ⟨EV, h⟩ := convert_all w s hp hG
 refine h.mono ?_
 rintro e w' ⟨h1, _, hb⟩
 obtain ⟨v, l, rfl, k1, k2, k3, k4⟩ := h1 hd
 exact ⟨rfl, ⟨v, l, k1, k2, k3, k4, Nat.le_trans (num_len k4 hd k3) hp.1⟩, hb⟩
theorem conv_no (w : World) (s : ByteArray) (hp : Plain s) (hG : GLe w) (hd : ¬ AllDig s) :
  ∃ a, Calls Tryz.prog 35 #[.string s] w fun e w' => e = .returned (.tuple #[.pointer none, .iface 103 (.pointer (some a))]) ∧ Below w.heap.size w w' := by
 obtain ⟨EV, h⟩ := convert_all w s hp hG
 refine ⟨EV, h.mono ?_⟩
 rintro e w' ⟨_, h1, hb⟩
 exact ⟨h1 hd, hb⟩
theorem cmp_big (w : World) (a b n m : Nat) (ha : BigAt w a n) (hb : BigAt w b m) (hab : a ≠ b) :
  Calls Tryz.prog 36 #[.pointer (some ⟨a, 0, none⟩), .pointer (some ⟨b, 0, none⟩)] w fun e w' => e = .returned (.int .i64 (cmpN n m)) ∧ Below w.heap.size w w' := by
 obtain ⟨vx, lx, a1, a2, a3, a4, a5⟩ := ha
 obtain ⟨vy, ly, b1, b2, b3, b4, b5⟩ := hb
 refine (intCmp_ w a b a b vx vy lx ly a1 b1 hab a2 b2 a4 b4 a5 b5).mono ?_
 rintro e w' ⟨rfl, hd⟩
 exact ⟨by rw [a3, b3], hd.below⟩
theorem cell_old {w w' : World} {p : Addr} {v : Value} (hb : Below w.heap.size w w') (h : w.cell? p = some v) : w'.cell? p = some v := by
 rw [← h]
 refine World.cell?_of_block (hb.block _ ?_)
 rcases Nat.lt_or_ge p.block w.heap.size with hl | hl
 ·exact hl
 ·unfold World.cell? at h
  rw [Array.getElem?_eq_none hl] at h
  cases h
theorem C_below {w w' : World} {A : Option Addr} {l : List ByteArray} (h : Kd.C Kd.string w A l.length l) (hb : Below w.heap.size w w') : Kd.C Kd.string w' A l.length l := by
 refine ⟨h.1, h.2.1, fun hp => ?_⟩
 obtain ⟨ad, e, hc⟩ := h.2.2 hp
 refine ⟨ad, e, fun j p hj => ?_⟩
 obtain ⟨cs, h1, h2, h3⟩ := hc j p hj
 refine ⟨cs, ?_, h2, fun i u hu => cell_old hb (h3 i u hu)⟩
 exact h1
end Go.Proofs.YtdjkekgfeadmoaaGreatDoorG

/- Contract of comparePackagistComponents: two lists of components compare as the plain order says. -/
namespace Go.Proofs.YtdjkekgfeadmoaaGreatDoorG
open Go.RowKit Go.Proofs.YtdjkekgfeadmoaaGreatDoorW.PrintWords Go.Proofs.YtdjkekgfeadmoaaGreatDoorW.PrintLast
set_option linter.unusedVariables false
set_option linter.unusedSimpArgs false

def Goods (l : List ByteArray) : Prop := 0 < l.length ∧ l.length ≤ 1000000 ∧ ∀ x ∈ l, Plain x
def CompAt (la lb : List ByteArray) : Prop := ∀ (w : World) (A0 : Option Addr) (c0 : Nat) (A1 : Option Addr) (c1 : Nat), Kd.C Kd.string w A0 la.length la → la.length ≤ c0 → Kd.C Kd.string w A1 lb.length lb → lb.length ≤ c1 → GLe w → GLa w →
 Calls Tryz.prog 28 #[.slice A0 la.length c0, .slice A1 lb.length c1] w fun e w' => e = .returned (.int .i64 (pcmp la lb)) ∧ Below w.heap.size w w'
theorem rd_drop {l : List ByteArray} {k : Nat} (h : k < l.length) : l.drop k = rdOf ByteArray.empty l (k : Int) :: l.drop (k + 1) := by
 rw [List.drop_eq_getElem_cons h]
 simp [rdOf, List.getD_eq_getElem?_getD, h]
theorem rd_mem {l : List ByteArray} {k : Nat} (h : k < l.length) : rdOf ByteArray.empty l (k : Int) ∈ l := by
 have e : rdOf ByteArray.empty l (k : Int) = l[k] := by simp [rdOf, List.getD_eq_getElem?_getD, h]
 rw [e]
 exact List.getElem_mem h
theorem hash_row (W : World) : Kd.C Kd.string (W.alloc (.cells #[.string hash] 9)) (some ⟨W.heap.size, 0, none⟩) [hash].length [hash] := by
 refine ⟨rfl, by decide, fun _ => ⟨_, rfl, fun j p hj => ?_⟩⟩
 cases j with
 | zero =>
  have e : p = hash := by simpa using hj.symm
  subst e
  refine ⟨[.string hash], rfl, rfl, fun i u hu => ?_⟩
  cases i with
  | zero =>
   have e : u = .string hash := by simpa using hu.symm
   subst e
   have h := alloc_at W (.cells #[.string hash] 9)
   simp only [World.cell?, add_plain, Kd.sz, Nat.zero_mul, Nat.zero_add, h]
   rfl
  | succ i => simp at hu
 | succ j => simp at hj

theorem row_rest {l : List ByteArray} {m c : Nat} {w W : World} {ad : Addr} (K : Kd.C Kd.string w (some ad) l.length l) (hc : l.length ≤ c) (hm : m < l.length) (hW : Below w.heap.size w W) :
  Kd.C Kd.string W (some (ad.add m)) (l.drop m).length (l.drop m) := by
 have hd := Kd.C_drop (m := m) (c := c) K (by omega) hc
 rw [if_neg (by omega)] at hd
 have e : (some ad).map (fun x : Addr => x.add (m * Kd.string.sz)) = some (ad.add m) := by
  show some (ad.add (m * 1)) = _
  rw [Nat.mul_one]
 rw [e] at hd
 exact C_below hd hW
theorem rec_a {l : List ByteArray} {m : Nat} (h : CompAt (l.drop m) [hash]) {w : World} {ad : Addr} {c : Nat} (K : Kd.C Kd.string w (some ad) l.length l) (hc : l.length ≤ c) (hm : m < l.length) (w1 : World) (hb : Below w.heap.size w w1) (hG : GLe w) (hA : GLa w) :
  Calls Tryz.prog 28 #[.slice (some (ad.add m)) (l.length - m) (c - m), .slice (some ⟨w1.heap.size, 0, none⟩) 1 1] (w1.alloc (.cells #[.string { data := #[35] }] 9)) fun e w' => e = .returned (.int .i64 (pcmp (l.drop m) [hash])) ∧ Below w.heap.size w w' := by
 have hW : Below w.heap.size w (w1.alloc (.cells #[.string { data := #[35] }] 9)) := below_alloc hb _
 have hl : (l.drop m).length = l.length - m := List.length_drop
 have k := h _ (some (ad.add m)) (c - m) (some ⟨w1.heap.size, 0, none⟩) 1 (row_rest K hc hm hW) (by omega) (hash_row w1) (by decide) (hG.below hW (Nat.le_refl _)) (hA.below hW (Nat.le_refl _))
 rw [hl] at k
 exact k.mono (fun e w' he => ⟨he.1, below_step hW he.2⟩)
theorem rec_b {l : List ByteArray} {m : Nat} (h : CompAt [hash] (l.drop m)) {w : World} {ad : Addr} {c : Nat} (K : Kd.C Kd.string w (some ad) l.length l) (hc : l.length ≤ c) (hm : m < l.length) (w1 : World) (hb : Below w.heap.size w w1) (hG : GLe w) (hA : GLa w) :
  Calls Tryz.prog 28 #[.slice (some ⟨w1.heap.size, 0, none⟩) 1 1, .slice (some (ad.add m)) (l.length - m) (c - m)] (w1.alloc (.cells #[.string { data := #[35] }] 9)) fun e w' => e = .returned (.int .i64 (pcmp [hash] (l.drop m))) ∧ Below w.heap.size w w' := by
 have hW : Below w.heap.size w (w1.alloc (.cells #[.string { data := #[35] }] 9)) := below_alloc hb _
 have hl : (l.drop m).length = l.length - m := List.length_drop
 have k := h _ (some ⟨w1.heap.size, 0, none⟩) 1 (some (ad.add m)) (c - m) (hash_row w1) (by decide) (row_rest K hc hm hW) (by omega) (hG.below hW (Nat.le_refl _)) (hA.below hW (Nat.le_refl _))
 rw [hl] at k
 exact k.mono (fun e w' he => ⟨he.1, below_step hW he.2⟩)
theorem meas_up0 (n k : Nat) (h : k < n) : n - (intOf (.int .i64 ((k + 1 : Nat) : Int))).toNat < n - (intOf (.int .i64 (k : Int))).toNat := by
 simp only [intOf]
 omega
theorem meas_up1 (n k : Nat) (h : k < n) : n - (intOf (.int .i64 ((k : Int) + 1))).toNat < n - (intOf (.int .i64 (k : Int))).toNat := by
 simp only [intOf]
 omega
theorem meas_up2 (n k : Nat) (h : k < n) (e : wrap64 ((k : Int) + 1) = ((k + 1 : Nat) : Int)) : n - (intOf (.int .i64 (wrap64 ((k : Int) + 1)))).toNat < n - (intOf (.int .i64 (k : Int))).toNat := by
 rw [e]
 exact meas_up0 n k h
set_option maxRecDepth 100000 in
set_option maxHeartbeats 8000000 in
theorem comp_step (la lb : List ByteArray) (ha : Goods la) (hb : Goods lb) (hsm : la.length ≠ lb.length → (∀ x ∈ la, Small x) ∧ ∀ x ∈ lb, Small x) (hra : lb.length < la.length → CompAt (la.drop lb.length) [hash]) (hrb : la.length < lb.length → CompAt [hash] (lb.drop la.length)) : CompAt la lb := by
 intro w A0 c0 A1 c1 C0 hc0 C1 hc1 hG hA
 obtain ⟨n, hn⟩ : ∃ n, n = min la.length lb.length := ⟨_, rfl⟩
 have HN := Aside0.mk hn
 have h0 := ha.1
 have h1 := hb.1
 have hna : n ≤ la.length := by omega
 have hnb : n ≤ lb.length := by omega
 have hmin : ((min la.length lb.length : Nat) : Int) = (n : Int) := by rw [hn]
 have SM := Aside0.mk hsm
 have FA := Aside0.mk ha
 have FB := Aside0.mk hb
 have RA := Aside0.mk hra
 have RB := Aside0.mk hrb
 have K0 := Aside0.mk C0
 have K1 := Aside0.mk C1
 have G := Aside0.mk hG
 have GA := Aside0.mk hA
 have HC0 := Aside0.mk hc0
 have HC1 := Aside0.mk hc1
 obtain ⟨ad0, e0, _⟩ := Kd.at_string C0 0 (by omega) (by omega)
 obtain ⟨ad1, e1, _⟩ := Kd.at_string C1 0 (by omega) (by omega)
 subst e0
 subst e1
 have R0 : Aside0 (∀ k : Nat, k < la.length → w.cell? (ad0.add k) = some (.string (rdOf ByteArray.empty la (k : Int)))) := ⟨fun k hk => by
  obtain ⟨ad, e, h⟩ := Kd.at_string C0 (k : Int) (by omega) (by omega)
  cases e
  simpa using h⟩
 have R1 : Aside0 (∀ k : Nat, k < lb.length → w.cell? (ad1.add k) = some (.string (rdOf ByteArray.empty lb (k : Int)))) := ⟨fun k hk => by
  obtain ⟨ad, e, h⟩ := Kd.at_string C1 (k : Int) (by omega) (by omega)
  cases e
  simpa using h⟩
 have HNA := Aside0.mk hna
 have HNB := Aside0.mk hnb
 have M1 : (min (la.length : Int) (lb.length : Int)) = (n : Int) := by omega
 have HW := Aside0.mk (Below.refl w.heap.size w)
 clear ha hb hsm hra hrb C0 C1 hG hA hc0 hc1 hn h0 h1 hna hnb
 go_enter Tryz.func28, Tryz.ntmps28
 go_wp2

 go_loopw [24] (fun i wr => ∃ k : Nat, k ≤ n ∧ i = .int .i64 k ∧ Aside0 (pcmp la lb = pcmp (la.drop k) (lb.drop k)) ∧ Aside0 (Below w.heap.size w wr)) (fun i _ => n - (intOf i).toNat)
 case atStart => exact ⟨0, Nat.zero_le _, rfl, ⟨rfl⟩, HW⟩
 case round =>
  obtain ⟨k, hk, rfl, hp, hw⟩ := hrel
  have HG := Aside0.mk (G.out.below hw.out (Nat.le_refl _))
  by_cases hlt : k < n
  ·have hka : k < la.length := by have := HNA.out; omega
   have hkb : k < lb.length := by have := HNB.out; omega
   have da := rd_drop hka
   have db := rd_drop hkb
   have ga := FA.out.2.2 _ (rd_mem hka)
   have gb := FB.out.2.2 _ (rd_mem hkb)
   have x0 := cell_old hw.out (R0.out k hka)
   have y0 := cell_old hw.out (R1.out k hkb)
   obtain ⟨x, hx⟩ : ∃ x, x = rdOf ByteArray.empty la (k : Int) := ⟨_, rfl⟩
   obtain ⟨y, hy⟩ : ∃ y, y = rdOf ByteArray.empty lb (k : Int) := ⟨_, rfl⟩
   rw [← hx] at da ga x0
   rw [← hy] at db gb y0
   have OX := Aside0.mk (fun W (hW : Below wr.heap.size wr W) => cell_old hW x0)
   have OY := Aside0.mk (fun W (hW : Below wr.heap.size wr W) => cell_old hW y0)
   have PX := Aside0.mk ga
   have PY := Aside0.mk gb
   have i0 : (0 ≤ (k : Int)) = True := eq_true (by omega)
   have i1 : ((k : Int) < (la.length : Int)) = True := eq_true (by omega)
   have i2 : ((k : Int) < (lb.length : Int)) = True := eq_true (by omega)
   have i3 : decide ((k : Int) < (n : Int)) = true := decide_eq_true (by omega)
   have i4 : ((k : Int) < (n : Int)) = True := eq_true (by omega)
   have STEP : Aside0 (cmpOne x y = 0 → pcmp la lb = pcmp (la.drop (k + 1)) (lb.drop (k + 1))) := ⟨fun hc => by
    rw [hp.out, da, db]
    show (if cmpOne x y = 0 then _ else _) = _
    rw [if_pos hc]⟩
   have STOP : Aside0 (cmpOne x y ≠ 0 → pcmp la lb = cmpOne x y) := ⟨fun hc => by
    rw [hp.out, da, db]
    show (if cmpOne x y = 0 then _ else _) = _
    rw [if_neg hc]⟩
   have LT := Aside0.mk hlt
   have NS : Aside0 (k + 1 ≤ n ∧ n ≤ 1000000) := ⟨by have := FA.out.2.1; have := HNA.out; omega⟩
   have WR : wrap64 ((k : Int) + 1) = ((k + 1 : Nat) : Int) := by have := NS.out.2; unfold wrap64; omega
   clear hka hkb da db ga gb hx hy hlt
   by_cases hdx : AllDig x
   ·by_cases hdy : AllDig y
    ·have EC : cmpOne x y = cmpN (dv x x.size) (dv y y.size) := by (unfold cmpOne; rw [if_pos hdx, if_pos hdy]); first | done | rfl
     rw [EC] at STEP STOP
     obtain ⟨c, hc⟩ : ∃ c, c = cmpN (dv x x.size) (dv y y.size) := ⟨_, rfl⟩
     rw [← hc] at STEP STOP
     have hs : c = 0 ∨ c = 1 ∨ c = -1 := by rw [hc, ← EC]; exact cmpOne_sign x y
     have HDX := Aside0.mk hdx
     have HDY := Aside0.mk hdy
     clear hdx hdy EC
     rcases hs with h | h | h
     ·rw [h] at hc STEP STOP
      have HCC := Aside0.mk hc.symm
      have ST := Aside0.mk (STEP.out rfl)
      clear hc h STEP STOP
      have CX := Aside0.mk (conv_yes wr x PX.out HG.out HDX.out)
      go_wp2_with (first | (go_at_call 35; (with_reducible refine CX.out.mono ?_); rintro e' w1 ⟨rfl, big1, b1⟩; have BIG1 := Aside0.mk big1; clear big1; have B1 := Aside0.mk b1; clear b1; have x1 := OX.out w1 B1.out; have y1 := OY.out w1 B1.out; have HG1 := Aside0.mk (HG.out.below B1.out (Nat.le_refl _))) | (go_at_call 35; (with_reducible refine (conv_yes w1 y PY.out HG1.out HDY.out).mono ?_); rintro e' w2 ⟨rfl, big2, b2⟩; have BIG2 := Aside0.mk big2; clear big2; have B2 := Aside0.mk (below_step B1.out b2); have BIG1' := Aside0.mk (BIG1.out.below b2); clear b2; have x2 := OX.out w2 B2.out; have y2 := OY.out w2 B2.out) | (go_at_call 36; (with_reducible refine (cmp_big w2 _ _ _ _ BIG1'.out BIG2.out (Nat.ne_of_lt BIG1.out.lt)).mono ?_); rintro e' w3 ⟨he3, b3⟩; rw [HCC.out] at he3; subst he3; have B3 := Aside0.mk (below_step B2.out b3); clear b3))
      go_roundw
      case rel => exact ⟨k + 1, NS.out.1, by first | rfl | go_num, ST, ⟨below_step hw.out B3.out⟩⟩
      case measure => first | exact meas_up0 n k LT.out | exact meas_up1 n k LT.out | exact meas_up2 n k LT.out WR
     ·rw [h] at hc STEP STOP
      have HCC := Aside0.mk hc.symm
      have SP := Aside0.mk (STOP.out (by decide))
      clear hc h STEP STOP
      have CX := Aside0.mk (conv_yes wr x PX.out HG.out HDX.out)
      go_wp2_with (first | (go_at_call 35; (with_reducible refine CX.out.mono ?_); rintro e' w1 ⟨rfl, big1, b1⟩; have BIG1 := Aside0.mk big1; clear big1; have B1 := Aside0.mk b1; clear b1; have x1 := OX.out w1 B1.out; have y1 := OY.out w1 B1.out; have HG1 := Aside0.mk (HG.out.below B1.out (Nat.le_refl _))) | (go_at_call 35; (with_reducible refine (conv_yes w1 y PY.out HG1.out HDY.out).mono ?_); rintro e' w2 ⟨rfl, big2, b2⟩; have BIG2 := Aside0.mk big2; clear big2; have B2 := Aside0.mk (below_step B1.out b2); have BIG1' := Aside0.mk (BIG1.out.below b2); clear b2; have x2 := OX.out w2 B2.out; have y2 := OY.out w2 B2.out) | (go_at_call 36; (with_reducible refine (cmp_big w2 _ _ _ _ BIG1'.out BIG2.out (Nat.ne_of_lt BIG1.out.lt)).mono ?_); rintro e' w3 ⟨he3, b3⟩; rw [HCC.out] at he3; subst he3; have B3 := Aside0.mk (below_step B2.out b3); clear b3))
      go_ret
      exact ⟨by rw [SP.out]; rfl, below_step hw.out B3.out⟩
     ·rw [h] at hc STEP STOP
      have HCC := Aside0.mk hc.symm
      have SP := Aside0.mk (STOP.out (by decide))
      clear hc h STEP STOP
      have CX := Aside0.mk (conv_yes wr x PX.out HG.out HDX.out)
      go_wp2_with (first | (go_at_call 35; (with_reducible refine CX.out.mono ?_); rintro e' w1 ⟨rfl, big1, b1⟩; have BIG1 := Aside0.mk big1; clear big1; have B1 := Aside0.mk b1; clear b1; have x1 := OX.out w1 B1.out; have y1 := OY.out w1 B1.out; have HG1 := Aside0.mk (HG.out.below B1.out (Nat.le_refl _))) | (go_at_call 35; (with_reducible refine (conv_yes w1 y PY.out HG1.out HDY.out).mono ?_); rintro e' w2 ⟨rfl, big2, b2⟩; have BIG2 := Aside0.mk big2; clear big2; have B2 := Aside0.mk (below_step B1.out b2); have BIG1' := Aside0.mk (BIG1.out.below b2); clear b2; have x2 := OX.out w2 B2.out; have y2 := OY.out w2 B2.out) | (go_at_call 36; (with_reducible refine (cmp_big w2 _ _ _ _ BIG1'.out BIG2.out (Nat.ne_of_lt BIG1.out.lt)).mono ?_); rintro e' w3 ⟨he3, b3⟩; rw [HCC.out] at he3; subst he3; have B3 := Aside0.mk (below_step B2.out b3); clear b3))
      go_ret
      exact ⟨by rw [SP.out]; rfl, below_step hw.out B3.out⟩
    ·have EC : cmpOne x y = special (⟨#[35]⟩ : ByteArray) y := by (unfold cmpOne; rw [if_pos hdx, if_neg hdy]); first | done | rfl
     rw [EC] at STEP STOP
     obtain ⟨c, hc⟩ : ∃ c, c = special (⟨#[35]⟩ : ByteArray) y := ⟨_, rfl⟩
     rw [← hc] at STEP STOP
     have hs : c = 0 ∨ c = 1 ∨ c = -1 := by rw [hc, ← EC]; exact cmpOne_sign x y
     have HDX := Aside0.mk hdx
     have HDY := Aside0.mk hdy
     clear hdx hdy EC
     rcases hs with h | h | h
     ·rw [h] at hc STEP STOP
      have HCC := Aside0.mk hc.symm
      have ST := Aside0.mk (STEP.out rfl)
      clear hc h STEP STOP
      have CX := Aside0.mk (conv_yes wr x PX.out HG.out HDX.out)
      go_wp2_with (first | (go_at_call 35; (with_reducible refine CX.out.mono ?_); rintro e' w1 ⟨rfl, big1, b1⟩; have BIG1 := Aside0.mk big1; clear big1; have B1 := Aside0.mk b1; clear b1; have x1 := OX.out w1 B1.out; have y1 := OY.out w1 B1.out; have HG1 := Aside0.mk (HG.out.below B1.out (Nat.le_refl _))) | (go_at_call 35; obtain ⟨ey, hey⟩ := conv_no w1 y PY.out HG1.out HDY.out; (with_reducible refine hey.mono ?_); clear hey; rintro e' w2 ⟨rfl, b2⟩; have B2 := Aside0.mk (below_step B1.out b2); clear b2; have x2 := OX.out w2 B2.out; have y2 := OY.out w2 B2.out) | (go_at_call 37; (with_reducible refine (special_ _ (⟨#[35]⟩ : ByteArray) y).mono ?_); rintro e' w3 ⟨he3, b3⟩; rw [HCC.out] at he3; subst he3; have B3 := Aside0.mk (below_step B2.out b3); clear b3))
      go_roundw
      case rel => exact ⟨k + 1, NS.out.1, by first | rfl | go_num, ST, ⟨below_step hw.out B3.out⟩⟩
      case measure => first | exact meas_up0 n k LT.out | exact meas_up1 n k LT.out | exact meas_up2 n k LT.out WR
     ·rw [h] at hc STEP STOP
      have HCC := Aside0.mk hc.symm
      have SP := Aside0.mk (STOP.out (by decide))
      clear hc h STEP STOP
      have CX := Aside0.mk (conv_yes wr x PX.out HG.out HDX.out)
      go_wp2_with (first | (go_at_call 35; (with_reducible refine CX.out.mono ?_); rintro e' w1 ⟨rfl, big1, b1⟩; have BIG1 := Aside0.mk big1; clear big1; have B1 := Aside0.mk b1; clear b1; have x1 := OX.out w1 B1.out; have y1 := OY.out w1 B1.out; have HG1 := Aside0.mk (HG.out.below B1.out (Nat.le_refl _))) | (go_at_call 35; obtain ⟨ey, hey⟩ := conv_no w1 y PY.out HG1.out HDY.out; (with_reducible refine hey.mono ?_); clear hey; rintro e' w2 ⟨rfl, b2⟩; have B2 := Aside0.mk (below_step B1.out b2); clear b2; have x2 := OX.out w2 B2.out; have y2 := OY.out w2 B2.out) | (go_at_call 37; (with_reducible refine (special_ _ (⟨#[35]⟩ : ByteArray) y).mono ?_); rintro e' w3 ⟨he3, b3⟩; rw [HCC.out] at he3; subst he3; have B3 := Aside0.mk (below_step B2.out b3); clear b3))
      go_ret
      exact ⟨by rw [SP.out]; rfl, below_step hw.out B3.out⟩
     ·rw [h] at hc STEP STOP
      have HCC := Aside0.mk hc.symm
      have SP := Aside0.mk (STOP.out (by decide))
      clear hc h STEP STOP
      have CX := Aside0.mk (conv_yes wr x PX.out HG.out HDX.out)
      go_wp2_with (first | (go_at_call 35; (with_reducible refine CX.out.mono ?_); rintro e' w1 ⟨rfl, big1, b1⟩; have BIG1 := Aside0.mk big1; clear big1; have B1 := Aside0.mk b1; clear b1; have x1 := OX.out w1 B1.out; have y1 := OY.out w1 B1.out; have HG1 := Aside0.mk (HG.out.below B1.out (Nat.le_refl _))) | (go_at_call 35; obtain ⟨ey, hey⟩ := conv_no w1 y PY.out HG1.out HDY.out; (with_reducible refine hey.mono ?_); clear hey; rintro e' w2 ⟨rfl, b2⟩; have B2 := Aside0.mk (below_step B1.out b2); clear b2; have x2 := OX.out w2 B2.out; have y2 := OY.out w2 B2.out) | (go_at_call 37; (with_reducible refine (special_ _ (⟨#[35]⟩ : ByteArray) y).mono ?_); rintro e' w3 ⟨he3, b3⟩; rw [HCC.out] at he3; subst he3; have B3 := Aside0.mk (below_step B2.out b3); clear b3))
      go_ret
      exact ⟨by rw [SP.out]; rfl, below_step hw.out B3.out⟩
   ·by_cases hdy : AllDig y
    ·have EC : cmpOne x y = special x (⟨#[35]⟩ : ByteArray) := by (unfold cmpOne; rw [if_neg hdx, if_pos hdy]); first | done | rfl
     rw [EC] at STEP STOP
     obtain ⟨c, hc⟩ : ∃ c, c = special x (⟨#[35]⟩ : ByteArray) := ⟨_, rfl⟩
     rw [← hc] at STEP STOP
     have hs : c = 0 ∨ c = 1 ∨ c = -1 := by rw [hc, ← EC]; exact cmpOne_sign x y
     have HDX := Aside0.mk hdx
     have HDY := Aside0.mk hdy
     clear hdx hdy EC
     rcases hs with h | h | h
     ·rw [h] at hc STEP STOP
      have HCC := Aside0.mk hc.symm
      have ST := Aside0.mk (STEP.out rfl)
      clear hc h STEP STOP
      have CX := Aside0.mk (conv_no wr x PX.out HG.out HDX.out)
      obtain ⟨ex, hex⟩ := CX.out
      have CX := Aside0.mk hex
      clear hex
      go_wp2_with (first | (go_at_call 35; (with_reducible refine CX.out.mono ?_); rintro e' w1 ⟨rfl, b1⟩; have B1 := Aside0.mk b1; clear b1; have x1 := OX.out w1 B1.out; have y1 := OY.out w1 B1.out; have HG1 := Aside0.mk (HG.out.below B1.out (Nat.le_refl _))) | (go_at_call 35; (with_reducible refine (conv_yes w1 y PY.out HG1.out HDY.out).mono ?_); rintro e' w2 ⟨rfl, big2, b2⟩; have BIG2 := Aside0.mk big2; clear big2; have B2 := Aside0.mk (below_step B1.out b2); clear b2; have x2 := OX.out w2 B2.out; have y2 := OY.out w2 B2.out) | (go_at_call 37; (with_reducible refine (special_ _ x (⟨#[35]⟩ : ByteArray)).mono ?_); rintro e' w3 ⟨he3, b3⟩; rw [HCC.out] at he3; subst he3; have B3 := Aside0.mk (below_step B2.out b3); clear b3))
      go_roundw
      case rel => exact ⟨k + 1, NS.out.1, by first | rfl | go_num, ST, ⟨below_step hw.out B3.out⟩⟩
      case measure => first | exact meas_up0 n k LT.out | exact meas_up1 n k LT.out | exact meas_up2 n k LT.out WR
     ·rw [h] at hc STEP STOP
      have HCC := Aside0.mk hc.symm
      have SP := Aside0.mk (STOP.out (by decide))
      clear hc h STEP STOP
      have CX := Aside0.mk (conv_no wr x PX.out HG.out HDX.out)
      obtain ⟨ex, hex⟩ := CX.out
      have CX := Aside0.mk hex
      clear hex
      go_wp2_with (first | (go_at_call 35; (with_reducible refine CX.out.mono ?_); rintro e' w1 ⟨rfl, b1⟩; have B1 := Aside0.mk b1; clear b1; have x1 := OX.out w1 B1.out; have y1 := OY.out w1 B1.out; have HG1 := Aside0.mk (HG.out.below B1.out (Nat.le_refl _))) | (go_at_call 35; (with_reducible refine (conv_yes w1 y PY.out HG1.out HDY.out).mono ?_); rintro e' w2 ⟨rfl, big2, b2⟩; have BIG2 := Aside0.mk big2; clear big2; have B2 := Aside0.mk (below_step B1.out b2); clear b2; have x2 := OX.out w2 B2.out; have y2 := OY.out w2 B2.out) | (go_at_call 37; (with_reducible refine (special_ _ x (⟨#[35]⟩ : ByteArray)).mono ?_); rintro e' w3 ⟨he3, b3⟩; rw [HCC.out] at he3; subst he3; have B3 := Aside0.mk (below_step B2.out b3); clear b3))
      go_ret
      exact ⟨by rw [SP.out]; rfl, below_step hw.out B3.out⟩
     ·rw [h] at hc STEP STOP
      have HCC := Aside0.mk hc.symm
      have SP := Aside0.mk (STOP.out (by decide))
      clear hc h STEP STOP
      have CX := Aside0.mk (conv_no wr x PX.out HG.out HDX.out)
      obtain ⟨ex, hex⟩ := CX.out
      have CX := Aside0.mk hex
      clear hex
      go_wp2_with (first | (go_at_call 35; (with_reducible refine CX.out.mono ?_); rintro e' w1 ⟨rfl, b1⟩; have B1 := Aside0.mk b1; clear b1; have x1 := OX.out w1 B1.out; have y1 := OY.out w1 B1.out; have HG1 := Aside0.mk (HG.out.below B1.out (Nat.le_refl _))) | (go_at_call 35; (with_reducible refine (conv_yes w1 y PY.out HG1.out HDY.out).mono ?_); rintro e' w2 ⟨rfl, big2, b2⟩; have BIG2 := Aside0.mk big2; clear big2; have B2 := Aside0.mk (below_step B1.out b2); clear b2; have x2 := OX.out w2 B2.out; have y2 := OY.out w2 B2.out) | (go_at_call 37; (with_reducible refine (special_ _ x (⟨#[35]⟩ : ByteArray)).mono ?_); rintro e' w3 ⟨he3, b3⟩; rw [HCC.out] at he3; subst he3; have B3 := Aside0.mk (below_step B2.out b3); clear b3))
      go_ret
      exact ⟨by rw [SP.out]; rfl, below_step hw.out B3.out⟩
    ·have EC : cmpOne x y = special x y := by (unfold cmpOne; rw [if_neg hdx, if_neg hdy]); first | done | rfl
     rw [EC] at STEP STOP
     obtain ⟨c, hc⟩ : ∃ c, c = special x y := ⟨_, rfl⟩
     rw [← hc] at STEP STOP
     have hs : c = 0 ∨ c = 1 ∨ c = -1 := by rw [hc, ← EC]; exact cmpOne_sign x y
     have HDX := Aside0.mk hdx
     have HDY := Aside0.mk hdy
     clear hdx hdy EC
     rcases hs with h | h | h
     ·rw [h] at hc STEP STOP
      have HCC := Aside0.mk hc.symm
      have ST := Aside0.mk (STEP.out rfl)
      clear hc h STEP STOP
      have CX := Aside0.mk (conv_no wr x PX.out HG.out HDX.out)
      obtain ⟨ex, hex⟩ := CX.out
      have CX := Aside0.mk hex
      clear hex
      go_upto_region 12 with (first | (go_at_call 35; (with_reducible refine CX.out.mono ?_); rintro e' w1 ⟨rfl, b1⟩; have B1 := Aside0.mk b1; clear b1; have x1 := OX.out w1 B1.out; have y1 := OY.out w1 B1.out; have HG1 := Aside0.mk (HG.out.below B1.out (Nat.le_refl _))) | (go_at_call 35; obtain ⟨ey, hey⟩ := conv_no w1 y PY.out HG1.out HDY.out; (with_reducible refine hey.mono ?_); clear hey; rintro e' w2 ⟨rfl, b2⟩; have B2 := Aside0.mk (below_step B1.out b2); clear b2; have x2 := OX.out w2 B2.out; have y2 := OY.out w2 B2.out))
      go_still_tail 8, (by kernel_rfl)
      change wpList _ _ _ _ _ w2.drew
      have B2D : Aside0 (Below wr.heap.size wr w2.drew) := ⟨below_drew1 B2.out⟩
      clear x2 y2 B2 x1 y1
      generalize w2.drew = w2d at B2D ⊢
      go_wp2_with (first | (go_at_call 37; (with_reducible refine (special_ _ x y).mono ?_); rintro e' w3 ⟨he3, b3⟩; rw [HCC.out] at he3; subst he3; have B3 := Aside0.mk (below_step B2D.out b3); clear b3))
      go_roundw
      case rel => exact ⟨k + 1, NS.out.1, by first | rfl | go_num, ST, ⟨below_step hw.out B3.out⟩⟩
      case measure => first | exact meas_up0 n k LT.out | exact meas_up1 n k LT.out | exact meas_up2 n k LT.out WR
     ·rw [h] at hc STEP STOP
      have HCC := Aside0.mk hc.symm
      have SP := Aside0.mk (STOP.out (by decide))
      clear hc h STEP STOP
      have CX := Aside0.mk (conv_no wr x PX.out HG.out HDX.out)
      obtain ⟨ex, hex⟩ := CX.out
      have CX := Aside0.mk hex
      clear hex
      go_upto_region 12 with (first | (go_at_call 35; (with_reducible refine CX.out.mono ?_); rintro e' w1 ⟨rfl, b1⟩; have B1 := Aside0.mk b1; clear b1; have x1 := OX.out w1 B1.out; have y1 := OY.out w1 B1.out; have HG1 := Aside0.mk (HG.out.below B1.out (Nat.le_refl _))) | (go_at_call 35; obtain ⟨ey, hey⟩ := conv_no w1 y PY.out HG1.out HDY.out; (with_reducible refine hey.mono ?_); clear hey; rintro e' w2 ⟨rfl, b2⟩; have B2 := Aside0.mk (below_step B1.out b2); clear b2; have x2 := OX.out w2 B2.out; have y2 := OY.out w2 B2.out))
      go_still_tail 8, (by kernel_rfl)
      change wpList _ _ _ _ _ w2.drew
      have B2D : Aside0 (Below wr.heap.size wr w2.drew) := ⟨below_drew1 B2.out⟩
      clear x2 y2 B2 x1 y1
      generalize w2.drew = w2d at B2D ⊢
      go_wp2_with (first | (go_at_call 37; (with_reducible refine (special_ _ x y).mono ?_); rintro e' w3 ⟨he3, b3⟩; rw [HCC.out] at he3; subst he3; have B3 := Aside0.mk (below_step B2D.out b3); clear b3))
      go_ret
      exact ⟨by rw [SP.out]; rfl, below_step hw.out B3.out⟩
     ·rw [h] at hc STEP STOP
      have HCC := Aside0.mk hc.symm
      have SP := Aside0.mk (STOP.out (by decide))
      clear hc h STEP STOP
      have CX := Aside0.mk (conv_no wr x PX.out HG.out HDX.out)
      obtain ⟨ex, hex⟩ := CX.out
      have CX := Aside0.mk hex
      clear hex
      go_upto_region 12 with (first | (go_at_call 35; (with_reducible refine CX.out.mono ?_); rintro e' w1 ⟨rfl, b1⟩; have B1 := Aside0.mk b1; clear b1; have x1 := OX.out w1 B1.out; have y1 := OY.out w1 B1.out; have HG1 := Aside0.mk (HG.out.below B1.out (Nat.le_refl _))) | (go_at_call 35; obtain ⟨ey, hey⟩ := conv_no w1 y PY.out HG1.out HDY.out; (with_reducible refine hey.mono ?_); clear hey; rintro e' w2 ⟨rfl, b2⟩; have B2 := Aside0.mk (below_step B1.out b2); clear b2; have x2 := OX.out w2 B2.out; have y2 := OY.out w2 B2.out))
      go_still_tail 8, (by kernel_rfl)
      change wpList _ _ _ _ _ w2.drew
      have B2D : Aside0 (Below wr.heap.size wr w2.drew) := ⟨below_drew1 B2.out⟩
      clear x2 y2 B2 x1 y1
      generalize w2.drew = w2d at B2D ⊢
      go_wp2_with (first | (go_at_call 37; (with_reducible refine (special_ _ x y).mono ?_); rintro e' w3 ⟨he3, b3⟩; rw [HCC.out] at he3; subst he3; have B3 := Aside0.mk (below_step B2D.out b3); clear b3))
      go_ret
      exact ⟨by rw [SP.out]; rfl, below_step hw.out B3.out⟩
  ·obtain rfl : k = n := by omega
   have d3 : decide ((k : Int) < (k : Int)) = false := decide_eq_false (by omega)
   have d3m : ((k : Int) < (k : Int)) = False := eq_false (by omega)
   clear hlt hk
   by_cases h1 : lb.length < la.length
   ·have hx2 : lb.length < la.length := h1
    have dl := rd_drop hx2
    have gl := FA.out.2.2 _ (rd_mem hx2)
    have gs := (SM.out (by omega)).1 _ (rd_mem hx2)
    have x0 := cell_old hw.out (R0.out _ hx2)
    obtain ⟨x, hx⟩ : ∃ x, x = rdOf ByteArray.empty la (lb.length : Int) := ⟨_, rfl⟩
    rw [← hx] at dl gl gs x0
    have i0 : (0 ≤ (lb.length : Int)) = True := eq_true (by omega)
    have i1 : ((lb.length : Int) < (la.length : Int)) = True := eq_true (by omega)
    have i2 : decide ((lb.length : Int) < (la.length : Int)) = true := decide_eq_true (by omega)
    have i2n : decide (lb.length < la.length) = true := decide_eq_true (by omega)
    have i3 : decide ((la.length : Int) < (lb.length : Int)) = false := decide_eq_false (by omega)
    have i3n : decide (la.length < lb.length) = false := decide_eq_false (by omega)
    have EP : Aside0 (pcmp la lb = prest (x :: la.drop (lb.length + 1))) := ⟨by
     have he : k = lb.length := by have := HN.out; omega
     rw [hp.out, he, dl, List.drop_of_length_le (Nat.le_refl _)]
     rfl⟩
    have icn : ¬ (c0 = lb.length) := by have := HC0.out; omega
    have ile : lb.length ≤ la.length := by omega
    have PX := Aside0.mk gl
    have HX2 := Aside0.mk hx2
    have DL := Aside0.mk dl
    by_cases hdx : AllDig x
    ·obtain ⟨v, hv⟩ := atoi_ok_ wr x hdx (gs hdx)
     have HV := Aside0.mk hv
     have EQ : Aside0 (pcmp la lb = 1) := ⟨by rw [EP.out]; simp only [prest, if_pos hdx]⟩
     clear hdx hv dl gl gs hx h1 hx2 EP
     go_wp2_with (first | (go_at_call 38; (with_reducible refine HV.out.mono ?_); rintro e' w1 ⟨rfl, b1⟩; have B1 := Aside0.mk b1; clear b1))
     go_ret
     exact ⟨by rw [EQ.out]; rfl, below_step hw.out B1.out⟩
    ·obtain ⟨v, hv⟩ := atoi_err_ wr x hdx gl.1 gl.2.1 gl.2.2 (GA.out.below hw.out (Nat.le_refl _))
     have HV := Aside0.mk hv
     have EQ : Aside0 (pcmp la lb = pcmp (x :: la.drop (lb.length + 1)) [hash]) := ⟨by rw [EP.out, prest_cons _ hdx]⟩
     clear hdx hv dl gl gs hx h1 hx2 EP
     go_wp2_with (first | (go_at_call 38; (with_reducible refine HV.out.mono ?_); rintro e' w1 ⟨N, rfl, b1⟩; have B1 := Aside0.mk b1; clear b1) | (go_at_call 28; (with_reducible refine (rec_a (RA.out HX2.out) K0.out HC0.out HX2.out _ (below_step hw.out B1.out) G.out GA.out).mono ?_); rintro e' w3 ⟨rfl, b3⟩; have B3 := Aside0.mk b3; clear b3))
     go_ret
     exact ⟨by rw [EQ.out, ← DL.out]; rfl, B3.out⟩
   ·by_cases h2 : la.length < lb.length
    ·have hx2 : la.length < lb.length := h2
     have dl := rd_drop hx2
     have gl := FB.out.2.2 _ (rd_mem hx2)
     have gs := (SM.out (by omega)).2 _ (rd_mem hx2)
     have x0 := cell_old hw.out (R1.out _ hx2)
     obtain ⟨x, hx⟩ : ∃ x, x = rdOf ByteArray.empty lb (la.length : Int) := ⟨_, rfl⟩
     rw [← hx] at dl gl gs x0
     have i0 : (0 ≤ (la.length : Int)) = True := eq_true (by omega)
     have i1 : ((la.length : Int) < (lb.length : Int)) = True := eq_true (by omega)
     have i2 : decide ((la.length : Int) < (lb.length : Int)) = true := decide_eq_true (by omega)
     have i2n : decide (la.length < lb.length) = true := decide_eq_true (by omega)
     have i3 : decide ((lb.length : Int) < (la.length : Int)) = false := decide_eq_false (by omega)
     have i3n : decide (lb.length < la.length) = false := decide_eq_false (by omega)
     have EP : Aside0 (pcmp la lb = nrest (x :: lb.drop (la.length + 1))) := ⟨by
      have he : k = la.length := by have := HN.out; omega
      rw [hp.out, he, dl, List.drop_of_length_le (Nat.le_refl _)]
      rfl⟩
     have icn : ¬ (c1 = la.length) := by have := HC1.out; omega
     have ile : la.length ≤ lb.length := by omega
     have PX := Aside0.mk gl
     have HX2 := Aside0.mk hx2
     have DL := Aside0.mk dl
     by_cases hdx : AllDig x
     ·obtain ⟨v, hv⟩ := atoi_ok_ wr x hdx (gs hdx)
      have HV := Aside0.mk hv
      have EQ : Aside0 (pcmp la lb = -1) := ⟨by rw [EP.out]; simp only [nrest, if_pos hdx]⟩
      clear hdx hv dl gl gs hx h1 h2 hx2 EP
      go_wp2_with (first | (go_at_call 38; (with_reducible refine HV.out.mono ?_); rintro e' w1 ⟨rfl, b1⟩; have B1 := Aside0.mk b1; clear b1))
      go_ret
      exact ⟨by rw [EQ.out]; rfl, below_step hw.out B1.out⟩
     ·obtain ⟨v, hv⟩ := atoi_err_ wr x hdx gl.1 gl.2.1 gl.2.2 (GA.out.below hw.out (Nat.le_refl _))
      have HV := Aside0.mk hv
      have EQ : Aside0 (pcmp la lb = pcmp [hash] (x :: lb.drop (la.length + 1))) := ⟨by rw [EP.out, nrest_cons _ hdx]⟩
      clear hdx hv dl gl gs hx h1 h2 hx2 EP
      go_wp2_with (first | (go_at_call 38; (with_reducible refine HV.out.mono ?_); rintro e' w1 ⟨N, rfl, b1⟩; have B1 := Aside0.mk b1; clear b1) | (go_at_call 28; (with_reducible refine (rec_b (RB.out HX2.out) K1.out HC1.out HX2.out _ (below_step hw.out B1.out) G.out GA.out).mono ?_); rintro e' w3 ⟨rfl, b3⟩; have B3 := Aside0.mk b3; clear b3))
      go_ret
      exact ⟨by rw [EQ.out, ← DL.out]; rfl, B3.out⟩
    ·have i1 : ((lb.length : Int) < (la.length : Int)) = False := eq_false (by omega)
     have i2 : decide ((lb.length : Int) < (la.length : Int)) = false := decide_eq_false (by omega)
     have i2n : decide (lb.length < la.length) = false := decide_eq_false (by omega)
     have i3 : decide ((la.length : Int) < (lb.length : Int)) = false := decide_eq_false (by omega)
     have i3n : decide (la.length < lb.length) = false := decide_eq_false (by omega)
     have EQ : Aside0 (pcmp la lb = 0) := ⟨by
      have he := HN.out
      rw [hp.out, List.drop_of_length_le (by omega), List.drop_of_length_le (by omega)]
      rfl⟩
     clear h1 h2
     go_wp2
     go_ret
     exact ⟨by rw [EQ.out]; rfl, hw.out⟩
theorem goods_hash : Goods [hash] := ⟨by decide, by decide, fun x hx => by
 have e : x = hash := by simpa using hx
 rw [e]
 exact hash_plain⟩
theorem small_hash : ∀ x ∈ [hash], Small x := fun x hx => by
 have e : x = hash := by simpa using hx
 rw [e]
 exact hash_small
theorem goods_drop {l : List ByteArray} (h : Goods l) {m : Nat} (hm : m < l.length) : Goods (l.drop m) := by
 have hl : (l.drop m).length = l.length - m := List.length_drop
 exact ⟨by omega, by have := h.2.1; omega, fun x hx => h.2.2 x (List.mem_of_mem_drop hx)⟩
theorem comp_all : ∀ (n : Nat) (la lb : List ByteArray), la.length + lb.length ≤ n → Goods la → Goods lb → (la.length ≠ lb.length → (∀ x ∈ la, Small x) ∧ ∀ x ∈ lb, Small x) → CompAt la lb := by
 intro n
 induction n with
 | zero => intro la lb h ha hb _; have := ha.1; omega
 | succ n ih =>
  intro la lb h ha hb hsm
  have h0 := ha.1
  have h1 := hb.1
  have e1 : [hash].length = 1 := rfl
  refine comp_step la lb ha hb hsm (fun hl => ?_) (fun hl => ?_)
  ·have hl2 : (la.drop lb.length).length = la.length - lb.length := List.length_drop
   exact ih _ _ (by omega) (goods_drop ha hl) goods_hash (fun _ => ⟨fun x hx => (hsm (by omega)).1 x (List.mem_of_mem_drop hx), small_hash⟩)
  ·have hl2 : (lb.drop la.length).length = lb.length - la.length := List.length_drop
   exact ih _ _ (by omega) goods_hash (goods_drop hb hl) (fun _ => ⟨small_hash, fun x hx => (hsm (by omega)).2 x (List.mem_of_mem_drop hx)⟩)
theorem comp_ (la lb : List ByteArray) (ha : Goods la) (hb : Goods lb) (hsm : la.length ≠ lb.length → (∀ x ∈ la, Small x) ∧ ∀ x ∈ lb, Small x) : CompAt la lb := comp_all _ la lb (Nat.le_refl _) ha hb hsm
end Go.Proofs.YtdjkekgfeadmoaaGreatDoorG

/- Contract of comparePackagistComponents, in the form that the printed texts use; the sentinels that its callees read. -/
namespace Go.Proofs.YtdjkekgfeadmoaaGreatDoorG
open Go.RowKit Go.Proofs.YtdjkekgfeadmoaaGreatDoorW.PrintWords Go.Proofs.YtdjkekgfeadmoaaGreatDoorW.PrintLast

/-- The package-level variables that the comparison reads hold errors. -/
def GL (w : World) : Prop := GLe w ∧ GLa w
theorem GL.at {w w' : World} (h : GL w) (hb : Below w.heap.size w w') : GL w' := ⟨h.1.below hb (Nat.le_refl _), h.2.below hb (Nat.le_refl _)⟩
instance (l : List ByteArray) : Decidable (Goods l) := inferInstanceAs (Decidable (_ ∧ _ ∧ _))
/-- What the comparison's contract speaks of. -/
def Fits (l0 l1 : List ByteArray) : Prop := Goods l0 ∧ Goods l1 ∧ (l0.length = l1.length ∨ (∀ x ∈ l0, Small x) ∧ ∀ x ∈ l1, Small x)
instance (l0 l1 : List ByteArray) : Decidable (Fits l0 l1) := inferInstanceAs (Decidable (_ ∧ _ ∧ (_ ∨ _ ∧ _)))
def semantic_comparePackagistComponents.f (l0 l1 : List ByteArray) : Option Int := if Fits l0 l1 then some (pcmp l0 l1) else none
theorem semantic_comparePackagistComponents.calls (A0 : Option Addr) (c0 : Nat) (l0 : List ByteArray) (A1 : Option Addr) (c1 : Nat) (l1 : List ByteArray) (r : Int) (w : World) (hr0 : Kd.C Kd.string w A0 l0.length l0) (hc0 : l0.length ≤ c0) (hr1 : Kd.C Kd.string w A1 l1.length l1) (hc1 : l1.length ≤ c1) (h : semantic_comparePackagistComponents.f l0 l1 = some r) (hG : GL w) :
  Calls Tryz.prog 28 #[.slice A0 l0.length c0, .slice A1 l1.length c1] w fun e w' => e = .returned (.int .i64 r) ∧ Below w.heap.size w w' := by
 unfold semantic_comparePackagistComponents.f at h
 by_cases hg : Fits l0 l1
 ·rw [if_pos hg] at h
  obtain rfl := Option.some.inj h
  exact comp_ l0 l1 hg.1 hg.2.1 (fun hne => hg.2.2.resolve_left hne) w A0 c0 A1 c1 hr0 hc0 hr1 hc1 hG.1 hG.2
 ·rw [if_neg hg] at h
  cases h
end Go.Proofs.YtdjkekgfeadmoaaGreatDoorG
