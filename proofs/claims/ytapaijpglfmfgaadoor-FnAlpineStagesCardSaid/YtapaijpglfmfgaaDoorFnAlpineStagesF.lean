/- Proved here, for the row of the law FnAlpineStages: contracts of the Go functions that it reaches, each as its theorem 'calls' says, and the words and plain laws that they need (Qx9, A13, AU, Qx13, Qx14, Qx15, Qx16, Qx1, Qx2, Qx3, Qx17, BA, Qx20, BD, BE, BF, BH, BI, PureFnAlpineStages, K19, WSized). -/
import Derived.Test.YtapaijpglfmfgaaDoorFnAlpineStagesE
import Derived.Test.YtapaijpglfmfgaaDoorRows
import Derived.Stop.LaidErr
import Derived.Stop.Joined
import Derived.LaidSub
import Derived.MakeChecks
import Derived.SizedLaws
import Derived.ChangeSlices
section -- Qx9
namespace Go.Proofs.YtapaijpglfmfgaaDoor.Q
open Go.RowKit Go.Proofs.YtapaijpglfmfgaaDoorH Go.Proofs.YtapaijpglfmfgaaDoorG Go.Proofs.YtapaijpglfmfgaaDoorW.PrintWords Go.Proofs.YtapaijpglfmfgaaDoorW.PrintLast Go.Proofs.YtapaijpglfmfgaaDoorW.PrintMore
attribute [local go_sem] max2_int min2_int max_two min_two max_three min_three max_four min_four   -- for this text's walks alone
set_option linter.unusedVariables false
set_option linter.unusedSimpArgs false
mutual
def laws_FnAlpineStages.l0 : Nat → Int → ByteArray → List ByteArray → List ByteArray → Int → Int → Option (Bool)
 | 0, _, _, _, _, _, _ => none
 | k + 1, x2, x7, x10, x30, x31, x32 => if x32 < x31 then (if 0 ≤ x32 then (if x32 < (x30.length : Int) then (if x32 = 4 then (if x10.length < 8796093022208 then ((some (x10 ++ [x7] : List ByteArray)).bind fun y205 => (if x7.size + 1 ≤ 9223372036854775807 then (if (x7 ++ (⟨#[95]⟩ : ByteArray)).size + (rdOf ByteArray.empty x30 x32).size ≤ 9223372036854775807 then ((laws_decimal.f k x2).bind fun t208 => (if ((x7 ++ (⟨#[95]⟩ : ByteArray)) ++ (rdOf ByteArray.empty x30 x32)).size + t208.size ≤ 9223372036854775807 then (if y205.length < 8796093022208 then (laws_FnAlpineStages.l0 k x2 x7 (y205 ++ [((x7 ++ (⟨#[95]⟩ : ByteArray)) ++ (rdOf ByteArray.empty x30 x32)) ++ t208]) x30 x31 (wrap64 (x32 + 1))) else (none)) else (none))) else (none)) else (none))) else (none)) else (if x7.size + 1 ≤ 9223372036854775807 then (if (x7 ++ (⟨#[95]⟩ : ByteArray)).size + (rdOf ByteArray.empty x30 x32).size ≤ 9223372036854775807 then ((laws_decimal.f k x2).bind fun t212 => (if ((x7 ++ (⟨#[95]⟩ : ByteArray)) ++ (rdOf ByteArray.empty x30 x32)).size + t212.size ≤ 9223372036854775807 then (if x10.length < 8796093022208 then (laws_FnAlpineStages.l0 k x2 x7 (x10 ++ [((x7 ++ (⟨#[95]⟩ : ByteArray)) ++ (rdOf ByteArray.empty x30 x32)) ++ t212]) x30 x31 (wrap64 (x32 + 1))) else (none)) else (none))) else (none)) else (none))) else (none)) else (none)) else (laws_FnAlpineStages.l1 k x10 (x10.length : Int) 0)
def laws_FnAlpineStages.l1 : Nat → List ByteArray → Int → Int → Option (Bool)
 | 0, _, _, _ => none
 | k + 1, x10, x55, x56 => if x56 < x55 then (laws_FnAlpineStages.l2 k x10 x56 x55 x56 (x10.length : Int) 0) else (some true)
def laws_FnAlpineStages.l2 : Nat → List ByteArray → Int → Int → Int → Int → Int → Option (Bool)
 | 0, _, _, _, _, _, _ => none
 | k + 1, x10, x13, x55, x56, x60, x61 => if x61 < x60 then (if x13 = 4 then (if x61 = 5 then (laws_FnAlpineStages.j3 k x10 x13 x61 x55 x56 x60 x61 true) else (if x13 = 5 then (laws_FnAlpineStages.j3 k x10 x13 x61 x55 x56 x60 x61 (x61 == 4)) else (laws_FnAlpineStages.j3 k x10 x13 x61 x55 x56 x60 x61 false))) else (if x13 = 5 then (laws_FnAlpineStages.j3 k x10 x13 x61 x55 x56 x60 x61 (x61 == 4)) else (laws_FnAlpineStages.j3 k x10 x13 x61 x55 x56 x60 x61 false))) else (laws_FnAlpineStages.l1 k x10 x55 (wrap64 (x56 + 1)))
def laws_FnAlpineStages.j3 : Nat → List ByteArray → Int → Int → Int → Int → Int → Int → Bool → Option (Bool)
 | 0, _, _, _, _, _, _, _, _ => none
 | k + 1, x10, x13, x14, x55, x56, x60, x61, x77 => if x77 = true then (laws_FnAlpineStages.l2 k x10 x13 x55 x56 x60 (wrap64 (x61 + 1))) else (if 0 ≤ x13 then (if x13 < (x10.length : Int) then (if 0 ≤ x14 then (if x14 < (x10.length : Int) then ((impl_AlpineCompareText.f (rdOf ByteArray.empty x10 x13) (rdOf ByteArray.empty x10 x14)).bind fun bt218 => (if bt218.2 = true then (if bt218.1 = (mx (-1) (mn 1 (wrap64 (x13 - x14)))) then (laws_FnAlpineStages.l2 k x10 x13 x55 x56 x60 (wrap64 (x61 + 1))) else (some false)) else (some false))) else (none)) else (none)) else (none)) else (none))
end
def laws_FnAlpineStages.f (k : Nat) (l0 : List Int) (a1 : Int) (a2 : Int) : Option (Bool) := if (l0.length : Int) > 2147483647 then (some true) else ((laws_Package_text.f k l0 a1 ([] : List Int) ([] : List Int) (⟨#[]⟩ : ByteArray) false 0).bind fun bt184 => (if bt184.2.2.2.2.2.2.2.2.2.2.2 = true then ((laws_suffixes.f).bind fun t201 => (laws_FnAlpineStages.l0 k a2 bt184.1 ([] : List ByteArray) t201 (t201.length : Int) 0)) else (some true)))
def laws_FnAlpineStages.T21 : Bool × List (List Nat × List Nat) := (true, [([], []), ([], []), ([0, 1], [0, 1]), ([2], [2]), ([], []), ([], []), ([4, 5], [4, 5]), ([6], [6]), ([3, 7], [3, 7]), ([8], [8]), ([9], [9]), ([9], [9]), ([10, 8, 0, 1, 2, 3, 4, 5, 6, 7, 8, 9, 10], [10]), ([11, 12, 0, 1, 2, 3, 4, 5, 6, 7, 8, 9, 10, 11, 12], [11])])
def laws_FnAlpineStages.B21 : List Nat := [0, 0, 3, 7, 0, 0, 48, 112, 255, 511, 1023, 1023, 2047, 8191]
theorem laws_FnAlpineStages.tab21 : rtab .any (opsOf Tryd.f8 21) = laws_FnAlpineStages.T21 := by kernel_rfl
theorem laws_FnAlpineStages.bits21 : waitsOk laws_FnAlpineStages.T21.2 laws_FnAlpineStages.B21 = true := by kernel_rfl
set_option maxHeartbeats 8000000 in
set_option maxRecDepth 100000 in
theorem laws_FnAlpineStages.calls (k : Nat) (A0 : Option Addr) (c0 : Nat) (l0 : List Int) (a1 : Int) (a2 : Int) (r : Bool) (w : World) (hr0 : Kd.C (Kd.int .u16) w A0 l0.length l0) (hc0 : l0.length ≤ c0) (h : laws_FnAlpineStages.f k l0 a1 a2 = some r) (hG : GL w) (hr : r = true) :
  Calls Tryd.prog 8 #[.slice A0 l0.length c0, .int .u8 a1, .int .u16 a2] w fun e w' => e = .returned (.bool r) ∧ Below w.heap.size w w' := by
 have HT := Aside0.mk hr
 clear hr
 have HG := Aside0.mk hG
 clear hG
 have hu26 := Tryd.underlying26
 have hu33 := Tryd.underlying33
 have HR0 := Aside0.mk hr0
 have HC0 := Aside0.mk hc0
 clear hr0 hc0
 have HB := Aside0.mk (Below.refl w.heap.size w)
 have H : (if (l0.length : Int) > 2147483647 then (some true) else ((laws_Package_text.f k l0 a1 ([] : List Int) ([] : List Int) (⟨#[]⟩ : ByteArray) false 0).bind fun bt184 => (if bt184.2.2.2.2.2.2.2.2.2.2.2 = true then ((laws_suffixes.f).bind fun t201 => (laws_FnAlpineStages.l0 k a2 bt184.1 ([] : List ByteArray) t201 (t201.length : Int) 0)) else (some true)))) = some r := h
 clear h
 by_cases c4 : (l0.length : Int) > 2147483647
 ·rw [if_pos c4] at H
  have c4b0 : decide (2147483647 < (l0.length : Int)) = true := decide_eq_true c4
  have c4b1 : decide (2147483647 < l0.length) = true := decide_eq_true (by omega)
  clear c4
  obtain rfl := Option.some.inj H
  go_enter Tryd.func8, Tryd.ntmps8
  go_wp2
  go_ret
  exact ⟨by rfl, by (with_reducible exact HB.out)⟩
 ·rw [if_neg c4] at H
  have c4b0 : decide (2147483647 < (l0.length : Int)) = false := decide_eq_false c4
  have c4b1 : decide (2147483647 < l0.length) = false := decide_eq_false (by omega)
  clear c4
  replace H := Option.bind_eq_some_iff.mp H
  obtain ⟨⟨t184, t185, t186, t187, t188, t189, t190, t193, t196, t197, t198, t199⟩, A50, H⟩ := H
  replace H : (if t199 = true then ((laws_suffixes.f).bind fun t201 => (laws_FnAlpineStages.l0 k a2 t184 ([] : List ByteArray) t201 (t201.length : Int) 0)) else (some true)) = some r := H
  have A5 := Aside0.mk A50
  clear A50
  by_cases c6 : t199 = true
  ·subst c6
   have H1 : ((laws_suffixes.f).bind fun t201 => (laws_FnAlpineStages.l0 k a2 t184 ([] : List ByteArray) t201 (t201.length : Int) 0)) = some r := by rw [if_pos rfl] at H; exact H
   clear H
   have H := H1
   clear H1
   replace H := Option.bind_eq_some_iff.mp H
   obtain ⟨t201, A70, H⟩ := H
   replace H : (laws_FnAlpineStages.l0 k a2 t184 ([] : List ByteArray) t201 (t201.length : Int) 0) = some r := H
   have A7 := Aside0.mk A70
   clear A70
   have H' := Aside0.mk H
   clear H
   go_enter Tryd.func8, Tryd.ntmps8
   go_wp2_with (first | ((with_reducible refine gate_callee (f := 10) rfl ?_); refine goesL_ (some 24) rfl rfl Tryd.func10 (by kernel_rfl) rfl #[.agg #[.slice A0 l0.length c0, .int .u8 a1, .slice none 0 0, .slice none 0 0, .string ⟨#[]⟩, .bool false, .int .u16 0]] rfl (by (try simp only [List.map_toArray, List.map_cons, List.map_nil]); first | done | rfl | (simp only [List.length_drop, List.length_take]; rfl)) ?_; (refine (laws_Package_text.calls k _ _ l0 a1 _ _ ([] : List Int) _ _ ([] : List Int) (⟨#[]⟩ : ByteArray) false 0 t184 t185 t186 t187 t188 t189 t190 t193 t196 t197 t198 true _ ?side1 ?side2 ?side3 ?side4 ?side5 ?side6 A5.out).mono ?_); (case side1 => repeat (first | exact HR0.out | (with_reducible refine Kd.C_alloc ?_ _) | (with_reducible refine Kd.C_drewN ?_ _) | (with_reducible refine Kd.C_drew ?_))); (case side2 => exact HC0.out); (case side3 => exact Kd.C_nil _ _); (case side4 => exact Nat.le_refl _); (case side5 => exact Kd.C_nil _ _); (case side6 => exact Nat.le_refl _); rintro e w8 ⟨v191, v194, rfl, ho0, ho1, hb⟩; refine ⟨_, rfl, ?_⟩; have n0_ := Aside0.mk (Kd.R_lower ho0 (below_size (by (with_reducible exact HB.out)))); have n1_ := Aside0.mk (Kd.R_lower ho1 (below_size (by (with_reducible exact HB.out)))); have n2_ := Aside0.mk (below_step (by (with_reducible exact HB.out)) hb); clear HB; have HO192 := n0_; have HO195 := n1_; have HB := n2_; clear n0_ n1_ n2_; (try clear hb); (try clear hb2); (try clear hk); (try clear hi); (try clear ho0); (try clear ho1)) | ((with_reducible refine gate_dst (N := 8) rfl ?_); (try (refine gate_guard (by rfl) ?_; dsimp only)); refine box_event ?hg (N := 8) ?hd (cs := #[.string ⟨#[]⟩, .string ⟨#[]⟩, .string ⟨#[]⟩, .string ⟨#[]⟩, .bool false, .slice none 0 0, .slice none 0 0, .bool false, .bool false, .string ⟨#[]⟩]) (t := 33) ?hr ?_; (case hd => rfl); (case hg => rfl); (case hr => first | (go_simp; done) | (go_simp; rfl)); intro gb200 hg w9 hbox hb; have n0_ := Aside0.mk (Kd.R_below (by (with_reducible repeat (first | apply Kd.R_alloc | apply Kd.R_drewN | apply Kd.R_drew)); exact HO192.out) hb); have n1_ := Aside0.mk (Kd.R_below (by (with_reducible repeat (first | apply Kd.R_alloc | apply Kd.R_drewN | apply Kd.R_drew)); exact HO195.out) hb); have n2_ := Aside0.mk (below_step (by (with_reducible exact HB.out)) hb); have n3_ := Aside0.mk (hbox); have n4_ := Aside0.mk ((by rw [hg]; exact (below_size (by (with_reducible exact HB.out))) : w.heap.size ≤ gb200)); have n5_ := Aside0.mk ((by rw [hg]; exact (below_size (by (with_reducible exact HB.out))) : w.heap.size ≤ gb200)); clear HO192; clear HO195; clear HB; have HO192 := n0_; have HO195 := n1_; have HB := n2_; have BK200 := n3_; have GW200 := n4_; have GE200 := n5_; clear n0_ n1_ n2_ n3_ n4_ n5_; clear hb hbox hg; have hcz10_0 : w9.cell? ⟨gb200, 0, none⟩ = some (.string ⟨#[]⟩) := (blk_cell BK200.out 0).trans rfl; have hcz10_1 : w9.cell? ⟨gb200, 1, none⟩ = some (.string ⟨#[]⟩) := (blk_cell BK200.out 1).trans rfl; have hcz10_2 : w9.cell? ⟨gb200, 2, none⟩ = some (.string ⟨#[]⟩) := (blk_cell BK200.out 2).trans rfl; have hcz10_3 : w9.cell? ⟨gb200, 3, none⟩ = some (.string ⟨#[]⟩) := (blk_cell BK200.out 3).trans rfl; have hcz10_4 : w9.cell? ⟨gb200, 4, none⟩ = some (.bool false) := (blk_cell BK200.out 4).trans rfl; have hcz10_5 : w9.cell? ⟨gb200, 5, none⟩ = some (.slice none 0 0) := (blk_cell BK200.out 5).trans rfl; have hcz10_6 : w9.cell? ⟨gb200, 6, none⟩ = some (.slice none 0 0) := (blk_cell BK200.out 6).trans rfl; have hcz10_7 : w9.cell? ⟨gb200, 7, none⟩ = some (.bool false) := (blk_cell BK200.out 7).trans rfl; have hcz10_8 : w9.cell? ⟨gb200, 8, none⟩ = some (.bool false) := (blk_cell BK200.out 8).trans rfl; have hcz10_9 : w9.cell? ⟨gb200, 9, none⟩ = some (.string ⟨#[]⟩) := (blk_cell BK200.out 9).trans rfl; have hfz10_0 := blk_frozen BK200.out 0; have hfz10_1 := blk_frozen BK200.out 1; have hfz10_2 := blk_frozen BK200.out 2; have hfz10_3 := blk_frozen BK200.out 3; have hfz10_4 := blk_frozen BK200.out 4; have hfz10_5 := blk_frozen BK200.out 5; have hfz10_6 := blk_frozen BK200.out 6; have hfz10_7 := blk_frozen BK200.out 7; have hfz10_8 := blk_frozen BK200.out 8; have hfz10_9 := blk_frozen BK200.out 9; obtain ⟨Ao11, co11, eo11⟩ := Kd.R_slice HO192.out; subst eo11; obtain ⟨Ao12, co12, eo12⟩ := Kd.R_slice HO195.out; subst eo12) | ((with_reducible refine gate_callee (f := 17) rfl ?_); refine goesL_ (some 30) rfl rfl Tryd.func17 (by kernel_rfl) rfl #[] rfl (by (try simp only [List.map_toArray, List.map_cons, List.map_nil]); first | done | rfl | (simp only [List.length_drop, List.length_take]; rfl)) ?_; (with_reducible refine (laws_suffixes.calls  t201 _ A7.out).mono ?_); rintro e w13 ⟨v202, rfl, ho0, hb⟩; refine ⟨_, rfl, ?_⟩; have n0_ := Aside0.mk (Kd.R_below (by (with_reducible repeat (first | apply Kd.R_alloc | apply Kd.R_drewN | apply Kd.R_drew)); exact (Kd.R_mono (Kd.R_far (p := ⟨gb200, 9, none⟩) (Kd.R_far (p := ⟨gb200, 8, none⟩) (Kd.R_far (p := ⟨gb200, 7, none⟩) (Kd.R_far (p := ⟨gb200, 6, none⟩) (Kd.R_far (p := ⟨gb200, 5, none⟩) (Kd.R_far (p := ⟨gb200, 4, none⟩) (Kd.R_far (p := ⟨gb200, 3, none⟩) (Kd.R_far (p := ⟨gb200, 2, none⟩) (Kd.R_far (p := ⟨gb200, 1, none⟩) (Kd.R_far (p := ⟨gb200, 0, none⟩) (Kd.R_types HO192.out BK200.out (by decide)) (fun _ hk => hk.2) (.string t185)) (fun _ hk => hk.2) (.string t186)) (fun _ hk => hk.2) (.string t187)) (fun _ hk => hk.2) (.string t188)) (fun _ hk => hk.2) (.bool t189)) (fun _ hk => hk.2) (.slice Ao11 t190.length co11)) (fun _ hk => hk.2) (.slice Ao12 t193.length co12)) (fun _ hk => hk.2) (.bool t196)) (fun _ hk => hk.2) (.bool t197)) (fun _ hk => hk.2) (.string t198)) (fun _ h_ => h_.1))) hb); have n1_ := Aside0.mk (Kd.R_below (by (with_reducible repeat (first | apply Kd.R_alloc | apply Kd.R_drewN | apply Kd.R_drew)); exact (Kd.R_mono (Kd.R_far (p := ⟨gb200, 9, none⟩) (Kd.R_far (p := ⟨gb200, 8, none⟩) (Kd.R_far (p := ⟨gb200, 7, none⟩) (Kd.R_far (p := ⟨gb200, 6, none⟩) (Kd.R_far (p := ⟨gb200, 5, none⟩) (Kd.R_far (p := ⟨gb200, 4, none⟩) (Kd.R_far (p := ⟨gb200, 3, none⟩) (Kd.R_far (p := ⟨gb200, 2, none⟩) (Kd.R_far (p := ⟨gb200, 1, none⟩) (Kd.R_far (p := ⟨gb200, 0, none⟩) (Kd.R_types HO195.out BK200.out (by decide)) (fun _ hk => hk.2) (.string t185)) (fun _ hk => hk.2) (.string t186)) (fun _ hk => hk.2) (.string t187)) (fun _ hk => hk.2) (.string t188)) (fun _ hk => hk.2) (.bool t189)) (fun _ hk => hk.2) (.slice Ao11 t190.length co11)) (fun _ hk => hk.2) (.slice Ao12 t193.length co12)) (fun _ hk => hk.2) (.bool t196)) (fun _ hk => hk.2) (.bool t197)) (fun _ hk => hk.2) (.string t198)) (fun _ h_ => h_.1))) hb); have n2_ := Aside0.mk (Kd.R_lower ho0 (below_size (by repeat (first | (with_reducible first | exact HB.out | apply below_alloc | apply pw_below_drewN | apply below_drew1 | refine below_set ?_ GE200.out) | exact HB.out)))); have n3_ := Aside0.mk (blk_below (g := gb200) (o := .cells #[.string t185, .string t186, .string t187, .string t188, .bool t189, .slice Ao11 t190.length co11, .slice Ao12 t193.length co12, .bool t196, .bool t197, .string t198] 33 (0, 0)) (by refine blk_put (cs := #[.string t185, .string t186, .string t187, .string t188, .bool t189, .slice Ao11 t190.length co11, .slice Ao12 t193.length co12, .bool t196, .bool t197, .string ⟨#[]⟩]) ?_ 9 _ rfl; refine blk_put (cs := #[.string t185, .string t186, .string t187, .string t188, .bool t189, .slice Ao11 t190.length co11, .slice Ao12 t193.length co12, .bool t196, .bool false, .string ⟨#[]⟩]) ?_ 8 _ rfl; refine blk_put (cs := #[.string t185, .string t186, .string t187, .string t188, .bool t189, .slice Ao11 t190.length co11, .slice Ao12 t193.length co12, .bool false, .bool false, .string ⟨#[]⟩]) ?_ 7 _ rfl; refine blk_put (cs := #[.string t185, .string t186, .string t187, .string t188, .bool t189, .slice Ao11 t190.length co11, .slice none 0 0, .bool false, .bool false, .string ⟨#[]⟩]) ?_ 6 _ rfl; refine blk_put (cs := #[.string t185, .string t186, .string t187, .string t188, .bool t189, .slice none 0 0, .slice none 0 0, .bool false, .bool false, .string ⟨#[]⟩]) ?_ 5 _ rfl; refine blk_put (cs := #[.string t185, .string t186, .string t187, .string t188, .bool false, .slice none 0 0, .slice none 0 0, .bool false, .bool false, .string ⟨#[]⟩]) ?_ 4 _ rfl; refine blk_put (cs := #[.string t185, .string t186, .string t187, .string ⟨#[]⟩, .bool false, .slice none 0 0, .slice none 0 0, .bool false, .bool false, .string ⟨#[]⟩]) ?_ 3 _ rfl; refine blk_put (cs := #[.string t185, .string t186, .string ⟨#[]⟩, .string ⟨#[]⟩, .bool false, .slice none 0 0, .slice none 0 0, .bool false, .bool false, .string ⟨#[]⟩]) ?_ 2 _ rfl; refine blk_put (cs := #[.string t185, .string ⟨#[]⟩, .string ⟨#[]⟩, .string ⟨#[]⟩, .bool false, .slice none 0 0, .slice none 0 0, .bool false, .bool false, .string ⟨#[]⟩]) ?_ 1 _ rfl; refine blk_put (cs := #[.string ⟨#[]⟩, .string ⟨#[]⟩, .string ⟨#[]⟩, .string ⟨#[]⟩, .bool false, .slice none 0 0, .slice none 0 0, .bool false, .bool false, .string ⟨#[]⟩]) ?_ 0 _ rfl; exact BK200.out) hb); have n4_ := Aside0.mk (below_step (by repeat (first | (with_reducible first | exact HB.out | apply below_alloc | apply pw_below_drewN | apply below_drew1 | refine below_set ?_ GE200.out) | exact HB.out)) hb); clear HO192; clear HO195; clear BK200; clear HB; have HO192 := n0_; have HO195 := n1_; have HO203 := n2_; have BK200 := n3_; have HB := n4_; clear n0_ n1_ n2_ n3_ n4_; (try clear hb); (try clear hb2); (try clear hk); (try clear hi); (try clear ho0); obtain ⟨Ao14, co14, eo14⟩ := Kd.R_slice HO203.out; subst eo14))
   (try simp only [Act.put, List.setIfInBounds_toArray, List.set_cons_zero, List.set_cons_succ])
   go_loopg [10, 32] k (fun kq v10 v32 w' => ∃ (x10_1 : List ByteArray) (x32_1 : Int), v32 = .int .i64 x32_1 ∧ Aside0 (laws_FnAlpineStages.l0 kq a2 t184 x10_1 t201 (t201.length : Int) x32_1 = some r) ∧ Aside0 (kq ≤ k) ∧ Aside0 (Kd.R Kd.string 9 w' w.heap.size (fun k_ => some k_ ≠ ((.slice Ao14 t201.length co14) : Value).ownBlock) v10 x10_1) ∧ Aside0 (Kd.R Kd.string 9 w' w.heap.size (fun k_ => some k_ ≠ (v10 : Value).ownBlock) (.slice Ao14 t201.length co14) t201) ∧ Aside0 (Kd.R k54 54 w' w.heap.size (fun _ => True) (.slice Ao11 t190.length co11) t190) ∧ Aside0 (Kd.R k58 58 w' w.heap.size (fun _ => True) (.slice Ao12 t193.length co12) t193) ∧ Aside0 (w'.heap[gb200]? = some (.cells #[.string t185, .string t186, .string t187, .string t188, .bool t189, (.slice Ao11 t190.length co11), (.slice Ao12 t193.length co12), .bool t196, .bool t197, .string t198] 33 (0, 0))) ∧ Aside0 (Below w.heap.size w w'))
   case atStart => exact ⟨(([] : List ByteArray)), (0), (by rfl), H', ⟨Nat.le_refl _⟩, ⟨by exact Kd.R_nil _ _ _ _ _⟩, ⟨by (with_reducible repeat (first | apply Kd.R_alloc | apply Kd.R_drewN | apply Kd.R_drew)); exact Kd.R_mono HO203.out (fun _ hk => (by simp [Value.ownBlock]))⟩, ⟨by (with_reducible repeat (first | apply Kd.R_alloc | apply Kd.R_drewN | apply Kd.R_drew)); exact HO192.out⟩, ⟨by (with_reducible repeat (first | apply Kd.R_alloc | apply Kd.R_drewN | apply Kd.R_drew)); exact HO195.out⟩, ⟨by exact BK200.out⟩, ⟨by (with_reducible exact HB.out)⟩⟩
   case round =>
    clear H'
    clear c4b0 c4b1 hcz10_0 hcz10_1 hcz10_2 hcz10_3 hcz10_4 hcz10_5 hcz10_6 hcz10_7 hcz10_8 hcz10_9 hfz10_0 hfz10_1 hfz10_2 hfz10_3 hfz10_4 hfz10_5 hfz10_6 hfz10_7 hfz10_8 hfz10_9
    obtain ⟨x10_1, x32_1, rfl, HA, HK1, HO_10, HO_30, HO_201005, HO_201006, BK200, HB⟩ := hrel
    cases gk with
    | zero => exact absurd HA.out (by simp [laws_FnAlpineStages.l0])
    | succ k1 =>
     have H := HA.out
     clear HA
     simp only [laws_FnAlpineStages.l0] at H
     by_cases c15 : x32_1 < (t201.length : Int)
     ·rw [if_pos c15] at H
      have c15b0 : decide (x32_1 < (t201.length : Int)) = true := decide_eq_true c15
      clear c15
      by_cases c16 : 0 ≤ x32_1
      ·rw [if_pos c16] at H
       have c16b0 : decide (0 ≤ x32_1) = true := decide_eq_true c16
       clear c16
       by_cases c17 : x32_1 < (t201.length : Int)
       ·rw [if_pos c17] at H
        have c17b0 : decide (x32_1 < (t201.length : Int)) = true := decide_eq_true c17
        clear c17
        by_cases c18 : x32_1 = 4
        ·rw [if_pos c18] at H
         have c18b0 : (x32_1 == 4) = true := beq_iff_eq.mpr c18
         have c18b1 : (x32_1 != 4) = false := bne_eq_false_iff_eq.mpr c18
         clear c18
         by_cases c19 : x10_1.length < 8796093022208
         ·rw [if_pos c19] at H
          have LMc19 := Aside0.mk c19
          clear c19
          obtain ⟨y205, hy205⟩ : ∃ y_ : List ByteArray, y_ = (x10_1 ++ [t184]) := ⟨_, rfl⟩
          replace H : (if t184.size + 1 ≤ 9223372036854775807 then (if (t184 ++ (⟨#[95]⟩ : ByteArray)).size + (rdOf ByteArray.empty t201 x32_1).size ≤ 9223372036854775807 then ((laws_decimal.f k1 a2).bind fun t208 => (if ((t184 ++ (⟨#[95]⟩ : ByteArray)) ++ (rdOf ByteArray.empty t201 x32_1)).size + t208.size ≤ 9223372036854775807 then (if y205.length < 8796093022208 then (laws_FnAlpineStages.l0 k1 a2 t184 (y205 ++ [((t184 ++ (⟨#[95]⟩ : ByteArray)) ++ (rdOf ByteArray.empty t201 x32_1)) ++ t208]) t201 (t201.length : Int) (wrap64 (x32_1 + 1))) else (none)) else (none))) else (none)) else (none)) = some r := by (have H2_ := (Option.bind_some _ _).symm.trans H; rw [hy205]; with_reducible exact H2_)
          have Ny205 := Aside0.mk hy205
          clear hy205
          by_cases c20 : t184.size + 1 ≤ 9223372036854775807
          ·rw [if_pos c20] at H
           have c20b0 := eq_true c20
           have c20b1 : decide (t184.size + 1 ≤ 9223372036854775807) = true := decide_eq_true c20
           try have c20b2 : (9223372036854775807 < t184.size + 1) = False := eq_false (Nat.not_lt.2 c20)
           by_cases c21 : (t184 ++ (⟨#[95]⟩ : ByteArray)).size + (rdOf ByteArray.empty t201 x32_1).size ≤ 9223372036854775807
           ·rw [if_pos c21] at H
            have c21b0 := eq_true c21
            have c21b1 : decide ((t184 ++ (⟨#[95]⟩ : ByteArray)).size + (rdOf ByteArray.empty t201 x32_1).size ≤ 9223372036854775807) = true := decide_eq_true c21
            try have c21b2 : (9223372036854775807 < (t184 ++ (⟨#[95]⟩ : ByteArray)).size + (rdOf ByteArray.empty t201 x32_1).size) = False := eq_false (Nat.not_lt.2 c21)
            try have c21b3 : (9223372036854775807 < t184.size + 1 + (rdOf ByteArray.empty t201 x32_1).size) = False := eq_false (by have h_ := c21; simp only [ByteArray.size_append] at h_; have e0_ : (⟨#[95]⟩ : ByteArray).size = 1 := rfl; omega)
            try have c21b4 : (t184.size + 1 + (rdOf ByteArray.empty t201 x32_1).size ≤ 9223372036854775807) = True := eq_true (by have h_ := c21; simp only [ByteArray.size_append] at h_; have e0_ : (⟨#[95]⟩ : ByteArray).size = 1 := rfl; omega)
            replace H := Option.bind_eq_some_iff.mp H
            obtain ⟨t208, A220, H⟩ := H
            replace H : (if ((t184 ++ (⟨#[95]⟩ : ByteArray)) ++ (rdOf ByteArray.empty t201 x32_1)).size + t208.size ≤ 9223372036854775807 then (if y205.length < 8796093022208 then (laws_FnAlpineStages.l0 k1 a2 t184 (y205 ++ [((t184 ++ (⟨#[95]⟩ : ByteArray)) ++ (rdOf ByteArray.empty t201 x32_1)) ++ t208]) t201 (t201.length : Int) (wrap64 (x32_1 + 1))) else (none)) else (none)) = some r := H
            have A22 := Aside0.mk A220
            clear A220
            by_cases c23 : ((t184 ++ (⟨#[95]⟩ : ByteArray)) ++ (rdOf ByteArray.empty t201 x32_1)).size + t208.size ≤ 9223372036854775807
            ·rw [if_pos c23] at H
             have c23b0 := eq_true c23
             have c23b1 : decide (((t184 ++ (⟨#[95]⟩ : ByteArray)) ++ (rdOf ByteArray.empty t201 x32_1)).size + t208.size ≤ 9223372036854775807) = true := decide_eq_true c23
             try have c23b2 : (9223372036854775807 < ((t184 ++ (⟨#[95]⟩ : ByteArray)) ++ (rdOf ByteArray.empty t201 x32_1)).size + t208.size) = False := eq_false (Nat.not_lt.2 c23)
             try have c23b3 : (9223372036854775807 < t184.size + 1 + (rdOf ByteArray.empty t201 x32_1).size + t208.size) = False := eq_false (by have h_ := c23; simp only [ByteArray.size_append] at h_; have e0_ : (⟨#[95]⟩ : ByteArray).size = 1 := rfl; omega)
             try have c23b4 : (t184.size + 1 + (rdOf ByteArray.empty t201 x32_1).size + t208.size ≤ 9223372036854775807) = True := eq_true (by have h_ := c23; simp only [ByteArray.size_append] at h_; have e0_ : (⟨#[95]⟩ : ByteArray).size = 1 := rfl; omega)
             by_cases c24 : y205.length < 8796093022208
             ·rw [if_pos c24] at H
              have LMc24 := Aside0.mk c24
              clear c24
              obtain ⟨y209, hy209⟩ : ∃ y_ : List ByteArray, y_ = (y205 ++ [((t184 ++ (⟨#[95]⟩ : ByteArray)) ++ (rdOf ByteArray.empty t201 x32_1)) ++ t208]) := ⟨_, rfl⟩
              replace H : (laws_FnAlpineStages.l0 k1 a2 t184 y209 t201 (t201.length : Int) (wrap64 (x32_1 + 1))) = some r := by (rw [hy209]; with_reducible exact H)
              have Ny209 := Aside0.mk hy209
              clear hy209
              have H' := Aside0.mk H
              clear H
              have p204 : 0 ≤ (x32_1 : Int) := of_decide_eq_true (by (with_reducible assumption))
              have q204 : x32_1 < (t201.length : Int) := of_decide_eq_true (by (with_reducible assumption))
              obtain ⟨ad204, e204, hx204_0⟩ := Kd.at_string (Kd.R_reads' HO_30.out).2.2 x32_1 p204 q204
              cases e204
              replace p204 := eq_true p204
              replace q204 := eq_true q204
              go_wp2_with (first | ((with_reducible refine gate_builtin (b := .append) (xs := #[.tmp 39, .tmp 41]) rfl ?_); (try (refine gate_guard (by rfl) ?_; dsimp only)); at_builtin; refine Kd.R_append Kd.string (w0 := w) w.heap.size rfl (.tmp 39) (.tmp 41) 42 9 (.string ⟨#[]⟩) 16 rfl Tryd.underlying42 info9 rfl (by decide) (by omega) u10 x10_1 t184 [.string t184] (fun k_ => some k_ ≠ (.slice (some ad204) t201.length co14 : Value).ownBlock) (fun _ => False) rfl rfl ?aP (fun _ hk => hk.elim) ?aF ?aO ?aB ?aS ?aL ?_; (case aP => exact rfl); (case aB => exact (by (with_reducible exact HB.out))); (case aF => exact (fun k_ hk => Kd.fresh' (Kd.R_lt (by (with_reducible repeat (first | apply Kd.R_alloc | apply Kd.R_drewN | apply Kd.R_drew)); exact HO_30.out)) k_ hk)); (case aO => exact (by (with_reducible repeat (first | apply Kd.R_alloc | apply Kd.R_drewN | apply Kd.R_drew)); exact HO_10.out)); (case aS => exact (below_size (by (with_reducible exact HB.out)))); (case aL => have := LMc19.out; omega); intro v206 w25 ho hb hg hat; rw [← Ny205.out] at ho; have n0_ := Aside0.mk (Kd.R_after (ok := (fun _ => True)) (by (with_reducible repeat (first | apply Kd.R_alloc | apply Kd.R_drewN | apply Kd.R_drew)); exact Kd.R_mono HO_30.out (fun _ hk => ⟨trivial, hk⟩)) hg hat); have n1_ := Aside0.mk (Kd.R_over' (by (with_reducible repeat (first | apply Kd.R_alloc | apply Kd.R_drewN | apply Kd.R_drew)); exact HO_201005.out) (Kd.R_typed (by (with_reducible repeat (first | apply Kd.R_alloc | apply Kd.R_drewN | apply Kd.R_drew)); exact HO_10.out)) (by decide) hg); have n2_ := Aside0.mk (Kd.R_over' (by (with_reducible repeat (first | apply Kd.R_alloc | apply Kd.R_drewN | apply Kd.R_drew)); exact HO_201006.out) (Kd.R_typed (by (with_reducible repeat (first | apply Kd.R_alloc | apply Kd.R_drewN | apply Kd.R_drew)); exact HO_10.out)) (by decide) hg); have n3_ := Aside0.mk (blk_grown (g := gb200) (o := .cells #[.string t185, .string t186, .string t187, .string t188, .bool t189, .slice Ao11 t190.length co11, .slice Ao12 t193.length co12, .bool t196, .bool t197, .string t198] 33 (0, 0)) (by exact BK200.out) hg (Kd.R_ne HO_10.out BK200.out (by decide))); have n4_ := Aside0.mk (hb); have n5_ := Aside0.mk (ho); clear HO_30; clear HO_201005; clear HO_201006; clear BK200; clear HB; clear HO_10; have HO_30 := n0_; have HO_201005 := n1_; have HO_201006 := n2_; have BK200 := n3_; have HB := n4_; have HO207 := n5_; clear n0_ n1_ n2_ n3_ n4_ n5_; clear ho hb hg hat) | ((with_reducible refine gate_callee (f := 19) rfl ?_); refine goesL_ (some 49) rfl rfl Tryd.func19 (by kernel_rfl) rfl #[.int .u16 a2] rfl (by (try simp only [List.map_toArray, List.map_cons, List.map_nil]); first | done | rfl | (simp only [List.length_drop, List.length_take]; rfl)) ?_; (with_reducible refine (laws_decimal.calls k1 a2 t208 _ A22.out).mono ?_); rintro e w' ⟨rfl, ⟨nd, rfl⟩⟩; refine ⟨_, rfl, ?_⟩) | ((with_reducible refine gate_builtin (b := .append) (xs := #[.tmp 43, .tmp 51]) rfl ?_); (try (refine gate_guard (by rfl) ?_; dsimp only)); at_builtin; refine Kd.R_append Kd.string (w0 := w) w.heap.size rfl (.tmp 43) (.tmp 51) 42 9 (.string ⟨#[]⟩) 16 rfl Tryd.underlying42 info9 rfl (by decide) (by omega) v206 y205 (((t184 ++ (⟨#[95]⟩ : ByteArray)) ++ (rdOf ByteArray.empty t201 x32_1)) ++ t208) [.string (((t184 ++ (⟨#[95]⟩ : ByteArray)) ++ (rdOf ByteArray.empty t201 x32_1)) ++ t208)] (fun k_ => some k_ ≠ (.slice (some ad204) t201.length co14 : Value).ownBlock) (fun _ => False) rfl rfl ?aP (fun _ hk => hk.elim) ?aF ?aO ?aB ?aS ?aL ?_; (case aP => exact rfl); (case aB => exact (by (with_reducible apply pw_below_drewN; with_reducible exact HB.out))); (case aF => exact (fun k_ hk => Kd.fresh' (Kd.R_lt (by (with_reducible repeat (first | apply Kd.R_alloc | apply Kd.R_drewN | apply Kd.R_drew)); exact HO_30.out)) k_ hk)); (case aO => exact (by (with_reducible repeat (first | apply Kd.R_alloc | apply Kd.R_drewN | apply Kd.R_drew)); exact HO207.out)); (case aS => exact (below_size (by (with_reducible apply pw_below_drewN; with_reducible exact HB.out)))); (case aL => have := LMc24.out; omega); intro v210 w26 ho hb hg hat; rw [← Ny209.out] at ho; have n0_ := Aside0.mk (Kd.R_after (ok := (fun _ => True)) (by (with_reducible repeat (first | apply Kd.R_alloc | apply Kd.R_drewN | apply Kd.R_drew)); exact HO_30.out) hg hat); have n1_ := Aside0.mk (Kd.R_over' (by (with_reducible repeat (first | apply Kd.R_alloc | apply Kd.R_drewN | apply Kd.R_drew)); exact HO_201005.out) (Kd.R_typed (by (with_reducible repeat (first | apply Kd.R_alloc | apply Kd.R_drewN | apply Kd.R_drew)); exact HO207.out)) (by decide) hg); have n2_ := Aside0.mk (Kd.R_over' (by (with_reducible repeat (first | apply Kd.R_alloc | apply Kd.R_drewN | apply Kd.R_drew)); exact HO_201006.out) (Kd.R_typed (by (with_reducible repeat (first | apply Kd.R_alloc | apply Kd.R_drewN | apply Kd.R_drew)); exact HO207.out)) (by decide) hg); have n3_ := Aside0.mk (blk_grown (g := gb200) (o := .cells #[.string t185, .string t186, .string t187, .string t188, .bool t189, .slice Ao11 t190.length co11, .slice Ao12 t193.length co12, .bool t196, .bool t197, .string t198] 33 (0, 0)) (by (with_reducible (refine blk_drewN ?_ _)); exact BK200.out) hg (Kd.R_ne HO207.out BK200.out (by decide))); have n4_ := Aside0.mk (hb); have n5_ := Aside0.mk (ho); clear HO_30; clear HO_201005; clear HO_201006; clear BK200; clear HB; clear HO207; have HO_30 := n0_; have HO_201005 := n1_; have HO_201006 := n2_; have BK200 := n3_; have HB := n4_; have HO211 := n5_; clear n0_ n1_ n2_ n3_ n4_ n5_; clear ho hb hg hat))
              go_roundg k1
              case measure => have := HK1.out; omega
              case rel => exact ⟨(y209), (wrap64 (x32_1 + 1)), (by rfl), H', ⟨by have := HK1.out; omega⟩, ⟨by (with_reducible repeat (first | apply Kd.R_alloc | apply Kd.R_drewN | apply Kd.R_drew)); exact HO211.out⟩, ⟨by (with_reducible repeat (first | apply Kd.R_alloc | apply Kd.R_drewN | apply Kd.R_drew)); exact Kd.R_mono HO_30.out (fun _ hk => hk.2)⟩, ⟨by (with_reducible repeat (first | apply Kd.R_alloc | apply Kd.R_drewN | apply Kd.R_drew)); exact HO_201005.out⟩, ⟨by (with_reducible repeat (first | apply Kd.R_alloc | apply Kd.R_drewN | apply Kd.R_drew)); exact HO_201006.out⟩, ⟨by exact BK200.out⟩, ⟨by (with_reducible exact HB.out)⟩⟩
             ·rw [if_neg c24] at H
              exact absurd H (by simp)
            ·rw [if_neg c23] at H
             exact absurd H (by simp)
           ·rw [if_neg c21] at H
            exact absurd H (by simp)
          ·rw [if_neg c20] at H
           exact absurd H (by simp)
         ·rw [if_neg c19] at H
          exact absurd H (by simp)
        ·rw [if_neg c18] at H
         have c18b0 : (x32_1 == 4) = false := beq_eq_false_iff_ne.mpr c18
         have c18b1 : (x32_1 != 4) = true := bne_iff_ne.mpr c18
         by_cases c27 : t184.size + 1 ≤ 9223372036854775807
         ·rw [if_pos c27] at H
          have c27b0 := eq_true c27
          have c27b1 : decide (t184.size + 1 ≤ 9223372036854775807) = true := decide_eq_true c27
          try have c27b2 : (9223372036854775807 < t184.size + 1) = False := eq_false (Nat.not_lt.2 c27)
          by_cases c28 : (t184 ++ (⟨#[95]⟩ : ByteArray)).size + (rdOf ByteArray.empty t201 x32_1).size ≤ 9223372036854775807
          ·rw [if_pos c28] at H
           have c28b0 := eq_true c28
           have c28b1 : decide ((t184 ++ (⟨#[95]⟩ : ByteArray)).size + (rdOf ByteArray.empty t201 x32_1).size ≤ 9223372036854775807) = true := decide_eq_true c28
           try have c28b2 : (9223372036854775807 < (t184 ++ (⟨#[95]⟩ : ByteArray)).size + (rdOf ByteArray.empty t201 x32_1).size) = False := eq_false (Nat.not_lt.2 c28)
           try have c28b3 : (9223372036854775807 < t184.size + 1 + (rdOf ByteArray.empty t201 x32_1).size) = False := eq_false (by have h_ := c28; simp only [ByteArray.size_append] at h_; have e0_ : (⟨#[95]⟩ : ByteArray).size = 1 := rfl; omega)
           try have c28b4 : (t184.size + 1 + (rdOf ByteArray.empty t201 x32_1).size ≤ 9223372036854775807) = True := eq_true (by have h_ := c28; simp only [ByteArray.size_append] at h_; have e0_ : (⟨#[95]⟩ : ByteArray).size = 1 := rfl; omega)
           replace H := Option.bind_eq_some_iff.mp H
           obtain ⟨t212, A290, H⟩ := H
           replace H : (if ((t184 ++ (⟨#[95]⟩ : ByteArray)) ++ (rdOf ByteArray.empty t201 x32_1)).size + t212.size ≤ 9223372036854775807 then (if x10_1.length < 8796093022208 then (laws_FnAlpineStages.l0 k1 a2 t184 (x10_1 ++ [((t184 ++ (⟨#[95]⟩ : ByteArray)) ++ (rdOf ByteArray.empty t201 x32_1)) ++ t212]) t201 (t201.length : Int) (wrap64 (x32_1 + 1))) else (none)) else (none)) = some r := H
           have A29 := Aside0.mk A290
           clear A290
           by_cases c30 : ((t184 ++ (⟨#[95]⟩ : ByteArray)) ++ (rdOf ByteArray.empty t201 x32_1)).size + t212.size ≤ 9223372036854775807
           ·rw [if_pos c30] at H
            have c30b0 := eq_true c30
            have c30b1 : decide (((t184 ++ (⟨#[95]⟩ : ByteArray)) ++ (rdOf ByteArray.empty t201 x32_1)).size + t212.size ≤ 9223372036854775807) = true := decide_eq_true c30
            try have c30b2 : (9223372036854775807 < ((t184 ++ (⟨#[95]⟩ : ByteArray)) ++ (rdOf ByteArray.empty t201 x32_1)).size + t212.size) = False := eq_false (Nat.not_lt.2 c30)
            try have c30b3 : (9223372036854775807 < t184.size + 1 + (rdOf ByteArray.empty t201 x32_1).size + t212.size) = False := eq_false (by have h_ := c30; simp only [ByteArray.size_append] at h_; have e0_ : (⟨#[95]⟩ : ByteArray).size = 1 := rfl; omega)
            try have c30b4 : (t184.size + 1 + (rdOf ByteArray.empty t201 x32_1).size + t212.size ≤ 9223372036854775807) = True := eq_true (by have h_ := c30; simp only [ByteArray.size_append] at h_; have e0_ : (⟨#[95]⟩ : ByteArray).size = 1 := rfl; omega)
            by_cases c31 : x10_1.length < 8796093022208
            ·rw [if_pos c31] at H
             have LMc31 := Aside0.mk c31
             clear c31
             obtain ⟨y213, hy213⟩ : ∃ y_ : List ByteArray, y_ = (x10_1 ++ [((t184 ++ (⟨#[95]⟩ : ByteArray)) ++ (rdOf ByteArray.empty t201 x32_1)) ++ t212]) := ⟨_, rfl⟩
             replace H : (laws_FnAlpineStages.l0 k1 a2 t184 y213 t201 (t201.length : Int) (wrap64 (x32_1 + 1))) = some r := by (rw [hy213]; with_reducible exact H)
             have Ny213 := Aside0.mk hy213
             clear hy213
             have H' := Aside0.mk H
             clear H
             have p204 : 0 ≤ (x32_1 : Int) := of_decide_eq_true (by (with_reducible assumption))
             have q204 : x32_1 < (t201.length : Int) := of_decide_eq_true (by (with_reducible assumption))
             obtain ⟨ad204, e204, hx204_0⟩ := Kd.at_string (Kd.R_reads' HO_30.out).2.2 x32_1 p204 q204
             cases e204
             replace p204 := eq_true p204
             replace q204 := eq_true q204
             go_wp2_with (first | ((with_reducible refine gate_callee (f := 19) rfl ?_); refine goesL_ (some 49) rfl rfl Tryd.func19 (by kernel_rfl) rfl #[.int .u16 a2] rfl (by (try simp only [List.map_toArray, List.map_cons, List.map_nil]); first | done | rfl | (simp only [List.length_drop, List.length_take]; rfl)) ?_; (with_reducible refine (laws_decimal.calls k1 a2 t212 _ A29.out).mono ?_); rintro e w' ⟨rfl, ⟨nd, rfl⟩⟩; refine ⟨_, rfl, ?_⟩) | ((with_reducible refine gate_builtin (b := .append) (xs := #[.tmp 43, .tmp 51]) rfl ?_); (try (refine gate_guard (by rfl) ?_; dsimp only)); at_builtin; refine Kd.R_append Kd.string (w0 := w) w.heap.size rfl (.tmp 43) (.tmp 51) 42 9 (.string ⟨#[]⟩) 16 rfl Tryd.underlying42 info9 rfl (by decide) (by omega) u10 x10_1 (((t184 ++ (⟨#[95]⟩ : ByteArray)) ++ (rdOf ByteArray.empty t201 x32_1)) ++ t212) [.string (((t184 ++ (⟨#[95]⟩ : ByteArray)) ++ (rdOf ByteArray.empty t201 x32_1)) ++ t212)] (fun k_ => some k_ ≠ (.slice (some ad204) t201.length co14 : Value).ownBlock) (fun _ => False) rfl rfl ?aP (fun _ hk => hk.elim) ?aF ?aO ?aB ?aS ?aL ?_; (case aP => exact rfl); (case aB => exact (by (with_reducible apply pw_below_drewN; with_reducible exact HB.out))); (case aF => exact (fun k_ hk => Kd.fresh' (Kd.R_lt (by (with_reducible repeat (first | apply Kd.R_alloc | apply Kd.R_drewN | apply Kd.R_drew)); exact HO_30.out)) k_ hk)); (case aO => exact (by (with_reducible repeat (first | apply Kd.R_alloc | apply Kd.R_drewN | apply Kd.R_drew)); exact HO_10.out)); (case aS => exact (below_size (by (with_reducible apply pw_below_drewN; with_reducible exact HB.out)))); (case aL => have := LMc31.out; omega); intro v214 w32 ho hb hg hat; rw [← Ny213.out] at ho; have n0_ := Aside0.mk (Kd.R_after (ok := (fun _ => True)) (by (with_reducible repeat (first | apply Kd.R_alloc | apply Kd.R_drewN | apply Kd.R_drew)); exact Kd.R_mono HO_30.out (fun _ hk => ⟨trivial, hk⟩)) hg hat); have n1_ := Aside0.mk (Kd.R_over' (by (with_reducible repeat (first | apply Kd.R_alloc | apply Kd.R_drewN | apply Kd.R_drew)); exact HO_201005.out) (Kd.R_typed (by (with_reducible repeat (first | apply Kd.R_alloc | apply Kd.R_drewN | apply Kd.R_drew)); exact HO_10.out)) (by decide) hg); have n2_ := Aside0.mk (Kd.R_over' (by (with_reducible repeat (first | apply Kd.R_alloc | apply Kd.R_drewN | apply Kd.R_drew)); exact HO_201006.out) (Kd.R_typed (by (with_reducible repeat (first | apply Kd.R_alloc | apply Kd.R_drewN | apply Kd.R_drew)); exact HO_10.out)) (by decide) hg); have n3_ := Aside0.mk (blk_grown (g := gb200) (o := .cells #[.string t185, .string t186, .string t187, .string t188, .bool t189, .slice Ao11 t190.length co11, .slice Ao12 t193.length co12, .bool t196, .bool t197, .string t198] 33 (0, 0)) (by (with_reducible (refine blk_drewN ?_ _)); exact BK200.out) hg (Kd.R_ne HO_10.out BK200.out (by decide))); have n4_ := Aside0.mk (hb); have n5_ := Aside0.mk (ho); clear HO_30; clear HO_201005; clear HO_201006; clear BK200; clear HB; clear HO_10; have HO_30 := n0_; have HO_201005 := n1_; have HO_201006 := n2_; have BK200 := n3_; have HB := n4_; have HO215 := n5_; clear n0_ n1_ n2_ n3_ n4_ n5_; clear ho hb hg hat))
             go_roundg k1
             case measure => have := HK1.out; omega
             case rel => exact ⟨(y213), (wrap64 (x32_1 + 1)), (by rfl), H', ⟨by have := HK1.out; omega⟩, ⟨by (with_reducible repeat (first | apply Kd.R_alloc | apply Kd.R_drewN | apply Kd.R_drew)); exact HO215.out⟩, ⟨by (with_reducible repeat (first | apply Kd.R_alloc | apply Kd.R_drewN | apply Kd.R_drew)); exact Kd.R_mono HO_30.out (fun _ hk => hk.2)⟩, ⟨by (with_reducible repeat (first | apply Kd.R_alloc | apply Kd.R_drewN | apply Kd.R_drew)); exact HO_201005.out⟩, ⟨by (with_reducible repeat (first | apply Kd.R_alloc | apply Kd.R_drewN | apply Kd.R_drew)); exact HO_201006.out⟩, ⟨by exact BK200.out⟩, ⟨by (with_reducible exact HB.out)⟩⟩
            ·rw [if_neg c31] at H
             exact absurd H (by simp)
           ·rw [if_neg c30] at H
            exact absurd H (by simp)
          ·rw [if_neg c28] at H
           exact absurd H (by simp)
         ·rw [if_neg c27] at H
          exact absurd H (by simp)
       ·rw [if_neg c17] at H
        exact absurd H (by simp)
      ·rw [if_neg c16] at H
       exact absurd H (by simp)
     ·rw [if_neg c15] at H
      have c15b0 : decide (x32_1 < (t201.length : Int)) = false := decide_eq_false c15
      clear c15
      have H' := Aside0.mk H
      clear H
      obtain ⟨Ao33, co33, eo33⟩ := Kd.R_slice HO_10.out
      subst eo33
      go_wp2
      (try simp only [Act.put, List.setIfInBounds_toArray, List.set_cons_zero, List.set_cons_succ])
      go_loopg [56] k1 (fun kq v56 w' => ∃ (x56_2 : Int), v56 = .int .i64 x56_2 ∧ Aside0 (laws_FnAlpineStages.l1 kq x10_1 (x10_1.length : Int) x56_2 = some r) ∧ Aside0 (kq ≤ k1) ∧ Aside0 (Kd.R Kd.string 9 w' w.heap.size (fun _ => True) (.slice Ao33 x10_1.length co33) x10_1) ∧ Aside0 (Kd.R k54 54 w' w.heap.size (fun _ => True) (.slice Ao11 t190.length co11) t190) ∧ Aside0 (Kd.R k58 58 w' w.heap.size (fun _ => True) (.slice Ao12 t193.length co12) t193) ∧ Aside0 (w'.heap[gb200]? = some (.cells #[.string t185, .string t186, .string t187, .string t188, .bool t189, (.slice Ao11 t190.length co11), (.slice Ao12 t193.length co12), .bool t196, .bool t197, .string t198] 33 (0, 0))) ∧ Aside0 (Below w.heap.size w w'))
      case atStart => exact ⟨(0), (by rfl), H', ⟨Nat.le_refl _⟩, ⟨by (with_reducible repeat (first | apply Kd.R_alloc | apply Kd.R_drewN | apply Kd.R_drew)); exact Kd.R_mono HO_10.out (fun _ hk => trivial)⟩, ⟨by (with_reducible repeat (first | apply Kd.R_alloc | apply Kd.R_drewN | apply Kd.R_drew)); exact HO_201005.out⟩, ⟨by (with_reducible repeat (first | apply Kd.R_alloc | apply Kd.R_drewN | apply Kd.R_drew)); exact HO_201006.out⟩, ⟨by exact BK200.out⟩, ⟨by (with_reducible exact HB.out)⟩⟩
      case round =>
       clear H'
       clear c15b0
       obtain ⟨x56_2, rfl, HA, HK2, HO_10, HO_201005, HO_201006, BK200, HB⟩ := hrel
       cases gk with
       | zero => exact absurd HA.out (by simp [laws_FnAlpineStages.l1])
       | succ k2 =>
        have H := HA.out
        clear HA
        simp only [laws_FnAlpineStages.l1] at H
        by_cases c34 : x56_2 < (x10_1.length : Int)
        ·rw [if_pos c34] at H
         have c34b0 : decide (x56_2 < (x10_1.length : Int)) = true := decide_eq_true c34
         clear c34
         have H' := Aside0.mk H
         clear H
         go_wp2
         (try simp only [Act.put, List.setIfInBounds_toArray, List.set_cons_zero, List.set_cons_succ])
         go_loopg [61] k2 (fun kq v61 w' => ∃ (x61_3 : Int), v61 = .int .i64 x61_3 ∧ Aside0 (laws_FnAlpineStages.l2 kq x10_1 x56_2 (x10_1.length : Int) x56_2 (x10_1.length : Int) x61_3 = some r) ∧ Aside0 (kq ≤ k2) ∧ Aside0 (Kd.R Kd.string 9 w' w.heap.size (fun _ => True) (.slice Ao33 x10_1.length co33) x10_1) ∧ Aside0 (Kd.R k54 54 w' w.heap.size (fun _ => True) (.slice Ao11 t190.length co11) t190) ∧ Aside0 (Kd.R k58 58 w' w.heap.size (fun _ => True) (.slice Ao12 t193.length co12) t193) ∧ Aside0 (w'.heap[gb200]? = some (.cells #[.string t185, .string t186, .string t187, .string t188, .bool t189, (.slice Ao11 t190.length co11), (.slice Ao12 t193.length co12), .bool t196, .bool t197, .string t198] 33 (0, 0))) ∧ Aside0 (Below w.heap.size w w'))
         case atStart => exact ⟨(0), (by rfl), H', ⟨Nat.le_refl _⟩, ⟨by (with_reducible repeat (first | apply Kd.R_alloc | apply Kd.R_drewN | apply Kd.R_drew)); exact HO_10.out⟩, ⟨by (with_reducible repeat (first | apply Kd.R_alloc | apply Kd.R_drewN | apply Kd.R_drew)); exact HO_201005.out⟩, ⟨by (with_reducible repeat (first | apply Kd.R_alloc | apply Kd.R_drewN | apply Kd.R_drew)); exact HO_201006.out⟩, ⟨by exact BK200.out⟩, ⟨by (with_reducible exact HB.out)⟩⟩
         case round =>
          clear H'
          clear c34b0
          obtain ⟨x61_3, rfl, HA, HK3, HO_10, HO_201005, HO_201006, BK200, HB⟩ := hrel
          cases gk with
          | zero => exact absurd HA.out (by simp [laws_FnAlpineStages.l2])
          | succ k3 =>
           have H := HA.out
           clear HA
           simp only [laws_FnAlpineStages.l2] at H
           by_cases c35 : x61_3 < (x10_1.length : Int)
           ·rw [if_pos c35] at H
            have c35b0 : decide (x61_3 < (x10_1.length : Int)) = true := decide_eq_true c35
            clear c35
            have HC36 := Aside0.mk H
            clear H
            go_upto_region 20 with (fail)
            go_cut [77] (fun v77 wc => ∃ (kq : Nat) (x77_35 : Bool), v77 = .bool x77_35 ∧ Aside0 (laws_FnAlpineStages.j3 kq x10_1 x56_2 x61_3 (x10_1.length : Int) x56_2 (x10_1.length : Int) x61_3 x77_35 = some r) ∧ Aside0 (kq ≤ k3) ∧ Aside0 (Kd.R Kd.string 9 wc w.heap.size (fun _ => True) (.slice Ao33 x10_1.length co33) x10_1) ∧ Aside0 (Kd.R k54 54 wc w.heap.size (fun _ => True) (.slice Ao11 t190.length co11) t190) ∧ Aside0 (Kd.R k58 58 wc w.heap.size (fun _ => True) (.slice Ao12 t193.length co12) t193) ∧ Aside0 (wc.heap[gb200]? = some (.cells #[.string t185, .string t186, .string t187, .string t188, .bool t189, (.slice Ao11 t190.length co11), (.slice Ao12 t193.length co12), .bool t196, .bool t197, .string t198] 33 (0, 0))) ∧ Aside0 (Below w.heap.size w wc))
            case first =>
             have H := HC36.out
             clear HC36
             by_cases c37 : x56_2 = 4
             ·rw [if_pos c37] at H
              have c37b0 : (x56_2 == 4) = true := beq_iff_eq.mpr c37
              have c37b1 : (x56_2 != 4) = false := bne_eq_false_iff_eq.mpr c37
              clear c37
              (first | rw [c37b0] | (simp only [i64_w, i32_w]; rw [c37b0]) | skip)
              by_cases c38 : x61_3 = 5
              ·rw [if_pos c38] at H
               have c38b0 : (x61_3 == 5) = true := beq_iff_eq.mpr c38
               have c38b1 : (x61_3 != 5) = false := bne_eq_false_iff_eq.mpr c38
               clear c38
               have H' := Aside0.mk H
               clear H
               go_wp2
               go_meet
               case rel => exact ⟨_, (true), (by rfl), H', ⟨by have := HK1.out; have := HK2.out; have := HK3.out; first | omega | exact Nat.le_refl _⟩, ⟨by (with_reducible repeat (first | apply Kd.R_alloc | apply Kd.R_drewN | apply Kd.R_drew)); exact HO_10.out⟩, ⟨by (with_reducible repeat (first | apply Kd.R_alloc | apply Kd.R_drewN | apply Kd.R_drew)); exact HO_201005.out⟩, ⟨by (with_reducible repeat (first | apply Kd.R_alloc | apply Kd.R_drewN | apply Kd.R_drew)); exact HO_201006.out⟩, ⟨by exact BK200.out⟩, ⟨by (with_reducible exact HB.out)⟩⟩
              ·rw [if_neg c38] at H
               have c38b0 : (x61_3 == 5) = false := beq_eq_false_iff_ne.mpr c38
               have c38b1 : (x61_3 != 5) = true := bne_iff_ne.mpr c38
               by_cases c39 : x56_2 = 5
               ·rw [if_pos c39] at H
                have c39b0 : (x56_2 == 5) = true := beq_iff_eq.mpr c39
                have c39b1 : (x56_2 != 5) = false := bne_eq_false_iff_eq.mpr c39
                clear c39
                have H' := Aside0.mk H
                clear H
                go_wp2
                go_meet
                case rel => exact ⟨_, ((x61_3 == 4)), (by rfl), H', ⟨by have := HK1.out; have := HK2.out; have := HK3.out; first | omega | exact Nat.le_refl _⟩, ⟨by (with_reducible repeat (first | apply Kd.R_alloc | apply Kd.R_drewN | apply Kd.R_drew)); exact HO_10.out⟩, ⟨by (with_reducible repeat (first | apply Kd.R_alloc | apply Kd.R_drewN | apply Kd.R_drew)); exact HO_201005.out⟩, ⟨by (with_reducible repeat (first | apply Kd.R_alloc | apply Kd.R_drewN | apply Kd.R_drew)); exact HO_201006.out⟩, ⟨by exact BK200.out⟩, ⟨by (with_reducible exact HB.out)⟩⟩
               ·rw [if_neg c39] at H
                have c39b0 : (x56_2 == 5) = false := beq_eq_false_iff_ne.mpr c39
                have c39b1 : (x56_2 != 5) = true := bne_iff_ne.mpr c39
                have H' := Aside0.mk H
                clear H
                go_wp2
                go_meet
                case rel => exact ⟨_, (false), (by rfl), H', ⟨by have := HK1.out; have := HK2.out; have := HK3.out; first | omega | exact Nat.le_refl _⟩, ⟨by (with_reducible repeat (first | apply Kd.R_alloc | apply Kd.R_drewN | apply Kd.R_drew)); exact HO_10.out⟩, ⟨by (with_reducible repeat (first | apply Kd.R_alloc | apply Kd.R_drewN | apply Kd.R_drew)); exact HO_201005.out⟩, ⟨by (with_reducible repeat (first | apply Kd.R_alloc | apply Kd.R_drewN | apply Kd.R_drew)); exact HO_201006.out⟩, ⟨by exact BK200.out⟩, ⟨by (with_reducible exact HB.out)⟩⟩
             ·rw [if_neg c37] at H
              have c37b0 : (x56_2 == 4) = false := beq_eq_false_iff_ne.mpr c37
              have c37b1 : (x56_2 != 4) = true := bne_iff_ne.mpr c37
              (first | rw [c37b0] | (simp only [i64_w, i32_w]; rw [c37b0]) | skip)
              by_cases c40 : x56_2 = 5
              ·rw [if_pos c40] at H
               have c40b0 : (x56_2 == 5) = true := beq_iff_eq.mpr c40
               have c40b1 : (x56_2 != 5) = false := bne_eq_false_iff_eq.mpr c40
               clear c40
               have H' := Aside0.mk H
               clear H
               go_wp2
               go_meet
               case rel => exact ⟨_, ((x61_3 == 4)), (by rfl), H', ⟨by have := HK1.out; have := HK2.out; have := HK3.out; first | omega | exact Nat.le_refl _⟩, ⟨by (with_reducible repeat (first | apply Kd.R_alloc | apply Kd.R_drewN | apply Kd.R_drew)); exact HO_10.out⟩, ⟨by (with_reducible repeat (first | apply Kd.R_alloc | apply Kd.R_drewN | apply Kd.R_drew)); exact HO_201005.out⟩, ⟨by (with_reducible repeat (first | apply Kd.R_alloc | apply Kd.R_drewN | apply Kd.R_drew)); exact HO_201006.out⟩, ⟨by exact BK200.out⟩, ⟨by (with_reducible exact HB.out)⟩⟩
              ·rw [if_neg c40] at H
               have c40b0 : (x56_2 == 5) = false := beq_eq_false_iff_ne.mpr c40
               have c40b1 : (x56_2 != 5) = true := bne_iff_ne.mpr c40
               have H' := Aside0.mk H
               clear H
               go_wp2
               go_meet
               case rel => exact ⟨_, (false), (by rfl), H', ⟨by have := HK1.out; have := HK2.out; have := HK3.out; first | omega | exact Nat.le_refl _⟩, ⟨by (with_reducible repeat (first | apply Kd.R_alloc | apply Kd.R_drewN | apply Kd.R_drew)); exact HO_10.out⟩, ⟨by (with_reducible repeat (first | apply Kd.R_alloc | apply Kd.R_drewN | apply Kd.R_drew)); exact HO_201005.out⟩, ⟨by (with_reducible repeat (first | apply Kd.R_alloc | apply Kd.R_drewN | apply Kd.R_drew)); exact HO_201006.out⟩, ⟨by exact BK200.out⟩, ⟨by (with_reducible exact HB.out)⟩⟩
            case rest =>
             clear HC36
             clear c35b0
             obtain ⟨kq, x77_35, rfl, HA, HJ35, HO_10, HO_201005, HO_201006, BK200, HB⟩ := hcut
             cases kq with
             | zero => exact absurd HA.out (by simp [laws_FnAlpineStages.j3])
             | succ kj35 =>
              have H := HA.out
              clear HA
              simp only [laws_FnAlpineStages.j3] at H
              by_cases c41 : x77_35 = true
              ·subst c41
               have H1 : (laws_FnAlpineStages.l2 kj35 x10_1 x56_2 (x10_1.length : Int) x56_2 (x10_1.length : Int) (wrap64 (x61_3 + 1))) = some r := by rw [if_pos rfl] at H; exact H
               clear H
               have H := H1
               clear H1
               have H' := Aside0.mk H
               clear H
               go_wp2
               go_roundg kj35
               case measure => have := HK1.out; have := HK2.out; have := HK3.out; have := HJ35.out; omega
               case rel => exact ⟨(wrap64 (x61_3 + 1)), (by rfl), H', ⟨by have := HK1.out; have := HK2.out; have := HK3.out; have := HJ35.out; omega⟩, ⟨by (with_reducible repeat (first | apply Kd.R_alloc | apply Kd.R_drewN | apply Kd.R_drew)); exact HO_10.out⟩, ⟨by (with_reducible repeat (first | apply Kd.R_alloc | apply Kd.R_drewN | apply Kd.R_drew)); exact HO_201005.out⟩, ⟨by (with_reducible repeat (first | apply Kd.R_alloc | apply Kd.R_drewN | apply Kd.R_drew)); exact HO_201006.out⟩, ⟨by exact BK200.out⟩, ⟨by (with_reducible exact HB.out)⟩⟩
              ·replace c41 := Bool.eq_false_iff.mpr c41
               subst c41
               have H1 : (if 0 ≤ x56_2 then (if x56_2 < (x10_1.length : Int) then (if 0 ≤ x61_3 then (if x61_3 < (x10_1.length : Int) then ((impl_AlpineCompareText.f (rdOf ByteArray.empty x10_1 x56_2) (rdOf ByteArray.empty x10_1 x61_3)).bind fun bt218 => (if bt218.2 = true then (if bt218.1 = (mx (-1) (mn 1 (wrap64 (x56_2 - x61_3)))) then (laws_FnAlpineStages.l2 kj35 x10_1 x56_2 (x10_1.length : Int) x56_2 (x10_1.length : Int) (wrap64 (x61_3 + 1))) else (some false)) else (some false))) else (none)) else (none)) else (none)) else (none)) = some r := by rw [if_neg (show ¬ (false = true) by decide)] at H; exact H
               clear H
               have H := H1
               clear H1
               by_cases c42 : 0 ≤ x56_2
               ·rw [if_pos c42] at H
                have c42b0 : decide (0 ≤ x56_2) = true := decide_eq_true c42
                clear c42
                by_cases c43 : x56_2 < (x10_1.length : Int)
                ·rw [if_pos c43] at H
                 have c43b0 : decide (x56_2 < (x10_1.length : Int)) = true := decide_eq_true c43
                 clear c43
                 by_cases c44 : 0 ≤ x61_3
                 ·rw [if_pos c44] at H
                  have c44b0 : decide (0 ≤ x61_3) = true := decide_eq_true c44
                  clear c44
                  by_cases c45 : x61_3 < (x10_1.length : Int)
                  ·rw [if_pos c45] at H
                   have c45b0 : decide (x61_3 < (x10_1.length : Int)) = true := decide_eq_true c45
                   clear c45
                   replace H := Option.bind_eq_some_iff.mp H
                   obtain ⟨⟨t218, t219⟩, A460, H⟩ := H
                   replace H : (if t219 = true then (if t218 = (mx (-1) (mn 1 (wrap64 (x56_2 - x61_3)))) then (laws_FnAlpineStages.l2 kj35 x10_1 x56_2 (x10_1.length : Int) x56_2 (x10_1.length : Int) (wrap64 (x61_3 + 1))) else (some false)) else (some false)) = some r := H
                   have A46 := Aside0.mk A460
                   clear A460
                   by_cases c47 : t219 = true
                   ·subst c47
                    have H1 : (if t218 = (mx (-1) (mn 1 (wrap64 (x56_2 - x61_3)))) then (laws_FnAlpineStages.l2 kj35 x10_1 x56_2 (x10_1.length : Int) x56_2 (x10_1.length : Int) (wrap64 (x61_3 + 1))) else (some false)) = some r := by rw [if_pos rfl] at H; exact H
                    clear H
                    have H := H1
                    clear H1
                    obtain ⟨ji48, hji48⟩ : ∃ j_ : Int, (mn 1 (wrap64 (x56_2 - x61_3))) = j_ := ⟨_, rfl⟩
                    replace H : (if t218 = (mx (-1) (ji48)) then (laws_FnAlpineStages.l2 kj35 x10_1 x56_2 (x10_1.length : Int) x56_2 (x10_1.length : Int) (wrap64 (x61_3 + 1))) else (some false)) = some r := by (rw [hji48] at H; exact H)
                    (try rw [hji48] at A46)
                    have hji48_ : (if (wrap64 (x56_2 - x61_3)) < 1 then (wrap64 (x56_2 - x61_3)) else 1) = ji48 := hji48
                    obtain ⟨ji49, hji49⟩ : ∃ j_ : Int, (mx (-1) (ji48)) = j_ := ⟨_, rfl⟩
                    (try rw [hji49] at hji48)
                    (try rw [hji49] at hji48w)
                    replace H : (if t218 = (ji49) then (laws_FnAlpineStages.l2 kj35 x10_1 x56_2 (x10_1.length : Int) x56_2 (x10_1.length : Int) (wrap64 (x61_3 + 1))) else (some false)) = some r := by (rw [hji49] at H; exact H)
                    (try rw [hji49] at A46)
                    have hji49_ : (if (-1) < (ji48) then (ji48) else (-1)) = ji49 := hji49
                    by_cases c50 : t218 = (ji49)
                    ·rw [if_pos c50] at H
                     have c50b0 : (t218 == (ji49)) = true := beq_iff_eq.mpr c50
                     have c50b1 : (t218 != (ji49)) = false := bne_eq_false_iff_eq.mpr c50
                     clear c50
                     have H' := Aside0.mk H
                     clear H
                     try go_wp2
                     have n0_ := Aside0.mk (Kd.R_drew HO_10.out)
                     have n1_ := Aside0.mk (Kd.R_drew HO_201005.out)
                     have n2_ := Aside0.mk (Kd.R_drew HO_201006.out)
                     have n3_ := Aside0.mk (blk_drew BK200.out)
                     have n4_ := Aside0.mk (below_drew1 HB.out)
                     clear HO_10
                     clear HO_201005
                     clear HO_201006
                     clear BK200
                     clear HB
                     have HO_10 := n0_
                     have HO_201005 := n1_
                     have HO_201006 := n2_
                     have BK200 := n3_
                     have HB := n4_
                     clear n0_ n1_ n2_ n3_ n4_
                     have p216 : 0 ≤ (x56_2 : Int) := of_decide_eq_true (by (with_reducible assumption))
                     have q216 : x56_2 < (x10_1.length : Int) := of_decide_eq_true (by (with_reducible assumption))
                     obtain ⟨ad216, e216, hx216_0⟩ := Kd.at_string (Kd.R_reads' HO_10.out).2.2 x56_2 p216 q216
                     cases e216
                     replace p216 := eq_true p216
                     replace q216 := eq_true q216
                     have p217 : 0 ≤ (x61_3 : Int) := of_decide_eq_true (by (with_reducible assumption))
                     have q217 : x61_3 < (x10_1.length : Int) := of_decide_eq_true (by (with_reducible assumption))
                     obtain ⟨ad217, e217, hx217_0⟩ := Kd.at_string (Kd.R_reads' HO_10.out).2.2 x61_3 p217 q217
                     obtain rfl : ad216 = ad217 := (by injection e217)
                     replace p217 := eq_true p217
                     replace q217 := eq_true q217
                     refine start_ (n := 14) (S := fun w' => w'.cell? (ad216.add (x56_2).toNat) = some (.string (rdOf ByteArray.empty x10_1 x56_2)) ∧ w'.cell? (ad216.add (x61_3).toNat) = some (.string (rdOf ByteArray.empty x10_1 x61_3))) (ds := []) #[false, false, false, false, false, false, false, false, false, false, false, false, false, false] (by kernel_rfl) rfl rfl ⟨hx216_0, hx217_0⟩ (fun hHeld => ?_); refine with_tabW laws_FnAlpineStages.tab21 laws_FnAlpineStages.bits21 (fun HT_ HW_ => ?_)
                     generalize wc.drew = w51 at HO_10 HO_201005 HO_201006 BK200 HB hx216_0 hx217_0 hHeld ⊢
                     refine pure_ (i := 0) (N := some 79) (v := ?_) (a' := ?_) #[true, false, false, false, false, false, false, false, false, false, false, false, false, false] rfl rfl (any_of HT_.out (by kernel_rfl)) (fun _ _ _ h => h) (Or.inl ⟨by rfl, ?_⟩) ?_ ?_
                     rotate_left
                     ·intro w'
                      go_simp
                      with_reducible rfl
                     rotate_left
                     ·simp only [Act.put, List.setIfInBounds_toArray, List.set_cons_zero, List.set_cons_succ, i64_w, i32_w]
                      rfl
                     refine pure_ (i := 1) (N := some 80) (v := ?_) (a' := ?_) #[true, true, false, false, false, false, false, false, false, false, false, false, false, false] rfl rfl (any_of HT_.out (by kernel_rfl)) (fun _ _ _ h => h) (Or.inl ⟨by rfl, ?_⟩) ?_ ?_
                     rotate_left
                     ·intro w'
                      go_simp
                      with_reducible rfl
                     rotate_left
                     ·simp only [Act.put, List.setIfInBounds_toArray, List.set_cons_zero, List.set_cons_succ, i64_w, i32_w]
                      rfl
                     refine pure_ (i := 2) (N := some 81) (v := ?_) (a' := ?_) #[true, true, true, false, false, false, false, false, false, false, false, false, false, false] rfl rfl (any_of HT_.out (by kernel_rfl)) (fun _ _ _ h => h) (Or.inl ⟨by rfl, ?_⟩) ?_ ?_
                     rotate_left
                     ·intro w'
                      go_simp
                      with_reducible rfl
                     rotate_left
                     ·simp only [Act.put, List.setIfInBounds_toArray, List.set_cons_zero, List.set_cons_succ, i64_w, i32_w]
                      rfl
                     refine pure_ (i := 4) (N := some 83) (v := ?_) (a' := ?_) #[true, true, true, false, true, false, false, false, false, false, false, false, false, false] rfl rfl (any_of HT_.out (by kernel_rfl)) (fun _ _ _ h => h) (Or.inl ⟨by rfl, ?_⟩) ?_ ?_
                     rotate_left
                     ·intro w'
                      go_simp
                      with_reducible rfl
                     rotate_left
                     ·simp only [Act.put, List.setIfInBounds_toArray, List.set_cons_zero, List.set_cons_succ, i64_w, i32_w]
                      rfl
                     refine pure_ (i := 5) (N := some 84) (v := ?_) (a' := ?_) #[true, true, true, false, true, true, false, false, false, false, false, false, false, false] rfl rfl (any_of HT_.out (by kernel_rfl)) (fun _ _ _ h => h) (Or.inl ⟨by rfl, ?_⟩) ?_ ?_
                     rotate_left
                     ·intro w'
                      go_simp
                      with_reducible rfl
                     rotate_left
                     ·simp only [Act.put, List.setIfInBounds_toArray, List.set_cons_zero, List.set_cons_succ, i64_w, i32_w]
                      rfl
                     refine pure_ (i := 6) (N := some 85) (v := ?_) (a' := ?_) #[true, true, true, false, true, true, true, false, false, false, false, false, false, false] rfl rfl (any_of HT_.out (by kernel_rfl)) (fun _ _ _ h => h) (Or.inl ⟨by rfl, ?_⟩) ?_ ?_
                     rotate_left
                     ·intro w'
                      go_simp
                      with_reducible rfl
                     rotate_left
                     ·simp only [Act.put, List.setIfInBounds_toArray, List.set_cons_zero, List.set_cons_succ, i64_w, i32_w]
                      rfl
                     refine take_ (i := 3) (N := some 82) (v := ?_) (a' := ?_) #[true, true, true, true, true, true, true, false, false, false, false, false, false, false] rfl rfl (take_ofW HT_.out HW_.out (by kernel_rfl)) (fun _ _ _ h => h) (Or.inl ⟨by rfl, ?_⟩) hHeld ?_ ?_
                     rotate_left
                     ·rintro w' ⟨s0, s1⟩
                      go_simp
                      with_reducible rfl
                     rotate_left
                     ·simp only [Act.put, List.setIfInBounds_toArray, List.set_cons_zero, List.set_cons_succ, i64_w, i32_w]
                      rfl
                     refine take_ (i := 7) (N := some 86) (v := ?_) (a' := ?_) #[true, true, true, true, true, true, true, true, false, false, false, false, false, false] rfl rfl (take_ofW HT_.out HW_.out (by kernel_rfl)) (fun _ _ _ h => h) (Or.inl ⟨by rfl, ?_⟩) hHeld ?_ ?_
                     rotate_left
                     ·rintro w' ⟨s0, s1⟩
                      go_simp
                      with_reducible rfl
                     rotate_left
                     ·simp only [Act.put, List.setIfInBounds_toArray, List.set_cons_zero, List.set_cons_succ, i64_w, i32_w]
                      rfl
                     refine one_ (i := 8) (N := some 87) #[true, true, true, true, true, true, true, true, true, false, false, false, false, false] rfl rfl (one_of HT_.out (by kernel_rfl)) (by decide) (fun K hK => ?_)
                     refine goes_ Tryd.func18 (by kernel_rfl) rfl #[.string (rdOf ByteArray.empty x10_1 x56_2), .string (rdOf ByteArray.empty x10_1 x61_3)] (by rfl) rfl rfl (by (try simp only [List.map_toArray, List.map_cons, List.map_nil]); first | done | rfl | (simp only [List.length_drop, List.length_take]; rfl)) ?_
                     with_reducible refine (impl_AlpineCompareText.calls (rdOf ByteArray.empty x10_1 x56_2) (rdOf ByteArray.empty x10_1 x61_3) t218 true _ A46.out (by exact GL.at HG.out (by repeat (first | (with_reducible first | exact HB.out | apply below_alloc | apply pw_below_drewN | apply below_drew1) | exact HB.out)))).mono ?_
                     rintro e w52 ⟨rfl, hb⟩
                     have HS0_ := (hb.cell (World.block_lt_of_cell? _ _ (hHeld.1))).trans (hHeld.1)
                     have HS1_ := (hb.cell (World.block_lt_of_cell? _ _ (hHeld.2))).trans (hHeld.2)
                     refine ⟨_, rfl, ?_⟩
                     have n0_ := Aside0.mk (Kd.R_below (by (with_reducible repeat (first | apply Kd.R_alloc | apply Kd.R_drewN | apply Kd.R_drew)); exact HO_10.out) hb)
                     have n1_ := Aside0.mk (Kd.R_below (by (with_reducible repeat (first | apply Kd.R_alloc | apply Kd.R_drewN | apply Kd.R_drew)); exact HO_201005.out) hb)
                     have n2_ := Aside0.mk (Kd.R_below (by (with_reducible repeat (first | apply Kd.R_alloc | apply Kd.R_drewN | apply Kd.R_drew)); exact HO_201006.out) hb)
                     have n3_ := Aside0.mk (blk_below (g := gb200) (o := .cells #[.string t185, .string t186, .string t187, .string t188, .bool t189, .slice Ao11 t190.length co11, .slice Ao12 t193.length co12, .bool t196, .bool t197, .string t198] 33 (0, 0)) (by exact BK200.out) hb)
                     have n4_ := Aside0.mk (below_step (by (with_reducible exact HB.out)) hb)
                     clear HO_10
                     clear HO_201005
                     clear HO_201006
                     clear BK200
                     clear HB
                     have HO_10 := n0_
                     have HO_201005 := n1_
                     have HO_201006 := n2_
                     have BK200 := n3_
                     have HB := n4_
                     clear n0_ n1_ n2_ n3_ n4_
                     (try clear hb)
                     (try clear hb2)
                     (try clear hk)
                     (try clear hi)
                     refine hK.out _ _ ⟨HS0_, HS1_⟩ (fun hHeld => ?_)
                     clear hK K
                     refine norm_ (a' := ?_) ?_ ?_
                     rotate_left
                     ·show Act.put _ (some 87) _ = _
                      simp only [Act.put, List.setIfInBounds_toArray, List.set_cons_zero, List.set_cons_succ, i64_w, i32_w]
                      rfl
                     refine pure_ (i := 9) (N := some 78) (v := ?_) (a' := ?_) #[true, true, true, true, true, true, true, true, true, true, false, false, false, false] rfl rfl (any_of HT_.out (by kernel_rfl)) (fun _ _ _ h => h) (Or.inl ⟨by rfl, ?_⟩) ?_ ?_
                     rotate_left
                     ·intro w'
                      go_simp
                      with_reducible rfl
                     rotate_left
                     ·simp only [Act.put, List.setIfInBounds_toArray, List.set_cons_zero, List.set_cons_succ, i64_w, i32_w]
                      rfl
                     refine pure_ (i := 10) (N := some 88) (v := ?_) (a' := ?_) #[true, true, true, true, true, true, true, true, true, true, true, false, false, false] rfl rfl (any_of HT_.out (by kernel_rfl)) (fun _ _ _ h => h) (Or.inl ⟨by rfl, ?_⟩) ?_ ?_
                     rotate_left
                     ·intro w'
                      go_simp
                      with_reducible rfl
                     rotate_left
                     ·simp only [Act.put, List.setIfInBounds_toArray, List.set_cons_zero, List.set_cons_succ, i64_w, i32_w]
                      rfl
                     refine pure_ (i := 11) (N := some 89) (v := ?_) (a' := ?_) #[true, true, true, true, true, true, true, true, true, true, true, true, false, false] rfl rfl (any_of HT_.out (by kernel_rfl)) (fun _ _ _ h => h) (Or.inl ⟨by rfl, ?_⟩) ?_ ?_
                     rotate_left
                     ·intro w'
                      go_simp
                      with_reducible rfl
                     rotate_left
                     ·simp only [Act.put, List.setIfInBounds_toArray, List.set_cons_zero, List.set_cons_succ, i64_w, i32_w]
                      rfl
                     refine pure_ (i := 12) (N := some 15) (v := ?_) (a' := ?_) #[true, true, true, true, true, true, true, true, true, true, true, true, true, false] rfl rfl (any_of HT_.out (by kernel_rfl)) (fun _ _ _ h => h) (Or.inl ⟨by rfl, ?_⟩) ?_ ?_
                     rotate_left
                     ·intro w'
                      go_simp
                      with_reducible rfl
                     rotate_left
                     ·simp only [Act.put, List.setIfInBounds_toArray, List.set_cons_zero, List.set_cons_succ, i64_w, i32_w]
                      rfl
                     refine pure_ (i := 13) (N := some 16) (v := ?_) (a' := ?_) #[true, true, true, true, true, true, true, true, true, true, true, true, true, true] rfl rfl (any_of HT_.out (by kernel_rfl)) (fun _ _ _ h => h) (Or.inl ⟨by rfl, ?_⟩) ?_ ?_
                     rotate_left
                     ·intro w'
                      go_simp
                      with_reducible rfl
                     rotate_left
                     ·simp only [Act.put, List.setIfInBounds_toArray, List.set_cons_zero, List.set_cons_succ, i64_w, i32_w]
                      rfl
                     refine done_ (done_of HT_.out (by kernel_rfl)) ?_
                     try go_wp2
                     go_roundg kj35
                     case measure => have := HK1.out; have := HK2.out; have := HK3.out; have := HJ35.out; omega
                     case rel => exact ⟨(wrap64 (x61_3 + 1)), (by rfl), H', ⟨by have := HK1.out; have := HK2.out; have := HK3.out; have := HJ35.out; omega⟩, ⟨by (with_reducible repeat (first | apply Kd.R_alloc | apply Kd.R_drewN | apply Kd.R_drew)); exact HO_10.out⟩, ⟨by (with_reducible repeat (first | apply Kd.R_alloc | apply Kd.R_drewN | apply Kd.R_drew)); exact HO_201005.out⟩, ⟨by (with_reducible repeat (first | apply Kd.R_alloc | apply Kd.R_drewN | apply Kd.R_drew)); exact HO_201006.out⟩, ⟨by exact BK200.out⟩, ⟨by (with_reducible exact HB.out)⟩⟩
                    ·rw [if_neg c50] at H
                     have c50b0 : (t218 == (ji49)) = false := beq_eq_false_iff_ne.mpr c50
                     have c50b1 : (t218 != (ji49)) = true := bne_iff_ne.mpr c50
                     obtain rfl := Option.some.inj H
                     try go_wp2
                     have n0_ := Aside0.mk (Kd.R_drew HO_10.out)
                     have n1_ := Aside0.mk (Kd.R_drew HO_201005.out)
                     have n2_ := Aside0.mk (Kd.R_drew HO_201006.out)
                     have n3_ := Aside0.mk (blk_drew BK200.out)
                     have n4_ := Aside0.mk (below_drew1 HB.out)
                     clear HO_10
                     clear HO_201005
                     clear HO_201006
                     clear BK200
                     clear HB
                     have HO_10 := n0_
                     have HO_201005 := n1_
                     have HO_201006 := n2_
                     have BK200 := n3_
                     have HB := n4_
                     clear n0_ n1_ n2_ n3_ n4_
                     have p216 : 0 ≤ (x56_2 : Int) := of_decide_eq_true (by (with_reducible assumption))
                     have q216 : x56_2 < (x10_1.length : Int) := of_decide_eq_true (by (with_reducible assumption))
                     obtain ⟨ad216, e216, hx216_0⟩ := Kd.at_string (Kd.R_reads' HO_10.out).2.2 x56_2 p216 q216
                     cases e216
                     replace p216 := eq_true p216
                     replace q216 := eq_true q216
                     have p217 : 0 ≤ (x61_3 : Int) := of_decide_eq_true (by (with_reducible assumption))
                     have q217 : x61_3 < (x10_1.length : Int) := of_decide_eq_true (by (with_reducible assumption))
                     obtain ⟨ad217, e217, hx217_0⟩ := Kd.at_string (Kd.R_reads' HO_10.out).2.2 x61_3 p217 q217
                     obtain rfl : ad216 = ad217 := (by injection e217)
                     replace p217 := eq_true p217
                     replace q217 := eq_true q217
                     refine start_ (n := 14) (S := fun w' => w'.cell? (ad216.add (x56_2).toNat) = some (.string (rdOf ByteArray.empty x10_1 x56_2)) ∧ w'.cell? (ad216.add (x61_3).toNat) = some (.string (rdOf ByteArray.empty x10_1 x61_3))) (ds := []) #[false, false, false, false, false, false, false, false, false, false, false, false, false, false] (by kernel_rfl) rfl rfl ⟨hx216_0, hx217_0⟩ (fun hHeld => ?_); refine with_tabW laws_FnAlpineStages.tab21 laws_FnAlpineStages.bits21 (fun HT_ HW_ => ?_)
                     generalize wc.drew = w53 at HO_10 HO_201005 HO_201006 BK200 HB hx216_0 hx217_0 hHeld ⊢
                     refine pure_ (i := 0) (N := some 79) (v := ?_) (a' := ?_) #[true, false, false, false, false, false, false, false, false, false, false, false, false, false] rfl rfl (any_of HT_.out (by kernel_rfl)) (fun _ _ _ h => h) (Or.inl ⟨by rfl, ?_⟩) ?_ ?_
                     rotate_left
                     ·intro w'
                      go_simp
                      with_reducible rfl
                     rotate_left
                     ·simp only [Act.put, List.setIfInBounds_toArray, List.set_cons_zero, List.set_cons_succ, i64_w, i32_w]
                      rfl
                     refine pure_ (i := 1) (N := some 80) (v := ?_) (a' := ?_) #[true, true, false, false, false, false, false, false, false, false, false, false, false, false] rfl rfl (any_of HT_.out (by kernel_rfl)) (fun _ _ _ h => h) (Or.inl ⟨by rfl, ?_⟩) ?_ ?_
                     rotate_left
                     ·intro w'
                      go_simp
                      with_reducible rfl
                     rotate_left
                     ·simp only [Act.put, List.setIfInBounds_toArray, List.set_cons_zero, List.set_cons_succ, i64_w, i32_w]
                      rfl
                     refine pure_ (i := 2) (N := some 81) (v := ?_) (a' := ?_) #[true, true, true, false, false, false, false, false, false, false, false, false, false, false] rfl rfl (any_of HT_.out (by kernel_rfl)) (fun _ _ _ h => h) (Or.inl ⟨by rfl, ?_⟩) ?_ ?_
                     rotate_left
                     ·intro w'
                      go_simp
                      with_reducible rfl
                     rotate_left
                     ·simp only [Act.put, List.setIfInBounds_toArray, List.set_cons_zero, List.set_cons_succ, i64_w, i32_w]
                      rfl
                     refine pure_ (i := 4) (N := some 83) (v := ?_) (a' := ?_) #[true, true, true, false, true, false, false, false, false, false, false, false, false, false] rfl rfl (any_of HT_.out (by kernel_rfl)) (fun _ _ _ h => h) (Or.inl ⟨by rfl, ?_⟩) ?_ ?_
                     rotate_left
                     ·intro w'
                      go_simp
                      with_reducible rfl
                     rotate_left
                     ·simp only [Act.put, List.setIfInBounds_toArray, List.set_cons_zero, List.set_cons_succ, i64_w, i32_w]
                      rfl
                     refine pure_ (i := 5) (N := some 84) (v := ?_) (a' := ?_) #[true, true, true, false, true, true, false, false, false, false, false, false, false, false] rfl rfl (any_of HT_.out (by kernel_rfl)) (fun _ _ _ h => h) (Or.inl ⟨by rfl, ?_⟩) ?_ ?_
                     rotate_left
                     ·intro w'
                      go_simp
                      with_reducible rfl
                     rotate_left
                     ·simp only [Act.put, List.setIfInBounds_toArray, List.set_cons_zero, List.set_cons_succ, i64_w, i32_w]
                      rfl
                     refine pure_ (i := 6) (N := some 85) (v := ?_) (a' := ?_) #[true, true, true, false, true, true, true, false, false, false, false, false, false, false] rfl rfl (any_of HT_.out (by kernel_rfl)) (fun _ _ _ h => h) (Or.inl ⟨by rfl, ?_⟩) ?_ ?_
                     rotate_left
                     ·intro w'
                      go_simp
                      with_reducible rfl
                     rotate_left
                     ·simp only [Act.put, List.setIfInBounds_toArray, List.set_cons_zero, List.set_cons_succ, i64_w, i32_w]
                      rfl
                     refine take_ (i := 3) (N := some 82) (v := ?_) (a' := ?_) #[true, true, true, true, true, true, true, false, false, false, false, false, false, false] rfl rfl (take_ofW HT_.out HW_.out (by kernel_rfl)) (fun _ _ _ h => h) (Or.inl ⟨by rfl, ?_⟩) hHeld ?_ ?_
                     rotate_left
                     ·rintro w' ⟨s0, s1⟩
                      go_simp
                      with_reducible rfl
                     rotate_left
                     ·simp only [Act.put, List.setIfInBounds_toArray, List.set_cons_zero, List.set_cons_succ, i64_w, i32_w]
                      rfl
                     refine take_ (i := 7) (N := some 86) (v := ?_) (a' := ?_) #[true, true, true, true, true, true, true, true, false, false, false, false, false, false] rfl rfl (take_ofW HT_.out HW_.out (by kernel_rfl)) (fun _ _ _ h => h) (Or.inl ⟨by rfl, ?_⟩) hHeld ?_ ?_
                     rotate_left
                     ·rintro w' ⟨s0, s1⟩
                      go_simp
                      with_reducible rfl
                     rotate_left
                     ·simp only [Act.put, List.setIfInBounds_toArray, List.set_cons_zero, List.set_cons_succ, i64_w, i32_w]
                      rfl
                     refine one_ (i := 8) (N := some 87) #[true, true, true, true, true, true, true, true, true, false, false, false, false, false] rfl rfl (one_of HT_.out (by kernel_rfl)) (by decide) (fun K hK => ?_)
                     refine goes_ Tryd.func18 (by kernel_rfl) rfl #[.string (rdOf ByteArray.empty x10_1 x56_2), .string (rdOf ByteArray.empty x10_1 x61_3)] (by rfl) rfl rfl (by (try simp only [List.map_toArray, List.map_cons, List.map_nil]); first | done | rfl | (simp only [List.length_drop, List.length_take]; rfl)) ?_
                     with_reducible refine (impl_AlpineCompareText.calls (rdOf ByteArray.empty x10_1 x56_2) (rdOf ByteArray.empty x10_1 x61_3) t218 true _ A46.out (by exact GL.at HG.out (by repeat (first | (with_reducible first | exact HB.out | apply below_alloc | apply pw_below_drewN | apply below_drew1) | exact HB.out)))).mono ?_
                     rintro e w54 ⟨rfl, hb⟩
                     have HS0_ := (hb.cell (World.block_lt_of_cell? _ _ (hHeld.1))).trans (hHeld.1)
                     have HS1_ := (hb.cell (World.block_lt_of_cell? _ _ (hHeld.2))).trans (hHeld.2)
                     refine ⟨_, rfl, ?_⟩
                     have n0_ := Aside0.mk (Kd.R_below (by (with_reducible repeat (first | apply Kd.R_alloc | apply Kd.R_drewN | apply Kd.R_drew)); exact HO_10.out) hb)
                     have n1_ := Aside0.mk (Kd.R_below (by (with_reducible repeat (first | apply Kd.R_alloc | apply Kd.R_drewN | apply Kd.R_drew)); exact HO_201005.out) hb)
                     have n2_ := Aside0.mk (Kd.R_below (by (with_reducible repeat (first | apply Kd.R_alloc | apply Kd.R_drewN | apply Kd.R_drew)); exact HO_201006.out) hb)
                     have n3_ := Aside0.mk (blk_below (g := gb200) (o := .cells #[.string t185, .string t186, .string t187, .string t188, .bool t189, .slice Ao11 t190.length co11, .slice Ao12 t193.length co12, .bool t196, .bool t197, .string t198] 33 (0, 0)) (by exact BK200.out) hb)
                     have n4_ := Aside0.mk (below_step (by (with_reducible exact HB.out)) hb)
                     clear HO_10
                     clear HO_201005
                     clear HO_201006
                     clear BK200
                     clear HB
                     have HO_10 := n0_
                     have HO_201005 := n1_
                     have HO_201006 := n2_
                     have BK200 := n3_
                     have HB := n4_
                     clear n0_ n1_ n2_ n3_ n4_
                     (try clear hb)
                     (try clear hb2)
                     (try clear hk)
                     (try clear hi)
                     refine hK.out _ _ ⟨HS0_, HS1_⟩ (fun hHeld => ?_)
                     clear hK K
                     refine norm_ (a' := ?_) ?_ ?_
                     rotate_left
                     ·show Act.put _ (some 87) _ = _
                      simp only [Act.put, List.setIfInBounds_toArray, List.set_cons_zero, List.set_cons_succ, i64_w, i32_w]
                      rfl
                     refine pure_ (i := 9) (N := some 78) (v := ?_) (a' := ?_) #[true, true, true, true, true, true, true, true, true, true, false, false, false, false] rfl rfl (any_of HT_.out (by kernel_rfl)) (fun _ _ _ h => h) (Or.inl ⟨by rfl, ?_⟩) ?_ ?_
                     rotate_left
                     ·intro w'
                      go_simp
                      with_reducible rfl
                     rotate_left
                     ·simp only [Act.put, List.setIfInBounds_toArray, List.set_cons_zero, List.set_cons_succ, i64_w, i32_w]
                      rfl
                     refine pure_ (i := 10) (N := some 88) (v := ?_) (a' := ?_) #[true, true, true, true, true, true, true, true, true, true, true, false, false, false] rfl rfl (any_of HT_.out (by kernel_rfl)) (fun _ _ _ h => h) (Or.inl ⟨by rfl, ?_⟩) ?_ ?_
                     rotate_left
                     ·intro w'
                      go_simp
                      with_reducible rfl
                     rotate_left
                     ·simp only [Act.put, List.setIfInBounds_toArray, List.set_cons_zero, List.set_cons_succ, i64_w, i32_w]
                      rfl
                     refine pure_ (i := 11) (N := some 89) (v := ?_) (a' := ?_) #[true, true, true, true, true, true, true, true, true, true, true, true, false, false] rfl rfl (any_of HT_.out (by kernel_rfl)) (fun _ _ _ h => h) (Or.inl ⟨by rfl, ?_⟩) ?_ ?_
                     rotate_left
                     ·intro w'
                      go_simp
                      with_reducible rfl
                     rotate_left
                     ·simp only [Act.put, List.setIfInBounds_toArray, List.set_cons_zero, List.set_cons_succ, i64_w, i32_w]
                      rfl
                     refine pure_ (i := 12) (N := some 15) (v := ?_) (a' := ?_) #[true, true, true, true, true, true, true, true, true, true, true, true, true, false] rfl rfl (any_of HT_.out (by kernel_rfl)) (fun _ _ _ h => h) (Or.inl ⟨by rfl, ?_⟩) ?_ ?_
                     rotate_left
                     ·intro w'
                      go_simp
                      with_reducible rfl
                     rotate_left
                     ·simp only [Act.put, List.setIfInBounds_toArray, List.set_cons_zero, List.set_cons_succ, i64_w, i32_w]
                      rfl
                     refine pure_ (i := 13) (N := some 16) (v := ?_) (a' := ?_) #[true, true, true, true, true, true, true, true, true, true, true, true, true, true] rfl rfl (any_of HT_.out (by kernel_rfl)) (fun _ _ _ h => h) (Or.inl ⟨by rfl, ?_⟩) ?_ ?_
                     rotate_left
                     ·intro w'
                      go_simp
                      with_reducible rfl
                     rotate_left
                     ·simp only [Act.put, List.setIfInBounds_toArray, List.set_cons_zero, List.set_cons_succ, i64_w, i32_w]
                      rfl
                     refine done_ (done_of HT_.out (by kernel_rfl)) ?_
                     try go_wp2
                     go_ret
                     exact ⟨by rfl, by (with_reducible exact HB.out)⟩
                   ·replace c47 := Bool.eq_false_iff.mpr c47
                    subst c47
                    have H1 : (some false) = some r := by rw [if_neg (show ¬ (false = true) by decide)] at H; exact H
                    clear H
                    have H := H1
                    clear H1
                    obtain rfl := Option.some.inj H
                    exact absurd HT.out Bool.false_ne_true
                  ·rw [if_neg c45] at H
                   exact absurd H (by simp)
                 ·rw [if_neg c44] at H
                  exact absurd H (by simp)
                ·rw [if_neg c43] at H
                 exact absurd H (by simp)
               ·rw [if_neg c42] at H
                exact absurd H (by simp)
           ·rw [if_neg c35] at H
            have c35b0 : decide (x61_3 < (x10_1.length : Int)) = false := decide_eq_false c35
            clear c35
            have H' := Aside0.mk H
            clear H
            go_wp2
            go_roundg k3
            case measure => have := HK1.out; have := HK2.out; have := HK3.out; omega
            case rel => exact ⟨(wrap64 (x56_2 + 1)), (by rfl), H', ⟨by have := HK1.out; have := HK2.out; have := HK3.out; omega⟩, ⟨by (with_reducible repeat (first | apply Kd.R_alloc | apply Kd.R_drewN | apply Kd.R_drew)); exact HO_10.out⟩, ⟨by (with_reducible repeat (first | apply Kd.R_alloc | apply Kd.R_drewN | apply Kd.R_drew)); exact HO_201005.out⟩, ⟨by (with_reducible repeat (first | apply Kd.R_alloc | apply Kd.R_drewN | apply Kd.R_drew)); exact HO_201006.out⟩, ⟨by exact BK200.out⟩, ⟨by (with_reducible exact HB.out)⟩⟩
        ·rw [if_neg c34] at H
         have c34b0 : decide (x56_2 < (x10_1.length : Int)) = false := decide_eq_false c34
         clear c34
         obtain rfl := Option.some.inj H
         go_wp2
         go_ret
         exact ⟨by rfl, by (with_reducible exact HB.out)⟩
  ·replace c6 := Bool.eq_false_iff.mpr c6
   subst c6
   have H1 : (some true) = some r := by rw [if_neg (show ¬ (false = true) by decide)] at H; exact H
   clear H
   have H := H1
   clear H1
   obtain rfl := Option.some.inj H
   go_enter Tryd.func8, Tryd.ntmps8
   go_wp2_with (first | ((with_reducible refine gate_callee (f := 10) rfl ?_); refine goesL_ (some 24) rfl rfl Tryd.func10 (by kernel_rfl) rfl #[.agg #[.slice A0 l0.length c0, .int .u8 a1, .slice none 0 0, .slice none 0 0, .string ⟨#[]⟩, .bool false, .int .u16 0]] rfl (by (try simp only [List.map_toArray, List.map_cons, List.map_nil]); first | done | rfl | (simp only [List.length_drop, List.length_take]; rfl)) ?_; (refine (laws_Package_text.calls k _ _ l0 a1 _ _ ([] : List Int) _ _ ([] : List Int) (⟨#[]⟩ : ByteArray) false 0 t184 t185 t186 t187 t188 t189 t190 t193 t196 t197 t198 false _ ?side1 ?side2 ?side3 ?side4 ?side5 ?side6 A5.out).mono ?_); (case side1 => repeat (first | exact HR0.out | (with_reducible refine Kd.C_alloc ?_ _) | (with_reducible refine Kd.C_drewN ?_ _) | (with_reducible refine Kd.C_drew ?_))); (case side2 => exact HC0.out); (case side3 => exact Kd.C_nil _ _); (case side4 => exact Nat.le_refl _); (case side5 => exact Kd.C_nil _ _); (case side6 => exact Nat.le_refl _); rintro e w57 ⟨v191, v194, rfl, ho0, ho1, hb⟩; refine ⟨_, rfl, ?_⟩; have n0_ := Aside0.mk (Kd.R_lower ho0 (below_size (by (with_reducible exact HB.out)))); have n1_ := Aside0.mk (Kd.R_lower ho1 (below_size (by (with_reducible exact HB.out)))); have n2_ := Aside0.mk (below_step (by (with_reducible exact HB.out)) hb); clear HB; have HO192 := n0_; have HO195 := n1_; have HB := n2_; clear n0_ n1_ n2_; (try clear hb); (try clear hb2); (try clear hk); (try clear hi); (try clear ho0); (try clear ho1)) | ((with_reducible refine gate_dst (N := 8) rfl ?_); (try (refine gate_guard (by rfl) ?_; dsimp only)); refine box_event ?hg (N := 8) ?hd (cs := #[.string ⟨#[]⟩, .string ⟨#[]⟩, .string ⟨#[]⟩, .string ⟨#[]⟩, .bool false, .slice none 0 0, .slice none 0 0, .bool false, .bool false, .string ⟨#[]⟩]) (t := 33) ?hr ?_; (case hd => rfl); (case hg => rfl); (case hr => first | (go_simp; done) | (go_simp; rfl)); intro gb200 hg w58 hbox hb; have n0_ := Aside0.mk (Kd.R_below (by (with_reducible repeat (first | apply Kd.R_alloc | apply Kd.R_drewN | apply Kd.R_drew)); exact HO192.out) hb); have n1_ := Aside0.mk (Kd.R_below (by (with_reducible repeat (first | apply Kd.R_alloc | apply Kd.R_drewN | apply Kd.R_drew)); exact HO195.out) hb); have n2_ := Aside0.mk (below_step (by (with_reducible exact HB.out)) hb); have n3_ := Aside0.mk (hbox); have n4_ := Aside0.mk ((by rw [hg]; exact (below_size (by (with_reducible exact HB.out))) : w.heap.size ≤ gb200)); have n5_ := Aside0.mk ((by rw [hg]; exact (below_size (by (with_reducible exact HB.out))) : w.heap.size ≤ gb200)); clear HO192; clear HO195; clear HB; have HO192 := n0_; have HO195 := n1_; have HB := n2_; have BK200 := n3_; have GW200 := n4_; have GE200 := n5_; clear n0_ n1_ n2_ n3_ n4_ n5_; clear hb hbox hg; have hcz59_0 : w58.cell? ⟨gb200, 0, none⟩ = some (.string ⟨#[]⟩) := (blk_cell BK200.out 0).trans rfl; have hcz59_1 : w58.cell? ⟨gb200, 1, none⟩ = some (.string ⟨#[]⟩) := (blk_cell BK200.out 1).trans rfl; have hcz59_2 : w58.cell? ⟨gb200, 2, none⟩ = some (.string ⟨#[]⟩) := (blk_cell BK200.out 2).trans rfl; have hcz59_3 : w58.cell? ⟨gb200, 3, none⟩ = some (.string ⟨#[]⟩) := (blk_cell BK200.out 3).trans rfl; have hcz59_4 : w58.cell? ⟨gb200, 4, none⟩ = some (.bool false) := (blk_cell BK200.out 4).trans rfl; have hcz59_5 : w58.cell? ⟨gb200, 5, none⟩ = some (.slice none 0 0) := (blk_cell BK200.out 5).trans rfl; have hcz59_6 : w58.cell? ⟨gb200, 6, none⟩ = some (.slice none 0 0) := (blk_cell BK200.out 6).trans rfl; have hcz59_7 : w58.cell? ⟨gb200, 7, none⟩ = some (.bool false) := (blk_cell BK200.out 7).trans rfl; have hcz59_8 : w58.cell? ⟨gb200, 8, none⟩ = some (.bool false) := (blk_cell BK200.out 8).trans rfl; have hcz59_9 : w58.cell? ⟨gb200, 9, none⟩ = some (.string ⟨#[]⟩) := (blk_cell BK200.out 9).trans rfl; have hfz59_0 := blk_frozen BK200.out 0; have hfz59_1 := blk_frozen BK200.out 1; have hfz59_2 := blk_frozen BK200.out 2; have hfz59_3 := blk_frozen BK200.out 3; have hfz59_4 := blk_frozen BK200.out 4; have hfz59_5 := blk_frozen BK200.out 5; have hfz59_6 := blk_frozen BK200.out 6; have hfz59_7 := blk_frozen BK200.out 7; have hfz59_8 := blk_frozen BK200.out 8; have hfz59_9 := blk_frozen BK200.out 9; obtain ⟨Ao60, co60, eo60⟩ := Kd.R_slice HO192.out; subst eo60; obtain ⟨Ao61, co61, eo61⟩ := Kd.R_slice HO195.out; subst eo61))
   go_ret
   exact ⟨by rfl, by repeat (first | (with_reducible first | exact HB.out | apply below_alloc | apply pw_below_drewN | apply below_drew1 | refine below_set ?_ GE200.out) | exact HB.out)⟩
/-- THE ONE PURE STATEMENT of laws_FnAlpineStages: yours. -/
def laws_FnAlpineStages.Pure : Prop := ∀ (l0 : List Int) (a1 : Int) (a2 : Int), l0.length ≤ maxLen → l0.length * 2 ≤ 140737488351232 → (∀ x ∈ l0, (Lit.int .u16 x).wf = true) → (Lit.int .u8 a1).wf = true → (Lit.int .u16 a2).wf = true → ∃ k, laws_FnAlpineStages.f k l0 a1 a2 = some true
theorem laws_FnAlpineStages.walk (P : laws_FnAlpineStages.Pure) (a0 : Option Addr) (len0 cap0 : Nat) (z0 : List Int) (a1 : Int) (a2 : Int) (w : World) (w0 : (a0 = none ∧ len0 = 0 ∧ cap0 = 0 ∧ z0 = []) ∨ ∃ x, a0 = some x ∧ len0 ≤ cap0 ∧ cap0 ≤ maxLen ∧ z0.length = cap0 ∧ (∀ i, i < z0.length → w.cell? (x.add i) = some (.int .u16 (z0.getD i 0))) ∧ ∀ n ∈ z0, (Lit.int .u16 n).wf = true) (y0 : len0 * 2 ≤ 140737488351232) (w1 : (Lit.int .u8 a1).wf = true) (w2 : (Lit.int .u16 a2).wf = true) (hG : GL w) :
  Calls Tryd.prog 8 #[.slice a0 len0 cap0, .int .u8 a1, .int .u16 a2] w fun e w' => e = .returned (.bool true) ∧ Below w.heap.size w w' := by
 obtain ⟨l0, rfl, hr0, hm0, hw0, hc0⟩ := ReadsInt.ofRowC w0
 obtain ⟨k, h⟩ := P l0 a1 a2 hm0 y0 hw0 w1 w2
 refine (laws_FnAlpineStages.calls k _ _ l0 a1 a2 true w (Kd.C_of_reads (d := (0 : Int)) (h1 := fun _ => rfl) hr0) hc0 h hG rfl).mono ?_
 rintro e w' ⟨rfl, hd⟩
 exact ⟨rfl, hd⟩
end Go.Proofs.YtapaijpglfmfgaaDoor.Q
end
section -- A13
namespace Go.Proofs.YtapaijpglfmfgaaDoorG
open Go.RowKit Go.Proofs.YtapaijpglfmfgaaDoorH Go.Proofs.YtapaijpglfmfgaaDoorB Go.Proofs.YtapaijpglfmfgaaDoorM Go.Proofs.YtapaijpglfmfgaaDoorW.PrintWords Go.Proofs.YtapaijpglfmfgaaDoorW.PrintLast
set_option linter.unusedVariables false
set_option linter.unusedSimpArgs false
/-- What the buffer holds when some bytes are told: zeros, then these, the last one first. -/
def content (L : Nat) (t : List Int) : List Int := List.replicate (L - t.length) 0 ++ t.reverse
theorem content_len {L : Nat} {t : List Int} (h : t.length ≤ L) : (content L t).length = L := by simp [content]; omega
theorem content_step {L : Nat} {t : List Int} (b : Int) (h : t.length < L) : (content L t).set (L - t.length - 1) b = content L (t ++ [b]) := by
  unfold content
  have e : L - t.length = (L - t.length - 1) + 1 := by omega
  have e2 : L - (t ++ [b]).length = L - t.length - 1 := by simp; omega
  rw [e2, e, List.replicate_succ', List.append_assoc, List.reverse_append]
  rw [List.set_append]
  simp
theorem content_done (L : Nat) {t : List Int} (h : t.length = L) : content L t = t.reverse := by
  unfold content
  rw [h, Nat.sub_self]
  rfl
end Go.Proofs.YtapaijpglfmfgaaDoorG
end
section -- AU
namespace Go.Proofs.YtapaijpglfmfgaaDoorG
open Go.RowKit Go.Proofs.YtapaijpglfmfgaaDoorH Go.Proofs.YtapaijpglfmfgaaDoorB Go.Proofs.YtapaijpglfmfgaaDoorM Go.Proofs.YtapaijpglfmfgaaDoorP Go.Proofs.YtapaijpglfmfgaaDoor.Q Go.Proofs.YtapaijpglfmfgaaDoorW.PrintWords Go.Proofs.YtapaijpglfmfgaaDoorW.PrintLast
set_option linter.unusedVariables false
set_option linter.unusedSimpArgs false
/-- The parts of a version, az the thin package tells them. -/
def numsA (c : List (List Int)) : List S54 := c.zipIdx.map fun p => ⟨strOfNums p.1, ⟨false, magB (decL p.1)⟩, (p.2 : Int)⟩
def sufsA (s : List (List Int × List Int)) : List S58 := s.map fun x => ⟨(wgt x.1 : Int), ⟨false, magB (decL x.2)⟩⟩
def impl_AlpineParse.f (a0 : ByteArray) : Option (ByteArray × ByteArray × ByteArray × ByteArray × Bool × List S54 × List S58 × Bool × Bool × ByteArray × Bool) := if AOk a0 then
    some (a0, strOfNums (parseP (bytesOf a0)).r, strOfNums (parseP (bytesOf a0)).l, strOfNums (parseP (bytesOf a0)).h, (parseP (bytesOf a0)).i, numsA (parseP (bytesOf a0)).c, sufsA (parseP (bytesOf a0)).s, true, false, magB (decL (parseP (bytesOf a0)).b), true) else none
end Go.Proofs.YtapaijpglfmfgaaDoorG
end
section -- Qx13
namespace Go.Proofs.YtapaijpglfmfgaaDoor.Q
open Go.RowKit Go.Proofs.YtapaijpglfmfgaaDoorH Go.Proofs.YtapaijpglfmfgaaDoorG Go.Proofs.YtapaijpglfmfgaaDoorW.PrintWords Go.Proofs.YtapaijpglfmfgaaDoorW.PrintLast Go.Proofs.YtapaijpglfmfgaaDoorW.PrintMore
attribute [local go_sem] max2_int min2_int max_two min_two max_three min_three max_four min_four   -- for this text's walks alone
set_option linter.unusedVariables false
set_option linter.unusedSimpArgs false
def spec_Ascii.l0 : Nat → ByteArray → Int → Option (Bool)
 | 0, _, _ => none
 | k + 1, x0, x3 => if x3 < (x0.size : Int) then (if 0 ≤ x3 then (if (bt x0 x3) > 127 then (some false) else (spec_Ascii.l0 k x0 (wrap64 (x3 + 1)))) else (none)) else (some true)
def spec_Ascii.f (k : Nat) (a0 : ByteArray) : Option (Bool) := spec_Ascii.l0 k a0 0
def spec_alpReadNumbers.l0 : Nat → ByteArray → List (S54) → Option ((List (S54)) × ByteArray)
 | 0, _, _ => none
 | k + 1, x0, x2 => (E1.spec_alpRun.f k x0).bind fun t333 => (if t333 = 0 then (some (x2, x0)) else (if 0 ≤ t333 then (if t333 ≤ (x0.size : Int) then ((spec_intOf.f k (x0.extract 0 (t333 : Int).toNat)).bind fun bt334 => (if x2.length < 2932031007402 then ((some (x2 ++ [(⟨x0.extract 0 (t333 : Int).toNat, (⟨bt334.1, bt334.2⟩ : S31), (x2.length : Int)⟩ : S54)] : List (S54))).bind fun y336 => ((some (x0.extract (t333 : Int).toNat x0.size : ByteArray)).bind fun y339 => (if y339.toList = ([] : List UInt8) then (some (y336, y339)) else (if 0 < (y339.size : Int) then (if (bt y339 0) = 46 then (if 1 ≤ (y339.size : Int) then (spec_alpReadNumbers.l0 k (y339.extract 1 y339.size) y336) else (none)) else (some (y336, y339))) else (none))))) else (none))) else (none)) else (none)))
def spec_alpReadNumbers.f (k : Nat) (a0 : ByteArray) : Option ((List (S54)) × ByteArray) := spec_alpReadNumbers.l0 k a0 ([] : List (S54))
def spec_alpWords.f  : Option (List ByteArray) := some (([(⟨#[97, 108, 112, 104, 97]⟩ : ByteArray), (⟨#[98, 101, 116, 97]⟩ : ByteArray), (⟨#[112, 114, 101]⟩ : ByteArray), (⟨#[114, 99]⟩ : ByteArray), (⟨#[99, 118, 115]⟩ : ByteArray), (⟨#[115, 118, 110]⟩ : ByteArray), (⟨#[103, 105, 116]⟩ : ByteArray), (⟨#[104, 103]⟩ : ByteArray), (⟨#[112]⟩ : ByteArray)] : List ByteArray))
end Go.Proofs.YtapaijpglfmfgaaDoor.Q
end
section -- Qx14
namespace Go.Proofs.YtapaijpglfmfgaaDoor.Q
open Go.RowKit Go.Proofs.YtapaijpglfmfgaaDoorH Go.Proofs.YtapaijpglfmfgaaDoorG Go.Proofs.YtapaijpglfmfgaaDoorW.PrintWords Go.Proofs.YtapaijpglfmfgaaDoorW.PrintLast Go.Proofs.YtapaijpglfmfgaaDoorW.PrintMore
attribute [local go_sem] max2_int min2_int max_two min_two max_three min_three max_four min_four   -- for this text's walks alone
set_option linter.unusedVariables false
set_option linter.unusedSimpArgs false
def spec_alpWord.l0 : Nat → ByteArray → List ByteArray → Int → Option (ByteArray)
 | 0, _, _, _ => none
 | k + 1, x0, x3, x4 => if x4 < (x3.length : Int) then (if 0 ≤ x4 then (if (x0.size : Int) > ((rdOf ByteArray.empty x3 x4).size : Int) then (if 0 < (x0.size : Int) then (if (bt x0 0) = 95 then (if 1 ≤ (wrap64 (((rdOf ByteArray.empty x3 x4).size : Int) + 1)) then (if (wrap64 (((rdOf ByteArray.empty x3 x4).size : Int) + 1)) ≤ (x0.size : Int) then (if (x0.extract 1 ((wrap64 (((rdOf ByteArray.empty x3 x4).size : Int) + 1)) : Int).toNat).toList = (rdOf ByteArray.empty x3 x4).toList then (some (rdOf ByteArray.empty x3 x4)) else (spec_alpWord.l0 k x0 x3 (wrap64 (x4 + 1)))) else (none)) else (none)) else (spec_alpWord.l0 k x0 x3 (wrap64 (x4 + 1)))) else (none)) else (spec_alpWord.l0 k x0 x3 (wrap64 (x4 + 1)))) else (none)) else (some (⟨#[]⟩ : ByteArray))
def spec_alpWord.f (k : Nat) (a0 : ByteArray) : Option (ByteArray) := (spec_alpWords.f).bind fun t344 => (spec_alpWord.l0 k a0 t344 0)
def spec_SuffixWeight.l0 : Nat → ByteArray → List ByteArray → Int → Option (Int)
 | 0, _, _, _ => none
 | k + 1, x0, x3, x4 => if x4 < (x3.length : Int) then (if 0 ≤ x4 then (if (rdOf ByteArray.empty x3 x4).toList = x0.toList then (some x4) else (spec_SuffixWeight.l0 k x0 x3 (wrap64 (x4 + 1)))) else (none)) else (some (x3.length : Int))
def spec_SuffixWeight.f (k : Nat) (a0 : ByteArray) : Option (Int) := spec_SuffixWeight.l0 k a0 (([(⟨#[97, 108, 112, 104, 97]⟩ : ByteArray), (⟨#[98, 101, 116, 97]⟩ : ByteArray), (⟨#[112, 114, 101]⟩ : ByteArray), (⟨#[114, 99]⟩ : ByteArray), (⟨#[]⟩ : ByteArray), (⟨#[99, 118, 115]⟩ : ByteArray), (⟨#[115, 118, 110]⟩ : ByteArray), (⟨#[103, 105, 116]⟩ : ByteArray), (⟨#[104, 103]⟩ : ByteArray)] : List ByteArray)) 0
def spec_alpReadSuffixes.l0 : Nat → ByteArray → List (S58) → Option ((List (S58)) × ByteArray)
 | 0, _, _ => none
 | k + 1, x0, x2 => (spec_alpWord.f k x0).bind fun t355 => (if t355.toList = ([] : List UInt8) then (some (x2, x0)) else (if 0 ≤ (wrap64 ((t355.size : Int) + 1)) then (if (wrap64 ((t355.size : Int) + 1)) ≤ (x0.size : Int) then ((some (x0.extract ((wrap64 ((t355.size : Int) + 1)) : Int).toNat x0.size : ByteArray)).bind fun y356 => ((E1.spec_alpRun.f k y356).bind fun t357 => ((spec_SuffixWeight.f k t355).bind fun t358 => (if 0 ≤ t357 then (if t357 ≤ (y356.size : Int) then ((spec_intOf.f k (y356.extract 0 (t357 : Int).toNat)).bind fun bt359 => (if x2.length < 4398046511104 then (spec_alpReadSuffixes.l0 k (y356.extract (t357 : Int).toNat y356.size) (x2 ++ [(⟨t358, (⟨bt359.1, bt359.2⟩ : S31)⟩ : S58)])) else (none))) else (none)) else (none))))) else (none)) else (none)))
def spec_alpReadSuffixes.f (k : Nat) (a0 : ByteArray) : Option ((List (S58)) × ByteArray) := spec_alpReadSuffixes.l0 k a0 ([] : List (S58))
end Go.Proofs.YtapaijpglfmfgaaDoor.Q
end
section -- Qx15
namespace Go.Proofs.YtapaijpglfmfgaaDoor.Q
open Go.RowKit Go.Proofs.YtapaijpglfmfgaaDoorH Go.Proofs.YtapaijpglfmfgaaDoorG Go.Proofs.YtapaijpglfmfgaaDoorW.PrintWords Go.Proofs.YtapaijpglfmfgaaDoorW.PrintLast Go.Proofs.YtapaijpglfmfgaaDoorW.PrintMore
attribute [local go_sem] max2_int min2_int max_two min_two max_three min_three max_four min_four   -- for this text's walks alone
set_option linter.unusedVariables false
set_option linter.unusedSimpArgs false
mutual
def spec_AlpineTextKnown.j0 : Nat → ByteArray → Bool → Option (Bool)
 | 0, _, _ => none
 | k + 1, x4, x25 => if x25 = true then (if 1 ≤ (x4.size : Int) then (spec_AlpineTextKnown.j1 k (x4.extract 1 x4.size)) else (none)) else (spec_AlpineTextKnown.j1 k x4)
def spec_AlpineTextKnown.j1 : Nat → ByteArray → Option (Bool)
 | 0, _ => none
 | k + 1, x4 => (spec_alpReadSuffixes.f k x4).bind fun bt371 => (spec_AlpineTextKnown.l0 k bt371.2 0)
def spec_AlpineTextKnown.l0 : Nat → ByteArray → Int → Option (Bool)
 | 0, _, _ => none
 | k + 1, x4, x5 => if x5 < (x4.size : Int) then (if 0 ≤ x5 then (if x5 ≤ (x4.size : Int) then ((spec_alpWord.f k (x4.extract (x5 : Int).toNat x4.size)).bind fun t376 => (if t376.toList = ([] : List UInt8) then (spec_AlpineTextKnown.l0 k x4 (wrap64 (x5 + 1))) else (some false))) else (none)) else (none)) else (some true)
end
def spec_AlpineTextKnown.f (k : Nat) (a0 : ByteArray) : Option (Bool) := (spec_Ascii.f k a0).bind fun t365 => (if t365 = true then ((spec_alpReadNumbers.f k a0).bind fun bt366 => (if bt366.2.toList = ([] : List UInt8) then (spec_AlpineTextKnown.j0 k bt366.2 false) else (if 0 < (bt366.2.size : Int) then (if (bt bt366.2 0) ≥ 97 then (spec_AlpineTextKnown.j0 k bt366.2 (decide ((bt bt366.2 0) ≤ 122))) else (spec_AlpineTextKnown.j0 k bt366.2 false)) else (none)))) else (some false))
def spec_alpHex.f (a0 : Int) : Option (Bool) := (spec_isDigit.f a0).bind fun t377 => (if t377 = true then (some true) else (if a0 ≥ 97 then (some (decide (a0 ≤ 102))) else (some false)))
end Go.Proofs.YtapaijpglfmfgaaDoor.Q
end
section -- Qx16
namespace Go.Proofs.YtapaijpglfmfgaaDoor.Q
open Go.RowKit Go.Proofs.YtapaijpglfmfgaaDoorH Go.Proofs.YtapaijpglfmfgaaDoorG Go.Proofs.YtapaijpglfmfgaaDoorW.PrintWords Go.Proofs.YtapaijpglfmfgaaDoorW.PrintLast Go.Proofs.YtapaijpglfmfgaaDoorW.PrintMore
attribute [local go_sem] max2_int min2_int max_two min_two max_three min_three max_four min_four   -- for this text's walks alone
set_option linter.unusedVariables false
set_option linter.unusedSimpArgs false
mutual
def spec_AlpineParse.j0 : Nat → ByteArray → Bool → ByteArray → ByteArray → ByteArray → ByteArray → Bool → List (S54) → Bool → Bool → ByteArray → Option (ByteArray × ByteArray × ByteArray × ByteArray × Bool × (List (S54)) × (List (S58)) × Bool × Bool × ByteArray × Bool)
 | 0, _, _, _, _, _, _, _, _, _, _, _ => none
 | k + 1, x0, x26, x379000, x379001, x379002, x379003, x379004, x379005, x379007, x379008, x379009 => if x26 = true then (if 0 ≤ 1 then (if 1 ≤ (x0.size : Int) then (spec_AlpineParse.j1 k (x0.extract 1 x0.size) x379000 x379001 (x0.extract 0 1) x379003 x379004 x379005 x379007 x379008 x379009) else (none)) else (none)) else (spec_AlpineParse.j1 k x0 x379000 x379001 x379002 x379003 x379004 x379005 x379007 x379008 x379009)
def spec_AlpineParse.j1 : Nat → ByteArray → ByteArray → ByteArray → ByteArray → ByteArray → Bool → List (S54) → Bool → Bool → ByteArray → Option (ByteArray × ByteArray × ByteArray × ByteArray × Bool × (List (S54)) × (List (S58)) × Bool × Bool × ByteArray × Bool)
 | 0, _, _, _, _, _, _, _, _, _, _ => none
 | k + 1, x0, x379000, x379001, x379002, x379003, x379004, x379005, x379007, x379008, x379009 => (spec_alpReadSuffixes.f k x0).bind fun bt383 => (if (bt383.2.size : Int) > 1 then (if 0 < (bt383.2.size : Int) then (if (bt bt383.2 0) = 126 then (if 1 < (bt383.2.size : Int) then ((spec_alpHex.f (bt bt383.2 1)).bind fun t387 => (spec_AlpineParse.j2 k bt383.2 t387 x379000 x379001 x379002 x379003 x379004 x379005 bt383.1 x379007 x379008 x379009)) else (none)) else (spec_AlpineParse.j2 k bt383.2 false x379000 x379001 x379002 x379003 x379004 x379005 bt383.1 x379007 x379008 x379009)) else (none)) else (spec_AlpineParse.j2 k bt383.2 false x379000 x379001 x379002 x379003 x379004 x379005 bt383.1 x379007 x379008 x379009))
def spec_AlpineParse.j2 : Nat → ByteArray → Bool → ByteArray → ByteArray → ByteArray → ByteArray → Bool → List (S54) → List (S58) → Bool → Bool → ByteArray → Option (ByteArray × ByteArray × ByteArray × ByteArray × Bool × (List (S54)) × (List (S58)) × Bool × Bool × ByteArray × Bool)
 | 0, _, _, _, _, _, _, _, _, _, _, _, _ => none
 | k + 1, x0, x50, x379000, x379001, x379002, x379003, x379004, x379005, x379006, x379007, x379008, x379009 => if x50 = true then (if 1 ≤ (x0.size : Int) then ((E2.spec_alpRun.f k (x0.extract 1 x0.size)).bind fun t388 => (if 0 ≤ (wrap64 (1 + t388)) then (if (wrap64 (1 + t388)) ≤ (x0.size : Int) then (spec_AlpineParse.j3 k (x0.extract ((wrap64 (1 + t388)) : Int).toNat x0.size) x379000 x379001 x379002 (x0.extract 0 ((wrap64 (1 + t388)) : Int).toNat) x379004 x379005 x379006 x379007 x379008 x379009) else (none)) else (none))) else (none)) else (spec_AlpineParse.j3 k x0 x379000 x379001 x379002 x379003 x379004 x379005 x379006 x379007 x379008 x379009)
def spec_AlpineParse.j3 : Nat → ByteArray → ByteArray → ByteArray → ByteArray → ByteArray → Bool → List (S54) → List (S58) → Bool → Bool → ByteArray → Option (ByteArray × ByteArray × ByteArray × ByteArray × Bool × (List (S54)) × (List (S58)) × Bool × Bool × ByteArray × Bool)
 | 0, _, _, _, _, _, _, _, _, _, _, _ => none
 | k + 1, x0, x379000, x379001, x379002, x379003, x379004, x379005, x379006, x379007, x379008, x379009 => if (x0.size : Int) > 1 then (if 0 ≤ 2 then (if 2 ≤ (x0.size : Int) then (spec_AlpineParse.j4 k x0 ((x0.extract 0 2).toList == ([45, 114] : List UInt8)) x379000 x379001 x379002 x379003 x379004 x379005 x379006 x379007 x379008 x379009) else (none)) else (none)) else (spec_AlpineParse.j4 k x0 false x379000 x379001 x379002 x379003 x379004 x379005 x379006 x379007 x379008 x379009)
def spec_AlpineParse.j4 : Nat → ByteArray → Bool → ByteArray → ByteArray → ByteArray → ByteArray → Bool → List (S54) → List (S58) → Bool → Bool → ByteArray → Option (ByteArray × ByteArray × ByteArray × ByteArray × Bool × (List (S54)) × (List (S58)) × Bool × Bool × ByteArray × Bool)
 | 0, _, _, _, _, _, _, _, _, _, _, _, _ => none
 | k + 1, x0, x62, x379000, x379001, x379002, x379003, x379004, x379005, x379006, x379007, x379008, x379009 => if x62 = true then (if 2 ≤ (x0.size : Int) then ((E1.spec_alpRun.f k (x0.extract 2 x0.size)).bind fun t389 => (if 2 ≤ (wrap64 (2 + t389)) then (if (wrap64 (2 + t389)) ≤ (x0.size : Int) then ((spec_intOf.f k (x0.extract 2 ((wrap64 (2 + t389)) : Int).toNat)).bind fun bt390 => (if 0 ≤ (wrap64 (2 + t389)) then (some (x379000, x0.extract ((wrap64 (2 + t389)) : Int).toNat x0.size, x379002, x379003, x379004, x379005, x379006, x379007, bt390.1, bt390.2, true)) else (none))) else (none)) else (none))) else (none)) else (if x0.toList = ([] : List UInt8) then (some (x379000, x379001, x379002, x379003, x379004, x379005, x379006, x379007, x379008, x379009, true)) else (some (x379000, x0, x379002, x379003, true, x379005, x379006, x379007, x379008, x379009, true)))
end
def spec_AlpineParse.f (k : Nat) (a0 : ByteArray) : Option (ByteArray × ByteArray × ByteArray × ByteArray × Bool × (List (S54)) × (List (S58)) × Bool × Bool × ByteArray × Bool) := (spec_alpReadNumbers.f k a0).bind fun bt379 => (if bt379.2.toList = ([] : List UInt8) then (spec_AlpineParse.j0 k bt379.2 false a0 (⟨#[]⟩ : ByteArray) (⟨#[]⟩ : ByteArray) (⟨#[]⟩ : ByteArray) false bt379.1 true false (⟨#[]⟩ : ByteArray)) else (if 0 < (bt379.2.size : Int) then (if (bt bt379.2 0) ≥ 97 then (spec_AlpineParse.j0 k bt379.2 (decide ((bt bt379.2 0) ≤ 122)) a0 (⟨#[]⟩ : ByteArray) (⟨#[]⟩ : ByteArray) (⟨#[]⟩ : ByteArray) false bt379.1 true false (⟨#[]⟩ : ByteArray)) else (spec_AlpineParse.j0 k bt379.2 false a0 (⟨#[]⟩ : ByteArray) (⟨#[]⟩ : ByteArray) (⟨#[]⟩ : ByteArray) false bt379.1 true false (⟨#[]⟩ : ByteArray))) else (none)))
end Go.Proofs.YtapaijpglfmfgaaDoor.Q
end
section -- Qx1
namespace Go.Proofs.YtapaijpglfmfgaaDoor.Q
open Go.RowKit Go.Proofs.YtapaijpglfmfgaaDoorH Go.Proofs.YtapaijpglfmfgaaDoorG Go.Proofs.YtapaijpglfmfgaaDoorW.PrintWords Go.Proofs.YtapaijpglfmfgaaDoorW.PrintLast Go.Proofs.YtapaijpglfmfgaaDoorW.PrintMore
attribute [local go_sem] max2_int min2_int max_two min_two max_three min_three max_four min_four   -- for this text's walks alone
set_option linter.unusedVariables false
set_option linter.unusedSimpArgs false
theorem eqA31 (d : Nat) (w : World) (x0 y0 : Bool) (x1 y1 : ByteArray) :
  (Op.equalIn (d + 2) 31 (.agg #[.bool x0, .string x1]) (.agg #[.bool y0, .string y1])).run Tryd.prog w = .ok (x0 == y0 && (x1.toList == y1.toList)) w := by
 refine eqA_of Tryd.underlying31 (by kernel_rfl) ?_
 refine eqf_cons (by rfl) (by go_simp; rfl) (by go_simp; rfl) (by go_simp) ?_
 exact eqf_last (by rfl) (by go_simp; rfl) (by go_simp; rfl) (by go_simp)
end Go.Proofs.YtapaijpglfmfgaaDoor.Q
end
section -- Qx2
namespace Go.Proofs.YtapaijpglfmfgaaDoor.Q
open Go.RowKit Go.Proofs.YtapaijpglfmfgaaDoorH Go.Proofs.YtapaijpglfmfgaaDoorG Go.Proofs.YtapaijpglfmfgaaDoorW.PrintWords Go.Proofs.YtapaijpglfmfgaaDoorW.PrintLast Go.Proofs.YtapaijpglfmfgaaDoorW.PrintMore
attribute [local go_sem] max2_int min2_int max_two min_two max_three min_three max_four min_four   -- for this text's walks alone
set_option linter.unusedVariables false
set_option linter.unusedSimpArgs false
theorem eqA54 (d : Nat) (w : World) (x0 y0 : ByteArray) (x1 y1 : Bool) (x2 y2 : ByteArray) (x3 y3 : Int) :
  (Op.equalIn (d + 3) 54 (.agg #[.string x0, .bool x1, .string x2, .int .i64 x3]) (.agg #[.string y0, .bool y1, .string y2, .int .i64 y3])).run Tryd.prog w = .ok (x0.toList == y0.toList && ((x1 == y1 && (x2.toList == y2.toList)) && (x3 == y3))) w := by
 refine eqA_of Tryd.underlying54 (by kernel_rfl) ?_
 refine eqf_cons (by rfl) (by go_simp; rfl) (by go_simp; rfl) (by go_simp) ?_
 refine eqf_cons (by rfl) (by go_simp) (by go_simp) (eqA31 (d + 0) w _ _ _ _) ?_
 exact eqf_last (by rfl) (by go_simp; rfl) (by go_simp; rfl) (by go_simp)
end Go.Proofs.YtapaijpglfmfgaaDoor.Q
end
section -- Qx3
namespace Go.Proofs.YtapaijpglfmfgaaDoor.Q
open Go.RowKit Go.Proofs.YtapaijpglfmfgaaDoorH Go.Proofs.YtapaijpglfmfgaaDoorG Go.Proofs.YtapaijpglfmfgaaDoorW.PrintWords Go.Proofs.YtapaijpglfmfgaaDoorW.PrintLast Go.Proofs.YtapaijpglfmfgaaDoorW.PrintMore
attribute [local go_sem] max2_int min2_int max_two min_two max_three min_three max_four min_four   -- for this text's walks alone
set_option linter.unusedVariables false
set_option linter.unusedSimpArgs false
theorem eqA58 (d : Nat) (w : World) (x0 y0 : Int) (x1 y1 : Bool) (x2 y2 : ByteArray) :
  (Op.equalIn (d + 3) 58 (.agg #[.int .i64 x0, .bool x1, .string x2]) (.agg #[.int .i64 y0, .bool y1, .string y2])).run Tryd.prog w = .ok (x0 == y0 && ((x1 == y1 && (x2.toList == y2.toList)))) w := by
 refine eqA_of Tryd.underlying58 (by kernel_rfl) ?_
 refine eqf_cons (by rfl) (by go_simp; rfl) (by go_simp; rfl) (by go_simp) ?_
 exact eqf_last (by rfl) (by go_simp) (by go_simp) (eqA31 (d + 0) w _ _ _ _)
end Go.Proofs.YtapaijpglfmfgaaDoor.Q
end
section -- Qx17
namespace Go.Proofs.YtapaijpglfmfgaaDoor.Q
open Go.RowKit Go.Proofs.YtapaijpglfmfgaaDoorH Go.Proofs.YtapaijpglfmfgaaDoorG Go.Proofs.YtapaijpglfmfgaaDoorW.PrintWords Go.Proofs.YtapaijpglfmfgaaDoorW.PrintLast Go.Proofs.YtapaijpglfmfgaaDoorW.PrintMore
attribute [local go_sem] max2_int min2_int max_two min_two max_three min_three max_four min_four   -- for this text's walks alone
set_option linter.unusedVariables false
set_option linter.unusedSimpArgs false
attribute [local go_sem high] eqA31 eqA54 eqA58
mutual
def laws_alpine.j0 : Nat → Bool → ByteArray → ByteArray → ByteArray → ByteArray → Bool → List (S54) → List (S58) → Bool → Bool → ByteArray → ByteArray → ByteArray → ByteArray → ByteArray → Bool → List (S54) → List (S58) → Bool → Bool → ByteArray → Option (Bool)
 | 0, _, _, _, _, _, _, _, _, _, _, _, _, _, _, _, _, _, _, _, _, _ => none
 | k + 1, x53, x393000, x393001, x393002, x393003, x393004, x393005, x393006, x393007, x393008, x393009, x394000, x394001, x394002, x394003, x394004, x394005, x394006, x394007, x394008, x394009 => if x53 = true then (some false) else (if (x393005.length : Int) = (x394005.length : Int) then (laws_alpine.j1 k ((x393006.length : Int) != (x394006.length : Int)) x393000 x393001 x393002 x393003 x393004 x393005 x393006 x393007 x393008 x393009 x394000 x394001 x394002 x394003 x394004 x394005 x394006 x394007 x394008 x394009) else (laws_alpine.j1 k true x393000 x393001 x393002 x393003 x393004 x393005 x393006 x393007 x393008 x393009 x394000 x394001 x394002 x394003 x394004 x394005 x394006 x394007 x394008 x394009))
def laws_alpine.j1 : Nat → Bool → ByteArray → ByteArray → ByteArray → ByteArray → Bool → List (S54) → List (S58) → Bool → Bool → ByteArray → ByteArray → ByteArray → ByteArray → ByteArray → Bool → List (S54) → List (S58) → Bool → Bool → ByteArray → Option (Bool)
 | 0, _, _, _, _, _, _, _, _, _, _, _, _, _, _, _, _, _, _, _, _, _ => none
 | k + 1, x69, x393000, x393001, x393002, x393003, x393004, x393005, x393006, x393007, x393008, x393009, x394000, x394001, x394002, x394003, x394004, x394005, x394006, x394007, x394008, x394009 => if x69 = true then (some false) else (laws_alpine.l0 k (x393005.length : Int) 0 x393000 x393001 x393002 x393003 x393004 x393005 x393006 x393007 x393008 x393009 x394000 x394001 x394002 x394003 x394004 x394005 x394006 x394007 x394008 x394009)
def laws_alpine.l0 : Nat → Int → Int → ByteArray → ByteArray → ByteArray → ByteArray → Bool → List (S54) → List (S58) → Bool → Bool → ByteArray → ByteArray → ByteArray → ByteArray → ByteArray → Bool → List (S54) → List (S58) → Bool → Bool → ByteArray → Option (Bool)
 | 0, _, _, _, _, _, _, _, _, _, _, _, _, _, _, _, _, _, _, _, _, _, _ => none
 | k + 1, x72, x73, x393000, x393001, x393002, x393003, x393004, x393005, x393006, x393007, x393008, x393009, x394000, x394001, x394002, x394003, x394004, x394005, x394006, x394007, x394008, x394009 => if x73 < x72 then (if 0 ≤ x73 then (if x73 < (x393005.length : Int) then (if x73 < (x394005.length : Int) then (if (!((((rd_T54 x393005 x73).f0).toList) == (((rd_T54 x394005 x73).f0).toList)) || ((!(((rd_T54 x393005 x73).f1.f0) == ((rd_T54 x394005 x73).f1.f0)) || (!((((rd_T54 x393005 x73).f1.f1).toList) == (((rd_T54 x394005 x73).f1.f1).toList)))) || (!(((rd_T54 x393005 x73).f2) == ((rd_T54 x394005 x73).f2))))) = true then (some false) else (laws_alpine.l0 k x72 (wrap64 (x73 + 1)) x393000 x393001 x393002 x393003 x393004 x393005 x393006 x393007 x393008 x393009 x394000 x394001 x394002 x394003 x394004 x394005 x394006 x394007 x394008 x394009)) else (none)) else (none)) else (none)) else (laws_alpine.l1 k (x393006.length : Int) 0 x393000 x393001 x393002 x393003 x393004 x393005 x393006 x393007 x393008 x393009 x394000 x394001 x394002 x394003 x394004 x394005 x394006 x394007 x394008 x394009)
def laws_alpine.l1 : Nat → Int → Int → ByteArray → ByteArray → ByteArray → ByteArray → Bool → List (S54) → List (S58) → Bool → Bool → ByteArray → ByteArray → ByteArray → ByteArray → ByteArray → Bool → List (S54) → List (S58) → Bool → Bool → ByteArray → Option (Bool)
 | 0, _, _, _, _, _, _, _, _, _, _, _, _, _, _, _, _, _, _, _, _, _, _ => none
 | k + 1, x90, x91, x393000, x393001, x393002, x393003, x393004, x393005, x393006, x393007, x393008, x393009, x394000, x394001, x394002, x394003, x394004, x394005, x394006, x394007, x394008, x394009 => if x91 < x90 then (if 0 ≤ x91 then (if x91 < (x393006.length : Int) then (if x91 < (x394006.length : Int) then (if (!(((rd_T58 x393006 x91).f0) == ((rd_T58 x394006 x91).f0)) || ((!(((rd_T58 x393006 x91).f1.f0) == ((rd_T58 x394006 x91).f1.f0)) || (!((((rd_T58 x393006 x91).f1.f1).toList) == (((rd_T58 x394006 x91).f1.f1).toList)))))) = true then (some false) else (laws_alpine.l1 k x90 (wrap64 (x91 + 1)) x393000 x393001 x393002 x393003 x393004 x393005 x393006 x393007 x393008 x393009 x394000 x394001 x394002 x394003 x394004 x394005 x394006 x394007 x394008 x394009)) else (none)) else (none)) else (none)) else (some true)
end
def laws_alpine.f (k : Nat) (a0_0 : ByteArray) (a0_1 : ByteArray) (a0_2 : ByteArray) (a0_3 : ByteArray) (a0_4 : Bool) (l0_5 : List (S54)) (l0_6 : List (S58)) (a0_7 : Bool) (a0_8 : Bool) (a0_9 : ByteArray) (a1_0 : ByteArray) (a1_1 : ByteArray) (a1_2 : ByteArray) (a1_3 : ByteArray) (a1_4 : Bool) (l1_5 : List (S54)) (l1_6 : List (S58)) (a1_7 : Bool) (a1_8 : Bool) (a1_9 : ByteArray) : Option (Bool) := if a0_0.toList = a1_0.toList then (if a0_1.toList = a1_1.toList then (if a0_2.toList = a1_2.toList then (if a0_3.toList = a1_3.toList then (if (a0_4 != a1_4) = true then (laws_alpine.j0 k true a0_0 a0_1 a0_2 a0_3 a0_4 l0_5 l0_6 a0_7 a0_8 a0_9 a1_0 a1_1 a1_2 a1_3 a1_4 l1_5 l1_6 a1_7 a1_8 a1_9) else (if (a0_7 != a1_7) = true then (laws_alpine.j0 k true a0_0 a0_1 a0_2 a0_3 a0_4 l0_5 l0_6 a0_7 a0_8 a0_9 a1_0 a1_1 a1_2 a1_3 a1_4 l1_5 l1_6 a1_7 a1_8 a1_9) else (laws_alpine.j0 k (!(a0_8 == a1_8) || (!(a0_9.toList == a1_9.toList))) a0_0 a0_1 a0_2 a0_3 a0_4 l0_5 l0_6 a0_7 a0_8 a0_9 a1_0 a1_1 a1_2 a1_3 a1_4 l1_5 l1_6 a1_7 a1_8 a1_9))) else (laws_alpine.j0 k true a0_0 a0_1 a0_2 a0_3 a0_4 l0_5 l0_6 a0_7 a0_8 a0_9 a1_0 a1_1 a1_2 a1_3 a1_4 l1_5 l1_6 a1_7 a1_8 a1_9)) else (laws_alpine.j0 k true a0_0 a0_1 a0_2 a0_3 a0_4 l0_5 l0_6 a0_7 a0_8 a0_9 a1_0 a1_1 a1_2 a1_3 a1_4 l1_5 l1_6 a1_7 a1_8 a1_9)) else (laws_alpine.j0 k true a0_0 a0_1 a0_2 a0_3 a0_4 l0_5 l0_6 a0_7 a0_8 a0_9 a1_0 a1_1 a1_2 a1_3 a1_4 l1_5 l1_6 a1_7 a1_8 a1_9)) else (laws_alpine.j0 k true a0_0 a0_1 a0_2 a0_3 a0_4 l0_5 l0_6 a0_7 a0_8 a0_9 a1_0 a1_1 a1_2 a1_3 a1_4 l1_5 l1_6 a1_7 a1_8 a1_9)
end Go.Proofs.YtapaijpglfmfgaaDoor.Q
end
section -- BA
namespace Go.Proofs.YtapaijpglfmfgaaDoor.V
open Go.RowKit Go.Proofs.YtapaijpglfmfgaaDoor.Q Go.Proofs.YtapaijpglfmfgaaDoorG Go.Proofs.YtapaijpglfmfgaaDoorP Go.Proofs.YtapaijpglfmfgaaDoorH Go.Proofs.YtapaijpglfmfgaaDoorB Go.Proofs.YtapaijpglfmfgaaDoorM Go.Proofs.YtapaijpglfmfgaaDoorW.PrintWords Go.Proofs.YtapaijpglfmfgaaDoorW.PrintLast
set_option linter.unusedVariables false
set_option linter.unusedSimpArgs false
theorem rd_nat (l : List Int) (i : Nat) : rd l (i : Int) = l.getD i 0 := by simp [rd]
theorem intOf_l2 (m : List Int) (hm : m.length ≤ 1000000) : ∀ (n k : Nat), m.length - k = n → k ≤ m.length →
    Ev (fun q => spec_intOf.l2 q m (content m.length (m.take k)) (k : Int)) (false, strOfNums m.reverse) := by
  intro n
  induction n with
  | zero =>
    intro k hn hk
    obtain rfl : k = m.length := by omega
    refine Ev.succ ?_
    simp only [spec_intOf.l2]
    refine Ev.neg (fun _ => by first | omega | assumption | nofun) ?_
    refine Ev.eq (Ev.now _) ?_
    rw [List.take_length, content_done _ rfl]
  | succ n ih =>
    intro k hn hk
    have hlt : k < m.length := by omega
    have htl : (m.take k).length = k := by rw [List.length_take]; omega
    have hcl : (content m.length (m.take k)).length = m.length := content_len (by omega)
    refine Ev.succ ?_
    simp only [spec_intOf.l2, rd_nat]
    refine Ev.pos (fun _ => by first | omega | trivial | assumption) ?_
    refine Ev.pos (fun _ => by first | omega | trivial | assumption) ?_
    rw [w64 (i := (m.length : Int) - 1) (by omega) (by omega), w64 (i := (m.length : Int) - 1 - (k : Int)) (by omega) (by omega), w64 (i := (k : Int) + 1) (by omega) (by omega)]
    refine Ev.pos (fun _ => by omega) ?_
    refine Ev.pos (fun _ => by rw [hcl]; omega) ?_
    have e1 : ((m.length : Int) - 1 - (k : Int)).toNat = m.length - (m.take k).length - 1 := by rw [htl]; omega
    rw [e1, content_step _ (by rw [htl]; exact hlt)]
    have e2 : m.take k ++ [m.getD k 0] = m.take (k + 1) := by
      rw [List.take_add_one, List.getElem?_eq_getElem hlt, List.getD_eq_getElem?_getD, List.getElem?_eq_getElem hlt]
      rfl
    rw [e2]
    exact ih (k + 1) (by omega) (by omega)
theorem intOf_l1 (s : ByteArray) (i : Int) {r : Bool × ByteArray} : ∀ (rest done : List Int) (c : Nat), Byt rest → c ≤ 300 → done.length + rest.length ≤ 1000000 →
    Ev (fun q => spec_intOf.l1 q s (done ++ (mul10 rest c).1) i ((mul10 rest c).2 : Int) ((done.length + rest.length : Nat) : Int)) r → Ev (fun q => spec_intOf.l1 q s (done ++ rest) i (c : Int) (done.length : Int)) r
  | [], done, c, _, _, _, h => by simpa [mul10] using h
  | x :: rest, done, c, hb, hc, hl, h => by
    have hx := hb.cons.1
    simp only [List.length_cons] at hl
    refine Ev.succ ?_
    simp only [spec_intOf.l1, rd_nat]
    refine Ev.pos (fun _ => by rw [List.length_append, List.length_cons]; omega) ?_
    refine Ev.pos (fun _ => by omega) ?_
    have hg : (done ++ x :: rest).getD done.length 0 = x := by simp [List.getD_eq_getElem?_getD]
    rw [hg, w64 (i := x) (by omega) (by omega), w64 (i := 10 * x) (by omega) (by omega), w64 (i := (c : Int) + 10 * x) (by omega) (by omega), w64 (i := (done.length : Int) + 1) (by omega) (by omega), Int.toNat_natCast]
    have e0 : (c : Int) + 10 * x = ((c + 10 * x.toNat : Nat) : Int) := by omega
    have e1 : Int.tmod ((c : Int) + 10 * x) 256 % 256 = (((c + 10 * x.toNat) % 256 : Nat) : Int) := by
      rw [e0, Int.tmod_eq_emod_of_nonneg (by omega)]
      omega
    have e2 : wrap64 (Int.tdiv ((c : Int) + 10 * x) 256) = (((c + 10 * x.toNat) / 256 : Nat) : Int) := by
      rw [e0, Int.tdiv_eq_ediv_of_nonneg (by omega), w64 (by omega) (by omega)]
      omega
    rw [e1, e2]
    have e3 : (done ++ x :: rest).set done.length (((c + 10 * x.toNat) % 256 : Nat) : Int) = (done ++ [(((c + 10 * x.toNat) % 256 : Nat) : Int)]) ++ rest := by simp
    rw [e3]
    have ih := intOf_l1 s i (r := r) rest (done ++ [(((c + 10 * x.toNat) % 256 : Nat) : Int)]) ((c + 10 * x.toNat) / 256) hb.cons.2 (by omega) (by simp; omega)
    have e4 : ((done ++ [(((c + 10 * x.toNat) % 256 : Nat) : Int)]).length : Int) = (done.length : Int) + 1 := by simp
    rw [e4] at ih
    refine ih ?_
    simp only [mul10] at h
    have e5 : (((done ++ [(((c + 10 * x.toNat) % 256 : Nat) : Int)]).length + rest.length : Nat) : Int) = ((done.length + (x :: rest).length : Nat) : Int) := by simp; omega
    rw [e5, List.append_assoc]
    exact h
theorem pushD_len (m : List Int) (d : Nat) : (pushD m d).length ≤ m.length + 1 := by
  unfold pushD
  split
  · simp [mul10_len]
  · rw [mul10_len]; omega
theorem intOf_l0 (s : ByteArray) (hs : s.size ≤ 200000) (hd : ∀ c ∈ bytesOf s, isD c = true) : ∀ (n i : Nat) (m : List Int), s.size - i = n → i ≤ s.size → m.length ≤ i → Tight m (decL ((bytesOf s).take i)) →
    Ev (fun q => spec_intOf.l0 q s m (i : Int)) (false, magB (decL (bytesOf s))) := by
  intro n
  induction n with
  | zero =>
    intro i m hn hi hm ht
    obtain rfl : i = s.size := by omega
    rw [List.take_of_length_le (by rw [bytesOf_length]; exact Nat.le_refl _)] at ht
    refine Ev.succ ?_
    simp only [spec_intOf.l0]
    refine Ev.neg (fun _ => by first | omega | assumption | nofun) ?_
    refine Ev.pos (fun _ => by omega) ?_
    refine Ev.pos (fun _ => by omega) ?_
    have h := intOf_l2 m (by omega) _ 0 rfl (Nat.zero_le _)
    have e : content m.length (m.take 0) = List.replicate ((m.length : Int)).toNat 0 := by simp [content]
    rw [e] at h
    refine Ev.eq h ?_
    rw [ht.mag]
    rfl
  | succ n ih =>
    intro i m hn hi hm ht
    have hl : i < (bytesOf s).length := by rw [bytesOf_length]; omega
    have hc : isD ((bytesOf s).getD i 0) = true := hd _ (by rw [List.getD_eq_getElem?_getD, List.getElem?_eq_getElem hl]; exact List.getElem_mem hl)
    unfold isD at hc
    have hc2 := of_decide_eq_true hc
    obtain ⟨d, hdd⟩ : ∃ d, d = ((bytesOf s).getD i 0 - 48).toNat := ⟨_, rfl⟩
    refine Ev.succ ?_
    simp only [spec_intOf.l0, bt_nat]
    refine Ev.pos (fun _ => by first | omega | trivial | assumption) ?_
    refine Ev.pos (fun _ => by first | omega | trivial | assumption) ?_
    have e1 : ((bytesOf s).getD i 0 - 48) % 256 = (d : Int) := by omega
    rw [e1]
    have htk : decL ((bytesOf s).take (i + 1)) = 10 * decL ((bytesOf s).take i) + d := by
      rw [List.take_add_one, List.getElem?_eq_getElem hl, hdd, List.getD_eq_getElem?_getD, List.getElem?_eq_getElem hl]
      exact decL_snoc _ _
    have hp : Tight (pushD m d) (decL ((bytesOf s).take (i + 1))) := by rw [htk]; exact push_tight ht (by omega)
    have hcar := mul10_carry m d ht.byt (by omega)
    have hpl := pushD_len m d
    have next := ih (i + 1) (pushD m d) (by omega) (by omega) (by omega) hp
    have h := intOf_l1 s (i : Int) (r := (false, magB (decL (bytesOf s)))) m [] d ht.byt (by omega) (by simp; omega)
    simp only [List.nil_append, List.length_nil, Nat.zero_add] at h
    refine h ?_
    refine Ev.succ ?_
    simp only [spec_intOf.l1]
    refine Ev.neg (fun _ => by rw [mul10_len]; omega) ?_
    rw [w64 (i := (i : Int) + 1) (by omega) (by omega)]
    unfold pushD at next
    by_cases hq : (mul10 m d).2 > 0
    · rw [if_pos hq] at next
      refine Ev.pos (fun _ => by omega) ?_
      refine Ev.pos (fun _ => by rw [mul10_len]; omega) ?_
      have e2 : ((mul10 m d).2 : Int) % 256 = ((mul10 m d).2 : Int) := by omega
      rw [e2]
      exact next
    · rw [if_neg hq] at next
      refine Ev.neg (fun _ => by omega) ?_
      exact next
theorem intOf_ev (s : ByteArray) (hs : s.size ≤ 200000) (hd : ∀ c ∈ bytesOf s, isD c = true) : Ev (fun q => spec_intOf.f q s) (false, magB (decL (bytesOf s))) :=
  intOf_l0 s hs hd _ 0 [] rfl (Nat.zero_le _) (Nat.le_refl _) ⟨fun x hx => by simp at hx, rfl, fun h => absurd rfl h⟩
def numsFrom (k : Nat) (c : List (List Int)) : List S54 := (c.zipIdx k).map fun p => ⟨strOfNums p.1, ⟨false, magB (decL p.1)⟩, (p.2 : Int)⟩
theorem numsFrom_cons (k : Nat) (d : List Int) (c : List (List Int)) : numsFrom k (d :: c) = ⟨strOfNums d, ⟨false, magB (decL d)⟩, (k : Int)⟩ :: numsFrom (k + 1) c := rfl
end Go.Proofs.YtapaijpglfmfgaaDoor.V
end
section -- Qx20
namespace Go.Proofs.YtapaijpglfmfgaaDoor.Q
open Go.RowKit Go.Proofs.YtapaijpglfmfgaaDoorH Go.Proofs.YtapaijpglfmfgaaDoorG Go.Proofs.YtapaijpglfmfgaaDoorW.PrintWords Go.Proofs.YtapaijpglfmfgaaDoorW.PrintLast Go.Proofs.YtapaijpglfmfgaaDoorW.PrintMore
attribute [local go_sem] max2_int min2_int max_two min_two max_three min_three max_four min_four   -- for this text's walks alone
set_option linter.unusedVariables false
set_option linter.unusedSimpArgs false
def laws_short.l0 : Nat → List ByteArray → List ByteArray → Int → Int → Option (Bool)
 | 0, _, _, _, _ => none
 | k + 1, x0, x5, x6, x7 => if x7 < x6 then (if 0 ≤ x7 then (if x7 < (x5.length : Int) then (if ((rdOf ByteArray.empty x5 x7).size : Int) > 1200 then (some false) else (laws_short.l0 k x0 x5 x6 (wrap64 (x7 + 1)))) else (none)) else (none)) else (some (decide ((x0.length : Int) ≤ 60)))
def laws_short.f (k : Nat) (l0 : List ByteArray) : Option (Bool) := laws_short.l0 k l0 l0 (l0.length : Int) 0
def laws_FnAlpineParse.j0 : Nat → ByteArray → Bool → Option (Bool)
 | 0, _, _ => none
 | k + 1, x0, x18 => if x18 = true then (some true) else ((impl_AlpineParse.f x0).bind fun bt458 => ((spec_AlpineParse.f k x0).bind fun bt474 => (if (bt458.2.2.2.2.2.2.2.2.2.2 == bt474.2.2.2.2.2.2.2.2.2.2) = true then ((laws_alpine.f k bt458.1 bt458.2.1 bt458.2.2.1 bt458.2.2.2.1 bt458.2.2.2.2.1 bt458.2.2.2.2.2.1 bt458.2.2.2.2.2.2.1 bt458.2.2.2.2.2.2.2.1 bt458.2.2.2.2.2.2.2.2.1 bt458.2.2.2.2.2.2.2.2.2.1 bt474.1 bt474.2.1 bt474.2.2.1 bt474.2.2.2.1 bt474.2.2.2.2.1 bt474.2.2.2.2.2.1 bt474.2.2.2.2.2.2.1 bt474.2.2.2.2.2.2.2.1 bt474.2.2.2.2.2.2.2.2.1 bt474.2.2.2.2.2.2.2.2.2.1).bind fun t490 => (some t490)) else (some false))))
def laws_FnAlpineParse.f (k : Nat) (a0 : ByteArray) : Option (Bool) := if (a0.size : Int) > 2147483647 then (some true) else ((laws_short.f k (([a0] : List ByteArray))).bind fun t456 => (if t456 = true then ((spec_AlpineTextKnown.f k a0).bind fun t457 => (laws_FnAlpineParse.j0 k a0 (!t457))) else (laws_FnAlpineParse.j0 k a0 true)))
/-- THE ONE PURE STATEMENT of laws_FnAlpineParse: yours. -/
def laws_FnAlpineParse.Pure : Prop := ∀ (a0 : ByteArray), a0.size ≤ 140737488351232 → ∃ k, laws_FnAlpineParse.f k a0 = some true
end Go.Proofs.YtapaijpglfmfgaaDoor.Q
end
section -- BD
namespace Go.Proofs.YtapaijpglfmfgaaDoor.V
open Go.RowKit Go.Proofs.YtapaijpglfmfgaaDoor.Q Go.Proofs.YtapaijpglfmfgaaDoorG Go.Proofs.YtapaijpglfmfgaaDoorP Go.Proofs.YtapaijpglfmfgaaDoorH Go.Proofs.YtapaijpglfmfgaaDoorB Go.Proofs.YtapaijpglfmfgaaDoorM Go.Proofs.YtapaijpglfmfgaaDoorW.PrintWords Go.Proofs.YtapaijpglfmfgaaDoorW.PrintLast
set_option linter.unusedVariables false
set_option linter.unusedSimpArgs false
def decD (n : Nat) : List Int := if n < 10 then [48 + (n : Int)] else decD (n / 10) ++ [48 + ((n % 10 : Nat) : Int)]
theorem decD_small {n : Nat} (h : n < 10) : decD n = [48 + (n : Int)] := by rw [decD, if_pos h]
theorem decD_big {n : Nat} (h : ¬ n < 10) : decD n = decD (n / 10) ++ [48 + ((n % 10 : Nat) : Int)] := by rw [decD, if_neg h]
theorem decD_spec (n : Nat) : decD n ≠ [] ∧ (∀ c ∈ decD n, isD c = true) ∧ decL (decD n) = n := by
  induction n using Nat.strongRecOn with
  | ind n ih =>
    by_cases h : n < 10
    · rw [decD_small h]
      refine ⟨by simp, fun c hc => ?_, ?_⟩
      · have e : c = 48 + (n : Int) := by simpa using hc
        rw [e]; unfold isD; apply decide_eq_true; omega
      · simp [decL]; omega
    · rw [decD_big h]
      obtain ⟨_, h2, h3⟩ := ih (n / 10) (by omega)
      refine ⟨by simp, fun c hc => ?_, ?_⟩
      · rcases List.mem_append.1 hc with hc | hc
        · exact h2 c hc
        · have e : c = 48 + ((n % 10 : Nat) : Int) := by simpa using hc
          rw [e]; unfold isD; apply decide_eq_true; omega
      · rw [decL_snoc, h3]; omega
theorem decD_len : ∀ (k n : Nat), n < 10 ^ (k + 1) → (decD n).length ≤ k + 1
  | 0, n, h => by rw [decD_small (by simpa using h)]; simp
  | k + 1, n, h => by
    by_cases h0 : n < 10
    · rw [decD_small h0]; simp
    · rw [decD_big h0]
      have := decD_len k (n / 10) (by rw [Nat.pow_succ] at h; omega)
      simp; omega
theorem wrap_u16 {x : Int} (h0 : 0 ≤ x) (h1 : x ≤ 65535) : IntKind.u16.wrap x = x := by
  simp [IntKind.wrap, IntKind.signed, IntKind.bits]
  omega
theorem decimal_from (n : Nat) : n ≤ 65535 → ∀ acc : ByteArray, acc.size + (decD n).length ≤ 1000 → ∃ r, Ev (fun k => laws_decimal.l0 k n acc) r ∧ bytesOf r = decD n ++ bytesOf acc := by
  induction n using Nat.strongRecOn with
  | ind n ih =>
    intro hn acc hacc
    have e1 : Int.tmod (n : Int) 10 = ((n % 10 : Nat) : Int) := by rw [Int.tmod_eq_emod_of_nonneg (by omega)]; omega
    have e2 : Int.tdiv (n : Int) 10 = ((n / 10 : Nat) : Int) := by rw [Int.tdiv_eq_ediv_of_nonneg (by omega)]; omega
    have e3 : IntKind.u16.wrap (48 + ((n % 10 : Nat) : Int)) = 48 + ((n % 10 : Nat) : Int) := wrap_u16 (by omega) (by omega)
    have e4 : IntKind.u16.wrap ((n / 10 : Nat) : Int) = ((n / 10 : Nat) : Int) := wrap_u16 (by omega) (by omega)
    have e5 : wrap32 (48 + ((n % 10 : Nat) : Int)) = 48 + ((n % 10 : Nat) : Int) := w32 (by omega) (by omega)
    have hb : bytesOf (Utf8.encode (48 + ((n % 10 : Nat) : Int))) = [48 + ((n % 10 : Nat) : Int)] := B_encode (by omega) (by omega)
    have hsz : (Utf8.encode (48 + ((n % 10 : Nat) : Int))).size = 1 := by rw [B_size, hb]; rfl
    by_cases h : n < 10
    · refine ⟨Utf8.encode (48 + ((n % 10 : Nat) : Int)) ++ acc, Ev.succ ?_, ?_⟩
      · simp only [laws_decimal.l0, e1, e2, e3, e4, e5]
        refine Ev.pos (fun _ => by rw [hsz]; omega) ?_
        refine Ev.pos (fun _ => by omega) ?_
        exact Ev.now _
      · rw [B_append, hb, decD_small h, Nat.mod_eq_of_lt h]
    · rw [decD_big h, List.length_append, List.length_singleton] at hacc
      have hs2 : (Utf8.encode (48 + ((n % 10 : Nat) : Int)) ++ acc).size = 1 + acc.size := by rw [ByteArray.size_append, hsz]
      obtain ⟨r, hr, h1⟩ := ih (n / 10) (by omega) (by omega) (Utf8.encode (48 + ((n % 10 : Nat) : Int)) ++ acc) (by omega)
      refine ⟨r, Ev.succ ?_, ?_⟩
      · simp only [laws_decimal.l0, e1, e2, e3, e4, e5]
        refine Ev.pos (fun _ => by rw [hsz]; omega) ?_
        refine Ev.neg (fun _ => by omega) ?_
        exact hr
      · rw [h1, B_append, hb, decD_big h, List.append_assoc]
def dec (a : Int) : List Int := decD a.toNat
theorem dec_isD (a : Int) : ∀ c ∈ dec a, isD c = true := (decD_spec _).2.1
theorem dec_ne (a : Int) : dec a ≠ [] := (decD_spec _).1
theorem dec_val (a : Int) : decL (dec a) = a.toNat := (decD_spec _).2.2
def U16 (a : Int) : Prop := 0 ≤ a ∧ a ≤ 65535
theorem u16_of {a : Int} (h : (Lit.int .u16 a).wf = true) : U16 a := by
  unfold U16
  simp [Lit.wf, IntKind.min, IntKind.max, IntKind.signed, IntKind.bits] at h
  omega
theorem dec_len {a : Int} (h : U16 a) : (dec a).length ≤ 5 := by
  obtain ⟨h0, h1⟩ := h
  refine decD_len 4 _ ?_
  have e : (10 : Nat) ^ (4 + 1) = 100000 := by decide
  omega
theorem isD_byte {c : Int} (h : isD c = true) : 0 ≤ c ∧ c ≤ 255 := by
  unfold isD at h
  have := of_decide_eq_true h
  omega
theorem B_digits {l : List Int} (h : ∀ c ∈ l, isD c = true) : bytesOf (strOfNums l) = l := B_str (fun c hc => isD_byte (h c hc))
theorem decimal_ev {a : Int} (h : U16 a) : Ev (fun k => laws_decimal.f k a) (strOfNums (dec a)) := by
  have hl := dec_len h
  obtain ⟨h0, h1⟩ := h
  have e0 : bytesOf (⟨#[]⟩ : ByteArray) = [] := rfl
  obtain ⟨r, hr, hb⟩ := decimal_from a.toNat (by omega) (⟨#[]⟩ : ByteArray) (by
    have e : (⟨#[]⟩ : ByteArray).size = 0 := rfl
    have : (decD a.toNat).length ≤ 5 := hl
    omega)
  rw [e0, List.append_nil] at hb
  have e1 : ((a.toNat : Nat) : Int) = a := by omega
  rw [e1] at hr
  refine Ev.eq hr ?_
  rw [← str_B r, hb]
  rfl
theorem dec_size {a : Int} (h : U16 a) : (strOfNums (dec a)).size ≤ 5 := by rw [B_size, B_digits (dec_isD a)]; exact dec_len h
theorem digit_eq (c : Int) : spec_isDigit.f c = some (isD c) := by
  unfold spec_isDigit.f isD
  by_cases h : c ≥ 48
  · rw [if_pos h]; simp; omega
  · rw [if_neg h]; simp; omega
theorem allDigits_from (s : ByteArray) (hs : s.size ≤ 2000000) (hd : ∀ c ∈ bytesOf s, isD c = true) (hp : 0 < s.size) : ∀ (n i : Nat), s.size - i = n → i ≤ s.size → Ev (fun k => spec_allDigits.l0 k s (i : Int)) true := by
  intro n
  induction n with
  | zero =>
    intro i hn hi
    refine Ev.succ ?_
    simp only [spec_allDigits.l0]
    refine Ev.neg (fun _ => by omega) ?_
    refine Ev.eq (Ev.now _) ?_
    exact decide_eq_true (by omega)
  | succ n ih =>
    intro i hn hi
    have hl : i < (bytesOf s).length := by rw [bytesOf_length]; omega
    refine Ev.succ ?_
    simp only [spec_allDigits.l0, bt_nat, digit_eq, Option.bind_some]
    refine Ev.pos (fun _ => by first | trivial | assumption | omega) ?_
    refine Ev.pos (fun _ => by first | trivial | assumption | omega) ?_
    refine Ev.pos (fun _ => hd _ (by rw [List.getD_eq_getElem?_getD, List.getElem?_eq_getElem hl]; exact List.getElem_mem hl)) ?_
    rw [w64 (by omega) (by omega)]
    exact ih (i + 1) (by omega) (by omega)
theorem number_ev (s : ByteArray) (hs : s.size ≤ 200000) (hd : ∀ c ∈ bytesOf s, isD c = true) (hp : 0 < s.size) : Ev (fun k => laws_number.f k s) (false, magB (decL (bytesOf s))) := by
  have hl : 0 < (bytesOf s).length := by rw [bytesOf_length]; exact hp
  have hc : isD ((bytesOf s).getD 0 0) = true := hd _ (by rw [List.getD_eq_getElem?_getD, List.getElem?_eq_getElem hl]; exact List.getElem_mem hl)
  unfold isD at hc
  have hc2 := of_decide_eq_true hc
  simp only [laws_number.f, spec_NumberOf.f, spec_Number.f]
  refine Ev.bind (a := (false, magB (decL (bytesOf s)), true)) ?_ (Ev.now _)
  refine Ev.bind (a := (false, magB (decL (bytesOf s)), true)) ?_ (Ev.now _)
  refine Ev.pos (fun _ => by omega) ?_
  refine Ev.pos (fun _ => by omega) ?_
  rw [bt_zero]
  refine Ev.neg (fun _ => by omega) ?_
  have e : ((bytesOf s).getD 0 0 == 45) = false := by rw [beq_eq_false_iff_ne]; omega
  rw [e]
  refine Ev.succ ?_
  simp only [spec_Number.j0]
  refine Ev.neg (fun _ => Bool.false_ne_true) ?_
  refine Ev.succ ?_
  simp only [spec_Number.j1]
  have h := allDigits_from s (by omega) hd hp _ 0 rfl (Nat.zero_le _)
  refine Ev.bind (a := true) (by simpa [spec_allDigits.f] using h) ?_
  refine Ev.pos (fun _ => by first | rfl | trivial) ?_
  refine Ev.bind (intOf_ev s hs hd) ?_
  refine Ev.neg (fun _ => Bool.false_ne_true) ?_
  exact Ev.now _
theorem number_dec {a : Int} (h : U16 a) : Ev (fun k => laws_number.f k (strOfNums (dec a))) (false, magB a.toNat) := by
  have hs := dec_size h
  have hb := B_digits (dec_isD a)
  have := number_ev (strOfNums (dec a)) (by omega) (by rw [hb]; exact dec_isD a) (by rw [B_size, hb]; exact List.length_pos_iff.2 (dec_ne a))
  rw [hb, dec_val] at this
  exact this
end Go.Proofs.YtapaijpglfmfgaaDoor.V
end
section -- BE
namespace Go.Proofs.YtapaijpglfmfgaaDoor.V
open Go.RowKit Go.Proofs.YtapaijpglfmfgaaDoor.Q Go.Proofs.YtapaijpglfmfgaaDoorG Go.Proofs.YtapaijpglfmfgaaDoorP Go.Proofs.YtapaijpglfmfgaaDoorH Go.Proofs.YtapaijpglfmfgaaDoorB Go.Proofs.YtapaijpglfmfgaaDoorM Go.Proofs.YtapaijpglfmfgaaDoorW.PrintWords Go.Proofs.YtapaijpglfmfgaaDoorW.PrintLast
set_option linter.unusedVariables false
set_option linter.unusedSimpArgs false
def tC (ns : List Int) : List (List Int) := ns.map dec
def tL (l : Int) : List Int := if Int.tmod l 27 > 0 then [96 + Int.tmod l 27] else []
def sW (i : Int) : List Int := sufWords.getD (Int.tmod i 9).toNat []
def tSfrom (j : Nat) (ss sn : List Int) : List (List Int × List Int) := (ss.zipIdx j).map fun p => (sW p.1, if 0 < sn.getD p.2 0 then dec (sn.getD p.2 0) else [])
def tS (ss sn : List Int) : List (List Int × List Int) := tSfrom 0 ss sn
def tH (h : List Int) : List Int := if h = [] then [] else 126 :: h
def tB (b : Bool) (n : Int) : List Int := if b then dec n else []
def tE (b : Bool) (n : Int) : List Int := if b then 45 :: 114 :: dec n else []
def joinP : List (List Int) → List Int
  | [] => []
  | d :: r => d ++ r.flatMap fun x => 46 :: x
def joinS (s : List (List Int × List Int)) : List Int := s.flatMap fun x => 95 :: (x.1 ++ x.2)
def textL (ns : List Int) (l : Int) (ss sn h : List Int) (b : Bool) (n : Int) : List Int := joinP (tC ns) ++ (tL l ++ (joinS (tS ss sn) ++ (tH h ++ tE b n)))
def tOk (ns ss h : List Int) : Prop := ns ≠ [] ∧ ns.length ≤ 60 ∧ ss.length ≤ 60 ∧ h.length ≤ 1200 ∧ ∀ c ∈ h, isX c = true
abbrev Texted := ByteArray × ByteArray × ByteArray × ByteArray × ByteArray × Bool × List S54 × List S58 × Bool × Bool × ByteArray × Bool
def failT : Texted := (⟨#[]⟩, ⟨#[]⟩, ⟨#[]⟩, ⟨#[]⟩, ⟨#[]⟩, false, [], [], false, false, ⟨#[]⟩, false)
def goodT (ns : List Int) (l : Int) (ss sn h : List Int) (b : Bool) (n : Int) : Texted :=
  (strOfNums (textL ns l ss sn h b n), strOfNums (textL ns l ss sn h b n), ⟨#[]⟩, strOfNums (tL l), strOfNums (tH h), false, numsA (tC ns), sufsA (tS ss sn), true, false, magB (decL (tB b n)), true)
theorem size_of {s : ByteArray} {l : List Int} (h : bytesOf s = l) : s.size = l.length := by rw [B_size, h]
theorem app_size (s t : ByteArray) : (s ++ t).size = s.size + t.size := ByteArray.size_append
theorem t7_ev (T : ByteArray) (hT : T.size ≤ 1000000) (ns : List Int) (l : Int) (ss sn : List Int) (h : ByteArray) (b : Bool) (n : Int) (hn : b = true → U16 n) (L H : ByteArray) (N : List S54) (S : List S58) (R : ByteArray) (hR : bytesOf R = bytesOf T ++ tE b n) :
    Ev (fun k => laws_Package_text.j7 k T ns l ss sn h b n ⟨#[]⟩ ⟨#[]⟩ L H false N S false false ⟨#[]⟩) (R, R, ⟨#[]⟩, L, H, false, N, S, true, false, magB (decL (tB b n)), true) := by
  refine Ev.succ ?_
  simp only [laws_Package_text.j7]
  cases b
  · refine Ev.neg (fun _ => Bool.false_ne_true) ?_
    have e : R = T := B_inj (by rw [hR]; simp [tE])
    rw [e]
    exact Ev.now _
  · have hu := hn rfl
    have hds := dec_size hu
    have hdb := B_digits (dec_isD n)
    refine Ev.pos (fun _ => by first | rfl | trivial) ?_
    refine Ev.bind (decimal_ev hu) ?_
    refine Ev.bind (number_dec hu) ?_
    refine Ev.bind (decimal_ev hu) ?_
    refine Ev.pos (fun _ => by omega) ?_
    have e2 : (⟨#[45, 114]⟩ : ByteArray).size = 2 := rfl
    refine Ev.pos (fun _ => by rw [app_size, e2]; omega) ?_
    have e : T ++ ((⟨#[45, 114]⟩ : ByteArray) ++ strOfNums (dec n)) = R := B_inj (by
      rw [hR, B_append, B_append, hdb]
      rfl)
    rw [e]
    refine Ev.eq (Ev.now _) ?_
    rw [show decL (tB true n) = n.toNat from dec_val n]
theorem t2_bad (T : ByteArray) (ns : List Int) (l : Int) (ss sn : List Int) (h : ByteArray) (hs : h.size ≤ 1200) (b : Bool) (n : Int) (L : ByteArray) (N : List S54) (S : List S58) : ∀ (m i : Nat), h.size - i = m → i ≤ h.size → ¬ (∀ c ∈ (bytesOf h).drop i, isX c = true) →
    Ev (fun k => laws_Package_text.l2 k T (i : Int) ns l ss sn h b n ⟨#[]⟩ ⟨#[]⟩ L ⟨#[]⟩ false N S false false ⟨#[]⟩) failT := by
  intro m
  induction m with
  | zero =>
    intro i hm hi hx
    refine absurd (fun c hc => ?_) hx
    rw [List.drop_of_length_le (by rw [bytesOf_length]; omega)] at hc
    simp at hc
  | succ m ih =>
    intro i hm hi hx
    have hl : i < (bytesOf h).length := by rw [bytesOf_length]; omega
    refine Ev.succ ?_
    simp only [laws_Package_text.l2, bt_nat]
    refine Ev.pos (fun _ => by omega) ?_
    refine Ev.pos (fun _ => by omega) ?_
    rw [w64 (i := (i : Int) + 1) (by omega) (by omega)]
    rw [drop_get _ _ hl] at hx
    have next := fun hx2 => ih (i + 1) (by omega) (by omega) hx2
    obtain ⟨c, hc⟩ : ∃ c, c = (bytesOf h).getD i 0 := ⟨_, rfl⟩
    rw [← hc] at hx ⊢
    have hnx : isX c = true → ¬ (∀ c ∈ (bytesOf h).drop (i + 1), isX c = true) := fun h1 h2 => hx (fun d hd => by
      rcases List.mem_cons.1 hd with e | hd
      · rw [e]; exact h1
      · exact h2 d hd)
    have hX : isX c = true ↔ (48 ≤ c ∧ c ≤ 57) ∨ (97 ≤ c ∧ c ≤ 102) := by simp [isX, isD]
    have hi2 : ((i : Int) + 1) = ((i + 1 : Nat) : Int) := by omega
    rw [hi2]
    by_cases h1 : c ≥ 48
    · refine Ev.pos (fun _ => h1) ?_
      by_cases h2 : c ≤ 57
      · refine Ev.pos (fun _ => h2) ?_
        exact next (hnx (hX.2 (by omega)))
      · refine Ev.neg (fun _ => h2) ?_
        by_cases h3 : c ≥ 97
        · refine Ev.pos (fun _ => h3) ?_
          by_cases h4 : c ≤ 102
          · refine Ev.pos (fun _ => h4) ?_
            exact next (hnx (hX.2 (by omega)))
          · refine Ev.neg (fun _ => h4) ?_
            exact Ev.now _
        · refine Ev.neg (fun _ => h3) ?_
          exact Ev.now _
    · refine Ev.neg (fun _ => h1) ?_
      by_cases h3 : c ≥ 97
      · refine Ev.pos (fun _ => h3) ?_
        by_cases h4 : c ≤ 102
        · refine Ev.pos (fun _ => h4) ?_
          exact next (hnx (hX.2 (by omega)))
        · refine Ev.neg (fun _ => h4) ?_
          exact Ev.now _
      · refine Ev.neg (fun _ => h3) ?_
        exact Ev.now _
theorem t2_good (T : ByteArray) (hT : T.size ≤ 900000) (ns : List Int) (l : Int) (ss sn : List Int) (h : ByteArray) (hs : h.size ≤ 1200) (b : Bool) (n : Int) (hn : b = true → U16 n) (L : ByteArray) (N : List S54) (S : List S58) (hx : ∀ c ∈ bytesOf h, isX c = true) (R : ByteArray) (hR : bytesOf R = bytesOf T ++ (tH (bytesOf h) ++ tE b n)) : ∀ (m i : Nat), h.size - i = m → i ≤ h.size →
    Ev (fun k => laws_Package_text.l2 k T (i : Int) ns l ss sn h b n ⟨#[]⟩ ⟨#[]⟩ L ⟨#[]⟩ false N S false false ⟨#[]⟩) (R, R, ⟨#[]⟩, L, strOfNums (tH (bytesOf h)), false, N, S, true, false, magB (decL (tB b n)), true) := by
  intro m
  induction m with
  | zero =>
    intro i hm hi
    refine Ev.succ ?_
    simp only [laws_Package_text.l2]
    refine Ev.neg (fun _ => by omega) ?_
    by_cases h0 : bytesOf h = []
    · refine Ev.pos (fun _ => (toList_nil h).2 h0) ?_
      have e : strOfNums (tH (bytesOf h)) = ⟨#[]⟩ := by rw [h0]; rfl
      rw [e]
      exact t7_ev T (by omega) ns l ss sn h b n hn L _ N S R (by rw [hR, h0]; rfl)
    · refine Ev.neg (fun _ e => h0 ((toList_nil h).1 e)) ?_
      have e1 : (⟨#[126]⟩ : ByteArray).size = 1 := rfl
      refine Ev.pos (fun _ => by omega) ?_
      refine Ev.pos (fun _ => by rw [app_size, e1]; omega) ?_
      have hb : bytesOf ((⟨#[126]⟩ : ByteArray) ++ h) = tH (bytesOf h) := by
        rw [B_append]
        unfold tH
        rw [if_neg h0]
        rfl
      have e : strOfNums (tH (bytesOf h)) = (⟨#[126]⟩ : ByteArray) ++ h := by rw [← hb, str_B]
      rw [e]
      exact t7_ev (T ++ ((⟨#[126]⟩ : ByteArray) ++ h)) (by rw [app_size, app_size, e1]; omega) ns l ss sn h b n hn L _ N S R (by rw [hR, B_append, hb, List.append_assoc])
  | succ m ih =>
    intro i hm hi
    have hl : i < (bytesOf h).length := by rw [bytesOf_length]; omega
    have hc := hx ((bytesOf h).getD i 0) (by rw [List.getD_eq_getElem?_getD, List.getElem?_eq_getElem hl]; exact List.getElem_mem hl)
    have next := ih (i + 1) (by omega) (by omega)
    have hX : isX ((bytesOf h).getD i 0) = true ↔ (48 ≤ (bytesOf h).getD i 0 ∧ (bytesOf h).getD i 0 ≤ 57) ∨ (97 ≤ (bytesOf h).getD i 0 ∧ (bytesOf h).getD i 0 ≤ 102) := by simp [isX, isD]
    have hi2 : ((i : Int) + 1) = ((i + 1 : Nat) : Int) := by omega
    refine Ev.succ ?_
    simp only [laws_Package_text.l2, bt_nat]
    refine Ev.pos (fun _ => by omega) ?_
    refine Ev.pos (fun _ => by omega) ?_
    rw [w64 (i := (i : Int) + 1) (by omega) (by omega), hi2]
    rcases hX.1 hc with h1 | h1
    · refine Ev.pos (fun _ => by omega) ?_
      refine Ev.pos (fun _ => by omega) ?_
      exact next
    · refine Ev.pos (fun _ => by omega) ?_
      refine Ev.neg (fun _ => by omega) ?_
      refine Ev.pos (fun _ => by omega) ?_
      refine Ev.pos (fun _ => by omega) ?_
      exact next
theorem tSfrom_cons (j : Nat) (s : Int) (ss sn : List Int) : tSfrom j (s :: ss) sn = (sW s, if 0 < sn.getD j 0 then dec (sn.getD j 0) else []) :: tSfrom (j + 1) ss sn := rfl
theorem joinS_cons (x : List Int × List Int) (s : List (List Int × List Int)) : joinS (x :: s) = 95 :: (x.1 ++ x.2) ++ joinS s := rfl
theorem mod9 (i : Int) (h : 0 ≤ i) : 0 ≤ Int.tmod i 9 ∧ Int.tmod i 9 < 9 := by
  rw [Int.tmod_eq_emod_of_nonneg h]
  omega
theorem sW_mem (i : Int) (h : 0 ≤ i) : sW i ∈ sufWords := by
  obtain ⟨h0, h1⟩ := mod9 i h
  unfold sW
  have hl : (Int.tmod i 9).toNat < sufWords.length := by show _ < 9; omega
  rw [List.getD_eq_getElem?_getD, List.getElem?_eq_getElem hl]
  exact List.getElem_mem hl
theorem nine {P : Nat → Prop} (h : P 0 ∧ P 1 ∧ P 2 ∧ P 3 ∧ P 4 ∧ P 5 ∧ P 6 ∧ P 7 ∧ P 8) : ∀ i, i < 9 → P i := by
  intro i hi
  obtain ⟨a0, a1, a2, a3, a4, a5, a6, a7, a8⟩ := h
  match i, hi with
  | 0, _ => exact a0
  | 1, _ => exact a1
  | 2, _ => exact a2
  | 3, _ => exact a3
  | 4, _ => exact a4
  | 5, _ => exact a5
  | 6, _ => exact a6
  | 7, _ => exact a7
  | 8, _ => exact a8
theorem weights_at (i : Int) (h : 0 ≤ i) : rd [0, 1, 2, 3, 5, 6, 7, 8, 9] (Int.tmod i 9) = (wgt (sW i) : Int) := by
  obtain ⟨h0, h1⟩ := mod9 i h
  unfold sW
  obtain ⟨q, hq⟩ : ∃ q : Nat, Int.tmod i 9 = (q : Int) := ⟨(Int.tmod i 9).toNat, by omega⟩
  rw [hq, Int.toNat_natCast]
  revert q
  have := nine (P := fun q => rd [0, 1, 2, 3, 5, 6, 7, 8, 9] (q : Int) = (wgt (sufWords.getD q []) : Int)) (by decide)
  intro q hq
  exact this q (by omega)
theorem words_at (i : Int) (h : 0 ≤ i) : bytesOf (rdOf ByteArray.empty sufBs (Int.tmod i 9)) = sW i := by
  obtain ⟨h0, h1⟩ := mod9 i h
  obtain ⟨q, hq⟩ : ∃ q : Nat, Int.tmod i 9 = (q : Int) := ⟨(Int.tmod i 9).toNat, by omega⟩
  unfold sW
  rw [hq, Int.toNat_natCast, rdOf_B, sufBs_B]
theorem t1_ev {r : Texted} (ns : List Int) (l : Int) (ss sn : List Int) (hss : ss.length ≤ 60) (hse : ∀ x ∈ ss, 0 ≤ x) (hsn : ∀ x ∈ sn, U16 x) (h : ByteArray) (b : Bool) (n : Int) (L : ByteArray) (N : List S54) : ∀ (m j : Nat) (T : ByteArray) (S : List S58), ss.length - j = m → j ≤ ss.length → T.size ≤ 100000 + 100 * j → S.length ≤ 1000 + j →
    (∀ T' : ByteArray, bytesOf T' = bytesOf T ++ joinS (tSfrom j (ss.drop j) sn) → T'.size ≤ 110000 → Ev (fun k => laws_Package_text.l2 k T' 0 ns l ss sn h b n ⟨#[]⟩ ⟨#[]⟩ L ⟨#[]⟩ false N (S ++ sufsA (tSfrom j (ss.drop j) sn)) false false ⟨#[]⟩) r) →
    Ev (fun k => laws_Package_text.l1 k T ss (ss.length : Int) (j : Int) ns l ss sn h b n ⟨#[]⟩ ⟨#[]⟩ L ⟨#[]⟩ false N S false false ⟨#[]⟩) r := by
  intro m
  induction m with
  | zero =>
    intro j T S hm hj hT hS hk
    refine Ev.succ ?_
    simp only [laws_Package_text.l1]
    refine Ev.neg (fun _ => by omega) ?_
    have e : ss.drop j = [] := List.drop_of_length_le (by omega)
    rw [e] at hk
    have := hk T (by simp [joinS, tSfrom]) (by omega)
    simpa [tSfrom, sufsA] using this
  | succ m ih =>
    intro j T S hm hj hT hS hk
    have hlt : j < ss.length := by omega
    have hd : ss.drop j = ss[j] :: ss.drop (j + 1) := List.drop_eq_getElem_cons hlt
    have h0 := hse _ (List.getElem_mem hlt)
    have hrd : rd ss (j : Int) = ss[j] := by rw [rd_nat, List.getD_eq_getElem?_getD, List.getElem?_eq_getElem hlt]; rfl
    obtain ⟨x, hx⟩ : ∃ x, x = ss[j] := ⟨_, rfl⟩
    rw [hd, ← hx, tSfrom_cons] at hk
    rw [← hx] at hrd h0
    obtain ⟨m0, m1⟩ := mod9 x h0
    have hwb := words_at x h0
    have hmem := sW_mem x h0
    have hwl := sufWords_len hmem
    have hww := weights_at x h0
    obtain ⟨W, hW⟩ : ∃ W, W = rdOf ByteArray.empty sufBs (Int.tmod x 9) := ⟨_, rfl⟩
    rw [← hW] at hwb
    have hWs : W.size = (sW x).length := size_of hwb
    have e95 : (⟨#[95]⟩ : ByteArray).size = 1 := rfl
    have hbW : bytesOf (T ++ ((⟨#[95]⟩ : ByteArray) ++ W)) = bytesOf T ++ (95 :: sW x) := by rw [B_append, B_append, hwb]; rfl
    have hj2 : ((j : Int) + 1) = ((j + 1 : Nat) : Int) := by omega
    refine Ev.succ ?_
    simp only [laws_Package_text.l1, hrd]
    refine Ev.pos (fun _ => by omega) ?_
    refine Ev.pos (fun _ => by omega) ?_
    refine Ev.pos (fun _ => by omega) ?_
    refine Ev.bind0 rfl ?_
    refine Ev.pos (fun _ => by omega) ?_
    refine Ev.pos (fun _ => by show Int.tmod x 9 < ((9 : Nat) : Int); omega) ?_
    refine Ev.bind0 (a := sufBs) rfl ?_
    rw [← hW]
    refine Ev.pos (fun _ => by show Int.tmod x 9 < ((9 : Nat) : Int); omega) ?_
    refine Ev.pos (fun _ => by omega) ?_
    refine Ev.pos (fun _ => by rw [app_size, e95]; omega) ?_
    rw [hww]
    have hT2 : (T ++ ((⟨#[95]⟩ : ByteArray) ++ W)).size = T.size + (1 + W.size) := by rw [app_size, app_size, e95]
    have hjoin : ∀ (d : List Int) (T' : ByteArray), bytesOf T' = (bytesOf T ++ (95 :: sW x)) ++ d ++ joinS (tSfrom (j + 1) (ss.drop (j + 1)) sn) → bytesOf T' = bytesOf T ++ joinS ((sW x, d) :: tSfrom (j + 1) (ss.drop (j + 1)) sn) := by
      intro d T' h
      rw [h, joinS_cons]
      simp only [List.append_assoc, List.cons_append]
    have key : ∀ (q : Bool), q = decide (0 < sn.getD j 0) → Ev (fun k => laws_Package_text.j5 k (T ++ ((⟨#[95]⟩ : ByteArray) ++ W)) (j : Int) ss (ss.length : Int) (j : Int) q ns l ss sn h b n ⟨#[]⟩ ⟨#[]⟩ L ⟨#[]⟩ false N S false false ⟨#[]⟩ (wgt (sW x) : Int) false ⟨#[]⟩) r := by
      intro q hq
      refine Ev.succ ?_
      simp only [laws_Package_text.j5]
      by_cases hp : 0 < sn.getD j 0
      · rw [hq, decide_eq_true hp]
        have hlt2 : j < sn.length := by
          by_cases h : j < sn.length
          · exact h
          · rw [List.getD_eq_getElem?_getD, List.getElem?_eq_none (by omega)] at hp
            exact absurd hp (by decide)
        have hu : U16 (sn.getD j 0) := by
          rw [List.getD_eq_getElem?_getD, List.getElem?_eq_getElem hlt2]
          exact hsn _ (List.getElem_mem hlt2)
        have hds := dec_size hu
        have hdb := B_digits (dec_isD (sn.getD j 0))
        rw [if_pos hp] at hk
        refine Ev.pos (fun _ => by first | rfl | trivial) ?_
        refine Ev.pos (fun _ => by omega) ?_
        refine Ev.pos (fun _ => by omega) ?_
        rw [rd_nat]
        refine Ev.bind (decimal_ev hu) ?_
        refine Ev.bind (number_dec hu) ?_
        refine Ev.bind (decimal_ev hu) ?_
        refine Ev.pos (fun _ => by omega) ?_
        refine Ev.pos (fun _ => by omega) ?_
        rw [w64 (i := (j : Int) + 1) (by omega) (by omega), hj2]
        refine ih (j + 1) _ _ (by omega) (by omega) (by rw [app_size, hT2]; omega) (by simp; omega) ?_
        intro T' hT' hs'
        have := hk T' (hjoin _ T' (by rw [hT', B_append, hbW, hdb])) hs'
        rw [List.append_assoc]
        have e : (sufsA ((sW x, dec (sn.getD j 0)) :: tSfrom (j + 1) (ss.drop (j + 1)) sn)) = [⟨(wgt (sW x) : Int), ⟨false, magB (sn.getD j 0).toNat⟩⟩] ++ sufsA (tSfrom (j + 1) (ss.drop (j + 1)) sn) := by
          simp only [sufsA, List.map_cons, dec_val]
          rfl
        rw [e] at this
        exact this
      · rw [hq, decide_eq_false hp]
        rw [if_neg hp] at hk
        refine Ev.neg (fun _ => Bool.false_ne_true) ?_
        refine Ev.pos (fun _ => by omega) ?_
        rw [w64 (i := (j : Int) + 1) (by omega) (by omega), hj2]
        refine ih (j + 1) _ _ (by omega) (by omega) (by rw [hT2]; omega) (by simp; omega) ?_
        intro T' hT' hs'
        have := hk T' (hjoin _ T' (by rw [hT', hbW, List.append_nil])) hs'
        rw [List.append_assoc]
        exact this
    by_cases hlt2 : j < sn.length
    · refine Ev.pos (fun _ => by omega) ?_
      rw [rd_nat]
      exact key _ (by rw [decide_eq_decide])
    · refine Ev.neg (fun _ => by omega) ?_
      refine key _ ?_
      rw [List.getD_eq_getElem?_getD, List.getElem?_eq_none (by omega)]
      rfl
theorem t3_ev {r : Texted} (ns : List Int) (l : Int) (hl : 0 ≤ l) (ss sn : List Int) (hss : ss.length ≤ 60) (hse : ∀ x ∈ ss, 0 ≤ x) (hsn : ∀ x ∈ sn, U16 x) (h : ByteArray) (b : Bool) (n : Int) (N : List S54) (T : ByteArray) (hT : T.size ≤ 50000)
    (hk : ∀ T' : ByteArray, bytesOf T' = bytesOf T ++ (tL l ++ joinS (tS ss sn)) → T'.size ≤ 110000 → Ev (fun k => laws_Package_text.l2 k T' 0 ns l ss sn h b n ⟨#[]⟩ ⟨#[]⟩ (strOfNums (tL l)) ⟨#[]⟩ false N (sufsA (tS ss sn)) false false ⟨#[]⟩) r) :
    Ev (fun k => laws_Package_text.l0 k T ns (ns.length : Int) (ns.length : Int) ns l ss sn h b n ⟨#[]⟩ ⟨#[]⟩ ⟨#[]⟩ ⟨#[]⟩ false N false false ⟨#[]⟩) r := by
  have go : ∀ (T1 L : ByteArray), bytesOf T1 = bytesOf T ++ tL l → T1.size ≤ 60000 → L = strOfNums (tL l) → Ev (fun k => laws_Package_text.j3 k T1 ns l ss sn h b n ⟨#[]⟩ ⟨#[]⟩ L ⟨#[]⟩ false N false false ⟨#[]⟩) r := by
    intro T1 L h1 h2 hL
    refine Ev.succ ?_
    simp only [laws_Package_text.j3]
    refine t1_ev ns l ss sn hss hse hsn h b n L N _ 0 T1 [] rfl (Nat.zero_le _) (by omega) (by simp) ?_
    intro T' hT' hs'
    rw [hL, List.nil_append, List.drop_zero]
    exact hk T' (by rw [hT', h1, List.append_assoc, List.drop_zero]; rfl) hs'
  refine Ev.succ ?_
  simp only [laws_Package_text.l0]
  refine Ev.neg (fun _ => by omega) ?_
  have hm : 0 ≤ Int.tmod l 27 ∧ Int.tmod l 27 < 27 := by rw [Int.tmod_eq_emod_of_nonneg hl]; omega
  by_cases h0 : Int.tmod l 27 > 0
  · refine Ev.pos (fun _ => h0) ?_
    have e : (97 + Int.tmod l 27 - 1) % 256 = 96 + Int.tmod l 27 := by omega
    rw [e]
    have hb : bytesOf (Utf8.encode (96 + Int.tmod l 27)) = tL l := by
      unfold tL
      rw [if_pos h0]
      exact B_encode (by omega) (by omega)
    have hz : (Utf8.encode (96 + Int.tmod l 27)).size = 1 := by
      rw [B_size, hb]
      unfold tL
      rw [if_pos h0]
      rfl
    refine Ev.pos (fun _ => by omega) ?_
    refine go _ _ (by rw [B_append, hb]) (by rw [app_size]; omega) (by rw [← hb, str_B])
  · refine Ev.neg (fun _ => h0) ?_
    have e : tL l = [] := by unfold tL; rw [if_neg h0]
    refine go _ _ (by rw [e, List.append_nil]) (by omega) (by rw [e]; rfl)
theorem t0_ev {r : Texted} (ns : List Int) (hns : ns.length ≤ 60) (hne : ∀ x ∈ ns, U16 x) (l : Int) (ss sn : List Int) (h : ByteArray) (b : Bool) (n : Int) : ∀ (m j : Nat) (T : ByteArray) (N : List S54), ns.length - j = m → j ≤ ns.length → T.size ≤ 10 * j → N.length = j →
    (∀ T' : ByteArray, bytesOf T' = bytesOf T ++ (if j = 0 then joinP (tC (ns.drop j)) else (tC (ns.drop j)).flatMap fun x => 46 :: x) → T'.size ≤ 50000 → Ev (fun k => laws_Package_text.l0 k T' ns (ns.length : Int) (ns.length : Int) ns l ss sn h b n ⟨#[]⟩ ⟨#[]⟩ ⟨#[]⟩ ⟨#[]⟩ false (N ++ numsFrom j (tC (ns.drop j))) false false ⟨#[]⟩) r) →
    Ev (fun k => laws_Package_text.l0 k T ns (ns.length : Int) (j : Int) ns l ss sn h b n ⟨#[]⟩ ⟨#[]⟩ ⟨#[]⟩ ⟨#[]⟩ false N false false ⟨#[]⟩) r := by
  intro m
  induction m with
  | zero =>
    intro j T N hm hj hT hN hk
    obtain rfl : j = ns.length := by omega
    have e : ns.drop ns.length = [] := List.drop_length
    rw [e] at hk
    have := hk T (by split <;> simp [tC, joinP]) (by omega)
    simpa [tC, numsFrom] using this
  | succ m ih =>
    intro j T N hm hj hT hN hk
    have hlt : j < ns.length := by omega
    have hd : ns.drop j = ns[j] :: ns.drop (j + 1) := List.drop_eq_getElem_cons hlt
    have hu := hne _ (List.getElem_mem hlt)
    have hrd : rd ns (j : Int) = ns[j] := by rw [rd_nat, List.getD_eq_getElem?_getD, List.getElem?_eq_getElem hlt]; rfl
    obtain ⟨x, hx⟩ : ∃ x, x = ns[j] := ⟨_, rfl⟩
    rw [hd, ← hx] at hk
    rw [← hx] at hrd hu
    have hds := dec_size hu
    have hdb := B_digits (dec_isD x)
    have hj2 : ((j : Int) + 1) = ((j + 1 : Nat) : Int) := by omega
    have key : ∀ (T1 : ByteArray), T1.size ≤ 10 * j + 1 → bytesOf T1 = bytesOf T ++ (if j = 0 then [] else [46]) → Ev (fun k => laws_Package_text.j2 k T1 (j : Int) x ns (ns.length : Int) (j : Int) ns l ss sn h b n ⟨#[]⟩ ⟨#[]⟩ ⟨#[]⟩ ⟨#[]⟩ false N false false ⟨#[]⟩) r := by
      intro T1 hT1 hb1
      refine Ev.succ ?_
      simp only [laws_Package_text.j2]
      refine Ev.bind (decimal_ev hu) ?_
      refine Ev.pos (fun _ => by omega) ?_
      refine Ev.bind (decimal_ev hu) ?_
      refine Ev.bind (decimal_ev hu) ?_
      refine Ev.bind (number_dec hu) ?_
      refine Ev.pos (fun _ => by omega) ?_
      rw [w64 (i := (j : Int) + 1) (by omega) (by omega), hj2]
      refine ih (j + 1) _ _ (by omega) (by omega) (by rw [app_size]; omega) (by simp; omega) ?_
      intro T' hT' hs'
      rw [if_neg (by omega)] at hT'
      have := hk T' (by
        rw [hT', B_append, hb1, hdb]
        simp only [tC, List.map_cons]
        by_cases hj0 : j = 0
        · rw [if_pos hj0, if_pos hj0]
          simp [joinP]
        · rw [if_neg hj0, if_neg hj0]
          simp) hs'
      have e : numsFrom j (tC (x :: ns.drop (j + 1))) = [⟨strOfNums (dec x), ⟨false, magB x.toNat⟩, (j : Int)⟩] ++ numsFrom (j + 1) (tC (ns.drop (j + 1))) := by
        show numsFrom j (dec x :: tC (ns.drop (j + 1))) = _
        rw [numsFrom_cons, dec_val]
        rfl
      rw [e, ← List.append_assoc] at this
      exact this
    refine Ev.succ ?_
    simp only [laws_Package_text.l0, hrd]
    refine Ev.pos (fun _ => by omega) ?_
    refine Ev.pos (fun _ => by omega) ?_
    refine Ev.pos (fun _ => by omega) ?_
    by_cases hj0 : j = 0
    · refine Ev.neg (fun _ => by omega) ?_
      exact key T (by omega) (by rw [if_pos hj0, List.append_nil])
    · refine Ev.pos (fun _ => by omega) ?_
      refine Ev.pos (fun _ => by omega) ?_
      have e46 : (⟨#[46]⟩ : ByteArray).size = 1 := rfl
      exact key _ (by rw [app_size, e46]; omega) (by rw [B_append, if_neg hj0]; rfl)
theorem text_ev (ns : List Int) (hne : ∀ x ∈ ns, U16 x) (l : Int) (hl : 0 ≤ l) (ss sn : List Int) (hse : ∀ x ∈ ss, 0 ≤ x) (hsn : ∀ x ∈ sn, U16 x) (h : ByteArray) (b : Bool) (n : Int) (hn : b = true → U16 n) :
    (tOk ns ss (bytesOf h) → Ev (fun k => laws_Package_text.f k ns l ss sn h b n) (goodT ns l ss sn (bytesOf h) b n)) ∧ (¬ tOk ns ss (bytesOf h) → Ev (fun k => laws_Package_text.f k ns l ss sn h b n) failT) := by
  have bad : Ev (fun k => laws_Package_text.j0 k true ns l ss sn h b n) failT := by
    refine Ev.succ ?_
    simp only [laws_Package_text.j0]
    refine Ev.pos (fun _ => by first | rfl | trivial) ?_
    exact Ev.now _
  have hz := bytesOf_length h
  by_cases h0 : ns = []
  · refine ⟨fun hk => absurd h0 hk.1, fun _ => ?_⟩
    simp only [laws_Package_text.f]
    refine Ev.pos (fun _ => by rw [h0]; rfl) ?_
    exact bad
  have hp : 0 < ns.length := List.length_pos_iff.2 h0
  by_cases h1 : ns.length ≤ 60
  case neg =>
    refine ⟨fun hk => absurd hk.2.1 h1, fun _ => ?_⟩
    simp only [laws_Package_text.f]
    refine Ev.neg (fun _ => by omega) ?_
    refine Ev.pos (fun _ => by omega) ?_
    exact bad
  by_cases h2 : ss.length ≤ 60
  case neg =>
    refine ⟨fun hk => absurd hk.2.2.1 h2, fun _ => ?_⟩
    simp only [laws_Package_text.f]
    refine Ev.neg (fun _ => by omega) ?_
    refine Ev.neg (fun _ => by omega) ?_
    refine Ev.pos (fun _ => by omega) ?_
    exact bad
  by_cases h3 : h.size ≤ 1200
  case neg =>
    refine ⟨fun hk => absurd hk.2.2.2.1 (by omega), fun _ => ?_⟩
    simp only [laws_Package_text.f]
    refine Ev.neg (fun _ => by omega) ?_
    refine Ev.neg (fun _ => by omega) ?_
    refine Ev.neg (fun _ => by omega) ?_
    have : decide ((h.size : Int) > 1200) = true := decide_eq_true (by omega)
    rw [this]
    exact bad
  have go : ∀ {r : Texted}, (∀ T' : ByteArray, bytesOf T' = joinP (tC ns) ++ (tL l ++ joinS (tS ss sn)) → T'.size ≤ 110000 → Ev (fun k => laws_Package_text.l2 k T' 0 ns l ss sn h b n ⟨#[]⟩ ⟨#[]⟩ (strOfNums (tL l)) ⟨#[]⟩ false (numsA (tC ns)) (sufsA (tS ss sn)) false false ⟨#[]⟩) r) → Ev (fun k => laws_Package_text.f k ns l ss sn h b n) r := by
    intro r hk
    simp only [laws_Package_text.f]
    refine Ev.neg (fun _ => by omega) ?_
    refine Ev.neg (fun _ => by omega) ?_
    refine Ev.neg (fun _ => by omega) ?_
    have : decide ((h.size : Int) > 1200) = false := decide_eq_false (by omega)
    rw [this]
    refine Ev.succ ?_
    simp only [laws_Package_text.j0]
    refine Ev.neg (fun _ => Bool.false_ne_true) ?_
    refine t0_ev ns h1 hne l ss sn h b n _ 0 ⟨#[]⟩ [] rfl (Nat.zero_le _) (Nat.le_refl _) rfl ?_
    intro T' hT' hs'
    rw [if_pos rfl, List.drop_zero] at hT'
    rw [List.nil_append, List.drop_zero]
    refine t3_ev ns l hl ss sn h2 hse hsn h b n _ T' hs' ?_
    intro T2 hT2 hs2
    refine hk T2 ?_ hs2
    rw [hT2, hT']
    rfl
  by_cases hx : ∀ c ∈ bytesOf h, isX c = true
  · refine ⟨fun _ => ?_, fun hk => absurd ⟨h0, h1, h2, by omega, hx⟩ hk⟩
    refine go ?_
    intro T' hT' hs'
    have hr : ∀ c ∈ textL ns l ss sn (bytesOf h) b n, 0 ≤ c ∧ c ≤ 255 := by
      intro c hc
      unfold textL at hc
      rcases List.mem_append.1 hc with hc | hc
      · exact B_range T' c (by rw [hT']; exact List.mem_append_left _ hc)
      · rcases List.mem_append.1 hc with hc | hc
        · exact B_range T' c (by rw [hT']; exact List.mem_append_right _ (List.mem_append_left _ hc))
        · rcases List.mem_append.1 hc with hc | hc
          · exact B_range T' c (by rw [hT']; exact List.mem_append_right _ (List.mem_append_right _ hc))
          · rcases List.mem_append.1 hc with hc | hc
            · unfold tH at hc
              split at hc
              · simp at hc
              · rcases List.mem_cons.1 hc with e | hc
                · omega
                · exact B_range h c hc
            · unfold tE at hc
              split at hc
              · rcases List.mem_cons.1 hc with e | hc
                · omega
                · rcases List.mem_cons.1 hc with e | hc
                  · omega
                  · exact isD_byte (dec_isD n c hc)
              · simp at hc
    have := t2_good T' (by omega) ns l ss sn h h3 b n hn (strOfNums (tL l)) (numsA (tC ns)) (sufsA (tS ss sn)) hx (strOfNums (textL ns l ss sn (bytesOf h) b n)) (by
      rw [B_str hr, hT']
      unfold textL
      simp only [List.append_assoc]) _ 0 rfl (Nat.zero_le _)
    exact this
  · refine ⟨fun hk => absurd hk.2.2.2.2 hx, fun _ => ?_⟩
    refine go ?_
    intro T' hT' hs'
    exact t2_bad T' ns l ss sn h h3 b n (strOfNums (tL l)) (numsA (tC ns)) (sufsA (tS ss sn)) _ 0 rfl (Nat.zero_le _) hx
end Go.Proofs.YtapaijpglfmfgaaDoor.V
end
section -- BF
namespace Go.Proofs.YtapaijpglfmfgaaDoor.V
open Go.RowKit Go.Proofs.YtapaijpglfmfgaaDoor.Q Go.Proofs.YtapaijpglfmfgaaDoorG Go.Proofs.YtapaijpglfmfgaaDoorP Go.Proofs.YtapaijpglfmfgaaDoorH Go.Proofs.YtapaijpglfmfgaaDoorB Go.Proofs.YtapaijpglfmfgaaDoorM Go.Proofs.YtapaijpglfmfgaaDoorW.PrintWords Go.Proofs.YtapaijpglfmfgaaDoorW.PrintLast
set_option linter.unusedVariables false
set_option linter.unusedSimpArgs false
def hd (l : List Int) : Int := l.getD 0 0
theorem hd_nil (b : List Int) : hd ([] ++ b) = hd b := rfl
structure Stop (l : List Int) : Prop where
  d : isD (hd l) = false
  p : hd l ≠ 46
  let_ : isL (hd l) = false
  u : hd l ≠ 95
  t : hd l ≠ 126
theorem Stop.x {l : List Int} (h : Stop l) : isX (hd l) = false := by
  have h1 := h.d
  have h2 := h.let_
  unfold isX
  rw [h1]
  unfold isL at h2
  have := of_decide_eq_false h2
  simp
  omega
theorem run_hd {p : Int → Bool} {a b : List Int} (h : ∀ c ∈ a, p c = true) (hb : p (hd b) = false) : run p (a ++ b) = a.length := run_stop_append h (.inr hb)
theorem numsP_join : ∀ (c : List (List Int)) (n : Nat) (X : List Int), c ≠ [] → (∀ d ∈ c, d ≠ [] ∧ ∀ x ∈ d, isD x = true) → isD (hd X) = false → hd X ≠ 46 → c.length ≤ n → numsP n (joinP c ++ X) = (c, X)
  | [], _, _, h, _, _, _, _ => absurd rfl h
  | _ :: _, 0, _, _, _, _, _, h => by simp at h
  | [d], n + 1, X, _, hc, h1, h2, _ => by
    obtain ⟨d0, d1⟩ := hc d List.mem_cons_self
    have e : joinP [d] ++ X = d ++ X := by simp [joinP]
    have hr : run isD (d ++ X) = d.length := run_hd d1 h1
    have hp : d.length ≠ 0 := by have := List.length_pos_iff.2 d0; omega
    rw [e]
    simp only [numsP]
    rw [hr, if_neg hp, List.drop_left, if_neg (show ¬ X.getD 0 0 = 46 from h2), List.take_left]
  | d :: d' :: r, n + 1, X, _, hc, h1, h2, hn => by
    obtain ⟨d0, d1⟩ := hc d List.mem_cons_self
    have e : joinP (d :: d' :: r) ++ X = d ++ (46 :: (joinP (d' :: r) ++ X)) := by simp [joinP]
    have hr : run isD (d ++ (46 :: (joinP (d' :: r) ++ X))) = d.length := run_hd d1 (show isD 46 = false by decide)
    have hp : d.length ≠ 0 := by have := List.length_pos_iff.2 d0; omega
    have ih := numsP_join (d' :: r) n X (by simp) (fun x hx => hc x (List.mem_cons_of_mem _ hx)) h1 h2 (by simpa using hn)
    rw [e]
    simp only [numsP]
    rw [hr, if_neg hp, List.drop_left, if_pos (show (46 :: (joinP (d' :: r) ++ X)).getD 0 0 = 46 from rfl), List.take_left, ← List.drop_drop, List.drop_left]
    show (d :: (numsP n (joinP (d' :: r) ++ X)).1, (numsP n (joinP (d' :: r) ++ X)).2) = _
    rw [ih]
theorem letterP_at {t Y : List Int} (h : (t = [] ∧ isL (hd Y) = false) ∨ ∃ x, t = [x] ∧ isL x = true) : letterP (t ++ Y) = (t, Y) := by
  unfold letterP
  rcases h with ⟨rfl, h⟩ | ⟨x, rfl, h⟩
  · have h2 : isL (([] ++ Y).getD 0 0) = false := h
    rw [h2]
    rfl
  · have h2 : isL (([x] ++ Y).getD 0 0) = true := h
    rw [h2]
    rfl
theorem wordAt_word {w y : List Int} (hw : w ∈ sufWords) (hy : hd y ≠ 114) : wordAt (95 :: (w ++ y)) = some w := by
  unfold wordAt
  rw [if_pos (show (95 :: (w ++ y)).getD 0 0 = 95 from rfl)]
  show sufWords.find? (fun w' => pre w' (w ++ y)) = some w
  simp only [sufWords, List.mem_cons, List.not_mem_nil, or_false] at hw
  rcases hw with rfl | rfl | rfl | rfl | rfl | rfl | rfl | rfl | rfl
  · simp [sufWords, List.find?_cons, pre]
  · simp [sufWords, List.find?_cons, pre]
  · simp [sufWords, List.find?_cons, pre]
  · simp [sufWords, List.find?_cons, pre]
  · simp [sufWords, List.find?_cons, pre]
  · simp [sufWords, List.find?_cons, pre]
  · simp [sufWords, List.find?_cons, pre]
  · simp [sufWords, List.find?_cons, pre]
  · cases y with
    | nil => decide
    | cons a y =>
      have ha : a ≠ 114 := hy
      simp [sufWords, List.find?_cons, pre, ha]
theorem wordAt_no {Z : List Int} (h : hd Z ≠ 95) : wordAt Z = none := by unfold wordAt; rw [if_neg (show ¬ Z.getD 0 0 = 95 from h)]
theorem hd_joinS {s : List (List Int × List Int)} {Z : List Int} (h : s ≠ []) : hd (joinS s ++ Z) = 95 := by
  cases s with
  | nil => exact absurd rfl h
  | cons x s => rfl
theorem sufsP_join : ∀ (s : List (List Int × List Int)) (n : Nat) (Z : List Int), (∀ x ∈ s, x.1 ∈ sufWords ∧ ∀ c ∈ x.2, isD c = true) → hd Z ≠ 95 → hd Z ≠ 114 → isD (hd Z) = false → s.length ≤ n → sufsP n (joinS s ++ Z) = (s, Z)
  | [], n, Z, _, h1, _, _, _ => by
    show sufsP n Z = ([], Z)
    exact sufsP_none (wordAt_no h1) n
  | _ :: _, 0, _, _, _, _, _, h => by simp at h
  | (w, dg) :: s, n + 1, Z, hs, h1, h2, h3, hn => by
    obtain ⟨hw, hdg⟩ := hs _ List.mem_cons_self
    have ih := sufsP_join s n Z (fun x hx => hs x (List.mem_cons_of_mem _ hx)) h1 h2 h3 (by simpa using hn)
    obtain ⟨R, hR⟩ : ∃ R, R = joinS s ++ Z := ⟨_, rfl⟩
    have e : joinS ((w, dg) :: s) ++ Z = 95 :: (w ++ (dg ++ R)) := by rw [hR, joinS_cons]; simp
    have hRh : hd R = 95 ∨ hd R = hd Z := by
      rw [hR]
      by_cases h0 : s = []
      · right; rw [h0]; rfl
      · left; exact hd_joinS h0
    have hRd : isD (hd R) = false := by rcases hRh with e | e <;> rw [e]; · rfl
                                        · exact h3
    have hy : hd (dg ++ R) ≠ 114 := by
      cases dg with
      | nil => rcases hRh with e | e
               · rw [hd_nil, e]; decide
               · rw [hd_nil, e]; exact h2
      | cons a q =>
        have ha := hdg a List.mem_cons_self
        intro e
        have e2 : a = 114 := e
        rw [e2] at ha
        exact absurd ha (by decide)
    rw [e, sufsP_some (wordAt_word hw hy)]
    have ed : (95 :: (w ++ (dg ++ R))).drop (1 + w.length) = dg ++ R := by
      rw [Nat.add_comm, List.drop_succ_cons, List.drop_left]
    rw [ed, run_hd hdg hRd, List.take_left, List.drop_left, hR, ih]
theorem hashP_at {h E : List Int} (hh : (h = [] ∧ hd E ≠ 126) ∨ ∃ x, h = 126 :: x ∧ x ≠ [] ∧ (∀ c ∈ x, isX c = true) ∧ isX (hd E) = false) : hashP (h ++ E) = (h, E) := by
  unfold hashP
  rcases hh with ⟨rfl, h0⟩ | ⟨x, rfl, x0, hx, h0⟩
  · rw [if_neg (fun e => h0 e.1)]
    rfl
  · have e : (126 :: x ++ E).drop 1 = x ++ E := rfl
    rw [e, run_hd hx h0]
    have hp : x.length ≠ 0 := by have := List.length_pos_iff.2 x0; omega
    rw [if_pos ⟨rfl, hp⟩]
    have e1 : (126 :: x ++ E).take (1 + x.length) = 126 :: x := by
      rw [Nat.add_comm, List.cons_append, List.take_succ_cons, List.take_left]
    have e2 : (126 :: x ++ E).drop (1 + x.length) = E := by
      rw [Nat.add_comm, List.cons_append, List.drop_succ_cons, List.drop_left]
    rw [e1, e2]
/-- What is put together is read again. -/
theorem parse_join {c : List (List Int)} {t : List Int} {s : List (List Int × List Int)} {h E : List Int} (hc0 : c ≠ []) (hc : ∀ d ∈ c, d ≠ [] ∧ ∀ x ∈ d, isD x = true) (ht : t = [] ∨ ∃ x, t = [x] ∧ isL x = true)
    (hs : ∀ x ∈ s, x.1 ∈ sufWords ∧ ∀ c ∈ x.2, isD c = true) (hh : h = [] ∨ ∃ x, h = 126 :: x ∧ x ≠ [] ∧ ∀ c ∈ x, isX c = true) (hE : Stop E) :
    parseP (joinP c ++ (t ++ (joinS s ++ (h ++ E)))) = ⟨joinP c ++ (t ++ (joinS s ++ (h ++ E))), c, t, s, h, (buildP E).1, (buildP E).2.1, (buildP E).2.2⟩ ∧ rest3 (joinP c ++ (t ++ (joinS s ++ (h ++ E)))) = h ++ E := by
  -- heads
  have hZ : hd (h ++ E) = 126 ∨ hd (h ++ E) = hd E := by
    rcases hh with rfl | ⟨x, rfl, _, _⟩
    · right; rfl
    · left; rfl
  have hY : hd (joinS s ++ (h ++ E)) = 95 ∨ hd (joinS s ++ (h ++ E)) = hd (h ++ E) := by
    by_cases h0 : s = []
    · right; rw [h0]; rfl
    · left; exact hd_joinS h0
  have hZl : isL (hd (h ++ E)) = false := by rcases hZ with e | e <;> rw [e]; · rfl
                                             · exact hE.let_
  have hZd : isD (hd (h ++ E)) = false := by rcases hZ with e | e <;> rw [e]; · rfl
                                             · exact hE.d
  have hZu : hd (h ++ E) ≠ 95 := by rcases hZ with e | e <;> rw [e]; · decide
                                    · exact hE.u
  have hZp : hd (h ++ E) ≠ 46 := by rcases hZ with e | e <;> rw [e]; · decide
                                    · exact hE.p
  have hYl : isL (hd (joinS s ++ (h ++ E))) = false := by rcases hY with e | e <;> rw [e]; · rfl
                                                          · exact hZl
  have hYd : isD (hd (joinS s ++ (h ++ E))) = false := by rcases hY with e | e <;> rw [e]; · rfl
                                                          · exact hZd
  have hYp : hd (joinS s ++ (h ++ E)) ≠ 46 := by rcases hY with e | e <;> rw [e]; · decide
                                                 · exact hZp
  have hX : isD (hd (t ++ (joinS s ++ (h ++ E)))) = false ∧ hd (t ++ (joinS s ++ (h ++ E))) ≠ 46 := by
    rcases ht with rfl | ⟨x, rfl, hx⟩
    · exact ⟨hYd, hYp⟩
    · have e : hd ([x] ++ (joinS s ++ (h ++ E))) = x := rfl
      rw [e]
      unfold isL at hx
      have := of_decide_eq_true hx
      refine ⟨?_, by omega⟩
      unfold isD
      exact decide_eq_false (by omega)
  have hlenc : c.length ≤ (joinP c ++ (t ++ (joinS s ++ (h ++ E)))).length := by
    have : ∀ r : List (List Int), r.length ≤ (r.flatMap fun x => 46 :: x).length := by
      intro r
      induction r with
      | nil => exact Nat.le_refl _
      | cons a r ih => simp only [List.flatMap_cons, List.length_append, List.length_cons]; omega
    cases c with
    | nil => exact absurd rfl hc0
    | cons d r =>
      have h1 := this r
      have h2 := List.length_pos_iff.2 (hc d List.mem_cons_self).1
      simp only [joinP, List.length_append, List.length_cons]
      omega
  have e1 := numsP_join c _ (t ++ (joinS s ++ (h ++ E))) hc0 hc hX.1 hX.2 hlenc
  have e2 : letterP (t ++ (joinS s ++ (h ++ E))) = (t, joinS s ++ (h ++ E)) := letterP_at (by
    rcases ht with e | ⟨x, e, hx⟩
    · exact .inl ⟨e, hYl⟩
    · exact .inr ⟨x, e, hx⟩)
  have hlens : s.length ≤ (joinS s ++ (h ++ E)).length := by
    have : ∀ r : List (List Int × List Int), r.length ≤ (joinS r).length := by
      intro r
      induction r with
      | nil => exact Nat.le_refl _
      | cons a r ih => rw [joinS_cons]; simp only [List.length_append, List.length_cons]; omega
    have := this s
    rw [List.length_append]
    omega
  have e3 := sufsP_join s _ (h ++ E) hs hZu (fun e => by rw [e] at hZl; exact absurd hZl (by decide)) hZd hlens
  have e4 : hashP (h ++ E) = (h, E) := hashP_at (by
    rcases hh with e | ⟨x, e, x0, hx⟩
    · exact .inl ⟨e, hE.t⟩
    · exact .inr ⟨x, e, x0, hx, hE.x⟩)
  have r1 : rest1 (joinP c ++ (t ++ (joinS s ++ (h ++ E)))) = t ++ (joinS s ++ (h ++ E)) := by unfold rest1; rw [e1]
  have r2 : rest2 (joinP c ++ (t ++ (joinS s ++ (h ++ E)))) = joinS s ++ (h ++ E) := by unfold rest2; rw [r1, e2]
  have r3 : rest3 (joinP c ++ (t ++ (joinS s ++ (h ++ E)))) = h ++ E := by unfold rest3; rw [r2, e3]
  have r4 : rest4 (joinP c ++ (t ++ (joinS s ++ (h ++ E)))) = E := by unfold rest4; rw [r3, e4]
  refine ⟨?_, r3⟩
  unfold parseP
  rw [e1, r1, e2, r2, e3, r3, e4, r4]
theorem Stop.nil : Stop [] := ⟨by decide, by decide, by decide, by decide, by decide⟩
theorem tC_good (ns : List Int) : ∀ d ∈ tC ns, d ≠ [] ∧ ∀ x ∈ d, isD x = true := by
  intro d hd
  obtain ⟨x, _, rfl⟩ := List.mem_map.1 hd
  exact ⟨dec_ne x, dec_isD x⟩
theorem tC_ne {ns : List Int} (h : ns ≠ []) : tC ns ≠ [] := by
  intro e
  exact h (List.map_eq_nil_iff.1 e)
theorem tL_good {l : Int} (hl : 0 ≤ l) : tL l = [] ∨ ∃ x, tL l = [x] ∧ isL x = true := by
  unfold tL
  have hm : 0 ≤ Int.tmod l 27 ∧ Int.tmod l 27 < 27 := by rw [Int.tmod_eq_emod_of_nonneg hl]; omega
  split
  · refine .inr ⟨_, rfl, ?_⟩
    unfold isL
    exact decide_eq_true (by omega)
  · exact .inl rfl
theorem tS_good {ss sn : List Int} (hse : ∀ x ∈ ss, 0 ≤ x) : ∀ x ∈ tS ss sn, x.1 ∈ sufWords ∧ ∀ c ∈ x.2, isD c = true := by
  intro x hx
  unfold tS tSfrom at hx
  obtain ⟨p, hp, rfl⟩ := List.mem_map.1 hx
  have h1 : p.1 ∈ ss := by
    have := List.mem_map_of_mem (f := Prod.fst) hp
    rwa [List.zipIdx_map_fst] at this
  refine ⟨sW_mem _ (hse _ h1), fun c hc => ?_⟩
  simp only at hc
  split at hc
  · exact dec_isD _ c hc
  · simp at hc
def U8 (a : Int) : Prop := 0 ≤ a ∧ a ≤ 255
theorem u8_of {a : Int} (h : (Lit.int .u8 a).wf = true) : U8 a := by
  unfold U8
  simp [Lit.wf, IntKind.min, IntKind.max, IntKind.signed, IntKind.bits] at h
  omega
theorem joinP_len (c : List (List Int)) (h : ∀ d ∈ c, d.length ≤ 5) : (joinP c).length ≤ 6 * c.length := by
  have aux : ∀ r : List (List Int), (∀ d ∈ r, d.length ≤ 5) → (r.flatMap fun x => 46 :: x).length ≤ 6 * r.length := by
    intro r hr
    induction r with
    | nil => exact Nat.zero_le _
    | cons a r ih =>
      have h1 := hr a List.mem_cons_self
      have h2 := ih (fun d hd => hr d (List.mem_cons_of_mem _ hd))
      simp only [List.flatMap_cons, List.length_append, List.length_cons]
      omega
  cases c with
  | nil => exact Nat.zero_le _
  | cons d r =>
    have h1 := h d List.mem_cons_self
    have h2 := aux r (fun d hd => h d (List.mem_cons_of_mem _ hd))
    simp only [joinP, List.length_append, List.length_cons]
    omega
theorem joinS_len (s : List (List Int × List Int)) (h : ∀ x ∈ s, x.1.length ≤ 5 ∧ x.2.length ≤ 5) : (joinS s).length ≤ 11 * s.length := by
  induction s with
  | nil => exact Nat.zero_le _
  | cons a r ih =>
    have h1 := h a List.mem_cons_self
    have h2 := ih (fun d hd => h d (List.mem_cons_of_mem _ hd))
    rw [joinS_cons]
    simp only [List.length_append, List.length_cons]
    omega
theorem joinP_mem {c : List (List Int)} {x : Int} (h : x ∈ joinP c) : x = 46 ∨ ∃ d ∈ c, x ∈ d := by
  cases c with
  | nil => simp [joinP] at h
  | cons d r =>
    rcases List.mem_append.1 h with h | h
    · exact .inr ⟨d, List.mem_cons_self, h⟩
    · obtain ⟨e, he, hx⟩ := List.mem_flatMap.1 h
      rcases List.mem_cons.1 hx with e1 | e1
      · exact .inl e1
      · exact .inr ⟨e, List.mem_cons_of_mem _ he, e1⟩
theorem isD_asc {c : Int} (h : isD c = true) : 0 ≤ c ∧ c ≤ 127 := by
  unfold isD at h
  have := of_decide_eq_true h
  omega
theorem textL_good {ns ss sn h : List Int} {l n : Int} {b : Bool} (hk : tOk ns ss h) (hne : ∀ x ∈ ns, U16 x) (hl : 0 ≤ l) (hse : ∀ x ∈ ss, 0 ≤ x) (hsn : ∀ x ∈ sn, U16 x) (hn : U16 n) :
    (∀ c ∈ textL ns l ss sn h b n, 0 ≤ c ∧ c ≤ 127) ∧ (textL ns l ss sn h b n).length ≤ 100000 := by
  obtain ⟨k0, k1, k2, k3, k4⟩ := hk
  have hC := tC_good ns
  have hS := tS_good (sn := sn) hse
  have hS2 : ∀ x ∈ tS ss sn, x.1.length ≤ 5 ∧ x.2.length ≤ 5 := by
    intro x hx
    refine ⟨(sufWords_len (hS x hx).1).2, ?_⟩
    unfold tS tSfrom at hx
    obtain ⟨p, hp, rfl⟩ := List.mem_map.1 hx
    simp only
    split
    · rename_i h0
      refine dec_len ?_
      by_cases hlt : p.2 < sn.length
      · rw [List.getD_eq_getElem?_getD, List.getElem?_eq_getElem hlt]
        exact hsn _ (List.getElem_mem hlt)
      · rw [List.getD_eq_getElem?_getD, List.getElem?_eq_none (by omega)] at h0
        exact absurd h0 (by decide)
    · exact Nat.zero_le _
  constructor
  · intro c hc
    unfold textL at hc
    rcases List.mem_append.1 hc with hc | hc
    · rcases joinP_mem hc with e | ⟨d, hd, hx⟩
      · omega
      · exact isD_asc ((hC d hd).2 c hx)
    rcases List.mem_append.1 hc with hc | hc
    · rcases tL_good hl with e | ⟨x, e, hx⟩
      · rw [e] at hc; simp at hc
      · rw [e] at hc
        have e2 : c = x := by simpa using hc
        rw [e2]
        unfold isL at hx
        have := of_decide_eq_true hx
        omega
    rcases List.mem_append.1 hc with hc | hc
    · obtain ⟨x, hx, hc⟩ := List.mem_flatMap.1 hc
      obtain ⟨h1, h2⟩ := hS x hx
      rcases List.mem_cons.1 hc with e | hc
      · omega
      rcases List.mem_append.1 hc with hc | hc
      · have := sufWords_asc h1 c hc; omega
      · exact isD_asc (h2 c hc)
    rcases List.mem_append.1 hc with hc | hc
    · unfold tH at hc
      split at hc
      · simp at hc
      · rcases List.mem_cons.1 hc with e | hc
        · omega
        · have hX := k4 c hc
          have : (48 ≤ c ∧ c ≤ 57) ∨ (97 ≤ c ∧ c ≤ 102) := by simpa [isX, isD] using hX
          omega
    · unfold tE at hc
      split at hc
      · rcases List.mem_cons.1 hc with e | hc
        · omega
        rcases List.mem_cons.1 hc with e | hc
        · omega
        · exact isD_asc (dec_isD n c hc)
      · simp at hc
  · have h1 := joinP_len (tC ns) (fun d hd => by
      obtain ⟨x, hx, rfl⟩ := List.mem_map.1 hd
      exact dec_len (hne x hx))
    have h2 := joinS_len (tS ss sn) hS2
    have e1 : (tC ns).length = ns.length := by simp [tC]
    have e2 : (tS ss sn).length = ss.length := by simp [tS, tSfrom]
    have h3 : (tL l).length ≤ 1 := by unfold tL; split <;> simp
    have h4 : (tH h).length ≤ 1 + h.length := by unfold tH; split <;> simp; omega
    have h5 : (tE b n).length ≤ 7 := by
      have := dec_len hn
      unfold tE
      split
      · simp; omega
      · simp
    unfold textL
    simp only [List.length_append]
    omega
end Go.Proofs.YtapaijpglfmfgaaDoor.V
end
section -- BH
namespace Go.Proofs.YtapaijpglfmfgaaDoor.V
open Go.RowKit Go.Proofs.YtapaijpglfmfgaaDoor.Q Go.Proofs.YtapaijpglfmfgaaDoorG Go.Proofs.YtapaijpglfmfgaaDoorP Go.Proofs.YtapaijpglfmfgaaDoorH Go.Proofs.YtapaijpglfmfgaaDoorB Go.Proofs.YtapaijpglfmfgaaDoorM Go.Proofs.YtapaijpglfmfgaaDoorW.PrintWords Go.Proofs.YtapaijpglfmfgaaDoorW.PrintLast
set_option linter.unusedVariables false
set_option linter.unusedSimpArgs false
theorem cmp_self : ∀ l : List Int, cmp_ l l = 0
  | [] => rfl
  | x :: l => by simp [cmp_, cmp_self l]
theorem strCmp_self (s : ByteArray) : strCmp s s = 0 := by
  show Lib.compareBytes s.data.toList s.data.toList = 0
  rw [compare_B, cmp_self]
theorem cmpN_self (n : Nat) : cmpN n n = 0 := by unfold cmpN; rw [if_neg (by omega), if_neg (by omega)]
theorem fromC_zero {d : Nat → Int} (h : ∀ k, d k = 0) : ∀ n k, fromC d n k = 0
  | 0, _ => rfl
  | n + 1, k => by simp only [fromC, h, if_pos, fromC_zero h n]
theorem comps_self (l : List Nm) : compsC l l = 0 := by
  unfold compsC
  refine fromC_zero (fun k => ?_) _ _
  unfold numD numC
  split
  · exact strCmp_self _
  · exact cmpN_self _
theorem letters_self (s : ByteArray) : lettersCmp s s = 0 := by
  unfold lettersCmp
  rw [if_neg (fun h => h.2 h.1), if_neg (fun h => h.1 h.2), strCmp_self]
theorem rem_self (s : ByteArray) : remCmp s s = 0 := by
  unfold remCmp
  rw [if_neg (fun h => h.2 h.1), if_neg (fun h => h.1 h.2)]
/-- Two versions that are alike but for their suffixes and their builds. -/
theorem apC_like {p q : PV} (hi : p.i = false) (hc : p.c = q.c) (hl : p.l = q.l) (hr : p.r = q.r) :
    apC (apOf p) (apOf q) = firstNe (sufsC ((p.s.map convS).map toSx) ((q.s.map convS).map toSx)) (cmpN (decL p.b) (decL q.b)) := by
  unfold apC apOf
  simp only [hi, hc, hl, hr, Bool.false_eq_true, false_and, if_false, comps_self, letters_self, rem_self]
  unfold firstNe
  simp only [if_pos]
  by_cases h : cmpN (decL p.b) (decL q.b) = 0
  · simp [h]
  · simp [h]
theorem toSx_at {w d : List Int} (h : ∀ c ∈ d, isD c = true) (hl : d.length ≤ 1000000) : toSx (convS (w, d)) = ⟨(wgt w : Int), 0, decL d⟩ := by
  unfold toSx convS
  simp only
  rw [(or0_good h hl).2.2]
theorem sufs_one (a b : Sx) : sufsC [a] [b] = sufC a.wt a.n b.wt b.n := by
  show (if sufD [a] [b] 0 = 0 then 0 else sufD [a] [b] 0) = _
  show (if sufC a.wt a.n b.wt b.n = 0 then 0 else sufC a.wt a.n b.wt b.n) = _
  split
  · rename_i h; exact h.symm
  · rfl
theorem sufs_left (a : Sx) : sufsC [a] [] = sufC a.wt a.n 5 0 := by
  show (if sufC a.wt a.n 5 0 = 0 then 0 else sufC a.wt a.n 5 0) = _
  split
  · rename_i h; exact h.symm
  · rfl
theorem sufs_right (b : Sx) : sufsC [] [b] = sufC 5 0 b.wt b.n := by
  show (if sufC 5 0 b.wt b.n = 0 then 0 else sufC 5 0 b.wt b.n) = _
  split
  · rename_i h; exact h.symm
  · rfl
end Go.Proofs.YtapaijpglfmfgaaDoor.V
end
section -- BI
namespace Go.Proofs.YtapaijpglfmfgaaDoor.V
open Go.RowKit Go.Proofs.YtapaijpglfmfgaaDoor.Q Go.Proofs.YtapaijpglfmfgaaDoorG Go.Proofs.YtapaijpglfmfgaaDoorP Go.Proofs.YtapaijpglfmfgaaDoorH Go.Proofs.YtapaijpglfmfgaaDoorB Go.Proofs.YtapaijpglfmfgaaDoorM Go.Proofs.YtapaijpglfmfgaaDoorW.PrintWords Go.Proofs.YtapaijpglfmfgaaDoorW.PrintLast Go.Proofs.YtapaijpglfmfgaaDoorW.PrintMore
set_option linter.unusedVariables false
set_option linter.unusedSimpArgs false
/-- A built text with no more than one suffix. -/
def sfx (d : List Int) (p : Nat) : List (List Int × List Int) := if p = 4 then [] else [(sufWords.getD (if p < 4 then p else p - 1) [], d)]
def stL (ns : List Int) (l : Int) (d : List Int) (p : Nat) : List Int := joinP (tC ns) ++ (tL l ++ (joinS (sfx d p) ++ ([] ++ [])))
theorem word_at {p : Nat} (h : p < 10) (h4 : p ≠ 4) : sufWords.getD (if p < 4 then p else p - 1) [] ∈ sufWords := by
  have hl : (if p < 4 then p else p - 1) < sufWords.length := by show _ < 9; split <;> omega
  rw [List.getD_eq_getElem?_getD, List.getElem?_eq_getElem hl]
  exact List.getElem_mem hl
theorem sfx_good {d : List Int} (hd : ∀ c ∈ d, isD c = true) {p : Nat} (h : p < 10) : ∀ x ∈ sfx d p, x.1 ∈ sufWords ∧ ∀ c ∈ x.2, isD c = true := by
  intro x hx
  unfold sfx at hx
  split at hx
  · simp at hx
  · rename_i h4
    obtain rfl : x = _ := by simpa using hx
    exact ⟨word_at h h4, hd⟩
theorem stL_parse {ns : List Int} (h0 : ns ≠ []) {l : Int} (hl : 0 ≤ l) {d : List Int} (hd : ∀ c ∈ d, isD c = true) {p : Nat} (h : p < 10) :
    parseP (stL ns l d p) = ⟨stL ns l d p, tC ns, tL l, sfx d p, [], false, [], []⟩ ∧ rest3 (stL ns l d p) = [] := by
  have := parse_join (h := []) (tC_ne h0) (tC_good ns) (tL_good hl) (sfx_good hd h) (.inl rfl) Stop.nil
  exact this
theorem stL_len {ns : List Int} (hns : ns.length ≤ 60) (hne : ∀ x ∈ ns, U16 x) {l : Int} {d : List Int} (hd5 : d.length ≤ 5) (hd : ∀ c ∈ d, isD c = true) {p : Nat} (h : p < 10) : (stL ns l d p).length ≤ 1000 := by
  have h1 := joinP_len (tC ns) (fun d hd => by
    obtain ⟨x, hx, rfl⟩ := List.mem_map.1 hd
    exact dec_len (hne x hx))
  have h2 := joinS_len (sfx d p) (fun x hx => by
    refine ⟨(sufWords_len (sfx_good hd h x hx).1).2, ?_⟩
    unfold sfx at hx
    split at hx
    · simp at hx
    · obtain rfl : x = _ := by simpa using hx
      exact hd5)
  have e1 : (tC ns).length = ns.length := by simp [tC]
  have e2 : (sfx d p).length ≤ 1 := by unfold sfx; split <;> simp
  have h3 : (tL l).length ≤ 1 := by unfold tL; split <;> simp
  unfold stL
  simp only [List.length_append, List.length_nil]
  omega
def wAt (p : Nat) : Int := [0, 1, 2, 3, 5, 5, 6, 7, 8, 9].getD p 0
def nAt (N : Nat) (p : Nat) : Nat := if p = 4 then 0 else N
theorem wgt_sfx : ∀ p, p < 10 → p ≠ 4 → (wgt (sufWords.getD (if p < 4 then p else p - 1) []) : Int) = wAt p := by decide
theorem sfx_sx {d : List Int} (hd : ∀ c ∈ d, isD c = true) (hd5 : d.length ≤ 5) {p : Nat} (h : p < 10) (h4 : p ≠ 4) : ((sfx d p).map convS).map toSx = [⟨wAt p, 0, decL d⟩] := by
  unfold sfx
  rw [if_neg h4]
  simp only [List.map_cons, List.map_nil]
  rw [toSx_at hd (by omega), wgt_sfx p h h4]
theorem sfx_sx4 (d : List Int) : ((sfx d 4).map convS).map toSx = [] := rfl
theorem sufs_at {d : List Int} (hd : ∀ c ∈ d, isD c = true) (hd5 : d.length ≤ 5) {p q : Nat} (hp : p < 10) (hq : q < 10) :
    sufsC (((sfx d p).map convS).map toSx) (((sfx d q).map convS).map toSx) = sufC (wAt p) (nAt (decL d) p) (wAt q) (nAt (decL d) q) := by
  by_cases h1 : p = 4
  · by_cases h2 : q = 4
    · rw [h1, h2, sfx_sx4]
      rfl
    · rw [h1, sfx_sx4, sfx_sx hd hd5 hq h2, sufs_right]
      unfold nAt
      rw [if_pos rfl, if_neg h2]
      rfl
  · by_cases h2 : q = 4
    · rw [h2, sfx_sx4, sfx_sx hd hd5 hp h1, sufs_left]
      unfold nAt
      rw [if_pos rfl, if_neg h1]
      rfl
    · rw [sfx_sx hd hd5 hp h1, sfx_sx hd hd5 hq h2, sufs_one]
      unfold nAt
      rw [if_neg h1, if_neg h2]
theorem wAt_fin : ∀ p q : Fin 10, ((p.val = 4 ∧ q.val = 5) ∨ (p.val = 5 ∧ q.val = 4)) ∨ (wAt p.val > wAt q.val ↔ p.val > q.val) ∧ (wAt p.val < wAt q.val ↔ p.val < q.val) := by decide
theorem wAt_ord (p : Nat) (hp : p < 10) (q : Nat) (hq : q < 10) (h1 : ¬ (p = 4 ∧ q = 5)) (h2 : ¬ (p = 5 ∧ q = 4)) : (wAt p > wAt q ↔ p > q) ∧ (wAt p < wAt q ↔ p < q) := by
  rcases wAt_fin ⟨p, hp⟩ ⟨q, hq⟩ with (h | h) | h
  · exact absurd h h1
  · exact absurd h h2
  · exact h
theorem sufs_want {d : List Int} (hd : ∀ c ∈ d, isD c = true) (hd5 : d.length ≤ 5) {p q : Nat} (hp : p < 10) (hq : q < 10) (h1 : ¬ (p = 4 ∧ q = 5)) (h2 : ¬ (p = 5 ∧ q = 4)) :
    sufsC (((sfx d p).map convS).map toSx) (((sfx d q).map convS).map toSx) = mx (-1) (mn 1 ((p : Int) - q)) := by
  rw [sufs_at hd hd5 hp hq]
  obtain ⟨a, b⟩ := wAt_ord p hp q hq h1 h2
  unfold sufC mx mn
  by_cases c1 : p > q
  · rw [if_pos (a.2 c1)]
    split <;> split <;> omega
  · rw [if_neg (fun h => c1 (a.1 h))]
    by_cases c2 : p < q
    · rw [if_pos (b.2 c2)]
      split <;> split <;> omega
    · rw [if_neg (fun h => c2 (b.1 h))]
      obtain rfl : p = q := by omega
      rw [cmpN_self]
      split <;> split <;> omega
structure Ten (L : List ByteArray) (ns : List Int) (l : Int) (d : List Int) : Prop where
  len : L.length = 10
  at_ : ∀ p : Nat, p < 10 → bytesOf (rdOf ByteArray.empty L (p : Int)) = stL ns l d p
theorem ten_cmp {L : List ByteArray} {ns : List Int} {l : Int} {d : List Int} (hT : Ten L ns l d) (h0 : ns ≠ []) (hns : ns.length ≤ 60) (hne : ∀ x ∈ ns, U16 x) (hl : 0 ≤ l) (hd : ∀ c ∈ d, isD c = true) (hd5 : d.length ≤ 5) {p q : Nat} (hp : p < 10) (hq : q < 10) (h1 : ¬ (p = 4 ∧ q = 5)) (h2 : ¬ (p = 5 ∧ q = 4)) :
    impl_AlpineCompareText.f (rdOf ByteArray.empty L (p : Int)) (rdOf ByteArray.empty L (q : Int)) = some (mx (-1) (mn 1 ((p : Int) - q)), true) := by
  have ok : ∀ p : Nat, p < 10 → AOk (rdOf ByteArray.empty L (p : Int)) := by
    intro p hp
    refine ⟨?_, ?_⟩
    · rw [B_size, hT.at_ p hp]
      have := stL_len hns hne (l := l) hd5 hd hp
      omega
    · rw [hT.at_ p hp, (stL_parse h0 hl hd hp).2]
      rfl
  unfold impl_AlpineCompareText.f
  rw [if_pos ⟨ok p hp, ok q hq⟩, hT.at_ p hp, hT.at_ q hq, (stL_parse h0 hl hd hp).1, (stL_parse h0 hl hd hq).1]
  rw [apC_like (p := ⟨stL ns l d p, tC ns, tL l, sfx d p, [], false, [], []⟩) (q := ⟨stL ns l d q, tC ns, tL l, sfx d q, [], false, [], []⟩) rfl rfl rfl rfl]
  have e : cmpN (decL []) (decL []) = 0 := rfl
  show some (firstNe _ (cmpN (decL []) (decL [])), true) = _
  rw [e]
  have e2 := sufs_want hd hd5 hp hq h1 h2
  show some (firstNe (sufsC (((sfx d p).map convS).map toSx) (((sfx d q).map convS).map toSx)) 0, true) = _
  rw [e2]
  unfold firstNe
  split
  · rename_i h; rw [h]
  · rfl
theorem stages_l2 {L : List ByteArray} {ns : List Int} {l : Int} {d : List Int} (hT : Ten L ns l d) (h0 : ns ≠ []) (hns : ns.length ≤ 60) (hne : ∀ x ∈ ns, U16 x) (hl : 0 ≤ l) (hd : ∀ c ∈ d, isD c = true) (hd5 : d.length ≤ 5) {p : Nat} (hp : p < 10)
    (next : Ev (fun k => laws_FnAlpineStages.l1 k L 10 ((p + 1 : Nat) : Int)) true) : ∀ (m q : Nat), 10 - q = m → q ≤ 10 → Ev (fun k => laws_FnAlpineStages.l2 k L (p : Int) 10 (p : Int) 10 (q : Int)) true := by
  intro m
  induction m with
  | zero =>
    intro q hm hq
    refine Ev.succ ?_
    simp only [laws_FnAlpineStages.l2]
    refine Ev.neg (fun _ => by omega) ?_
    rw [w64 (i := (p : Int) + 1) (by omega) (by omega)]
    exact next
  | succ m ih =>
    intro q hm hq
    have nx := ih (q + 1) (by omega) (by omega)
    have hq1 : wrap64 ((q : Int) + 1) = ((q + 1 : Nat) : Int) := by rw [w64 (by omega) (by omega)]; omega
    have j3t : Ev (fun k => laws_FnAlpineStages.j3 k L (p : Int) (q : Int) 10 (p : Int) 10 (q : Int) true) true := by
      refine Ev.succ ?_
      simp only [laws_FnAlpineStages.j3]
      refine Ev.pos (fun _ => by first | rfl | trivial) ?_
      rw [hq1]
      exact nx
    have j3f : ¬ (p = 4 ∧ q = 5) → ¬ (p = 5 ∧ q = 4) → Ev (fun k => laws_FnAlpineStages.j3 k L (p : Int) (q : Int) 10 (p : Int) 10 (q : Int) false) true := by
      intro h1 h2
      have hlen := hT.len
      refine Ev.succ ?_
      simp only [laws_FnAlpineStages.j3]
      refine Ev.neg (fun _ => Bool.false_ne_true) ?_
      refine Ev.pos (fun _ => by omega) ?_
      refine Ev.pos (fun _ => by omega) ?_
      refine Ev.pos (fun _ => by omega) ?_
      refine Ev.pos (fun _ => by omega) ?_
      refine Ev.bind0 (ten_cmp hT h0 hns hne hl hd hd5 hp (by omega) h1 h2) ?_
      refine Ev.pos (fun _ => by first | rfl | trivial) ?_
      rw [w64 (i := (p : Int) - (q : Int)) (by omega) (by omega)]
      refine Ev.pos (fun _ => by first | rfl | trivial) ?_
      rw [hq1]
      exact nx
    refine Ev.succ ?_
    simp only [laws_FnAlpineStages.l2]
    refine Ev.pos (fun _ => by omega) ?_
    by_cases c1 : p = 4
    · refine Ev.pos (fun _ => by omega) ?_
      by_cases c2 : q = 5
      · refine Ev.pos (fun _ => by omega) ?_
        exact j3t
      · refine Ev.neg (fun _ => by omega) ?_
        refine Ev.neg (fun _ => by omega) ?_
        exact j3f (by omega) (by omega)
    · refine Ev.neg (fun _ => by omega) ?_
      by_cases c2 : p = 5
      · refine Ev.pos (fun _ => by omega) ?_
        by_cases c3 : q = 4
        · have e : ((q : Int) == 4) = true := by rw [c3]; rfl
          rw [e]
          exact j3t
        · have e : ((q : Int) == 4) = false := by rw [beq_eq_false_iff_ne]; omega
          rw [e]
          exact j3f (by omega) (by omega)
      · refine Ev.neg (fun _ => by omega) ?_
        exact j3f (by omega) (by omega)
theorem stages_l1 {L : List ByteArray} {ns : List Int} {l : Int} {d : List Int} (hT : Ten L ns l d) (h0 : ns ≠ []) (hns : ns.length ≤ 60) (hne : ∀ x ∈ ns, U16 x) (hl : 0 ≤ l) (hd : ∀ c ∈ d, isD c = true) (hd5 : d.length ≤ 5) : ∀ (m p : Nat), 10 - p = m → p ≤ 10 → Ev (fun k => laws_FnAlpineStages.l1 k L 10 (p : Int)) true := by
  intro m
  induction m with
  | zero =>
    intro p hm hp
    refine Ev.succ ?_
    simp only [laws_FnAlpineStages.l1]
    refine Ev.neg (fun _ => by omega) ?_
    exact Ev.now _
  | succ m ih =>
    intro p hm hp
    refine Ev.succ ?_
    simp only [laws_FnAlpineStages.l1]
    refine Ev.pos (fun _ => by omega) ?_
    have e : (L.length : Int) = 10 := by rw [hT.len]; rfl
    rw [e]
    exact stages_l2 hT h0 hns hne hl hd hd5 (by omega) (ih (p + 1) (by omega) (by omega)) _ 0 rfl (Nat.zero_le _)
/-- How many texts stand after i words. -/
def cnt (i : Nat) : Nat := if i ≤ 4 then i else i + 1
theorem stages_l0 {ns : List Int} {l : Int} {a2 : Int} (hu : U16 a2) (h0 : ns ≠ []) (hns : ns.length ≤ 60) (hne : ∀ x ∈ ns, U16 x) (hl : 0 ≤ l) (X : ByteArray) (hX : bytesOf X = joinP (tC ns) ++ tL l) : ∀ (m i : Nat) (acc : List ByteArray), 9 - i = m → i ≤ 9 → acc.map bytesOf = (List.range (cnt i)).map (stL ns l (dec a2)) →
    Ev (fun k => laws_FnAlpineStages.l0 k a2 X acc sufBs 9 (i : Int)) true := by
  have hXs : X.size ≤ 1000 := by
    have h1 := stL_len hns hne (l := l) (d := dec a2) (dec_len hu) (dec_isD a2) (p := 4) (by omega)
    rw [B_size, hX]
    unfold stL at h1
    simp only [List.length_append] at h1 ⊢
    omega
  have hdb := B_digits (dec_isD a2)
  have hds := dec_size hu
  intro m
  induction m with
  | zero =>
    intro i acc hm hi ha
    obtain rfl : i = 9 := by omega
    have hlen : acc.length = 10 := by have := congrArg List.length ha; simpa [cnt] using this
    have hT : Ten acc ns l (dec a2) := by
      refine ⟨hlen, fun p hp => ?_⟩
      rw [rdOf_B, ha]
      rw [List.getD_eq_getElem?_getD, List.getElem?_map, List.getElem?_range (by show p < 10; exact hp)]
      rfl
    refine Ev.succ ?_
    simp only [laws_FnAlpineStages.l0]
    refine Ev.neg (fun _ => by omega) ?_
    have e : (acc.length : Int) = 10 := by rw [hlen]; rfl
    rw [e]
    exact stages_l1 hT h0 hns hne hl (dec_isD a2) (dec_len hu) _ 0 rfl (Nat.zero_le _)
  | succ m ih =>
    intro i acc hm hi ha
    have hlen : acc.length = cnt i := by have := congrArg List.length ha; simpa using this
    have hcl : cnt i ≤ 20 := by unfold cnt; split <;> omega
    have hi1 : wrap64 ((i : Int) + 1) = ((i + 1 : Nat) : Int) := by rw [w64 (by omega) (by omega)]; omega
    have hwb : bytesOf (rdOf ByteArray.empty sufBs (i : Int)) = sufWords.getD i [] := by rw [rdOf_B, sufBs_B]
    have hmem : sufWords.getD i [] ∈ sufWords := by
      have hl9 : i < sufWords.length := by show i < 9; omega
      rw [List.getD_eq_getElem?_getD, List.getElem?_eq_getElem hl9]
      exact List.getElem_mem hl9
    have hwl := sufWords_len hmem
    obtain ⟨W, hW⟩ : ∃ W, W = rdOf ByteArray.empty sufBs (i : Int) := ⟨_, rfl⟩
    rw [← hW] at hwb
    have hWs : W.size = (sufWords.getD i []).length := size_of hwb
    have e95 : (⟨#[95]⟩ : ByteArray).size = 1 := rfl
    have hl9 : ((sufBs.length : Nat) : Int) = 9 := rfl
    obtain ⟨p, hp⟩ : ∃ p, p = if i < 4 then i else i + 1 := ⟨_, rfl⟩
    have hstep : bytesOf (((X ++ (⟨#[95]⟩ : ByteArray)) ++ W) ++ strOfNums (dec a2)) = stL ns l (dec a2) p := by
      have hp4 : p ≠ 4 := by rw [hp]; split <;> omega
      have hpi : (if p < 4 then p else p - 1) = i := by
        by_cases hc : i < 4
        · rw [if_pos hc] at hp; rw [if_pos (by omega)]; omega
        · rw [if_neg hc] at hp; rw [if_neg (by omega)]; omega
      rw [B_append, B_append, B_append, hX, hwb, hdb]
      unfold stL sfx
      rw [if_neg hp4, hpi]
      show _ = joinP (tC ns) ++ (tL l ++ (95 :: (sufWords.getD i [] ++ dec a2) ++ [] ++ ([] ++ [])))
      simp only [List.append_assoc, List.append_nil, List.cons_append, List.nil_append]
      rfl
    have s1 : (X ++ (⟨#[95]⟩ : ByteArray)).size = X.size + 1 := by rw [app_size, e95]
    have s2 : ((X ++ (⟨#[95]⟩ : ByteArray)) ++ W).size = X.size + 1 + W.size := by rw [app_size, s1]
    refine Ev.succ ?_
    simp only [laws_FnAlpineStages.l0]
    refine Ev.pos (fun _ => by omega) ?_
    refine Ev.pos (fun _ => by omega) ?_
    refine Ev.pos (fun _ => by rw [hl9]; omega) ?_
    rw [← hW, hi1]
    by_cases h4 : i = 4
    · refine Ev.pos (fun _ => by omega) ?_
      refine Ev.pos (fun _ => by omega) ?_
      refine Ev.bind0 rfl ?_
      refine Ev.pos (fun _ => by omega) ?_
      refine Ev.pos (fun _ => by omega) ?_
      refine Ev.bind (decimal_ev hu) ?_
      refine Ev.pos (fun _ => by omega) ?_
      refine Ev.pos (fun _ => by simp; omega) ?_
      refine ih (i + 1) _ (by omega) (by omega) ?_
      rw [List.map_append, List.map_append, ha]
      subst h4
      have hp5 : p = 5 := by rw [hp]; rfl
      have hb : bytesOf X = stL ns l (dec a2) 4 := by
        rw [hX]
        unfold stL sfx
        simp [joinS]
      show (List.range 4).map (stL ns l (dec a2)) ++ [bytesOf X] ++ [bytesOf _] = (List.range 6).map (stL ns l (dec a2))
      rw [hb, hstep, hp5]
      rfl
    · refine Ev.neg (fun _ => by omega) ?_
      refine Ev.pos (fun _ => by omega) ?_
      refine Ev.pos (fun _ => by omega) ?_
      refine Ev.bind (decimal_ev hu) ?_
      refine Ev.pos (fun _ => by omega) ?_
      refine Ev.pos (fun _ => by omega) ?_
      refine ih (i + 1) _ (by omega) (by omega) ?_
      rw [List.map_append, ha]
      have hc : cnt (i + 1) = cnt i + 1 := by
        unfold cnt
        by_cases hc : i < 4
        · rw [if_pos (by omega), if_pos (by omega)]
        · rw [if_neg (by omega), if_neg (by omega)]
      have hcp : cnt i = p := by
        rw [hp]
        unfold cnt
        by_cases hc : i < 4
        · rw [if_pos (by omega), if_pos hc]
        · rw [if_neg (by omega), if_neg hc]
      rw [hc, List.range_succ, List.map_append]
      show _ ++ [bytesOf _] = _ ++ [stL ns l (dec a2) (cnt i)]
      rw [hstep, hcp]
theorem FnAlpineStages : laws_FnAlpineStages.Pure := by
  intro ns l a2 _ _ hns hl ha2
  have hne : ∀ x ∈ ns, U16 x := fun x hx => u16_of (hns x hx)
  have hl0 := u8_of hl
  have hu := u16_of ha2
  obtain ⟨t1, t2⟩ := text_ev ns hne l hl0.1 [] [] (by simp) (by simp) ⟨#[]⟩ false 0 (by simp)
  refine Ev.rounds ?_
  simp only [laws_FnAlpineStages.f]
  by_cases hbig : (ns.length : Int) > 2147483647
  · refine Ev.pos (fun _ => hbig) ?_
    exact Ev.now _
  refine Ev.neg (fun _ => hbig) ?_
  by_cases hk : tOk ns [] (bytesOf (⟨#[]⟩ : ByteArray))
  · refine Ev.bind (t1 hk) ?_
    refine Ev.pos (fun _ => by first | rfl | trivial) ?_
    refine Ev.bind0 (a := sufBs) rfl ?_
    obtain ⟨hr, hlen⟩ := textL_good (l := l) (sn := []) (b := false) (n := 0) hk hne hl0.1 (by simp) (by simp) (by unfold U16; omega)
    obtain ⟨k0, k1, _, _, _⟩ := hk
    refine stages_l0 hu k0 k1 hne hl0.1 _ ?_ _ 0 [] rfl (Nat.zero_le _) rfl
    show bytesOf (strOfNums (textL ns l [] [] (bytesOf (⟨#[]⟩ : ByteArray)) false 0)) = _
    rw [B_str (fun c hc => by have := hr c hc; omega)]
    show joinP (tC ns) ++ (tL l ++ ([] ++ ([] ++ []))) = _
    simp
  · refine Ev.bind (t2 hk) ?_
    refine Ev.neg (fun _ => Bool.false_ne_true) ?_
    exact Ev.now _
end Go.Proofs.YtapaijpglfmfgaaDoor.V
end
section -- PureFnAlpineStages
namespace Go.Proofs.YtapaijpglfmfgaaDoor.Pure
theorem FnAlpineStages : Q.laws_FnAlpineStages.Pure := V.FnAlpineStages
end Go.Proofs.YtapaijpglfmfgaaDoor.Pure
end
section -- K19
namespace Go.Proofs.YtapaijpglfmfgaaDoorG
open Go.RowKit Go.ChangeShapes Go.Proofs.YtapaijpglfmfgaaDoorW.PrintWords Go.Proofs.YtapaijpglfmfgaaDoorW.PrintLast
set_option linter.unusedVariables false
theorem err_star : "*" ++ "errors.errorString" = "*errors.errorString" := by decide
theorem err_row (u : TypeId) (h : Tryd.prog.typeName? 3 u = some "*errors.errorString") : u = 177 :=
  typeName_ptr_named (nm := "errors.errorString") (by rw [err_star]; kernel_rfl) (by kernel_rfl) (by decide) u (by rw [err_star]; exact h)
theorem sent {n : String} {text : List UInt8} {g : Nat} {W : World} (hg : Tryd.prog.globalNamed n = some g) (ht : (Tryd.prog.globals[g]?).map (·.type) = some 71)
    (h : laidMet Tryd.prog [(n, .iface "*errors.errorString" (.ptr (.agg [.lit (.string text)])))] W) : (∃ a, W.cell? ⟨g, 0, none⟩ = some (ErrV a)) ∧ g < W.heap.size := by
  obtain ⟨a, s, hv, _⟩ := laid_sentinel h hg ht Tryd.underlying71 err_row Tryd.underlying177 Tryd.underlying194 rfl rfl Tryd.underlying9 (by kernel_rfl) (by kernel_rfl)
  have hc : W.cell? ⟨g, 0, none⟩ = some (ErrV a) := by
    have h0 := World.var?_cell hg hv 0
    simpa [ErrV] using h0
  refine ⟨⟨a, hc⟩, ?_⟩
  rcases Nat.lt_or_ge g W.heap.size with hl | hl
  · exact hl
  · unfold World.cell? at hc
    rw [Array.getElem?_eq_none hl] at hc
    cases hc
theorem GL_of {l : List (String × DataW Unit)} {W : World} (hL : laidMetH Tryd.prog l W) (hp : (l.all fun x => x.2.handleName?.isNone) = true)
    (e1 : l.filter (fun x => x.1 == "io.EOF") = [("io.EOF", Go.Proofs.YtapaijpglfmfgaaDoor.Rows.laid_io_EOF)])
    (e2 : l.filter (fun x => x.1 == "pub-primogeniture/pub/bigall.errNoDigits") = [("pub-primogeniture/pub/bigall.errNoDigits", Go.Proofs.YtapaijpglfmfgaaDoor.Rows.laid_pub_primogeniture_pub_bigall_errNoDigits)])
    (e3 : l.filter (fun x => x.1 == "pub-primogeniture/pub/scalibr/semantic.ErrInvalidVersion") = [("pub-primogeniture/pub/scalibr/semantic.ErrInvalidVersion", Go.Proofs.YtapaijpglfmfgaaDoor.Rows.laid_pub_primogeniture_pub_scalibr_semantic_ErrInvalidVersion)]) : GL W := by
  have one : ∀ (n : String) (d : DataW Unit), l.filter (fun x => x.1 == n) = [(n, d)] → d.handleName?.isNone = true → laidMet Tryd.prog [(n, d)] W := by
    intro n d e hd
    have h := hL.filter (fun x => x.1 == n)
    rw [e, MakeChecks.laidMetH_plain _ _ _ (by simp [hd])] at h
    exact h
  obtain ⟨h1, g1⟩ := sent (g := 2) (by kernel_rfl) (by kernel_rfl) (one _ _ e1 (by kernel_rfl))
  obtain ⟨h2, g2⟩ := sent (g := 4) (by kernel_rfl) (by kernel_rfl) (one _ _ e2 (by kernel_rfl))
  obtain ⟨h3, g3⟩ := sent (g := 0) (by kernel_rfl) (by kernel_rfl) (one _ _ e3 (by kernel_rfl))
  exact ⟨by omega, h3, h1, h2⟩
end Go.Proofs.YtapaijpglfmfgaaDoorG
end
section -- WSized
namespace Go.Proofs.YtapaijpglfmfgaaDoorW.PrintWords
open Go.ChangeShapes Go.WideShapes
/-- A row's slice of whole numbers is no longer than its weight allows. -/
theorem sized_ints {H : Type} {enc : TypeId × Value → H} {P : Program} {W : World} {base : Nat} {spare : Nat → Bool} {held : Bool} {t e : TypeId} {k : IntKind} {a : Option Addr} {len cap : Nat} {d : DataW H} {ps : List MemPlace} {ts : List TypeId} {ds : List (DataW H)} {j : Nat}
    (hsz : (DataW.weightsEach P ts ds).all (· ≤ reachBytes) = true) (ht : ts[j]? = some t) (hd : ds[j]? = some d) (hu : P.underlying t = some (.slice e)) (he : P.underlying e = some (.int k)) (hc : P.cellsOf e = 1) {B : Nat} (hB : P.bytesOf e = B)
    (h : DataW.Trod enc P W base spare held t (.slice a len cap) d ps) : len * B ≤ 140737488351232 := by
  obtain ⟨fuel, hf⟩ := h
  rcases open_ints hu he hc hf with ⟨hcs, _⟩ | ⟨x, l, c, zs, hcs, _, hl, _, hz, hx, _, _⟩
  · simp [Value.cells] at hcs
    obtain ⟨rfl, rfl, rfl⟩ := hcs
    simp
  · simp [Value.cells] at hcs
    obtain ⟨rfl, rfl, rfl⟩ := hcs
    obtain ⟨hx, _⟩ := Prod.mk.inj hx
    subst hx
    have z := sized_slice hsz ht hd hu
    rw [hB] at z
    have hl2 : len ≤ zs.length := by
      rw [hz]
      split
      · exact hl
      · exact Nat.le_refl _
    have h1 : (lits (H := H) k (zs.take len)).length + (lits (H := H) k (zs.drop len)).length = zs.length := by
      simp [lits]
      omega
    rw [h1] at z
    exact Nat.le_trans (Nat.mul_le_mul_right _ hl2) z
end Go.Proofs.YtapaijpglfmfgaaDoorW.PrintWords
end
