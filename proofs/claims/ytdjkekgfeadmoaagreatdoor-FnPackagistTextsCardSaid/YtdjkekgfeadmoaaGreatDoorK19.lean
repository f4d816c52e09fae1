/- What a row's list of laid variables gives: the sentinels that the comparison of Packagist's components reads. -/
import Derived.Test.YtdjkekgfeadmoaaGreatDoorKC
import Derived.Test.YtdjkekgfeadmoaaGreatDoorRows
import Derived.Stop.LaidErr
import Derived.Stop.Joined
import Derived.LaidSub
import Derived.MakeChecks
namespace Go.Proofs.YtdjkekgfeadmoaaGreatDoorG
open Go.RowKit Go.ChangeShapes Go.Proofs.YtdjkekgfeadmoaaGreatDoorW.PrintWords Go.Proofs.YtdjkekgfeadmoaaGreatDoorW.PrintLast

set_option linter.unusedVariables false

theorem err_star : "*" ++ "errors.errorString" = "*errors.errorString" := by decide
theorem err_row (u : TypeId) (h : Tryz.prog.typeName? 3 u = some "*errors.errorString") : u = 103 :=
  typeName_ptr_named (nm := "errors.errorString") (by rw [err_star]; kernel_rfl) (by kernel_rfl) (by decide) u (by rw [err_star]; exact h)
theorem sent {n : String} {text : List UInt8} {g : Nat} {W : World} (hg : Tryz.prog.globalNamed n = some g) (ht : (Tryz.prog.globals[g]?).map (·.type) = some 36)
    (h : laidMet Tryz.prog [(n, .iface "*errors.errorString" (.ptr (.agg [.lit (.string text)])))] W) : (∃ a, W.cell? ⟨g, 0, none⟩ = some (ErrV a)) ∧ g < W.heap.size := by
  obtain ⟨a, s, hv, _⟩ := laid_sentinel h hg ht Tryz.underlying36 err_row Tryz.underlying103 Tryz.underlying105 rfl rfl Tryz.underlying9 (by kernel_rfl) (by kernel_rfl)
  have hc : W.cell? ⟨g, 0, none⟩ = some (ErrV a) := by
    have h0 := World.var?_cell hg hv 0
    simpa [ErrV] using h0
  refine ⟨⟨a, hc⟩, ?_⟩
  rcases Nat.lt_or_ge g W.heap.size with hl | hl
  · exact hl
  · unfold World.cell? at hc
    rw [Array.getElem?_eq_none hl] at hc
    cases hc
theorem GL_of {l : List (String × DataW Unit)} {W : World} (hL : laidMetH Tryz.prog l W) (hp : (l.all fun x => x.2.handleName?.isNone) = true)
    (e1 : l.filter (fun x => x.1 == "io.EOF") = [("io.EOF", Go.Proofs.YtdjkekgfeadmoaaGreatDoor.Rows.laid_io_EOF)])
    (e2 : l.filter (fun x => x.1 == "pub-primogeniture/pub/bigall.errNoDigits") = [("pub-primogeniture/pub/bigall.errNoDigits", Go.Proofs.YtdjkekgfeadmoaaGreatDoor.Rows.laid_pub_primogeniture_pub_bigall_errNoDigits)])
    (e3 : l.filter (fun x => x.1 == "pub-primogeniture/pub/scalibr/semantic.ErrInvalidVersion") = [("pub-primogeniture/pub/scalibr/semantic.ErrInvalidVersion", Go.Proofs.YtdjkekgfeadmoaaGreatDoor.Rows.laid_pub_primogeniture_pub_scalibr_semantic_ErrInvalidVersion)])
    (e4 : l.filter (fun x => x.1 == "strconv.ErrSyntax") = [("strconv.ErrSyntax", Go.Proofs.YtdjkekgfeadmoaaGreatDoor.Rows.laid_strconv_ErrSyntax)])
    (e5 : l.filter (fun x => x.1 == "strconv.ErrRange") = [("strconv.ErrRange", Go.Proofs.YtdjkekgfeadmoaaGreatDoor.Rows.laid_strconv_ErrRange)]) : GL W := by
  have one : ∀ (n : String) (d : DataW Unit), l.filter (fun x => x.1 == n) = [(n, d)] → d.handleName?.isNone = true → laidMet Tryz.prog [(n, d)] W := by
    intro n d e hd
    have h := hL.filter (fun x => x.1 == n)
    rw [e, MakeChecks.laidMetH_plain _ _ _ (by simp [hd])] at h
    exact h
  obtain ⟨h1, g1⟩ := sent (g := 3) (by kernel_rfl) (by kernel_rfl) (one _ _ e1 (by kernel_rfl))
  obtain ⟨h2, g2⟩ := sent (g := 7) (by kernel_rfl) (by kernel_rfl) (one _ _ e2 (by kernel_rfl))
  obtain ⟨h3, g3⟩ := sent (g := 0) (by kernel_rfl) (by kernel_rfl) (one _ _ e3 (by kernel_rfl))
  obtain ⟨⟨a4, h4⟩, g4⟩ := sent (g := 4) (by kernel_rfl) (by kernel_rfl) (one _ _ e4 (by kernel_rfl))
  obtain ⟨⟨a5, h5⟩, g5⟩ := sent (g := 5) (by kernel_rfl) (by kernel_rfl) (one _ _ e5 (by kernel_rfl))
  exact ⟨⟨by omega, h3, h1, h2⟩, ⟨by omega, ⟨_, _, h4⟩, ⟨_, _, h5⟩⟩⟩
end Go.Proofs.YtdjkekgfeadmoaaGreatDoorG
