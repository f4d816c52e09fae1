/- Plain laws: two equal lists of texts. -/
import Derived.Test.YtdjkekgfeadmoaaDoorV
import Derived.Test.YtdjkekgfeadmoaaDoorQx6
namespace Go.Proofs.YtdjkekgfeadmoaaDoor.V
open Go.RowKit Go.Proofs.YtdjkekgfeadmoaaDoor.Q Go.Proofs.YtdjkekgfeadmoaaDoorH Go.Proofs.YtdjkekgfeadmoaaDoorB Go.Proofs.YtdjkekgfeadmoaaDoorW.PrintWords Go.Proofs.YtdjkekgfeadmoaaDoorW.PrintLast
set_option linter.unusedVariables false
set_option linter.unusedSimpArgs false

theorem texts_refl (l : List ByteArray) (hb : l.length ≤ 2000000000) : ∀ (n i : Nat), l.length - i = n → i ≤ l.length → Ev (fun k => laws_texts.l0 k l l l.length i) true := by
  intro n
  induction n with
  | zero =>
    intro i hn hi
    refine Ev.succ ?_
    simp only [laws_texts.l0]
    (repeat (first | refine Ev.pos (fun _ => by first | omega | trivial | assumption) ?_ | refine Ev.neg (fun _ => by first | omega | assumption | nofun) ?_))
    exact Ev.now _
  | succ n ih =>
    intro i hn hi
    refine Ev.succ ?_
    simp only [laws_texts.l0]
    (repeat (first | refine Ev.pos (fun _ => by first | omega | trivial | assumption) ?_ | refine Ev.neg (fun _ => by first | omega | assumption | nofun) ?_))
    rw [w64 (by omega) (by omega)]
    exact ih (i + 1) (by omega) (by omega)
theorem texts_ev (l : List ByteArray) (hb : l.length ≤ 2000000000) : Ev (fun k => laws_texts.f k l l) true := by
  simp only [laws_texts.f]
  refine Ev.pos (fun _ => by first | omega | trivial | assumption) ?_
  exact texts_refl l hb _ 0 rfl (Nat.zero_le _)

end Go.Proofs.YtdjkekgfeadmoaaDoor.V
