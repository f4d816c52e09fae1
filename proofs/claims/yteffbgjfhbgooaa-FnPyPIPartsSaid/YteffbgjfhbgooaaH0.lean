/- Contracts of strings.Compare and of what it calls, in the form that the printed texts use: the function computes exactly 'f', and the world is as it was. -/
import Derived.Test.YteffbgjfhbgooaaProg
import Derived.Test.YteffbgjfhbgooaaWWords
import Derived.Laws.Runes
import Derived.Lib.Strings
import Derived.Lib.Slices
import Derived.Lib.Walk
import Derived.Lib.Bytealg
import Derived.WalkKit
namespace Go.Proofs.YteffbgjfhbgooaaH
open Go.RowKit Go.Proofs.YteffbgjfhbgooaaW.PrintWords

theorem bne_nil_hyb (l : List UInt8) : (l != []) = !l.isEmpty := by cases l <;> rfl

def strings_Compare.f (a0 a1 : ByteArray) : Option Int := some (Lib.compareBytes a0.data.toList a1.data.toList)

set_option maxHeartbeats 1000000 in
set_option maxRecDepth 100000 in
theorem bytealg_CompareString (a b : ByteArray) (w : World) :
    Calls Try.prog 27 #[.string a, .string b] w fun e w' => e = .returned (.int .i64 (Lib.compareBytes a.data.toList b.data.toList)) ∧ w' = w := by
  go_enter Try.func27, Try.ntmps27
  go_wp2
  rw [run_callFunc_extern Try.func29 (by kernel_rfl) (by kernel_rfl) (by kernel_rfl) (e := Extern.BytealgCompare.compare) (by kernel_rfl), Lib.run_compareString]
  simp only [Result.andThen]
  rw [Oper.upon_value]
  go_wp2
  go_ret
  exact ⟨rfl, rfl⟩

set_option maxHeartbeats 1000000 in
theorem strings_Compare.calls (a0 a1 : ByteArray) (r : Int) (w : World) (h : strings_Compare.f a0 a1 = some r) :
    Calls Try.prog 22 #[.string a0, .string a1] w fun e w' => e = .returned (.int .i64 r) ∧ Drawn0 w w' := by
  obtain rfl := Option.some.inj h
  go_enter Try.func22, Try.ntmps22
  go_wp2_with (go_at_call 27; refine (bytealg_CompareString _ _ _).mono ?_; rintro e w' ⟨rfl, rfl⟩)
  go_ret
  exact ⟨rfl, Drawn0.refl _⟩

end Go.Proofs.YteffbgjfhbgooaaH
