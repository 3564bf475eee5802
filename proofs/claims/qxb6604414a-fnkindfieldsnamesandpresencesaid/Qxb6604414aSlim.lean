/-
  the input's own strings are short.
-/
import Derived.Test.Qxb6604414aBase
namespace Go.Proofs.Qxb6604414a
open Go.RowKit

structure QIn.slim (q : QIn) : Prop where
  id : q.id.size ≤ 1048576
  kd : q.kd.size ≤ 1048576
  tx : q.tx.size ≤ 1048576
  tl : q.tl.size ≤ 1048576
  al : q.al.size ≤ 1048576
  tm : q.tm.size ≤ 1048576

/-- it returned a bool; 'true' says p -/
def RetWhen (p : Prop) (e : Ending) : Prop := ∃ b, e = .returned (.bool b) ∧ (b = true → p)
theorem RetWhen.no {p : Prop} : RetWhen p (.returned (.bool false)) := ⟨false, rfl, fun h => by cases h⟩
theorem RetWhen.yes {p : Prop} (h : p) : RetWhen p (.returned (.bool true)) := ⟨true, rfl, fun _ => h⟩

end Go.Proofs.Qxb6604414a
