/-
  Seat b6626205aD: the small functions: boolText, headerRest, toDecision, zzBytes.
-/
import Derived.Test.Qxb6626205aDoorDigits
import Derived.Test.Qxb6626205aDoorReq3
import Derived.Handy
namespace Go.Proofs.Qxb6626205aDoor
open Go.RowKit

set_option maxHeartbeats 2000000 in
set_option maxRecDepth 100000 in
theorem boolText (b : Bool) (w : World) : Calls Tryd.prog 16 #[.string ⟨(boolBytes b).toArray⟩] w fun e w' => e = .returned (.tuple #[.bool b, .bool true]) ∧ w' = w := by
  cases b
  · show Calls Tryd.prog 16 #[.string ⟨#[102, 97, 108, 115, 101]⟩] w _
    go_enter Tryd.func16, Tryd.ntmps16
    go_wp2
    all_goals go_ret2
    exact ⟨rfl, rfl⟩
  · show Calls Tryd.prog 16 #[.string ⟨#[116, 114, 117, 101]⟩] w _
    go_enter Tryd.func16, Tryd.ntmps16
    go_wp2
    all_goals go_ret2
    exact ⟨rfl, rfl⟩

set_option maxHeartbeats 2000000 in
set_option maxRecDepth 100000 in
theorem headerRest (w : World) : Calls Tryd.prog 8 #[.int .i32 37, .string ⟨#[]⟩, .int .i32 0, .int .i32 0, .int .i32 0, .string ⟨#[]⟩, .string ⟨#[]⟩, .bool true] w fun e w' => e = .returned (.bool true) ∧ w' = w := by
  go_enter Tryd.func8, Tryd.ntmps8
  go_wp2
  all_goals go_ret
  exact ⟨rfl, rfl⟩

set_option maxHeartbeats 2000000 in
set_option maxRecDepth 100000 in
theorem toDecision (x : Fields) (w : World) : Calls Tryd.prog 6 #[x.agg] w fun e w' => e = .returned x.agg ∧ Below w.heap.size w w' := by
  go_enter Tryd.func6, Tryd.ntmps6
  go_wp2
  go_returns
  exact ⟨rfl, Joins.below_alloc2 _ _ _⟩

/-- some bool comes back, and no block that stood has turned -/
def SomeBool (w : World) (e : Ending) (w' : World) : Prop := ∃ b : Bool, e = .returned (.bool b) ∧ Below w.heap.size w w'

/-- the three texts have a length that Go bears -/
structure Fields.Len (x : Fields) : Prop where
  g : x.g.length ≤ maxLen
  m : x.m.length ≤ maxLen
  t : x.t.length ≤ maxLen

set_option maxHeartbeats 2000000 in
set_option maxRecDepth 100000 in
theorem zz11 (x : Fields) (hx : x.Len) (w : World) : Calls Tryd.prog 11 #[x.agg] w fun e w' => SomeBool w e w' := by
  obtain ⟨l1, l2, l3⟩ := hx
  unfold maxLen at l1 l2 l3
  go_enter Tryd.func11, Tryd.ntmps11
  go_wp2
  all_goals go_ret
  all_goals exact ⟨_, rfl, Joins.below_alloc1 _ _⟩

end Go.Proofs.Qxb6626205aDoor
