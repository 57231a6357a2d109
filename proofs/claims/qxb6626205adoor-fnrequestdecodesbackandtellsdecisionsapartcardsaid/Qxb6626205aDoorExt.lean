/-
  Seat b6626205aD: function 9, 'extDecodes', at the map of a request.
-/
import Derived.Test.Qxb6626205aDoorSmall
namespace Go.Proofs.Qxb6626205aDoor
open Go.RowKit

theorem full_G (x : Fields) : look7 x (fun _ => true) kG = some x.g := by simp +decide [look7, opt]
theorem full_P (x : Fields) : look7 x (fun _ => true) kP = some (Lib.itoa x.p) := by simp +decide [look7, opt]
theorem full_O (x : Fields) : look7 x (fun _ => true) kO = some (Lib.itoa x.o) := by simp +decide [look7, opt]
theorem full_S (x : Fields) : look7 x (fun _ => true) kS = some (Lib.itoa x.st) := by simp +decide [look7, opt]
theorem full_F (x : Fields) : look7 x (fun _ => true) kF = some (boolBytes x.fc) := by simp +decide [look7, opt]
theorem full_M (x : Fields) : look7 x (fun _ => true) kM = some x.m := by simp +decide [look7, opt]
theorem full_T (x : Fields) : look7 x (fun _ => true) kT = some x.t := by simp +decide [look7, opt]

set_option maxHeartbeats 4000000 in
set_option maxRecDepth 100000 in
theorem extDecodes (x : Fields) (hx : x.Ok) (w : World) (M : Nat) (hm : MapIs w M 7 (look7 x fun _ => true)) :
    Calls Tryd.prog 9 #[.map (some M), x.agg] w fun e w' => e = .returned (.bool true) ∧ Below w.heap.size w w' := by
  have hwrap : IntKind.i64.wrap x.st = x.st := by
    have h0 := hx.s0; have h1 := hx.s1
    exact wrap_fit _ (by omega) (by omega)
  have hm1 : MapIs (w.alloc (.cells #[.string ⟨x.g.toArray⟩, .int .i64 x.p, .int .i64 x.o, .string ⟨x.m.toArray⟩, .string ⟨x.t.toArray⟩, .int .i32 x.st, .bool x.fc] 23)) M 7 (look7 x fun _ => true) := hm.block ((MapKept.heap_alloc w _).2 M hm.lt)
  have hlen : (Builtin.len_ #[30] 3 #[.map (some M)]).run Tryd.prog (w.alloc (.cells #[.string ⟨x.g.toArray⟩, .int .i64 x.p, .int .i64 x.o, .string ⟨x.m.toArray⟩, .string ⟨x.t.toArray⟩, .int .i32 x.st, .bool x.fc] 23)) = .ok (.int .i64 7) (w.alloc (.cells #[.string ⟨x.g.toArray⟩, .int .i64 x.p, .int .i64 x.o, .string ⟨x.m.toArray⟩, .string ⟨x.t.toArray⟩, .int .i32 x.st, .bool x.fc] 23)) := hm1.len 3
  have hG : (Instr.lookup 30 (.map (some M)) (.string ⟨#[112, 114, 111, 100, 117, 99, 101, 114, 71, 114, 111, 117, 112]⟩) true).run Tryd.prog (w.alloc (.cells #[.string ⟨x.g.toArray⟩, .int .i64 x.p, .int .i64 x.o, .string ⟨x.m.toArray⟩, .string ⟨x.t.toArray⟩, .int .i32 x.st, .bool x.fc] 23)) = .ok (.tuple #[.string ⟨(x.g).toArray⟩, .bool true]) (w.alloc (.cells #[.string ⟨x.g.toArray⟩, .int .i64 x.p, .int .i64 x.o, .string ⟨x.m.toArray⟩, .string ⟨x.t.toArray⟩, .int .i32 x.st, .bool x.fc] 23)) := hm1.look (k := kG) (full_G x) (by decide)
  have hP : (Instr.lookup 30 (.map (some M)) (.string ⟨#[99, 111, 109, 109, 105, 116, 76, 111, 103, 79, 102, 102, 115, 101, 116]⟩) true).run Tryd.prog (w.alloc (.cells #[.string ⟨x.g.toArray⟩, .int .i64 x.p, .int .i64 x.o, .string ⟨x.m.toArray⟩, .string ⟨x.t.toArray⟩, .int .i32 x.st, .bool x.fc] 23)) = .ok (.tuple #[.string ⟨((Lib.itoa x.p)).toArray⟩, .bool true]) (w.alloc (.cells #[.string ⟨x.g.toArray⟩, .int .i64 x.p, .int .i64 x.o, .string ⟨x.m.toArray⟩, .string ⟨x.t.toArray⟩, .int .i32 x.st, .bool x.fc] 23)) := hm1.look (k := kP) (full_P x) (by decide)
  have hO : (Instr.lookup 30 (.map (some M)) (.string ⟨#[116, 114, 97, 110, 83, 116, 97, 116, 101, 84, 97, 98, 108, 101, 79, 102, 102, 115, 101, 116]⟩) true).run Tryd.prog (w.alloc (.cells #[.string ⟨x.g.toArray⟩, .int .i64 x.p, .int .i64 x.o, .string ⟨x.m.toArray⟩, .string ⟨x.t.toArray⟩, .int .i32 x.st, .bool x.fc] 23)) = .ok (.tuple #[.string ⟨((Lib.itoa x.o)).toArray⟩, .bool true]) (w.alloc (.cells #[.string ⟨x.g.toArray⟩, .int .i64 x.p, .int .i64 x.o, .string ⟨x.m.toArray⟩, .string ⟨x.t.toArray⟩, .int .i32 x.st, .bool x.fc] 23)) := hm1.look (k := kO) (full_O x) (by decide)
  have hS : (Instr.lookup 30 (.map (some M)) (.string ⟨#[99, 111, 109, 109, 105, 116, 79, 114, 82, 111, 108, 108, 98, 97, 99, 107]⟩) true).run Tryd.prog (w.alloc (.cells #[.string ⟨x.g.toArray⟩, .int .i64 x.p, .int .i64 x.o, .string ⟨x.m.toArray⟩, .string ⟨x.t.toArray⟩, .int .i32 x.st, .bool x.fc] 23)) = .ok (.tuple #[.string ⟨((Lib.itoa x.st)).toArray⟩, .bool true]) (w.alloc (.cells #[.string ⟨x.g.toArray⟩, .int .i64 x.p, .int .i64 x.o, .string ⟨x.m.toArray⟩, .string ⟨x.t.toArray⟩, .int .i32 x.st, .bool x.fc] 23)) := hm1.look (k := kS) (full_S x) (by decide)
  have hF : (Instr.lookup 30 (.map (some M)) (.string ⟨#[102, 114, 111, 109, 84, 114, 97, 110, 115, 97, 99, 116, 105, 111, 110, 67, 104, 101, 99, 107]⟩) true).run Tryd.prog (w.alloc (.cells #[.string ⟨x.g.toArray⟩, .int .i64 x.p, .int .i64 x.o, .string ⟨x.m.toArray⟩, .string ⟨x.t.toArray⟩, .int .i32 x.st, .bool x.fc] 23)) = .ok (.tuple #[.string ⟨((boolBytes x.fc)).toArray⟩, .bool true]) (w.alloc (.cells #[.string ⟨x.g.toArray⟩, .int .i64 x.p, .int .i64 x.o, .string ⟨x.m.toArray⟩, .string ⟨x.t.toArray⟩, .int .i32 x.st, .bool x.fc] 23)) := hm1.look (k := kF) (full_F x) (by decide)
  have hM : (Instr.lookup 30 (.map (some M)) (.string ⟨#[109, 115, 103, 73, 100]⟩) true).run Tryd.prog (w.alloc (.cells #[.string ⟨x.g.toArray⟩, .int .i64 x.p, .int .i64 x.o, .string ⟨x.m.toArray⟩, .string ⟨x.t.toArray⟩, .int .i32 x.st, .bool x.fc] 23)) = .ok (.tuple #[.string ⟨(x.m).toArray⟩, .bool true]) (w.alloc (.cells #[.string ⟨x.g.toArray⟩, .int .i64 x.p, .int .i64 x.o, .string ⟨x.m.toArray⟩, .string ⟨x.t.toArray⟩, .int .i32 x.st, .bool x.fc] 23)) := hm1.look (k := kM) (full_M x) (by decide)
  have hT : (Instr.lookup 30 (.map (some M)) (.string ⟨#[116, 114, 97, 110, 115, 97, 99, 116, 105, 111, 110, 73, 100]⟩) true).run Tryd.prog (w.alloc (.cells #[.string ⟨x.g.toArray⟩, .int .i64 x.p, .int .i64 x.o, .string ⟨x.m.toArray⟩, .string ⟨x.t.toArray⟩, .int .i32 x.st, .bool x.fc] 23)) = .ok (.tuple #[.string ⟨(x.t).toArray⟩, .bool true]) (w.alloc (.cells #[.string ⟨x.g.toArray⟩, .int .i64 x.p, .int .i64 x.o, .string ⟨x.m.toArray⟩, .string ⟨x.t.toArray⟩, .int .i32 x.st, .bool x.fc] 23)) := hm1.look (k := kT) (full_T x) (by decide)
  have cP := parse_itoa x.p hx.p0 hx.p1
  have cO := parse_itoa x.o hx.o0 hx.o1
  have cS := parse_itoa x.st (by have := hx.s0; omega) (by have := hx.s1; omega)
  have cF := boolText x.fc
  have hb := Joins.below_alloc1 w (.cells #[.string ⟨x.g.toArray⟩, .int .i64 x.p, .int .i64 x.o, .string ⟨x.m.toArray⟩, .string ⟨x.t.toArray⟩, .int .i32 x.st, .bool x.fc] 23)
  clear hm hm1 hx
  go_enter Tryd.func9, Tryd.ntmps9
  go_wp2_with fail
  refine (cP _).mono ?_
  rintro e w' ⟨rfl, rfl⟩
  go_wp2_with fail
  refine (cO _).mono ?_
  rintro e w' ⟨rfl, rfl⟩
  go_wp2_with fail
  refine (cS _).mono ?_
  rintro e w' ⟨rfl, rfl⟩
  go_wp2_with fail
  refine (cF _).mono ?_
  rintro e w' ⟨rfl, rfl⟩
  go_wp2
  go_ret
  exact ⟨rfl, hb⟩

end Go.Proofs.Qxb6626205aDoor
