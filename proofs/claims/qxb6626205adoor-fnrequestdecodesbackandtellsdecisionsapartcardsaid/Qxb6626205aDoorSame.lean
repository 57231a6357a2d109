/-
  Seat b6626205aD: '==' on two decisions; functions 17 ('sameAt') and 10 ('sameExt').
-/
import Derived.Test.Qxb6626205aDoorExt
import Derived.Laws.StructEq
namespace Go.Proofs.Qxb6626205aDoor
open Go.RowKit

/-- the seven fields agree -/
def eqF (x y : Fields) : Bool := (x.g == y.g) && (x.p == y.p) && (x.o == y.o) && (x.m == y.m) && (x.t == y.t) && (x.st == y.st) && (x.fc == y.fc)

theorem struct_eq (x y : Fields) (w : World) : (binOp .eql 23 x.agg y.agg).run Tryd.prog w = .ok (.bool (eqF x y)) w := by
  have u9 := Tryd.underlying9
  have u2 := Tryd.underlying2
  have u21 := Tryd.underlying21
  have u4 := Tryd.underlying4
  have hS : Tryd.prog.underlying 23 = some (.struct (Tryd.prog.fieldsOf 23)) := by kernel_rfl
  have hp : Tryd.prog.stoodInHeld 23 = false := by kernel_rfl
  rw [run_eql_struct, show (10000 : Nat) = 9999 + 1 from rfl, run_equalIn_agg w 9999 23 _ _ hS hp]
  simp only [Program.fieldsOf, Tryd.underlying23]
  go_simp
  by_cases h1 : x.g = y.g
  case neg => simp [eqF, h1]
  by_cases h2 : x.p = y.p
  case neg => simp [eqF, h1, h2]
  by_cases h3 : x.o = y.o
  case neg => simp [eqF, h1, h2, h3]
  by_cases h4 : x.m = y.m
  case neg => simp [eqF, h1, h2, h3, h4]
  by_cases h5 : x.t = y.t
  case neg => simp [eqF, h1, h2, h3, h4, h5]
  by_cases h6 : x.st = y.st
  case neg => simp [eqF, h1, h2, h3, h4, h5, h6]
  by_cases h7 : x.fc = y.fc
  case neg => simp [eqF, h1, h2, h3, h4, h5, h6, h7]
  simp [eqF, h1, h2, h3, h4, h5, h6, h7]

set_option maxHeartbeats 2000000 in
set_option maxRecDepth 100000 in
theorem sameAt (w : World) (M1 M2 n1 n2 : Nat) (f1 f2 : Bytes → Option Bytes) (h1 : MapIs w M1 n1 f1) (h2 : MapIs w M2 n2 f2) (k vx vy : Bytes) (hk : k.length ≤ maxLen) (e1 : f1 k = some vx) (e2 : f2 k = some vy) (b : Bool) (hb : (vx == vy) = b) :
    Calls Tryd.prog 17 #[.map (some M1), .map (some M2), .string ⟨k.toArray⟩] w fun e w' => e = .returned (.bool b) ∧ w' = w := by
  have l1 := h1.look e1 hk
  have l2 := h2.look e2 hk
  clear h1 h2 hk
  go_enter Tryd.func17, Tryd.ntmps17
  go_wp2
  all_goals go_ret
  exact ⟨rfl, rfl⟩

set_option maxHeartbeats 2000000 in
set_option maxRecDepth 100000 in
theorem sameExt (x y : Fields) (w : World) (M1 M2 : Nat) (h1 : MapIs w M1 7 (look7 x fun _ => true)) (h2 : MapIs w M2 7 (look7 y fun _ => true)) (b1 b2 b3 b4 b5 b6 b7 : Bool)
    (e1 : (x.g == y.g) = b1) (e2 : ((Lib.itoa x.p) == (Lib.itoa y.p)) = b2) (e3 : ((Lib.itoa x.o) == (Lib.itoa y.o)) = b3) (e4 : ((Lib.itoa x.st) == (Lib.itoa y.st)) = b4) (e5 : ((boolBytes x.fc) == (boolBytes y.fc)) = b5) (e6 : (x.m == y.m) = b6) (e7 : (x.t == y.t) = b7) :
    Calls Tryd.prog 10 #[.map (some M1), .map (some M2)] w fun e w' => e = .returned (.bool (b1 && b2 && b3 && b4 && b5 && b6 && b7)) ∧ w' = w := by
  have n1 := h1.len 3
  have n2 := h2.len 3
  have c1 : Calls Tryd.prog 17 #[.map (some M1), .map (some M2), .string ⟨#[112, 114, 111, 100, 117, 99, 101, 114, 71, 114, 111, 117, 112]⟩] w fun e w' => e = .returned (.bool b1) ∧ w' = w := sameAt w M1 M2 7 7 _ _ h1 h2 kG _ _ (by decide) (full_G x) (full_G y) b1 e1
  have c2 : Calls Tryd.prog 17 #[.map (some M1), .map (some M2), .string ⟨#[99, 111, 109, 109, 105, 116, 76, 111, 103, 79, 102, 102, 115, 101, 116]⟩] w fun e w' => e = .returned (.bool b2) ∧ w' = w := sameAt w M1 M2 7 7 _ _ h1 h2 kP _ _ (by decide) (full_P x) (full_P y) b2 e2
  have c3 : Calls Tryd.prog 17 #[.map (some M1), .map (some M2), .string ⟨#[116, 114, 97, 110, 83, 116, 97, 116, 101, 84, 97, 98, 108, 101, 79, 102, 102, 115, 101, 116]⟩] w fun e w' => e = .returned (.bool b3) ∧ w' = w := sameAt w M1 M2 7 7 _ _ h1 h2 kO _ _ (by decide) (full_O x) (full_O y) b3 e3
  have c4 : Calls Tryd.prog 17 #[.map (some M1), .map (some M2), .string ⟨#[99, 111, 109, 109, 105, 116, 79, 114, 82, 111, 108, 108, 98, 97, 99, 107]⟩] w fun e w' => e = .returned (.bool b4) ∧ w' = w := sameAt w M1 M2 7 7 _ _ h1 h2 kS _ _ (by decide) (full_S x) (full_S y) b4 e4
  have c5 : Calls Tryd.prog 17 #[.map (some M1), .map (some M2), .string ⟨#[102, 114, 111, 109, 84, 114, 97, 110, 115, 97, 99, 116, 105, 111, 110, 67, 104, 101, 99, 107]⟩] w fun e w' => e = .returned (.bool b5) ∧ w' = w := sameAt w M1 M2 7 7 _ _ h1 h2 kF _ _ (by decide) (full_F x) (full_F y) b5 e5
  have c6 : Calls Tryd.prog 17 #[.map (some M1), .map (some M2), .string ⟨#[109, 115, 103, 73, 100]⟩] w fun e w' => e = .returned (.bool b6) ∧ w' = w := sameAt w M1 M2 7 7 _ _ h1 h2 kM _ _ (by decide) (full_M x) (full_M y) b6 e6
  have c7 : Calls Tryd.prog 17 #[.map (some M1), .map (some M2), .string ⟨#[116, 114, 97, 110, 115, 97, 99, 116, 105, 111, 110, 73, 100]⟩] w fun e w' => e = .returned (.bool b7) ∧ w' = w := sameAt w M1 M2 7 7 _ _ h1 h2 kT _ _ (by decide) (full_T x) (full_T y) b7 e7
  clear h1 h2 e1 e2 e3 e4 e5 e6 e7
  go_enter Tryd.func10, Tryd.ntmps10
  go_wp2_with fail
  refine c1.mono ?_
  rintro e w' ⟨rfl, hw'⟩
  subst hw'
  cases b1 with
  | false =>
    go_wp2
    go_ret
    exact ⟨by simp, rfl⟩
  | true =>
    go_wp2_with fail
    refine c2.mono ?_
    rintro e w' ⟨rfl, hw'⟩
    subst hw'
    cases b2 with
    | false =>
      go_wp2
      go_ret
      exact ⟨by simp, rfl⟩
    | true =>
      go_wp2_with fail
      refine c3.mono ?_
      rintro e w' ⟨rfl, hw'⟩
      subst hw'
      cases b3 with
      | false =>
        go_wp2
        go_ret
        exact ⟨by simp, rfl⟩
      | true =>
        go_wp2_with fail
        refine c4.mono ?_
        rintro e w' ⟨rfl, hw'⟩
        subst hw'
        cases b4 with
        | false =>
          go_wp2
          go_ret
          exact ⟨by simp, rfl⟩
        | true =>
          go_wp2_with fail
          refine c5.mono ?_
          rintro e w' ⟨rfl, hw'⟩
          subst hw'
          cases b5 with
          | false =>
            go_wp2
            go_ret
            exact ⟨by simp, rfl⟩
          | true =>
            go_wp2_with fail
            refine c6.mono ?_
            rintro e w' ⟨rfl, hw'⟩
            subst hw'
            cases b6 with
            | false =>
              go_wp2
              go_ret
              exact ⟨by simp, rfl⟩
            | true =>
              go_wp2_with fail
              refine c7.mono ?_
              rintro e w' ⟨rfl, hw'⟩
              subst hw'
              cases b7 with
              | false =>
                go_wp2
                go_ret
                exact ⟨by simp, rfl⟩
              | true =>
                go_wp2
                go_ret
                exact ⟨by simp, rfl⟩

end Go.Proofs.Qxb6626205aDoor
