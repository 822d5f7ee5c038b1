/-
  Seat b6602110aM: a step made, a step's size, the plan made.
-/
import Derived.Test.Qxb6602110aModsEDefs
namespace Go.Proofs.Qxb6602110aMods
open Go.RowKit
set_option linter.unusedVariables false

/-- A step is handed back; the world has kept what it was. -/
def AggPost (w : World) (s : St) (e : Ending) (w' : World) : Prop := e = .returned (.agg #[.int .i64 s.k, .string s.a, .string s.b, .string s.c, .string s.d, .bool s.m]) ∧ Below w.heap.size w w'

def St.raw (s : St) : Array Value := #[.int .i64 s.k, .string s.a, .string s.b, .string s.c, .string s.d, .bool s.m]

set_option maxRecDepth 100000 in
theorem newStep34 (s : St) (w : World) :
    Calls Trym.prog 34 #[.int .i64 s.k, .string s.a, .string s.b, .string s.c, .string s.d, .bool s.m] w (fun e w' => e = .returned (.agg #[.int .i64 s.k, .string s.a, .string s.b, .string s.c, .string s.d, .bool s.m]) ∧ w' = w.alloc (.cells #[.int .i64 s.k, .string s.a, .string s.b, .string s.c, .string s.d, .bool s.m] 31)) := by
  go_enter Trym.func34, Trym.ntmps34
  go_wp2
  exact bodyPost_ret (v := .agg #[.int .i64 s.k, .string s.a, .string s.b, .string s.c, .string s.d, .bool s.m]) (by simp [results, Trym.results34, go_sem]) rfl ⟨rfl, rfl⟩

set_option maxRecDepth 100000 in
theorem toStep15 (s : St) (w : World) :
    Calls Trym.prog 15 #[.agg #[.int .i64 s.k, .string s.a, .string s.b, .string s.c, .string s.d, .bool s.m]] w (AggPost w s) := by
  go_enter Trym.func15, Trym.ntmps15
  go_wp2_with fail
  refine (newStep34 s _).mono ?_
  rintro e wx ⟨rfl, rfl⟩
  go_wp2
  refine bodyPost_ret (v := .agg #[.int .i64 s.k, .string s.a, .string s.b, .string s.c, .string s.d, .bool s.m]) (by simp [results, Trym.results15, go_sem]) rfl ⟨rfl, ?_⟩
  exact (((Below.refl _ w).alloc (Nat.le_refl _) _).alloc (by simp) _).alloc (by simp; omega) _

set_option maxRecDepth 100000 in
theorem size43 (s : St) (w : World) :
    Calls Trym.prog 43 #[.agg #[.int .i64 s.k, .string s.a, .string s.b, .string s.c, .string s.d, .bool s.m]] w (fun e w' => ∃ r : Int, e = .returned (.int .i64 r) ∧ Below w.heap.size w w') := by
  go_enter Trym.func43, Trym.ntmps43
  go_wp2
  go_ret
  exact ⟨_, rfl, (Below.refl _ w).alloc (Nat.le_refl _) _⟩

set_option maxRecDepth 100000 in
theorem newPlan13 (a : Option Addr) (n c : Nat) (f d l b : Int) (w : World) :
    Calls Trym.prog 13 #[.slice a n c, .int .i64 f, .int .i64 d, .int .i64 l, .int .i64 b] w (fun e w' => e = .returned (.pointer (some ⟨w.heap.size, 0, none⟩)) ∧ w' = w.alloc (.cells #[.slice a n c, .int .i64 f, .int .i64 d, .int .i64 l, .int .i64 b] 57)) := by
  go_enter Trym.func13, Trym.ntmps13
  go_wp2
  go_ret
  exact ⟨rfl, rfl⟩

end Go.Proofs.Qxb6602110aMods
