/-
  Shared walks of seat b6001374a: the bounds of a byte; what decodeExit gives back over two bytes.
-/
import Derived.Test.Qxb6001374aRows
import Derived.WalkKit
import Derived.ProofKit
import Derived.OpenShut
namespace Go.Proofs.Qxb6001374a
open Go.ChangeShapes Go.WideShapes Go.ChangeAt Go.RowKit

theorem u8_bounds {a : Int} (h : (Lit.int .u8 a).wf = true) : 0 ≤ a ∧ a ≤ 255 := by
  simpa [Lit.wf, IntKind.min, IntKind.max, IntKind.signed, IntKind.bits] using h

theorem dec0 (b : Nat) (n : Int) (w : World) (hb : b < w.heap.size) (h0 : w.cell? ⟨b, 0, none⟩ = some (.int .u8 0)) (h1 : w.cell? ⟨b, 1, none⟩ = some (.int .u8 n)) :
    Calls Try.prog 8 #[.slice (some ⟨b, 0, none⟩) 2 2] w fun e w' => e = .returned (.tuple #[.agg #[.bool false, .int .u8 n], .bool true]) ∧ w' = w.alloc (.cells #[.bool false, .int .u8 n] 23) := by
  go_enter Try.func8, Try.ntmps8
  go_wp2
  exact bodyPost_ret (v := .tuple #[.agg #[.bool false, .int .u8 n], .bool true]) (by simp [results, Try.results8, go_sem]) rfl ⟨rfl, rfl⟩

theorem dec1 (b : Nat) (n : Int) (w : World) (hb : b < w.heap.size) (h0 : w.cell? ⟨b, 0, none⟩ = some (.int .u8 1)) (h1 : w.cell? ⟨b, 1, none⟩ = some (.int .u8 n)) :
    Calls Try.prog 8 #[.slice (some ⟨b, 0, none⟩) 2 2] w fun e w' => e = .returned (.tuple #[.agg #[.bool true, .int .u8 n], .bool true]) ∧ w' = w.alloc (.cells #[.bool true, .int .u8 n] 23) := by
  go_enter Try.func8, Try.ntmps8
  go_wp2
  exact bodyPost_ret (v := .tuple #[.agg #[.bool true, .int .u8 n], .bool true]) (by simp [results, Try.results8, go_sem]) rfl ⟨rfl, rfl⟩

theorem marshal0 (n : Int) (w : World) :
    Calls Try.prog 7 #[.agg #[.bool false, .int .u8 n]] w fun e w' => e = .returned (.slice (some ⟨w.heap.size + 1, 0, none⟩) 2 2) ∧
      w' = (w.alloc (.cells #[.bool false, .int .u8 n] 23)).alloc (.cells #[.int .u8 0, .int .u8 n] 5) := by
  go_enter Try.func7, Try.ntmps7
  go_wp2
  go_ret
  exact ⟨rfl, rfl⟩

theorem marshal1 (n : Int) (w : World) :
    Calls Try.prog 7 #[.agg #[.bool true, .int .u8 n]] w fun e w' => e = .returned (.slice (some ⟨w.heap.size + 1, 0, none⟩) 2 2) ∧
      w' = (w.alloc (.cells #[.bool true, .int .u8 n] 23)).alloc (.cells #[.int .u8 1, .int .u8 n] 5) := by
  go_enter Try.func7, Try.ntmps7
  go_wp2
  go_ret
  exact ⟨rfl, rfl⟩

theorem code0 (n : Int) (w : World) (l : 0 ≤ n) (u : n ≤ 255) :
    Calls Try.prog 10 #[.agg #[.bool false, .int .u8 n]] w fun e w' => e = .returned (.int .i64 n) ∧ w' = w.alloc (.cells #[.bool false, .int .u8 n] 23) := by
  go_enter Try.func10, Try.ntmps10
  go_wp2
  go_ret
  exact ⟨rfl, rfl⟩

theorem code1 (n : Int) (w : World) (l : 0 ≤ n) (u : n ≤ 255) :
    Calls Try.prog 10 #[.agg #[.bool true, .int .u8 n]] w fun e w' => e = .returned (.int .i64 (128 + n)) ∧ w' = w.alloc (.cells #[.bool true, .int .u8 n] 23) := by
  go_enter Try.func10, Try.ntmps10
  go_wp2
  go_ret
  exact ⟨rfl, rfl⟩
end Go.Proofs.Qxb6001374a
