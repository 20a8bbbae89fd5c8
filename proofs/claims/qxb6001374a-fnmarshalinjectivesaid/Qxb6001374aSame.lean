/-
  sameBytes over two slices of two bytes each.
-/
import Derived.BigQuiet
import Derived.Test.Qxb6001374aWalks
namespace Go.Proofs.Qxb6001374a
open Go.ChangeShapes Go.WideShapes Go.ChangeAt Go.RowKit

set_option maxHeartbeats 1000000 in
theorem same (b c : Nat) (k n k' n' : Int) (w : World)
    (h0 : w.cell? ⟨b, 0, none⟩ = some (.int .u8 k)) (h1 : w.cell? ⟨b, 1, none⟩ = some (.int .u8 n))
    (g0 : w.cell? ⟨c, 0, none⟩ = some (.int .u8 k')) (g1 : w.cell? ⟨c, 1, none⟩ = some (.int .u8 n')) :
    Calls Try.prog 9 #[.slice (some ⟨b, 0, none⟩) 2 2, .slice (some ⟨c, 0, none⟩) 2 2] w fun e w' =>
      e = .returned (.bool (k == k' && n == n')) ∧ ∃ q, w' = w.drewN q := by
  go_enter Try.func9, Try.ntmps9
  go_wp2
  go_loopw [5] (fun i wr => (∃ q, wr = w.drewN q) ∧ ((i = .int .i64 0) ∨ (i = .int .i64 1 ∧ (k == k') = true) ∨ (i = .int .i64 2 ∧ (k == k') = true ∧ (n == n') = true))) (fun i _ => 2 - (intOf i).toNat)
  case atStart => exact ⟨⟨0, rfl⟩, Or.inl rfl⟩
  case round =>
    obtain ⟨⟨q, rfl⟩, hrel⟩ := hrel
    rcases hrel with rfl | ⟨rfl, e0⟩ | ⟨rfl, e0, e1⟩
    · by_cases hk : k = k'
      · subst hk
        go_wp2
        go_quiet (fail)
        go_wp2
        go_roundw
        case rel => exact ⟨⟨_, rfl⟩, Or.inr (Or.inl ⟨rfl, by simp⟩)⟩
        case measure => simp [intOf]
      · have hk' : (k != k') = true := by simp [hk]
        have hk2 : (k == k') = false := by simp [hk]
        go_wp2
        go_quiet (fail)
        go_wp2
        go_ret
        exact ⟨by simp [hk2], _, World.drewN_drewN _ _ _⟩
    · have e0' := eq_of_beq e0
      subst e0'
      by_cases hk : n = n'
      · subst hk
        go_wp2
        go_quiet (fail)
        go_wp2
        go_roundw
        case rel => exact ⟨⟨_, rfl⟩, Or.inr (Or.inr ⟨rfl, by simp, by simp⟩)⟩
        case measure => simp [intOf]
      · have hk' : (n != n') = true := by simp [hk]
        have hk2 : (n == n') = false := by simp [hk]
        go_wp2
        go_quiet (fail)
        go_wp2
        go_ret
        exact ⟨by simp [hk2], _, World.drewN_drewN _ _ _⟩
    · go_wp2
      go_ret
      exact ⟨by simp [e0, e1], q, rfl⟩
end Go.Proofs.Qxb6001374a
