/-
  Walks of the scanner's leaves: Done, Peek, IsLetter.
-/
import Derived.Test.Qxb6002364aBase
import Derived.BigQuiet
namespace Go.Proofs.Qxb6002364a
open Go.RowKit

theorem done_yes (S p : Nat) (T : ByteArray) (w : World) (h0 : w.cell? ⟨S, 0, none⟩ = some (.string T)) (h1 : w.cell? ⟨S, 1, none⟩ = some (.int .i64 p)) (h : T.size ≤ p) :
    Calls Try.prog 28 #[.pointer (some ⟨S, 0, none⟩)] w fun e w' => e = .returned (.bool true) ∧ ∃ n, w' = w.drewN n := by
  have hd : decide ((T.size : Int) ≤ (p : Int)) = true := by simp; omega
  go_enter Try.func28, Try.ntmps28
  go_wp2
  go_quiet (fail)
  go_wp2
  go_ret
  exact ⟨rfl, _, rfl⟩

theorem done_no (S p : Nat) (T : ByteArray) (w : World) (h0 : w.cell? ⟨S, 0, none⟩ = some (.string T)) (h1 : w.cell? ⟨S, 1, none⟩ = some (.int .i64 p)) (h : p < T.size) :
    Calls Try.prog 28 #[.pointer (some ⟨S, 0, none⟩)] w fun e w' => e = .returned (.bool false) ∧ ∃ n, w' = w.drewN n := by
  have hd : decide (T.size ≤ p) = false := by simp; omega
  go_enter Try.func28, Try.ntmps28
  go_wp2
  go_quiet (fail)
  go_wp2
  go_ret
  exact ⟨rfl, _, rfl⟩

theorem peek (S p : Nat) (T : ByteArray) (w : World) (h0 : w.cell? ⟨S, 0, none⟩ = some (.string T)) (h1 : w.cell? ⟨S, 1, none⟩ = some (.int .i64 p)) (h : p < T.size) :
    Calls Try.prog 29 #[.pointer (some ⟨S, 0, none⟩)] w fun e w' => e = .returned (.int .u8 (T[p].toNat)) ∧ ∃ n, w' = w.drewN n := by
  go_enter Try.func29, Try.ntmps29
  go_wp2
  go_quiet (fail)
  go_wp2
  go_ret
  exact ⟨rfl, _, rfl⟩

theorem letter (c : UInt8) (w : World) :
    Calls Try.prog 30 #[.int .u8 c.toNat] w fun e w' => e = .returned (.bool (decide (65 ≤ c.toNat) && decide (c.toNat ≤ 90))) ∧ w' = w := by
  by_cases h1 : 65 ≤ c.toNat
  · by_cases h2 : c.toNat ≤ 90
    · have g1 : (65 : Int) ≤ (c.toNat : Int) := by omega
      have g2 : (c.toNat : Int) ≤ 90 := by omega
      simp only [h1, h2]
      go_enter Try.func30, Try.ntmps30
      go_wp2
      go_ret
      exact ⟨by simp, rfl⟩
    · have g1 : (65 : Int) ≤ (c.toNat : Int) := by omega
      have g2 : ¬ (c.toNat : Int) ≤ 90 := by omega
      simp only [h1, h2]
      go_enter Try.func30, Try.ntmps30
      go_wp2
      go_ret
      exact ⟨by simp, rfl⟩
  · have g1 : ¬ (65 : Int) ≤ (c.toNat : Int) := by omega
    simp only [h1]
    go_enter Try.func30, Try.ntmps30
    go_wp2
    go_ret
    exact ⟨by simp, rfl⟩
end Go.Proofs.Qxb6002364a
