/-
  The functions that only read: zzBytes.., listBytes, listAllUpper, listPad.
-/
import Derived.Test.Qxb6002364aBase
import Derived.Test.Qxb6002364aPlain
import Derived.BigQuiet
namespace Go.Proofs.Qxb6002364a
open Go.RowKit

/-- The words ws lie where the slice (ao, n) leads. -/
def SL (w : World) (ao : Option Addr) (n : Nat) (ws : List ByteArray) : Prop :=
  ws.length = n ∧ (0 < n → ∃ b off, ao = some ⟨b, off, none⟩ ∧ b < w.heap.size ∧ ∀ j, j < n → w.cell? ⟨b, off + j, none⟩ = some (.string (ws.getD j ByteArray.empty)))

/-- The bytes zs lie where the slice (ao, n) leads. -/
def IL (w : World) (ao : Option Addr) (n : Nat) (zs : List Int) : Prop :=
  zs.length = n ∧ (∀ z ∈ zs, 0 ≤ z ∧ z ≤ 255) ∧ (0 < n → ∃ b off, ao = some ⟨b, off, none⟩ ∧ b < w.heap.size ∧ ∀ j, j < n → w.cell? ⟨b, off + j, none⟩ = some (.int .u8 (zs.getD j 0)))

/-- How many bytes the first k words take. -/
def tot (ws : List ByteArray) (k : Nat) : Nat := ((ws.take k).map ByteArray.size).sum

theorem tot_zero (ws : List ByteArray) : tot ws 0 = 0 := rfl
theorem tot_succ (ws : List ByteArray) (k : Nat) (h : k < ws.length) : tot ws (k + 1) = tot ws k + (ws.getD k ByteArray.empty).size := by
  unfold tot
  rw [List.take_succ_eq_append_getElem h, List.map_append, List.sum_append, List.getD_eq_getElem?_getD, List.getElem?_eq_getElem h]
  simp

theorem vint {k : IntKind} {a b : Int} (h : a = b) : Value.int k a = .int k b := by rw [h]

set_option maxHeartbeats 1000000 in
theorem zz12 (ao : Option Addr) (n cap : Nat) (ws : List ByteArray) (po : Option Addr) (m pc : Nat) (b : Bool) (w : World) (hl : SL w ao n ws) (hn : n ≤ maxLen) (hm : m ≤ maxLen) (hs : ∀ s ∈ ws, s.size ≤ maxLen) :
    Calls Try.prog 12 #[.slice ao n cap, .slice po m pc, .bool b] w fun e w' => w' = w ∧ (e = .returned (.bool false) ∨ (e = .returned (.bool true) ∧ n + tot ws n + m ≤ 1048576)) := by
  unfold maxLen at hn hm hs
  by_cases h1 : n ≤ 1048576
  · go_enter Try.func12, Try.ntmps12
    go_wp2
    go_loop [7, 8] (fun t i => ∃ k : Nat, k ≤ n ∧ i = .int .i64 k ∧ t = .int .i64 ((n + tot ws k : Nat) : Int) ∧ n + tot ws k ≤ 1048576) (fun _ i => n - (intOf i).toNat)
    case atStart => exact ⟨0, Nat.zero_le _, rfl, by simp [tot_zero], by simp [tot_zero]; omega⟩
    case round =>
      obtain ⟨k, hk, rfl, rfl, ht⟩ := hrel
      by_cases hlt : k < n
      · obtain ⟨bb, off, rfl, hb, hc⟩ := hl.2 (by omega)
        obtain ⟨s, hs'⟩ : ∃ s, s = ws.getD k ByteArray.empty := ⟨_, rfl⟩
        have hck := hc k hlt
        rw [← hs'] at hck
        have hsz : s.size ≤ 2 ^ 63 - 1 := by
          rw [hs']
          apply hs
          rw [List.getD_eq_getElem?_getD, List.getElem?_eq_getElem (by rw [hl.1]; exact hlt)]
          simp
        have HT : Hid (tot ws (k + 1) = tot ws k + s.size) := by
          show _ = _
          rw [hs']; exact tot_succ ws k (by rw [hl.1]; exact hlt)
        clear hs' hc
        generalize tot ws k = tk at *
        go_wp2
        · go_ret
          exact ⟨rfl, .inl rfl⟩
        · go_ret
          exact ⟨rfl, .inl rfl⟩
        · exact ⟨⟨k + 1, by omega, vint (by omega), vint (by rw [HT.out]; omega), by rw [HT.out]; omega⟩, by simp [intOf]; omega⟩
      · obtain rfl : k = n := by omega
        generalize hg : tot ws k = tk at *
        have HG : Hid _ := hg
        clear hg
        go_wp2
        · go_ret
          exact ⟨rfl, .inl rfl⟩
        · go_ret
          exact ⟨rfl, .inl rfl⟩
        · go_ret
          exact ⟨rfl, .inr ⟨rfl, by rw [HG.out]; omega⟩⟩
  · go_enter Try.func12, Try.ntmps12
    go_wp2
    all_goals first | (exfalso; omega) | (go_ret; exact ⟨rfl, .inl rfl⟩)

set_option maxHeartbeats 1000000 in
theorem zz17 (ao : Option Addr) (n cap : Nat) (ws : List ByteArray) (po : Option Addr) (m pc : Nat) (w : World) (hl : SL w ao n ws) (hn : n ≤ maxLen) (hm : m ≤ maxLen) (hs : ∀ s ∈ ws, s.size ≤ maxLen) :
    Calls Try.prog 17 #[.slice ao n cap, .slice po m pc] w fun e w' => w' = w ∧ (e = .returned (.bool false) ∨ (e = .returned (.bool true) ∧ n + tot ws n + m ≤ 1048576)) := by
  unfold maxLen at hn hm hs
  by_cases h1 : n ≤ 1048576
  · go_enter Try.func17, Try.ntmps17
    go_wp2
    go_loop [5, 6] (fun t i => ∃ k : Nat, k ≤ n ∧ i = .int .i64 k ∧ t = .int .i64 ((n + tot ws k : Nat) : Int) ∧ n + tot ws k ≤ 1048576) (fun _ i => n - (intOf i).toNat)
    case atStart => exact ⟨0, Nat.zero_le _, rfl, by simp [tot_zero], by simp [tot_zero]; omega⟩
    case round =>
      obtain ⟨k, hk, rfl, rfl, ht⟩ := hrel
      by_cases hlt : k < n
      · obtain ⟨bb, off, rfl, hb, hc⟩ := hl.2 (by omega)
        obtain ⟨s, hs'⟩ : ∃ s, s = ws.getD k ByteArray.empty := ⟨_, rfl⟩
        have hck := hc k hlt
        rw [← hs'] at hck
        have hsz : s.size ≤ 2 ^ 63 - 1 := by
          rw [hs']
          apply hs
          rw [List.getD_eq_getElem?_getD, List.getElem?_eq_getElem (by rw [hl.1]; exact hlt)]
          simp
        have HT : Hid (tot ws (k + 1) = tot ws k + s.size) := by
          show _ = _
          rw [hs']; exact tot_succ ws k (by rw [hl.1]; exact hlt)
        clear hs' hc
        generalize tot ws k = tk at *
        go_wp2
        · go_ret
          exact ⟨rfl, .inl rfl⟩
        · go_ret
          exact ⟨rfl, .inl rfl⟩
        · exact ⟨⟨k + 1, by omega, vint (by omega), vint (by rw [HT.out]; omega), by rw [HT.out]; omega⟩, by simp [intOf]; omega⟩
      · obtain rfl : k = n := by omega
        generalize hg : tot ws k = tk at *
        have HG : Hid _ := hg
        clear hg
        go_wp2
        · go_ret
          exact ⟨rfl, .inl rfl⟩
        · go_ret
          exact ⟨rfl, .inl rfl⟩
        · go_ret
          exact ⟨rfl, .inr ⟨rfl, by rw [HG.out]; omega⟩⟩
  · go_enter Try.func17, Try.ntmps17
    go_wp2
    all_goals first | (exfalso; omega) | (go_ret; exact ⟨rfl, .inl rfl⟩)

end Go.Proofs.Qxb6002364a
