/-
  listBytes, listAllUpper, listPad.
-/
import Derived.Test.Qxb6002364aRead
namespace Go.Proofs.Qxb6002364a
open Go.RowKit

/-- The sum of the first k pads. -/
def psum (zs : List Int) (k : Nat) : Nat := ((zs.take k).map Int.toNat).sum
theorem psum_zero (zs : List Int) : psum zs 0 = 0 := rfl
theorem psum_succ (zs : List Int) (k : Nat) (h : k < zs.length) : psum zs (k + 1) = psum zs k + (zs.getD k 0).toNat := by
  unfold psum
  rw [List.take_succ_eq_append_getElem h, List.map_append, List.sum_append, List.getD_eq_getElem?_getD, List.getElem?_eq_getElem h]
  simp
theorem getD_mem {α : Type} (zs : List α) (k : Nat) (d : α) (h : k < zs.length) : zs.getD k d ∈ zs := by
  rw [List.getD_eq_getElem?_getD, List.getElem?_eq_getElem h]
  simp
theorem psum_le (zs : List Int) (hz : ∀ z ∈ zs, 0 ≤ z ∧ z ≤ 255) : ∀ k, k ≤ zs.length → psum zs k ≤ 255 * k
  | 0, _ => by simp [psum_zero]
  | k + 1, h => by
    have := psum_le zs hz k (by omega)
    have := hz _ (getD_mem zs k 0 h)
    rw [psum_succ zs k h]
    omega

theorem ret_int {k : IntKind} {a b : Int} (h : a = b) : Ending.returned (.int k a) = .returned (.int k b) := by rw [h]

set_option maxHeartbeats 1000000 in
theorem bytes13 (ao : Option Addr) (n cap : Nat) (ws : List ByteArray) (po : Option Addr) (m pc : Nat) (zs : List Int) (w : World) (hl : SL w ao n ws) (hp : IL w po m zs) (hn : n ≤ 4096) (hm : m ≤ 8192) (ht : tot ws n ≤ 1048576) (hmono : ∀ k, k ≤ n → tot ws k ≤ 1048576) :
    Calls Try.prog 13 #[.slice ao n cap, .slice po m pc] w fun e w' => w' = w ∧ e = .returned (.int .i64 ((m + psum zs m + tot ws n + 8 * n : Nat) : Int)) := by
  go_enter Try.func13, Try.ntmps13
  go_wp2
  go_loop [5, 6] (fun t i => ∃ k : Nat, k ≤ m ∧ i = .int .i64 k ∧ t = .int .i64 ((m + psum zs k : Nat) : Int)) (fun _ i => m - (intOf i).toNat)
  case atStart => exact ⟨0, Nat.zero_le _, rfl, by simp [psum_zero]⟩
  case round =>
    obtain ⟨k, hk, rfl, rfl⟩ := hrel
    have hle := psum_le zs hp.2.1 k (by rw [hp.1]; exact hk)
    by_cases hlt : k < m
    · obtain ⟨bb, off, rfl, hb, hc⟩ := hp.2.2 (by omega)
      have hz := hp.2.1 _ (getD_mem zs k 0 (by rw [hp.1]; exact hlt))
      have hck := hc k hlt
      have HT : Hid (psum zs (k + 1) = psum zs k + (zs.getD k 0).toNat) := psum_succ zs k (by rw [hp.1]; exact hlt)
      generalize zs.getD k 0 = z at *
      clear hc
      generalize psum zs k = pk at *
      go_wp2
      exact ⟨⟨k + 1, by omega, vint (by omega), vint (by rw [HT.out]; omega)⟩, by simp [intOf]; omega⟩
    · obtain rfl : k = m := by omega
      generalize hg : psum zs k = pk at *
      have HG : Hid _ := hg
      clear hg
      go_wp2
      go_loop [5, 7] (fun t i => ∃ j : Nat, j ≤ n ∧ i = .int .i64 j ∧ t = .int .i64 ((k + pk + tot ws j + 8 * j : Nat) : Int)) (fun _ i => n - (intOf i).toNat)
      case atStart => exact ⟨0, Nat.zero_le _, rfl, by simp [tot_zero]⟩
      case round =>
        obtain ⟨j, hj, rfl, rfl⟩ := hrel
        have htj := hmono j hj
        by_cases hlt : j < n
        · obtain ⟨bb, off, rfl, hb, hc⟩ := hl.2 (by omega)
          have hts := hmono (j + 1) (by omega)
          have hck := hc j hlt
          rw [tot_succ ws j (by rw [hl.1]; exact hlt)] at hts
          have HT : Hid (tot ws (j + 1) = tot ws j + (ws.getD j ByteArray.empty).size) := tot_succ ws j (by rw [hl.1]; exact hlt)
          generalize ws.getD j ByteArray.empty = s at *
          clear hc
          generalize tot ws j = tj at *
          go_wp2
          exact ⟨⟨j + 1, by omega, vint (by omega), vint (by rw [HT.out]; omega)⟩, by simp [intOf]; omega⟩
        · obtain rfl : j = n := by omega
          go_wp2
          go_ret
          exact ⟨rfl, ret_int (by rw [HG.out])⟩

def allUp (s : ByteArray) : Bool := s.data.toList.all isUp

theorem take_snoc (s : ByteArray) (k : Nat) (h : k < s.size) : s.data.toList.take (k + 1) = s.data.toList.take k ++ [s[k]] := by
  rw [List.take_succ_eq_append_getElem (by simpa using h)]; rfl

theorem ret_bool {a b : Bool} (h : a = b) : Ending.returned (.bool a) = .returned (.bool b) := by rw [h]

theorem allUp_no (s : ByteArray) (k : Nat) (h : k < s.size) (hc : isUp s[k] = false) : allUp s = false := by
  unfold allUp
  rw [List.all_eq_false]
  exact ⟨s[k], by simp [ByteArray.getElem_eq_getElem_data], by simp [hc]⟩

set_option maxHeartbeats 1000000 in
theorem upper14 (s : ByteArray) (w : World) (hs : s.size ≤ 1048576) :
    Calls Try.prog 14 #[.string s] w fun e w' => e = .returned (.bool (allUp s)) ∧ w' = w := by
  go_enter Try.func14, Try.ntmps14
  go_wp2
  go_loop [3] (fun i => ∃ k : Nat, k ≤ s.size ∧ i = .int .i64 k ∧ (s.data.toList.take k).all isUp = true) (fun i => s.size - (intOf i).toNat)
  case atStart => exact ⟨0, Nat.zero_le _, rfl, rfl⟩
  case round =>
    obtain ⟨k, hk, rfl, hall⟩ := hrel
    have HA : Hid _ := hall
    clear hall
    by_cases hlt : k < s.size
    · cases hc : isUp s[k]
      · have HN : Hid _ := allUp_no s k hlt hc
        have hc2 : ¬ (65 ≤ s[k].toNat ∧ s[k].toNat ≤ 90) := by
          intro hh
          simp [isUp, hh.1, hh.2] at hc
        clear hc
        by_cases g1 : s[k].toNat < 65
        · go_wp2
          go_ret
          exact ⟨ret_bool HN.out.symm, rfl⟩
        · have g2 : 90 < s[k].toNat := by omega
          clear hc2
          go_wp2
          go_ret
          exact ⟨ret_bool HN.out.symm, rfl⟩
      · have HY : Hid ((s.data.toList.take (k + 1)).all isUp = true) := by
          show _ = _
          rw [take_snoc s k hlt, List.all_append, HA.out]
          simp [hc]
        have hc2 : 65 ≤ s[k].toNat ∧ s[k].toNat ≤ 90 := by
          unfold isUp at hc
          simpa using hc
        clear hc
        obtain ⟨g1, g2⟩ := hc2
        have g1' : ¬ s[k].toNat < 65 := by omega
        have g2' : ¬ 90 < s[k].toNat := by omega
        go_wp2
        go_round
        case rel => exact ⟨k + 1, by omega, vint (by omega), HY.out⟩
        case measure => simp [intOf]; omega
    · have HY : Hid (allUp s = true) := by
        show _ = _
        unfold allUp
        have := HA.out
        rwa [List.take_of_length_le (by simp; omega)] at this
      go_wp2
      go_ret
      exact ⟨ret_bool HY.out.symm, rfl⟩

theorem pad21 (po : Option Addr) (m pc : Nat) (zs : List Int) (J : Int) (j : Nat) (w : World) (hp : IL w po m zs) (hm : m ≤ 8192) (hJ : J = (j : Int)) (hj : j ≤ 100000) :
    Calls Try.prog 21 #[.slice po m pc, .int .i64 J] w fun e w' => e = .returned (.int .i64 (zs.getD j 0)) ∧ w' = w := by
  by_cases hlt : j < m
  · obtain ⟨bb, off, rfl, hb, hc⟩ := hp.2.2 (by omega)
    have hz := hp.2.1 _ (getD_mem zs j 0 (by rw [hp.1]; exact hlt))
    have hck := hc j hlt
    generalize zs.getD j 0 = z at *
    clear hc hp
    subst hJ
    go_enter Try.func21, Try.ntmps21
    go_wp2
    go_ret
    exact ⟨rfl, rfl⟩
  · have e : zs.getD j 0 = 0 := by
      rw [List.getD_eq_getElem?_getD, List.getElem?_eq_none (by rw [hp.1]; omega)]
      rfl
    rw [e]
    clear e hp
    subst hJ
    go_enter Try.func21, Try.ntmps21
    go_wp2
    go_ret
    exact ⟨rfl, rfl⟩
end Go.Proofs.Qxb6002364a
