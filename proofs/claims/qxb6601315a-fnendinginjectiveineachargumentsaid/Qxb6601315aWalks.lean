/-
  Shared walks of seat b6601315a: what 'ending' writes; the plain laws of it.
-/
import Derived.Test.Qxb6601315aRows
import Derived.WalkKit
import Derived.ProofKit
import Derived.OpenShut
namespace Go.Proofs.Qxb6601315a
open Go.ChangeShapes Go.WideShapes Go.ChangeAt Go.RowKit

/-- What 'ending' writes, in plain words. -/
def E (s o c : ByteArray) : ByteArray :=
  if c.toList.isEmpty then s ++ ⟨#[44, 32]⟩ ++ o else s ++ ⟨#[44, 32]⟩ ++ o ++ ⟨#[32, 98, 121, 32]⟩ ++ c

theorem ret_string {a b : ByteArray} (h : a = b) : Ending.returned (.string a) = .returned (.string b) := by rw [h]

theorem ending_any (s o c : ByteArray) (w : World) (hs : s.size ≤ 1048576) (ho : o.size ≤ 1048576) (hc : c.size ≤ 1048576) :
    Calls Try.prog 8 #[.string s, .string o, .string c] w fun e w' => e = .returned (.string (E s o c)) ∧ w' = w := by
  cases he : c.toList.isEmpty
  · have H : Hid (E s o c = s ++ ⟨#[44, 32]⟩ ++ o ++ ⟨#[32, 98, 121, 32]⟩ ++ c) := by unfold Hid E; simp [he]
    go_enter Try.func8, Try.ntmps8
    go_wp2
    go_ret
    exact ⟨ret_string H.out.symm, rfl⟩
  · have H : Hid (E s o c = s ++ ⟨#[44, 32]⟩ ++ o) := by unfold Hid E; simp [he]
    go_enter Try.func8, Try.ntmps8
    go_wp2
    go_ret
    exact ⟨ret_string H.out.symm, rfl⟩

theorem sz_yes (s o c x : ByteArray) (w : World) (h : s.size + o.size + c.size + x.size ≤ 1048576) :
    Calls Try.prog 7 #[.string s, .string o, .string c, .string x] w fun e w' => e = .returned (.bool true) ∧ w' = w := by
  go_enter Try.func7, Try.ntmps7
  go_wp2
  all_goals first | (exfalso; omega) | (go_ret; exact ⟨rfl, rfl⟩)

theorem sz_no (s o c x : ByteArray) (w : World) (hs : s.size ≤ maxLen) (ho : o.size ≤ maxLen) (hc : c.size ≤ maxLen) (hx : x.size ≤ maxLen) (h : ¬ s.size + o.size + c.size + x.size ≤ 1048576) :
    Calls Try.prog 7 #[.string s, .string o, .string c, .string x] w fun e w' => e = .returned (.bool false) ∧ w' = w := by
  unfold maxLen at hs ho hc hx
  go_enter Try.func7, Try.ntmps7
  go_wp2
  all_goals first | (exfalso; omega) | (go_ret; exact ⟨rfl, rfl⟩)

theorem E_toList (s o c : ByteArray) : (E s o c).data.toList = s.data.toList ++ [44, 32] ++ o.data.toList ++ (if c.toList.isEmpty then [] else [32, 98, 121, 32] ++ c.data.toList) := by
  unfold E
  split <;> simp

theorem E_state (s x o c : ByteArray) : (E x o c = E s o c) ↔ x = s := by
  constructor
  · intro h
    have h2 := congrArg (fun b => b.data.toList) h
    simp only [E_toList] at h2
    simp only [List.append_assoc] at h2
    exact bytes_inj (List.append_cancel_right h2)
  · rintro rfl; rfl

theorem E_outcome (s x o c : ByteArray) : (E s x c = E s o c) ↔ x = o := by
  constructor
  · intro h
    have h2 := congrArg (fun b => b.data.toList) h
    simp only [E_toList] at h2
    exact bytes_inj (List.append_cancel_left (List.append_cancel_right h2))
  · rintro rfl; rfl

theorem empty_of {c : ByteArray} (h : c.toList.isEmpty = true) : c.data.toList = [] := by
  rw [ByteArray.toList_eq] at h
  simpa using h

theorem E_cause (s o x c : ByteArray) : (E s o x = E s o c) ↔ x = c := by
  constructor
  · intro h
    have h2 := congrArg (fun b => b.data.toList) h
    simp only [E_toList] at h2
    have h3 := List.append_cancel_left h2
    cases hx : x.toList.isEmpty <;> cases hc : c.toList.isEmpty <;> simp [hx, hc] at h3
    · exact bytes_inj (by simpa using h3)
    · exact bytes_inj ((empty_of hx).trans (empty_of hc).symm)
  · rintro rfl; rfl

theorem toList_beq (a b c d : ByteArray) (h : a = b ↔ c = d) : (!((a.toList == b.toList) == (c.toList == d.toList))) = false := by
  have e : (a.toList == b.toList) = (c.toList == d.toList) := by
    rw [Bool.eq_iff_iff, beq_iff_eq, beq_iff_eq]
    simp only [ByteArray.toList_eq]
    exact ⟨fun g => by rw [h.1 (bytes_inj g)], fun g => by rw [h.2 (bytes_inj g)]⟩
  rw [e]
  simp
end Go.Proofs.Qxb6601315a
