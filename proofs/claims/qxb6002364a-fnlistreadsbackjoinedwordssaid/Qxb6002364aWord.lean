/-
  Word: it reads the run of upper-case letters.
-/
import Derived.Test.Qxb6002364aMove
namespace Go.Proofs.Qxb6002364a
open Go.RowKit

theorem extract_take (T : ByteArray) (p q : Nat) (f : UInt8 → Bool) (h1 : p ≤ q) (h : T.data.toList.drop q = (T.data.toList.drop p).dropWhile f) :
    (T.extract p q).data.toList = (T.data.toList.drop p).takeWhile f := by
  have e : (T.extract p q).data.toList = (T.data.toList.drop p).take (q - p) := by
    rw [ByteArray.data_extract, Array.toList_extract, List.extract_eq_take_drop]
  rw [e]
  refine List.append_cancel_right (bs := T.data.toList.drop q) ?_
  have e3 : (T.data.toList.drop p).takeWhile f ++ T.data.toList.drop q = T.data.toList.drop p := by rw [h, List.takeWhile_append_dropWhile]
  have e2 : T.data.toList.drop q = (T.data.toList.drop p).drop (q - p) := by
    rw [List.drop_drop]
    congr 1
    omega
  rw [e3, e2, List.take_append_drop]

set_option maxHeartbeats 1000000 in
theorem word (S p : Nat) (T : ByteArray) (w : World) (hp : p ≤ T.size) (hT : T.size ≤ 4194304) (hA : At S T p w) :
    Calls Try.prog 24 #[.pointer (some ⟨S, 0, none⟩)] w fun e w' => ∃ s : ByteArray, e = .returned (.string s) ∧ s.data.toList = (T.data.toList.drop p).takeWhile isUp ∧
      ∃ q, p ≤ q ∧ q ≤ T.size ∧ At S T q w' ∧ Mv S w w' ∧ T.data.toList.drop q = (T.data.toList.drop p).dropWhile isUp := by
  have h0 := hA.txt
  have h1 := hA.pos
  go_enter Try.func24, Try.ntmps24
  go_wp2
  go_loopw [] (fun wr => ∃ q, p ≤ q ∧ q ≤ T.size ∧ Hid (At S T q wr) ∧ Hid (Mv S w wr) ∧ Hid ((T.data.toList.drop q).dropWhile isUp = (T.data.toList.drop p).dropWhile isUp))
    (fun wr => T.size - (intOf ((wr.cell? ⟨S, 1, none⟩).getD undef)).toNat)
  case atStart => exact ⟨p, Nat.le_refl _, hp, hA, Mv.refl _ _, rfl⟩
  case round =>
    obtain ⟨q, h1, h2, HA, HM, HE⟩ := hrel
    have h0r := HA.out.txt
    have h1r := HA.out.pos
    have hfr := HA.out.fz
    by_cases hlt : q < T.size
    · by_cases hc : isUp T[q] = true
      · have hb := hc
        unfold isUp at hb
        go_wp2_with (first
          | (go_at_call 28; refine (done_no S q T _ (by simp [h0r]) (by simp [h1r]) hlt).mono ?_; rintro e w' ⟨rfl, n, rfl⟩)
          | (go_at_call 29; refine (peek S q T _ (by simp [h0r]) (by simp [h1r]) hlt).mono ?_; rintro e w' ⟨rfl, m, rfl⟩)
          | (go_at_call 30; refine (letter _ _).mono ?_; rw [hb]; rintro e w' ⟨rfl, rfl⟩))
        refine ⟨⟨q + 1, by omega, by omega, (HA.out.drewN _).step, (HM.out.drewN _).setCell _ _, ?_⟩, ?_⟩
        · refine Eq.trans ?_ HE.out
          rw [drop_cons T q hlt, List.dropWhile_cons, if_pos hc]
        · rw [h1r, ((HA.out.drewN (n + m)).step).pos]
          simp [intOf]
          omega
      · have hb : isUp T[q] = false := by simpa using hc
        unfold isUp at hb
        have hq : (T.data.toList.drop q) = (T.data.toList.drop p).dropWhile isUp := by
          rw [← HE.out, drop_cons T q hlt, List.dropWhile_cons, if_neg hc]
        have HQ : Hid _ := hq
        clear hq
        go_wp2_with (first
          | (go_at_call 28; refine (done_no S q T _ (by simp [h0r]) (by simp [h1r]) hlt).mono ?_; rintro e w' ⟨rfl, n, rfl⟩)
          | (go_at_call 29; refine (peek S q T _ (by simp [h0r]) (by simp [h1r]) hlt).mono ?_; rintro e w' ⟨rfl, m, rfl⟩)
          | (go_at_call 30; refine (letter _ _).mono ?_; rw [hb]; rintro e w' ⟨rfl, rfl⟩))
        go_quiet (fail)
        go_wp2
        go_ret
        exact ⟨_, rfl, extract_take T p q isUp h1 HQ.out, q, h1, h2, (HA.out.drewN _).drewN _, (HM.out.drewN _).drewN _, HQ.out⟩
    · have HQ : Hid (T.data.toList.drop q = (T.data.toList.drop p).dropWhile isUp) := by
        show _ = _
        rw [← HE.out, List.drop_eq_nil_of_le (by simp; omega)]
        rfl
      go_wp2_with (first
          | (go_at_call 28; refine (done_yes S q T _ (by simp [h0r]) (by simp [h1r]) (by omega)).mono ?_; rintro e w' ⟨rfl, n, rfl⟩))
      go_quiet (fail)
      go_wp2
      go_ret
      exact ⟨_, rfl, extract_take T p q isUp h1 HQ.out, q, h1, h2, (HA.out.drewN _).drewN _, (HM.out.drewN _).drewN _, HQ.out⟩
end Go.Proofs.Qxb6002364a
