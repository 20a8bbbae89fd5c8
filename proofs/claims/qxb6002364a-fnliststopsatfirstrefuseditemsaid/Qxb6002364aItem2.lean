/-
  The closure's walk.
-/
import Derived.Test.Qxb6002364aItem
namespace Go.Proofs.Qxb6002364a
open Go.RowKit

theorem takeWhile_nil_drop (f : UInt8 → Bool) (l : List UInt8) (h : l.takeWhile f = []) : l.dropWhile f = l := by
  have := List.takeWhile_append_dropWhile (p := f) (l := l)
  rw [h] at this
  simpa using this

set_option maxHeartbeats 1000000 in
theorem item_no (S A G B p : Nat) (T : ByteArray) (v : Value) (xs : List ByteArray) (w : World) (hT : T.size ≤ 4194304) (h : St S A G B T p v xs w)
    (hw : ((T.data.toList.drop p).dropWhile isSp).takeWhile isUp = []) :
    Calls Try.prog 22 #[.pointer (some ⟨A, 0, none⟩), .pointer (some ⟨G, 0, none⟩)] w fun e w' => (∃ a, e = .returned (.iface 88 (.pointer (some a)))) ∧
      ∃ q, St S A G B T q v xs w' ∧ Below S w w' := by
  have hb := h.box
  have HW : Hid _ := hw
  clear hw
  go_enter Try.func22, Try.ntmps22
  go_wp2_with fail
  refine (skip S p T _ h.le hT h.at_).mono ?_
  rintro e w1 ⟨rfl, q1, h1, h2, hA1, hM1, hq1⟩
  have s1 := h.moved hA1 hM1 h1 h2
  have hb1 := s1.box
  have HQ1 : Hid _ := hq1
  clear hq1 hb
  go_wp2_with fail
  refine (word S q1 T _ h2 hT hA1).mono ?_
  rintro e w2 ⟨s, rfl, hs, q2, h3, h4, hA2, hM2, hq2⟩
  have s2 := s1.moved hA2 hM2 h3 h4
  have hemp : s.toList.isEmpty = true := by rw [ByteArray.toList_eq, hs, HQ1.out, HW.out]; rfl
  clear hs hq2 hb1
  go_wp2_with fail
  refine (errNew _).mono ?_
  rintro e w3 ⟨rfl, rfl⟩
  go_wp2_with fail
  go_ret
  exact ⟨⟨_, rfl⟩, q2, s2.alloc _, (hM1.below.trans hM2.below).alloc (by have := s2.hB; have := s2.hSA; have := s2.hAG; have := s2.hGB; omega) _⟩

set_option maxHeartbeats 1000000 in
theorem item_yes (S A G B p : Nat) (T : ByteArray) (v : Value) (xs : List ByteArray) (w : World) (hT : T.size ≤ 4194304) (h : St S A G B T p v xs w)
    (hw : ((T.data.toList.drop p).dropWhile isSp).takeWhile isUp ≠ []) :
    Calls Try.prog 22 #[.pointer (some ⟨A, 0, none⟩), .pointer (some ⟨G, 0, none⟩)] w fun e w' => e = .returned .nilIface ∧
      ∃ q v' s, p < q ∧ s.data.toList = ((T.data.toList.drop p).dropWhile isSp).takeWhile isUp ∧ T.data.toList.drop q = ((T.data.toList.drop p).dropWhile isSp).dropWhile isUp ∧ St S A G B T q v' (xs ++ [s]) w' ∧ Below S w w' := by
  obtain ⟨i0, hi, hz0, hz1, hz2⟩ := info_parts Try.info9
  have hb := h.box
  have HW : Hid _ := hw
  clear hw
  go_enter Try.func22, Try.ntmps22
  go_wp2_with fail
  refine (skip S p T _ h.le hT h.at_).mono ?_
  rintro e w1 ⟨rfl, q1, h1, h2, hA1, hM1, hq1⟩
  have s1 := h.moved hA1 hM1 h1 h2
  have hb1 := s1.box
  have HQ1 : Hid _ := hq1
  clear hq1 hb
  go_wp2_with fail
  refine (word S q1 T _ h2 hT hA1).mono ?_
  rintro e w2 ⟨s, rfl, hs, q2, h3, h4, hA2, hM2, hq2⟩
  have s2 := s1.moved hA2 hM2 h3 h4
  have hne : s.data.toList ≠ [] := by rw [hs, HQ1.out]; exact HW.out
  have hemp : s.toList.isEmpty = false := by rw [ByteArray.toList_eq]; cases e : s.data.toList with | nil => exact absurd e hne | cons _ _ => rfl
  have HS : Hid _ := hs
  have HQ2 : Hid _ := hq2
  have hlt : q1 < q2 := by
    rcases Nat.lt_or_ge q1 q2 with hh | hh
    · exact hh
    · exfalso
      have e : q2 = q1 := by omega
      subst e
      have := List.takeWhile_append_dropWhile (p := isUp) (l := T.data.toList.drop q2)
      rw [← hq2, ← hs] at this
      exact hne (by simpa using this)
  have hown := s2.own
  have hg2 := s2.got
  have hf2 := s2.fz
  clear hs hq2 hb1 hne
  go_wp2_with (at_builtin; refine wpList_append_own _ rfl _ _ 37 rfl B 9 i0 (.string ⟨#[]⟩) 1 16 Try.underlying37 hi hz0 hz1 hz2 rfl (by decide) _ _ _ rfl (hown.alloc _) ⟨w2.heap.size, 0, none⟩ 1 1 [.string s] rfl rfl ?c1 ?c2 ?c3 ?c4 ?c5 ?_)
  case c1 =>
    intro j u hj
    match j, hj with
    | 0, hj => simp at hj; subst hj; simp [Addr.add]
  case c2 => intro u hu; simp at hu; subst hu; rfl
  case c3 => have := s2.len; have := s2.le; unfold maxLen; omega
  case c4 => have := s2.len; have := s2.le; omega
  case c5 => have := s2.hB; simp; omega
  intro v' w3 hown' hgrow _
  obtain ⟨g, cap, rfl⟩ : ∃ g cap, v' = .slice (some ⟨g, 0, none⟩) (xs.length + 1) cap := by
    rcases hown'.2 with ⟨_, h0⟩ | ⟨g, cap, _, hv, _⟩
    · omega
    · exact ⟨g, cap, hv⟩
  have s3 := s2.alloc (.cells #[.string s] 9)
  have R := s3.stored hgrow hown' (by have := s1.len; omega)
  have R2 := s3.grown hgrow
  have HR : Hid _ := R
  have hgc := R2.2.2.1
  have hgf := R2.2.2.2.1
  clear R R2 hown hown' hgrow hg2 hf2
  go_wp2_with fail
  go_ret
  refine ⟨rfl, q2, _, s, by omega, ?_, ?_, HR.out.1, ?_⟩
  · rw [HS.out, HQ1.out]
  · rw [HQ2.out, HQ1.out]
  · refine (hM1.below.trans hM2.below).trans (Below.trans ?_ HR.out.2)
    exact (Below.refl _ _).alloc (by have := s2.hB; have := s2.hSA; have := s2.hAG; have := s2.hGB; omega) _
end Go.Proofs.Qxb6002364a
