/-
  List, with the item of listReadWords: what 'scan' says.
-/
import Derived.Test.Qxb6002364aItem2
namespace Go.Proofs.Qxb6002364a
open Go.RowKit

def bytes (s : ByteArray) : List UInt8 := s.data.toList

theorem belowN {B : Nat} {a w : World} (h : Below B a w) (n : Nat) : Below B a (w.drewN n) := h.trans ⟨rfl, rfl, rfl, Nat.le_refl _, fun _ _ => rfl⟩

theorem St.drewN {S A G B : Nat} {T : ByteArray} {p : Nat} {v : Value} {xs : List ByteArray} {w : World} (h : St S A G B T p v xs w) (n : Nat) : St S A G B T p v xs (w.drewN n) :=
  h.moved (h.at_.drewN n) ((Mv.refl _ _).drewN n) (Nat.le_refl _) h.le

theorem St.stepped {S A G B : Nat} {T : ByteArray} {p : Nat} {v : Value} {xs : List ByteArray} {w : World} (h : St S A G B T p v xs w) (n : Nat) (hp : p < T.size) :
    St S A G B T (p + 1) v xs ((w.drewN n).setCell ⟨S, 1, none⟩ (.int .i64 ((p : Int) + 1))) :=
  h.moved (h.at_.drewN n).step (((Mv.refl _ _).drewN n).setCell _ _) (by omega) (by omega)

set_option maxHeartbeats 2000000 in
theorem list_any (S A G B p f : Nat) (T : ByteArray) (w : World) (hT : T.size ≤ 4194304) (h : St S A G B T p (.slice none 0 0) [] w) (hf : (T.data.toList.drop p).length < f) :
    Calls Try.prog 26 #[.pointer (some ⟨S, 0, none⟩), .func (.func 22) #[] #[.pointer (some ⟨A, 0, none⟩), .pointer (some ⟨G, 0, none⟩)]] w fun e w' =>
      ∃ q v ys, St S A G B T q v ys w' ∧ Below S w w' ∧ ys.map bytes = (scan f (T.data.toList.drop p)).2.1 ∧
        (((scan f (T.data.toList.drop p)).1 = true ∧ e = .returned .nilIface ∧ T.data.toList.drop q = (scan f (T.data.toList.drop p)).2.2) ∨
         ((scan f (T.data.toList.drop p)).1 = false ∧ ∃ a, e = .returned (.iface 88 (.pointer (some a))))) := by
  generalize hR : scan f (T.data.toList.drop p) = R
  have HR : Hid _ := hR
  clear hR
  go_enter Try.func26, Try.ntmps26
  go_wp2
  go_loopw [] (fun wr => ∃ q v ys f', Hid (St S A G B T q v ys wr) ∧ Hid (Below S w wr) ∧ Hid (R = pre (ys.map bytes) (scan f' (T.data.toList.drop q))) ∧ (T.data.toList.drop q).length < f')
    (fun wr => T.size - (intOf ((wr.cell? ⟨S, 1, none⟩).getD undef)).toNat)
  case atStart => exact ⟨p, _, [], f, h, Below.refl _ _, HR.out.symm, hf⟩
  case round =>
    obtain ⟨q, v, ys, f', HS, HB, HE, hf'⟩ := hrel
    obtain ⟨f1, rfl⟩ : ∃ f1, f' = f1 + 1 := ⟨f' - 1, by omega⟩
    by_cases hw : ((T.data.toList.drop q).dropWhile isSp).takeWhile isUp = []
    · have HE2 : Hid (R = (false, ys.map bytes, (T.data.toList.drop q).dropWhile isSp)) := by
        show R = _
        rw [HE.out, scan_no f1 _ hw]
        simp [pre]
      clear hf'
      go_wp2_with fail
      refine (item_no S A G B q T v ys _ hT HS.out hw).mono ?_
      rintro e w1 ⟨⟨a, rfl⟩, q1, s1, b1⟩
      have HS1 : Hid _ := s1
      have HB1 : Hid _ := b1
      clear s1 b1 hw
      go_wp2_with fail
      go_ret
      refine ⟨q1, v, ys, HS1.out, HB.out.trans HB1.out, by rw [HE2.out], .inr ⟨by rw [HE2.out], a, rfl⟩⟩
    · have hm := HS.out.at_.pos
      go_wp2_with fail
      refine (item_yes S A G B q T v ys _ hT HS.out hw).mono ?_
      rintro e w1 ⟨rfl, q1, v1, s, hlt1, hs, hq1, s1, b1⟩
      have HS1 : Hid _ := s1
      have HB1 : Hid _ := b1
      have HW1 : Hid _ := hs
      have HQ1 : Hid _ := hq1
      have HW : Hid _ := hw
      clear s1 b1 hs hq1 hw
      go_wp2_with fail
      refine (skip S q1 T _ HS1.out.le hT HS1.out.at_).mono ?_
      rintro e w2 ⟨rfl, q2, hlt2, hle2, hA2, hM2, hq2⟩
      have HS2 : Hid _ := HS1.out.moved hA2 hM2 hlt2 hle2
      have HB2 : Hid _ := hM2.below
      have h0r := hA2.txt
      have h1r := hA2.pos
      have hfr := hA2.fz
      have HQ2 : Hid (T.data.toList.drop q2 = (((T.data.toList.drop q).dropWhile isSp).dropWhile isUp).dropWhile isSp) := by
        show _ = _
        rw [hq2, HQ1.out]
      clear hq2 hM2
      by_cases hd : q2 < T.size
      · by_cases hc : T[q2] = 44
        · have hb : ((T[q2].toNat : Int) != 44) = false := by rw [hc]; rfl
          have HD : Hid (T.data.toList.drop q2 = 44 :: T.data.toList.drop (q2 + 1)) := by
            show _ = _
            rw [drop_cons T q2 hd, hc]
          clear hc
          go_wp2_with (first
            | (go_at_call 28; refine (done_no S q2 T _ (by simp [h0r]) (by simp [h1r]) hd).mono ?_; rintro e w' ⟨rfl, n, rfl⟩)
            | (go_at_call 29; refine (peek S q2 T _ (by simp [h0r]) (by simp [h1r]) hd).mono ?_; rintro e w' ⟨rfl, m, rfl⟩))
          refine ⟨⟨q2 + 1, v1, ys ++ [s], f1, HS2.out.stepped _ hd, ?_, ?_, ?_⟩, ?_⟩
          · have b := (HB.out.trans HB1.out).trans HB2.out
            exact (belowN b _).setCell (Nat.le_refl _) _
          · show R = _
            rw [HE.out, scan_more f1 _ _ HW.out (HQ2.out.symm.trans HD.out), pre_pre]
            simp [bytes, HW1.out]
          · simp at hf' ⊢
            omega
          · rw [hm, (HS2.out.stepped (n + m) hd).at_.pos]
            simp [intOf]
            omega
        · have hb : ((T[q2].toNat : Int) != 44) = true := by
            rw [bne_iff_ne]
            intro hh
            exact hc (UInt8.toNat_inj.1 (by simpa using Int.ofNat.inj hh))
          have HD : Hid ((T.data.toList.drop q2).head? ≠ some 44) := by
            show _ ≠ _
            rw [drop_cons T q2 hd]
            simpa using hc
          clear hc
          go_wp2_with (first
            | (go_at_call 28; refine (done_no S q2 T _ (by simp [h0r]) (by simp [h1r]) hd).mono ?_; rintro e w' ⟨rfl, n, rfl⟩)
            | (go_at_call 29; refine (peek S q2 T _ (by simp [h0r]) (by simp [h1r]) hd).mono ?_; rintro e w' ⟨rfl, m, rfl⟩))
          go_ret
          have e : R = (true, (ys ++ [s]).map bytes, T.data.toList.drop q2) := by
            rw [HE.out, scan_stop f1 _ HW.out (by rw [← HQ2.out]; exact HD.out), ← HQ2.out]
            simp [pre, bytes, HW1.out]
          exact ⟨q2, v1, ys ++ [s], HS2.out.drewN _, belowN ((HB.out.trans HB1.out).trans HB2.out) _, by rw [e], .inl ⟨by rw [e], rfl, by rw [e]⟩⟩
      · have HD : Hid ((T.data.toList.drop q2).head? ≠ some 44) := by
          show _ ≠ _
          rw [List.drop_eq_nil_of_le (by simp; omega)]
          simp
        go_wp2_with (first
          | (go_at_call 28; refine (done_yes S q2 T _ (by simp [h0r]) (by simp [h1r]) (by omega)).mono ?_; rintro e w' ⟨rfl, n, rfl⟩))
        go_ret
        have e : R = (true, (ys ++ [s]).map bytes, T.data.toList.drop q2) := by
          rw [HE.out, scan_stop f1 _ HW.out (by rw [← HQ2.out]; exact HD.out), ← HQ2.out]
          simp [pre, bytes, HW1.out]
        exact ⟨q2, v1, ys ++ [s], HS2.out.drewN _, belowN ((HB.out.trans HB1.out).trans HB2.out) _, by rw [e], .inl ⟨by rw [e], rfl, by rw [e]⟩⟩

set_option maxHeartbeats 1000000 in
theorem read_any (S f : Nat) (T : ByteArray) (w : World) (hT : T.size ≤ 4194304) (hA : At S T 0 w) (hS : S < w.heap.size) (hf : T.size < f) :
    Calls Try.prog 16 #[.pointer (some ⟨S, 0, none⟩)] w fun e w' =>
      ∃ (q : Nat) (v : Value) (ys : List ByteArray), At S T q w' ∧ q ≤ T.size ∧ w'.ownsRow (w.heap.size + 2) 9 1 v ys.length (ys.map Value.string) ∧ Below S w w' ∧ ys.map bytes = (scan f T.data.toList).2.1 ∧
        (((scan f T.data.toList).1 = true ∧ e = .returned (.tuple #[v, .nilIface]) ∧ T.data.toList.drop q = (scan f T.data.toList).2.2) ∨
         ((scan f T.data.toList).1 = false ∧ ∃ a, e = .returned (.tuple #[v, .iface 88 (.pointer (some a))]))) := by
  have hmf : ∀ (fn : Fn) (first cap : Array Value) (w : World), (Instr.makeFunc fn first cap).run Try.prog w = .ok (.func fn first cap) w := fun _ _ _ _ => rfl
  go_enter Try.func16, Try.ntmps16
  go_wp2_with fail
  have h0 : St S w.heap.size (w.heap.size + 1) (w.heap.size + 2) T 0 (.slice none 0 0) [] ((w.alloc (.cells #[.pointer (some ⟨S, 0, none⟩)] 42)).alloc (.cells #[.slice none 0 0] 37)) := by
    have bl : ∀ k, k < w.heap.size → ((w.alloc (.cells #[.pointer (some ⟨S, 0, none⟩)] 42)).alloc (.cells #[.slice none 0 0] 37)).heap[k]? = w.heap[k]? := fun k hk => by
      rw [Below.heap_alloc _ _ _ (by simp; omega), Below.heap_alloc _ _ _ hk]
    refine ⟨⟨?_, ?_, ?_⟩, ?_, ?_, ?_, World.ownsRow_nil _ _ _ _, hS, by omega, by omega, by simp, Nat.zero_le _, Nat.zero_le _⟩
    · rw [World.cell?_of_block (w := w) (bl S hS)]; exact hA.txt
    · rw [World.cell?_of_block (w := w) (bl S hS)]; exact hA.pos
    · rw [World.frozen?_of_block (w := w) (bl S hS)]; exact hA.fz
    · simp [go_sem]
    · simp [go_sem]
    · exact World.frozen?_alloc_at _ _ _ _ (by simp)
  refine (list_any S w.heap.size (w.heap.size + 1) (w.heap.size + 2) 0 f T _ hT h0 (by simp; omega)).mono ?_
  rintro e w1 ⟨q, v, ys, s1, b1, hy, hor⟩
  have hg := s1.got
  have HS1 : Hid _ := s1
  have HB1 : Hid (Below S w w1) := ((Below.refl _ _).alloc (by omega) _).alloc (by simp; omega) _ |>.trans b1
  simp only [List.drop_zero] at hy hor
  have HY : Hid _ := hy
  clear h0 s1 b1 hy
  rcases hor with ⟨o1, rfl, o2⟩ | ⟨o1, a, rfl⟩
  · have HO : Hid _ := And.intro o1 o2
    clear o1 o2
    go_wp2_with fail
    go_ret2
    exact ⟨q, v, ys, HS1.out.at_, HS1.out.le, HS1.out.own, HB1.out, HY.out, .inl ⟨HO.out.1, rfl, HO.out.2⟩⟩
  · have HO : Hid _ := o1
    clear o1
    go_wp2_with fail
    go_ret2
    exact ⟨q, v, ys, HS1.out.at_, HS1.out.le, HS1.out.own, HB1.out, HY.out, .inr ⟨HO.out, a, rfl⟩⟩
end Go.Proofs.Qxb6002364a
