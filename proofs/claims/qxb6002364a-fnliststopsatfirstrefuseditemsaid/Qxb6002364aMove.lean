/-
  SkipSpaces and Word: the scanner's position moves on; nothing else turns.
-/
import Derived.Test.Qxb6002364aScan
import Derived.Test.Qxb6002364aPlain
namespace Go.Proofs.Qxb6002364a
open Go.RowKit

/-- The scanner in block S reads T and stands at p. -/
structure At (S : Nat) (T : ByteArray) (p : Nat) (w : World) : Prop where
  txt : w.cell? ⟨S, 0, none⟩ = some (.string T)
  pos : w.cell? ⟨S, 1, none⟩ = some (.int .i64 p)
  fz : w.frozen? ⟨S, 1, none⟩ = false

/-- From w to w' at most block S has turned. -/
structure Mv (S : Nat) (w w' : World) : Prop where
  os : w'.os = w.os
  tape : w'.tape = w.tape
  output : w'.output = w.output
  size : w'.heap.size = w.heap.size
  block : ∀ k, k ≠ S → w'.heap[k]? = w.heap[k]?

theorem Mv.refl (S : Nat) (w : World) : Mv S w w := ⟨rfl, rfl, rfl, rfl, fun _ _ => rfl⟩
theorem Mv.trans {S : Nat} {a b c : World} (h : Mv S a b) (k : Mv S b c) : Mv S a c :=
  ⟨k.os.trans h.os, k.tape.trans h.tape, k.output.trans h.output, k.size.trans h.size, fun i hi => (k.block i hi).trans (h.block i hi)⟩
theorem Mv.drewN {S : Nat} {a b : World} (h : Mv S a b) (n : Nat) : Mv S a (b.drewN n) := ⟨h.os, h.tape, h.output, h.size, h.block⟩
theorem Mv.setCell {S : Nat} {a b : World} (h : Mv S a b) (o : Nat) (v : Value) : Mv S a (b.setCell ⟨S, o, none⟩ v) :=
  h.trans ⟨rfl, rfl, rfl, by simp [World.setCell], fun k hk => Below.heap_setCell _ _ _ _ hk⟩
theorem Mv.below {S : Nat} {a b : World} (h : Mv S a b) : Below S a b := ⟨h.os, h.tape, h.output, by rw [h.size]; exact Nat.le_refl _, fun k hk => h.block k (by omega)⟩
theorem Mv.cell {S : Nat} {a b : World} (h : Mv S a b) {q : Addr} (hq : q.block ≠ S) : b.cell? q = a.cell? q := World.cell?_of_block (h.block _ hq)
theorem Mv.frozen {S : Nat} {a b : World} (h : Mv S a b) {q : Addr} (hq : q.block ≠ S) : b.frozen? q = a.frozen? q := World.frozen?_of_block (h.block _ hq)

theorem At.drewN {S : Nat} {T : ByteArray} {p : Nat} {w : World} (h : At S T p w) (n : Nat) : At S T p (w.drewN n) := ⟨h.txt, h.pos, h.fz⟩

theorem At.step {S : Nat} {T : ByteArray} {p : Nat} {w : World} (h : At S T p w) : At S T (p + 1) (w.setCell ⟨S, 1, none⟩ (.int .i64 ((p : Int) + 1))) := by
  refine ⟨?_, ?_, ?_⟩
  · have := h.txt; simp [go_sem, this]
  · have := h.pos; simp [go_sem, this]
  · have := h.fz; simp [go_sem, this]

theorem drop_cons (T : ByteArray) (p : Nat) (h : p < T.size) : T.data.toList.drop p = T[p] :: T.data.toList.drop (p + 1) := by
  rw [List.drop_eq_getElem_cons (by simpa using h)]
  rfl

set_option maxHeartbeats 1000000 in
theorem skip (S p : Nat) (T : ByteArray) (w : World) (hp : p ≤ T.size) (hT : T.size ≤ 4194304) (hA : At S T p w) :
    Calls Try.prog 23 #[.pointer (some ⟨S, 0, none⟩)] w fun e w' => e = .returned (.tuple #[]) ∧
      ∃ q, p ≤ q ∧ q ≤ T.size ∧ At S T q w' ∧ Mv S w w' ∧ T.data.toList.drop q = (T.data.toList.drop p).dropWhile isSp := by
  go_enter Try.func23, Try.ntmps23
  go_wp2
  go_loopw [] (fun wr => ∃ q, p ≤ q ∧ q ≤ T.size ∧ Hid (At S T q wr) ∧ Hid (Mv S w wr) ∧ Hid ((T.data.toList.drop q).dropWhile isSp = (T.data.toList.drop p).dropWhile isSp))
    (fun wr => T.size - (intOf ((wr.cell? ⟨S, 1, none⟩).getD undef)).toNat)
  case atStart => exact ⟨p, Nat.le_refl _, hp, hA, Mv.refl _ _, rfl⟩
  case round =>
    obtain ⟨q, h1, h2, HA, HM, HE⟩ := hrel
    have h0r := HA.out.txt
    have h1r := HA.out.pos
    have hfr := HA.out.fz
    by_cases hlt : q < T.size
    · by_cases hc : T[q] = 32
      · have hb : ((T[q].toNat : Int) == 32) = true := by rw [hc]; rfl
        go_wp2_with (first
          | (go_at_call 28; refine (done_no S q T _ (by simp [h0r]) (by simp [h1r]) hlt).mono ?_; rintro e w' ⟨rfl, n, rfl⟩)
          | (go_at_call 29; refine (peek S q T _ (by simp [h0r]) (by simp [h1r]) hlt).mono ?_; rintro e w' ⟨rfl, m, rfl⟩))
        refine ⟨⟨q + 1, by omega, by omega, (HA.out.drewN _).step, (HM.out.drewN _).setCell _ _, ?_⟩, ?_⟩
        · refine Eq.trans ?_ HE.out
          rw [drop_cons T q hlt, List.dropWhile_cons, if_pos (by rw [hc]; rfl)]
        · rw [h1r, ((HA.out.drewN (n + m)).step).pos]
          simp [intOf]
          omega
      · have hb : ((T[q].toNat : Int) == 32) = false := by
          rw [beq_eq_false_iff_ne]
          intro hh
          exact hc (UInt8.toNat_inj.1 (by simpa using Int.ofNat.inj hh))
        go_wp2_with (first
          | (go_at_call 28; refine (done_no S q T _ (by simp [h0r]) (by simp [h1r]) hlt).mono ?_; rintro e w' ⟨rfl, n, rfl⟩)
          | (go_at_call 29; refine (peek S q T _ (by simp [h0r]) (by simp [h1r]) hlt).mono ?_; rintro e w' ⟨rfl, m, rfl⟩))
        refine bodyPost_end (v := .tuple #[]) (by simp [results, Try.results23, go_sem]) rfl ?_
        refine ⟨rfl, q, h1, h2, HA.out.drewN _, HM.out.drewN _, ?_⟩
        rw [← HE.out, drop_cons T q hlt, List.dropWhile_cons, if_neg (by simpa [isSp] using hc)]
    · go_wp2_with (first
          | (go_at_call 28; refine (done_yes S q T _ (by simp [h0r]) (by simp [h1r]) (by omega)).mono ?_; rintro e w' ⟨rfl, n, rfl⟩))
      refine bodyPost_end (v := .tuple #[]) (by simp [results, Try.results23, go_sem]) rfl ?_
      refine ⟨rfl, q, h1, h2, HA.out.drewN _, HM.out.drewN _, ?_⟩
      rw [← HE.out, List.drop_eq_nil_of_le (by simp; omega)]
      rfl
end Go.Proofs.Qxb6002364a
