/-
  The item that listReadWords hands to List: it skips spaces, reads a word, records it; an empty word it refuses.
-/
import Derived.Test.Qxb6002364aWord
namespace Go.Proofs.Qxb6002364a
open Go.RowKit

theorem Try.info9 : (Try.prog.info? 9).map (fun i => (i.zero, i.size, i.bytes)) = some (some (.string ⟨#[]⟩), 1, 16) := by kernel_rfl
theorem Try.info5 : (Try.prog.info? 5).map (fun i => (i.zero, i.size, i.bytes)) = some (some (.int .u8 0), 1, 1) := by kernel_rfl

theorem errNew (w : World) :
    Calls Try.prog 25 #[.string ⟨#[120]⟩] w fun e w' => e = .returned (.iface 88 (.pointer (some ⟨w.heap.size, 0, none⟩))) ∧ w' = w.alloc (.cells #[.string ⟨#[120]⟩] 90) := by
  go_enter Try.func25, Try.ntmps25
  go_wp2
  go_ret
  exact ⟨rfl, rfl⟩

/-- The reader's state: the scanner in block S at p; the box of its pointer in A; the list 'got' in the variable G, its words xs in a row from block B on. -/
structure St (S A G B : Nat) (T : ByteArray) (p : Nat) (v : Value) (xs : List ByteArray) (w : World) : Prop where
  at_ : At S T p w
  box : w.cell? ⟨A, 0, none⟩ = some (.pointer (some ⟨S, 0, none⟩))
  got : w.cell? ⟨G, 0, none⟩ = some v
  fz : w.frozen? ⟨G, 0, none⟩ = false
  own : w.ownsRow B 9 1 v xs.length (xs.map Value.string)
  hSA : S < A
  hAG : A < G
  hGB : G < B
  hB : B ≤ w.heap.size
  len : xs.length ≤ p
  le : p ≤ T.size

section
variable {S A G B : Nat} {T : ByteArray} {p q : Nat} {v : Value} {xs : List ByteArray} {w w' : World}

theorem St.moved (h : St S A G B T p v xs w) (hA : At S T q w') (hM : Mv S w w') (hpq : p ≤ q) (hq : q ≤ T.size) : St S A G B T q v xs w' := by
  have h1 := h.hSA; have h2 := h.hAG; have h3 := h.hGB
  refine ⟨hA, ?_, ?_, ?_, ?_, h.hSA, h.hAG, h.hGB, by rw [hM.size]; exact h.hB, by have := h.len; omega, hq⟩
  · rw [hM.cell (by show A ≠ S; omega)]; exact h.box
  · rw [hM.cell (by show G ≠ S; omega)]; exact h.got
  · rw [hM.frozen (by show G ≠ S; omega)]; exact h.fz
  · obtain ⟨o1, o2⟩ := h.own
    refine ⟨o1, ?_⟩
    rcases o2 with o2 | ⟨g, cap, cur, e1, e2, e3, e4⟩
    · exact .inl o2
    · exact .inr ⟨g, cap, cur, e1, e2, by rw [hM.block g (by omega)]; exact e3, e4⟩

theorem St.alloc (h : St S A G B T p v xs w) (o : Obj) : St S A G B T p v xs (w.alloc o) := by
  have h1 := h.hSA; have h2 := h.hAG; have h3 := h.hGB; have h4 := h.hB
  have bl : ∀ k, k < w.heap.size → (w.alloc o).heap[k]? = w.heap[k]? := fun k hk => Below.heap_alloc _ _ _ hk
  refine ⟨⟨?_, ?_, ?_⟩, ?_, ?_, ?_, h.own.alloc o, h.hSA, h.hAG, h.hGB, by simp; omega, h.len, h.le⟩
  · rw [World.cell?_of_block (w := w) (bl S (by omega))]; exact h.at_.txt
  · rw [World.cell?_of_block (w := w) (bl S (by omega))]; exact h.at_.pos
  · rw [World.frozen?_of_block (w := w) (bl S (by omega))]; exact h.at_.fz
  · rw [World.cell?_of_block (w := w) (bl A (by omega))]; exact h.box
  · rw [World.cell?_of_block (w := w) (bl G (by omega))]; exact h.got
  · rw [World.frozen?_of_block (w := w) (bl G (by omega))]; exact h.fz

/-- Behind an append onto 'got', ahead of the store: everything but 'got''s own row is as it was. -/
theorem St.grown (h : St S A G B T p v xs w) (hg : w.grownBy w' v.ownBlock) : At S T p w' ∧ w'.cell? ⟨A, 0, none⟩ = some (.pointer (some ⟨S, 0, none⟩)) ∧ w'.cell? ⟨G, 0, none⟩ = some v ∧ w'.frozen? ⟨G, 0, none⟩ = false ∧ Below S w w' := by
  have h1 := h.hSA; have h2 := h.hAG; have h3 := h.hGB; have h4 := h.hB
  have bl : ∀ k, k < B → w'.heap[k]? = w.heap[k]? := fun k hk => hg.block k (by omega) (fun e => by have := (h.own.lt k e.symm).1; omega)
  refine ⟨⟨?_, ?_, ?_⟩, ?_, ?_, ?_, ⟨hg.os, hg.tape, hg.output, hg.size, fun k hk => bl k (by omega)⟩⟩
  · rw [World.cell?_of_block (w := w) (bl S (by omega))]; exact h.at_.txt
  · rw [World.cell?_of_block (w := w) (bl S (by omega))]; exact h.at_.pos
  · rw [World.frozen?_of_block (w := w) (bl S (by omega))]; exact h.at_.fz
  · rw [World.cell?_of_block (w := w) (bl A (by omega))]; exact h.box
  · rw [World.cell?_of_block (w := w) (bl G (by omega))]; exact h.got
  · rw [World.frozen?_of_block (w := w) (bl G (by omega))]; exact h.fz

theorem St.stored (h : St S A G B T p v xs w) (hg : w.grownBy w' v.ownBlock) {v' : Value} {s : ByteArray} (hown : w'.ownsRow B 9 1 v' (xs.length + 1) (xs.map Value.string ++ [.string s])) (hl : xs.length < p) :
    St S A G B T p v' (xs ++ [s]) (w'.setCell ⟨G, 0, none⟩ v') ∧ Below S w (w'.setCell ⟨G, 0, none⟩ v') := by
  have h1 := h.hSA; have h2 := h.hAG; have h3 := h.hGB; have h4 := h.hB
  obtain ⟨a1, a2, a3, a4, a5⟩ := h.grown hg
  have far : ∀ k, k ≠ G → (w'.setCell ⟨G, 0, none⟩ v').heap[k]? = w'.heap[k]? := fun k hk => Below.heap_setCell _ _ _ _ hk
  refine ⟨⟨⟨?_, ?_, ?_⟩, ?_, ?_, ?_, ?_, h.hSA, h.hAG, h.hGB, ?_, by simp; omega, h.le⟩, a5.setCell (by show S ≤ G; omega) _⟩
  · rw [World.cell?_of_block (w := w') (far S (by omega))]; exact a1.txt
  · rw [World.cell?_of_block (w := w') (far S (by omega))]; exact a1.pos
  · rw [World.frozen?_of_block (w := w') (far S (by omega))]; exact a1.fz
  · rw [World.cell?_of_block (w := w') (far A (by omega))]; exact a2
  · exact World.cell?_setCell_same _ _ _ a3
  · rw [World.frozen?_setCell]; exact a4
  · have := ownsRow_setCell_below hown (a := ⟨G, 0, none⟩) h3 v'
    simpa using this
  · have := a5.size
    simp [World.setCell]; omega
end
end Go.Proofs.Qxb6002364a
