/-
  What came in, as the walks want it: from the kit's reading of the arguments to 'SL' and 'IL'.
-/
import Derived.Test.Qxb6002364aRead
namespace Go.Proofs.Qxb6002364a
open Go.RowKit

theorem spot_none {w : World} {x : Addr} {v : Value} (h : w.cell? x = some v) : x.spot = none := by
  unfold World.cell? at h
  split at h
  · cases e : x.spot with
    | none => rfl
    | some _ => simp [e] at h
  · cases h

theorem SL_of {w : World} {a : Option Addr} {len cap : Nat} {ss : List ByteArray} (h : IsStrs w a len cap ss) : SL w a len (ss.take len) ∧ len ≤ maxLen ∧ ∀ s ∈ ss.take len, s.size ≤ maxLen := by
  rcases h with ⟨rfl, rfl, rfl, rfl⟩ | ⟨x, rfl, h1, h2, h3, h4, h5⟩
  · exact ⟨⟨rfl, fun h => absurd h (by omega)⟩, Nat.zero_le _, fun s hs => by simp at hs⟩
  · refine ⟨⟨by rw [List.length_take, h3]; omega, fun h0 => ?_⟩, by omega, fun s hs => h5 s (List.mem_of_mem_take hs)⟩
    have hx := h4 0 (by omega)
    rw [Addr.add_zero'] at hx
    have hsp := spot_none hx
    obtain ⟨b, off, sp⟩ := x
    simp only at hsp
    subst hsp
    refine ⟨b, off, rfl, World.block_lt_of_cell? w _ hx, fun j hj => ?_⟩
    have := h4 j (by omega)
    rw [Addr.add_lit] at this
    rw [this, List.getD_eq_getElem?_getD, List.getD_eq_getElem?_getD, List.getElem?_take, if_pos hj]

theorem IL_of {w : World} {a : Option Addr} {len cap : Nat} {zs : List Int} (h : IsRow .u8 w a len cap zs) : IL w a len (zs.take len) ∧ len ≤ maxLen := by
  rcases h with ⟨rfl, rfl, rfl, rfl⟩ | ⟨x, rfl, h1, h2, h3, h4, h5⟩
  · exact ⟨⟨rfl, fun z hz => by simp at hz, fun h => absurd h (by omega)⟩, Nat.zero_le _⟩
  · refine ⟨⟨by rw [List.length_take, h3]; omega, fun z hz => ?_, fun h0 => ?_⟩, by omega⟩
    · have := h5 z (List.mem_of_mem_take hz)
      simpa [Lit.wf, IntKind.min, IntKind.max, IntKind.signed, IntKind.bits] using this
    · have hx := h4 0 (by omega)
      rw [Addr.add_zero'] at hx
      have hsp := spot_none hx
      obtain ⟨b, off, sp⟩ := x
      simp only at hsp
      subst hsp
      refine ⟨b, off, rfl, World.block_lt_of_cell? w _ hx, fun j hj => ?_⟩
      have := h4 j (by omega)
      rw [Addr.add_lit] at this
      rw [this, List.getD_eq_getElem?_getD, List.getD_eq_getElem?_getD, List.getElem?_take, if_pos hj]
end Go.Proofs.Qxb6002364a
