/-
  What both laws do ahead of the reading: make and copy of the two slices; string(buf); the scanner. And the plain bounds of the text.
-/
import Derived.Test.Qxb6002364aText
import Derived.Test.Qxb6002364aList
import Derived.Laws.CopyOwn
import Derived.Laws.IdiomStrings
import Derived.Laws.BytesArg
namespace Go.Proofs.Qxb6002364a
open Go.RowKit

/-- string(buf). -/
theorem conv_bytes {B : Nat} {w : World} {X : List UInt8} {v : Value} {wr : World} (h : Bf B w X v wr) : (convert 22 9 v).run Try.prog wr = .ok (.string ⟨X.toArray⟩) wr := by
  rcases h.own.2 with ⟨rfl, h0⟩ | ⟨g, cap, cur, rfl, hb, hg, r⟩
  · have : X = [] := List.eq_nil_of_length_eq_zero h0
    subst this
    exact run_convert_bytes_nil wr 22 5 Try.underlying22 Try.underlying5 0 0 9 Try.underlying9
  · refine run_convert_bytes_back wr 22 9 5 ⟨g, 0, none⟩ cap X Try.underlying22 Try.underlying5 Try.underlying9 ?_
    intro j hj
    exact h.own.cells (g := g) rfl j _ (by simp [cel, List.getElem?_eq_getElem hj])

/-- 'copy(dst, src)', dst just made, as long as src: the run of it. -/
theorem run_copy_made {w : World} (dT : TypeId) (ty e : TypeId) (hu : Try.prog.underlying dT = some (.slice e)) (hsz : (Try.prog.info? e).map (·.size) = some 1)
    (g n : Nat) (sp : Option Addr) (sc : Nat)
    (cs : List Value) (hcs : cs.length = n) (hpos : 0 < n → ∃ ad, sp = some ad ∧ ∀ j v, cs[j]? = some v → w.cell? (ad.add j) = some v) (h1 : ∀ v ∈ cs, v.oneCell' = true)
    (B : Nat) (w0 : World) (hb : Below B w0 w) (hBg : B ≤ g) (base : Nat) (xs : List Value) (hown : w.ownsRow base e 1 (.slice (some ⟨g, 0, none⟩) n n) n xs) :
    ∃ w', (Builtin.copy_ #[dT, dT] ty #[.slice (some ⟨g, 0, none⟩) n n, .slice sp n sc]).run Try.prog w = .ok (.int .i64 n) w' ∧ Hid (w'.heap[g]? = some (.cells cs.toArray e (0, 0))) ∧ Hid (Below B w0 w') := by
  rcases hown.2 with ⟨e0, _⟩ | ⟨g', cap, cur, e1, _, hg, _, _, hcur, _⟩
  · cases e0
  · injection e1 with e2 e3 e4
    injection e2 with e5
    injection e5 with e6
    subst e6
    subst e4
    have hcl : cur.toList.length = n := by simpa using hcur
    by_cases h0 : n = 0
    · have hrun := run_copy_none (P := Try.prog) w dT dT ty e (some ⟨g, 0, none⟩) sp n n n sc hu hsz (by rw [h0]; rfl)
      have hc0 : cs = [] := List.eq_nil_of_length_eq_zero (by omega)
      have hcu : cur = #[] := by
        apply Array.ext'
        exact List.eq_nil_of_length_eq_zero (by omega)
      refine ⟨w, ?_, ?_, hb⟩
      · rw [hrun, h0]; rfl
      · show _ = _
        rw [hg, hc0, hcu]
    · obtain ⟨ad, rfl, hsrc⟩ := hpos (by omega)
      have hrun := run_copy_row (P := Try.prog) w dT dT ty e g 0 n n ad n sc cur e cs hu hsz hg (by rw [hcs]; exact (Nat.min_self n).symm) hsrc (by simp at hcl; omega) h1
      have e7 : (cur.toList.take 0 ++ cs ++ cur.toList.drop (0 + n)) = cs := by
        rw [List.take_zero, List.nil_append, List.drop_eq_nil_of_le (by omega), List.append_nil]
      refine ⟨_, by rw [hrun, hcs]; rfl, ?_, below_setRow hb hBg _⟩
      show _ = _
      rw [setRow_heap w g _ _ e _ hg, e7]

theorem Try.size9 : (Try.prog.info? 9).map (·.size) = some 1 := by kernel_rfl
theorem Try.size5 : (Try.prog.info? 5).map (·.size) = some 1 := by kernel_rfl

/-- The row of strings reads as the words. -/
theorem SL_row {w : World} {g n : Nat} {ws : List ByteArray} {fr : Nat × Nat} (hn : ws.length = n) (h : w.heap[g]? = some (.cells (ws.map Value.string).toArray 9 fr)) : SL w (some ⟨g, 0, none⟩) n ws := by
  refine ⟨hn, fun _ => ⟨g, 0, rfl, (Array.getElem?_eq_some_iff.1 h).1, fun j hj => ?_⟩⟩
  rw [Nat.zero_add, cell_of_row w g j _ _ _ h, List.getElem?_toArray, List.getElem?_map, List.getElem?_eq_getElem (by omega), List.getD_eq_getElem?_getD, List.getElem?_eq_getElem (by omega)]
  rfl

theorem IL_row {w : World} {g n : Nat} {zs : List Int} {fr : Nat × Nat} (hn : zs.length = n) (hz : ∀ z ∈ zs, 0 ≤ z ∧ z ≤ 255) (h : w.heap[g]? = some (.cells (zs.map (Value.int .u8)).toArray 5 fr)) : IL w (some ⟨g, 0, none⟩) n zs := by
  refine ⟨hn, hz, fun _ => ⟨g, 0, rfl, (Array.getElem?_eq_some_iff.1 h).1, fun j hj => ?_⟩⟩
  rw [Nat.zero_add, cell_of_row w g j _ _ _ h, List.getElem?_toArray, List.getElem?_map, List.getElem?_eq_getElem (by omega), List.getD_eq_getElem?_getD, List.getElem?_eq_getElem (by omega)]
  rfl

theorem SL_src {w : World} {ao : Option Addr} {n : Nat} {ws : List ByteArray} (h : SL w ao n ws) {w' : World} (hb : Below w.heap.size w w') : 0 < n → ∃ ad, ao = some ad ∧ ∀ j v, (ws.map Value.string)[j]? = some v → w'.cell? (ad.add j) = some v := by
  intro h0
  obtain ⟨b, off, rfl, hbb, hc⟩ := h.2 h0
  refine ⟨_, rfl, fun j v hj => ?_⟩
  rw [List.getElem?_map] at hj
  obtain ⟨s, hs, rfl⟩ := Option.map_eq_some_iff.1 hj
  have hj2 := (List.getElem?_eq_some_iff.1 hs).1
  rw [Addr.add_lit, hb.cell (p := ⟨b, off + j, none⟩) hbb, hc j (by have := h.1; omega), List.getD_eq_getElem?_getD, hs]
  rfl

theorem IL_src {w : World} {ao : Option Addr} {n : Nat} {zs : List Int} (h : IL w ao n zs) {w' : World} (hb : Below w.heap.size w w') : 0 < n → ∃ ad, ao = some ad ∧ ∀ j v, (zs.map (Value.int .u8))[j]? = some v → w'.cell? (ad.add j) = some v := by
  intro h0
  obtain ⟨b, off, rfl, hbb, hc⟩ := h.2.2 h0
  refine ⟨_, rfl, fun j v hj => ?_⟩
  rw [List.getElem?_map] at hj
  obtain ⟨s, hs, rfl⟩ := Option.map_eq_some_iff.1 hj
  have hj2 := (List.getElem?_eq_some_iff.1 hs).1
  rw [Addr.add_lit, hb.cell (p := ⟨b, off + j, none⟩) hbb, hc j (by have := h.1; omega), List.getD_eq_getElem?_getD, hs]
  rfl

theorem strs_one (ws : List ByteArray) : ∀ v ∈ ws.map Value.string, v.oneCell' = true := by
  intro v hv
  obtain ⟨s, _, rfl⟩ := List.mem_map.1 hv
  rfl
theorem ints_one (zs : List Int) : ∀ v ∈ zs.map (Value.int .u8), v.oneCell' = true := by
  intro v hv
  obtain ⟨s, _, rfl⟩ := List.mem_map.1 hv
  rfl

theorem txt_len (pad : Nat → Nat) (hp : ∀ j, pad j ≤ 255) : ∀ (W : List (List UInt8)) (i : Nat), (txt pad i W).length ≤ 511 * W.length + (W.map List.length).sum
  | [], _ => by simp [txt]
  | w :: W, i => by
    have ih := txt_len pad hp W (i + 1)
    have h1 := hp (2 * i)
    have h2 := hp (2 * i + 1)
    rw [txt]
    simp only [List.length_append, List.length_replicate, List.length_cons, List.map_cons, List.sum_cons]
    split
    · simp; omega
    · simp only [List.length_cons]; omega

theorem tot_all (ws : List ByteArray) : tot ws ws.length = ((ws.map (·.data.toList)).map List.length).sum := by
  unfold tot
  rw [List.take_length, List.map_map]
  congr 1

theorem text_le (zs : List Int) (hz : ∀ z ∈ zs, 0 ≤ z ∧ z ≤ 255) (ws : List ByteArray) (n : Nat) (hn : ws.length = n) (h1 : n ≤ 4096) (h2 : tot ws n ≤ 1048576) : (txt (padOf zs) 0 (ws.map (·.data.toList))).length ≤ 3141632 := by
  have := txt_len (padOf zs) (fun j => by have := getD_bound zs hz j; unfold padOf; omega) (ws.map (·.data.toList)) 0
  rw [← tot_all, hn, List.length_map, hn] at this
  omega

theorem bytes_inj_map : ∀ (xs ys : List ByteArray), xs.map bytes = ys.map (·.data.toList) → xs = ys
  | [], [], _ => rfl
  | [], _ :: _, h => by simp at h
  | _ :: _, [], h => by simp at h
  | x :: xs, y :: ys, h => by
    simp only [List.map_cons, List.cons.injEq] at h
    rw [bytes_inj_map xs ys h.2, Go.WideShapes.bytes_inj h.1]
end Go.Proofs.Qxb6002364a
