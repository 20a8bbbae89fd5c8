/-
  listText writes the joined text.
-/
import Derived.Test.Qxb6002364aRead2
import Derived.Lib.AppendStr
namespace Go.Proofs.Qxb6002364a
open Go.RowKit

theorem Try.infoB : (Try.prog.info? 5).map (fun i => (i.zero, i.size, i.bytes)) = some (some (.int .u8 0), 1, 1) := by kernel_rfl

/-- Bytes as cells. -/
def cel (X : List UInt8) : List Value := X.map fun b => Value.int .u8 b.toNat
theorem cel_append (X Y : List UInt8) : cel (X ++ Y) = cel X ++ cel Y := by simp [cel]

/-- The bytes X are gathered in v; nothing below B has turned. -/
structure Bf (B : Nat) (w : World) (X : List UInt8) (v : Value) (wr : World) : Prop where
  own : wr.ownsRow B 5 1 v X.length (cel X)
  bel : Below B w wr
  le : B ≤ w.heap.size

section
variable {B : Nat} {w : World} {X : List UInt8} {v v' : Value} {wr w1 : World}
theorem Bf.hB (h : Bf B w X v wr) : B ≤ wr.heap.size := Nat.le_trans h.le h.bel.size
theorem Bf.app (h : Bf B w X v wr) (o : Obj) {Y : List UInt8} {m : Nat} (hm : Y.length = m) (hown : w1.ownsRow B 5 1 v' (X.length + m) (cel X ++ cel Y)) (hg : (wr.alloc o).grownBy w1 v.ownBlock) : Bf B w (X ++ Y) v' w1 := by
  refine ⟨?_, ?_, h.le⟩
  · rw [cel_append, List.length_append, hm]; exact hown
  · exact (h.bel.alloc h.hB o).grown hg (by simp; have := h.hB; omega) (fun k hk => (h.own.lt k hk).1)
theorem Bf.appStr (h : Bf B w X v wr) {s : ByteArray} (hown : w1.ownsRow B 5 1 v' (X.length + s.size) (cel X ++ Lib.strCells s)) (hg : wr.grownBy w1 v.ownBlock) : Bf B w (X ++ s.data.toList) v' w1 := by
  refine ⟨?_, ?_, h.le⟩
  · rw [cel_append, List.length_append]
    exact hown
  · exact h.bel.grown hg h.hB (fun k hk => (h.own.lt k hk).1)
end

theorem IL.below {w wr : World} {po : Option Addr} {m : Nat} {zs : List Int} {B : Nat} (h : IL w po m zs) (hb : Below B w wr) (hlt : ∀ a, po = some a → a.block < B) : IL wr po m zs := by
  refine ⟨h.1, h.2.1, fun h0 => ?_⟩
  obtain ⟨b, off, rfl, hbb, hc⟩ := h.2.2 h0
  have hlb := hlt _ rfl
  exact ⟨b, off, rfl, Nat.lt_of_lt_of_le hbb hb.size, fun j hj => (hb.cell (p := ⟨b, off + j, none⟩) hlb).trans (hc j hj)⟩

theorem SL.below {w wr : World} {ao : Option Addr} {n : Nat} {ws : List ByteArray} {B : Nat} (h : SL w ao n ws) (hb : Below B w wr) (hlt : ∀ a, ao = some a → a.block < B) : SL wr ao n ws := by
  refine ⟨h.1, fun h0 => ?_⟩
  obtain ⟨b, off, rfl, hbb, hc⟩ := h.2 h0
  have hlb := hlt _ rfl
  exact ⟨b, off, rfl, Nat.lt_of_lt_of_le hbb hb.size, fun j hj => (hb.cell (p := ⟨b, off + j, none⟩) hlb).trans (hc j hj)⟩

def padOf (zs : List Int) (j : Nat) : Nat := (zs.getD j 0).toNat

theorem getD_bound (zs : List Int) (h : ∀ z ∈ zs, 0 ≤ z ∧ z ≤ 255) (j : Nat) : 0 ≤ zs.getD j 0 ∧ zs.getD j 0 ≤ 255 := by
  by_cases hj : j < zs.length
  · exact h _ (getD_mem zs j 0 hj)
  · rw [List.getD_eq_getElem?_getD, List.getElem?_eq_none (by omega)]
    decide

theorem pad21' (po : Option Addr) (m pc : Nat) (zs : List Int) (J : Int) (j : Nat) (z : Int) (hz : zs.getD j 0 = z) (w : World) (hp : IL w po m zs) (hm : m ≤ 8192) (hJ : J = (j : Int)) (hj : j ≤ 100000) :
    Calls Try.prog 21 #[.slice po m pc, .int .i64 J] w fun e w' => e = .returned (.int .i64 z) ∧ w' = w := by
  rw [← hz]
  exact pad21 po m pc zs J j w hp hm hJ hj

/-- One word of the joined text. -/
theorem txt_step (pad : Nat → Nat) (W : List (List UInt8)) (k : Nat) (u : List UInt8) (h : W[k]? = some u) :
    txt pad k (W.drop k) = List.replicate (pad (2 * k)) 32 ++ (u ++ (List.replicate (pad (2 * k + 1)) 32 ++ (if k + 1 < W.length then 44 :: txt pad (k + 1) (W.drop (k + 1)) else []))) := by
  obtain ⟨hk, rfl⟩ := List.getElem?_eq_some_iff.1 h
  rw [List.drop_eq_getElem_cons hk, txt]
  by_cases hl : k + 1 < W.length
  · have hne : W.drop (k + 1) ≠ [] := by
      intro e
      have := congrArg List.length e
      simp at this
      omega
    rw [if_neg hne, if_pos hl]
  · have he : W.drop (k + 1) = [] := List.drop_eq_nil_of_le (by omega)
    rw [if_pos he, if_neg hl]

theorem rep_snoc (X : List UInt8) (c : Nat) : X ++ List.replicate c 32 ++ [32] = X ++ List.replicate (c + 1) 32 := by
  rw [List.append_assoc, ← List.replicate_succ']

/-- 'buf = append(buf, c)', at the walk's list of operations. -/
theorem app_law {ops : Array Oper} {rest : List Oper} {o : Oper} {a : Act} {Q : Exit → Act → World → Prop} (hgd : o.guard = none) (s x : Operand)
    (ho : o.op = .call { callee := .builtin .append, args := #[s, x], argTypes := #[22, 22] })
    (B : Nat) (w : World) (X : List UInt8) (v : Value) (wr : World) (Y : List UInt8) (hF : Bf B w X v wr) (hs : a.eval s = v) (m : Nat) (hY : Y.length = m) (cs : Array Value) (hcs : cs = (cel Y).toArray)
    (hx : a.eval x = .slice (some ⟨wr.heap.size, 0, none⟩) m m) (hX : X.length + m ≤ 8388608)
    (h : ∀ v' w', Hid (Bf B w (X ++ Y) v' w') → wpList Try.prog ops Q rest (a.put o.dst v') w') : wpList Try.prog ops Q (o :: rest) a (wr.alloc (.cells cs 5)) := by
  obtain ⟨i0, hi, iz, is, ib⟩ := info_parts Try.infoB
  subst hcs
  refine wpList_append_own _ hgd s x 22 ho B 5 i0 (.int .u8 0) 1 1 Try.underlying22 hi iz is ib rfl (by decide) _ _ _ hs (hF.own.alloc _) ⟨wr.heap.size, 0, none⟩ m m (cel Y) hx (by simp [cel, hY]) ?_ ?_ ?_ ?_ ?_ ?_
  · intro j u hj
    have e : (⟨wr.heap.size, 0, none⟩ : Addr).add j = ⟨wr.heap.size, j, none⟩ := by rw [Addr.add_lit]; simp
    rw [e, World.cell?_alloc_at _ _ _ _ rfl]
    simpa using hj
  · intro u hu
    simp only [cel, List.mem_map] at hu
    obtain ⟨b, _, rfl⟩ := hu
    rfl
  · unfold maxLen; omega
  · omega
  · have := hF.hB; simp; omega
  · intro v' w' hown hg _
    exact h v' w' (hF.app _ hY hown hg)

/-- 'buf = append(buf, s...)', s a string. -/
theorem appStr_law {ops : Array Oper} {rest : List Oper} {o : Oper} {a : Act} {Q : Exit → Act → World → Prop} (hgd : o.guard = none) (sl x : Operand)
    (ho : o.op = .call { callee := .builtin .append, args := #[sl, x], argTypes := #[22, 9] })
    (B : Nat) (w : World) (X : List UInt8) (v : Value) (wr : World) (s : ByteArray) (hF : Bf B w X v wr) (hs : a.eval sl = v) (hx : a.eval x = .string s) (hX : X.length + s.size ≤ 8388608)
    (h : ∀ v' w', Hid (Bf B w (X ++ s.data.toList) v' w') → wpList Try.prog ops Q rest (a.put o.dst v') w') : wpList Try.prog ops Q (o :: rest) a wr := by
  obtain ⟨i0, hi, iz, is, ib⟩ := info_parts Try.infoB
  refine Lib.wpList_append_own_string _ hgd sl x 22 9 ho B 5 i0 Try.underlying22 Try.underlying9 hi iz is ib _ _ _ hs hF.own s hx (by unfold maxLen; omega) (by omega) hF.hB ?_
  intro v' w' hown hg _
  exact h v' w' (hF.appStr hown hg)

set_option maxHeartbeats 4000000 in
theorem text15 (ao : Option Addr) (n cap : Nat) (ws : List ByteArray) (po : Option Addr) (m pc : Nat) (zs : List Int) (w : World) (hl : SL w ao n ws) (hp : IL w po m zs) (hn : n ≤ 4096) (hm : m ≤ 8192)
    (hpo : ∀ a, po = some a → a.block < w.heap.size)
    (TX : List UInt8) (hTX : txt (padOf zs) 0 (ws.map (·.data.toList)) = TX) (hlen : TX.length ≤ 4194304) :
    Calls Try.prog 15 #[.slice ao n cap, .slice po m pc] w fun e w' => ∃ v, e = .returned v ∧ Bf w.heap.size w TX v w' := by
  have HTX : Hid _ := hTX
  clear hTX
  go_enter Try.func15, Try.ntmps15
  go_wp2
  go_loopw [5, 6] (fun v i wr => ∃ (k : Nat) (X : List UInt8), k ≤ n ∧ i = .int .i64 k ∧ Hid (X ++ txt (padOf zs) k ((ws.map (·.data.toList)).drop k) = TX) ∧ Hid (Bf w.heap.size w X v wr))
    (fun _ i _ => n - (intOf i).toNat)
  case atStart => exact ⟨0, [], Nat.zero_le _, rfl, HTX.out, World.ownsRow_nil _ _ _ _, Below.refl _ _, Nat.le_refl _⟩
  case round =>
    obtain ⟨k, X, hk, rfl, HX, HF⟩ := hrel
    by_cases hlt : k < n
    · obtain ⟨z1, hz1⟩ : ∃ z, zs.getD (2 * k) 0 = z := ⟨_, rfl⟩
      obtain ⟨z2, hz2⟩ : ∃ z, zs.getD (2 * k + 1) 0 = z := ⟨_, rfl⟩
      obtain ⟨s, hsk⟩ : ∃ s, ws.getD k ByteArray.empty = s := ⟨_, rfl⟩
      obtain ⟨R, hR⟩ : ∃ R, (if k + 1 < n then 44 :: txt (padOf zs) (k + 1) ((ws.map (·.data.toList)).drop (k + 1)) else []) = R := ⟨_, rfl⟩
      have hX2 : X ++ (List.replicate z1.toNat 32 ++ (s.data.toList ++ (List.replicate z2.toNat 32 ++ R))) = TX := by
        have e := txt_step (padOf zs) (ws.map (·.data.toList)) k s.data.toList (by
          rw [List.getElem?_map, ← hsk, List.getD_eq_getElem?_getD, List.getElem?_eq_getElem (by rw [hl.1]; exact hlt)]; rfl)
        rw [← HX.out, e, List.length_map, hl.1, hR, ← hz1, ← hz2]
        rfl
      have hbd : X.length + z1.toNat + s.size + z2.toNat + R.length ≤ 4194304 := by
        have := congrArg List.length hX2
        simp at this
        have e : s.data.size = s.size := rfl
        omega
      have b1 := getD_bound zs hp.2.1 (2 * k)
      have b2 := getD_bound zs hp.2.1 (2 * k + 1)
      rw [hz1] at b1
      rw [hz2] at b2
      obtain ⟨l1, u1⟩ := b1
      obtain ⟨l2, u2⟩ := b2
      have HZ1 : Hid _ := hz1
      have HZ2 : Hid _ := hz2
      have HX2 : Hid _ := hX2
      have HR : Hid _ := hR
      have HSK : Hid _ := hsk
      clear hz1 hz2 hX2 hR hsk
      go_wp2
      go_loopw [5, 7] (fun v j wr => ∃ c : Nat, c ≤ z1.toNat ∧ j = .int .i64 c ∧ Hid (Bf w.heap.size w (X ++ List.replicate c 32) v wr)) (fun _ j _ => z1.toNat - (intOf j).toNat)
      case atStart => exact ⟨0, Nat.zero_le _, rfl, by simpa using HF⟩
      case round =>
        obtain ⟨c, hc, rfl, HB⟩ := hrel
        have hbB := HB.out.hB
        by_cases hlt1 : c < z1.toNat
        · go_wp2_with (first
            | (go_at_call 21; refine (pad21' po m pc zs _ (2 * k) z1 HZ1.out _ (hp.below HB.out.bel hpo) hm (by omega) (by omega)).mono ?_; rintro e w' ⟨rfl, hw⟩; have hw2 := hw.symm; subst hw2)
            | (at_builtin; refine app_law rfl _ _ rfl w.heap.size w _ _ wr [32] HB.out rfl 1 rfl _ rfl rfl (by simp; omega) ?_; intro v' w1 HB1))
          exact ⟨⟨c + 1, by omega, vint (by omega), by rw [← rep_snoc]; exact HB1⟩, by simp [intOf]; omega⟩
        · obtain rfl : c = z1.toNat := by omega
          obtain ⟨bb, off, rfl, hb, hcl⟩ := hl.2 (by omega)
          have hck := (HB.out.bel.cell (p := ⟨bb, off + k, none⟩) hb).trans (hcl k hlt)
          rw [HSK.out] at hck
          clear hcl
          go_wp2_with (first
            | (go_at_call 21; refine (pad21' po m pc zs _ (2 * k) z1 HZ1.out _ (hp.below HB.out.bel hpo) hm (by omega) (by omega)).mono ?_; rintro e w' ⟨rfl, hw⟩; have hw2 := hw.symm; subst hw2)
            | (at_builtin; refine appStr_law rfl _ _ rfl w.heap.size w _ _ wr s HB.out rfl rfl (by simp; omega) ?_; intro v' w1 HB1))
          obtain ⟨Y, hY⟩ : ∃ Y, X ++ List.replicate z1.toNat 32 ++ s.data.toList = Y := ⟨_, rfl⟩
          have hYl : Y.length = X.length + z1.toNat + s.size := by
            rw [← hY]
            simp
            omega
          have HY1 : Hid (Bf w.heap.size w Y v' w1) := by rw [← hY]; exact HB1
          have HX3 : Hid (Y ++ (List.replicate z2.toNat 32 ++ R) = TX) := by
            show _ = _
            rw [← hY, ← HX2.out]
            simp only [List.append_assoc]
          have hYb : Y.length + z2.toNat + R.length ≤ 4194304 := by omega
          clear hY hYl HB1 HB hck
          go_loopw [5, 8] (fun v j wr => ∃ c : Nat, c ≤ z2.toNat ∧ j = .int .i64 c ∧ Hid (Bf w.heap.size w (Y ++ List.replicate c 32) v wr)) (fun _ j _ => z2.toNat - (intOf j).toNat)
          case atStart => exact ⟨0, Nat.zero_le _, rfl, by simpa using HY1⟩
          case round =>
            obtain ⟨c, hc, rfl, HB⟩ := hrel
            have hbB := HB.out.hB
            by_cases hlt1 : c < z2.toNat
            · go_wp2_with (first
                | (go_at_call 21; refine (pad21' po m pc zs _ (2 * k + 1) z2 HZ2.out _ (hp.below HB.out.bel hpo) hm (by omega) (by omega)).mono ?_; rintro e w' ⟨rfl, hw⟩; have hw2 := hw.symm; subst hw2)
                | (at_builtin; refine app_law rfl _ _ rfl w.heap.size w _ _ wr [32] HB.out rfl 1 rfl _ rfl rfl (by simp; omega) ?_; intro v' w1 HB1))
              exact ⟨⟨c + 1, by omega, vint (by omega), by rw [← rep_snoc]; exact HB1⟩, by simp [intOf]; omega⟩
            · obtain rfl : c = z2.toNat := by omega
              by_cases hlast : k + 1 < n
              · have HR2 : Hid (R = [44] ++ txt (padOf zs) (k + 1) ((ws.map (·.data.toList)).drop (k + 1))) := by
                  show _ = _
                  rw [← HR.out, if_pos hlast]
                  rfl
                go_wp2_with (first
                  | (go_at_call 21; refine (pad21' po m pc zs _ (2 * k + 1) z2 HZ2.out _ (hp.below HB.out.bel hpo) hm (by omega) (by omega)).mono ?_; rintro e w' ⟨rfl, hw⟩; have hw2 := hw.symm; subst hw2)
                  | (at_builtin; refine app_law rfl _ _ rfl w.heap.size w _ _ wr [44] HB.out rfl 1 rfl _ rfl rfl (by simp; omega) ?_; intro v' w1 HB1))
                refine ⟨⟨k + 1, _, by omega, vint (by omega), ?_, HB1⟩, by simp [intOf]; omega⟩
                show _ = _
                rw [← HX3.out, HR2.out]
                simp only [List.append_assoc]
              · have HR2 : Hid (R = txt (padOf zs) (k + 1) ((ws.map (·.data.toList)).drop (k + 1))) := by
                  show _ = _
                  rw [← HR.out, if_neg hlast, List.drop_eq_nil_of_le (by rw [List.length_map, hl.1]; omega)]
                  rfl
                go_wp2_with (first
                  | (go_at_call 21; refine (pad21' po m pc zs _ (2 * k + 1) z2 HZ2.out _ (hp.below HB.out.bel hpo) hm (by omega) (by omega)).mono ?_; rintro e w' ⟨rfl, hw⟩; have hw2 := hw.symm; subst hw2))
                refine ⟨⟨k + 1, _, by omega, vint (by omega), ?_, HB⟩, by simp [intOf]; omega⟩
                show _ = _
                rw [← HX3.out, HR2.out]
                simp only [List.append_assoc]
    · obtain rfl : k = n := by omega
      have HE : Hid (X = TX) := by
        show _ = _
        have e : (ws.map (·.data.toList)).drop k = [] := List.drop_eq_nil_of_le (by rw [List.length_map, hl.1]; omega)
        rw [← HX.out, e]
        simp [txt]
      go_wp2_with fail
      go_ret
      exact ⟨_, rfl, by rw [← HE.out]; exact HF⟩
end Go.Proofs.Qxb6002364a
