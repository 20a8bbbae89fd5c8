/-
  FnListStopsAtFirstRefusedItem: the walk of the law.
-/
import Derived.Test.Qxb6002364aPrep
namespace Go.Proofs.Qxb6002364a.StopsAt
open Go.RowKit

theorem tot_mono (ws : List ByteArray) : ∀ k n, k ≤ n → n ≤ ws.length → tot ws k ≤ tot ws n
  | k, 0, h, _ => by obtain rfl : k = 0 := by omega
                     exact Nat.le_refl _
  | k, n + 1, h, hn => by
    by_cases e : k = n + 1
    · subst e; exact Nat.le_refl _
    · have := tot_mono ws k n (by omega) (by omega)
      rw [tot_succ ws n (by omega)]
      omega

/-- A word that is not empty and all upper case. -/
def good (s : ByteArray) : Prop := s.toList.isEmpty = false ∧ allUp s = true

theorem getD_some (ws : List ByteArray) (j : Nat) (h : j < ws.length) : ws[j]? = some (ws.getD j ByteArray.empty) := by
  rw [List.getD_eq_getElem?_getD, List.getElem?_eq_getElem h]
  rfl

theorem good_one {s : ByteArray} (h : good s) : s.data.toList ≠ [] ∧ ∀ c ∈ s.data.toList, isUp c = true := by
  obtain ⟨g1, g2⟩ := h
  refine ⟨fun e => ?_, fun c hc => ?_⟩
  · rw [ByteArray.toList_eq, e] at g1
    simp at g1
  · unfold allUp at g2
    exact List.all_eq_true.1 g2 c hc

theorem good_take (ws : List ByteArray) (F : Nat) (hF : F ≤ ws.length) (h : ∀ j, j < F → good (ws.getD j ByteArray.empty)) : ∀ u ∈ (ws.take F).map (·.data.toList), u ≠ [] ∧ ∀ c ∈ u, isUp c = true := by
  intro u hu
  obtain ⟨s, hs, rfl⟩ := List.mem_map.1 hu
  obtain ⟨j, hj⟩ := List.getElem?_of_mem hs
  have hjl := (List.getElem?_eq_some_iff.1 hj).1
  rw [List.length_take] at hjl
  rw [List.getElem?_take, if_pos (by omega), getD_some ws j (by omega)] at hj
  injection hj with hj
  rw [← hj]
  exact good_one (h j (by omega))

/-- The words about the first empty one. -/
theorem split_at (ws : List ByteArray) (F : Nat) (hF : F < ws.length) (he : (ws.getD F ByteArray.empty).toList.isEmpty = true) :
    ws.map (·.data.toList) = (ws.take F).map (·.data.toList) ++ [] :: (ws.drop (F + 1)).map (·.data.toList) := by
  have e1 : ws = ws.take F ++ ws.getD F ByteArray.empty :: ws.drop (F + 1) := by
    have e2 : ws.drop F = ws.getD F ByteArray.empty :: ws.drop (F + 1) := by
      rw [List.drop_eq_getElem_cons hF, List.getD_eq_getElem?_getD, List.getElem?_eq_getElem hF]
      rfl
    rw [← e2, List.take_append_drop]
  have e3 : (ws.getD F ByteArray.empty).data.toList = [] := by
    rw [ByteArray.toList_eq] at he
    simpa using he
  have e4 := congrArg (List.map fun s : ByteArray => s.data.toList) e1
  rw [List.map_append, List.map_cons, e3] at e4
  exact e4

set_option maxHeartbeats 4000000 in
theorem law5 (ao : Option Addr) (n cap : Nat) (ws : List ByteArray) (po : Option Addr) (m pc : Nat) (zs : List Int) (w : World) (hl : SL w ao n ws) (hp : IL w po m zs) (hn : n ≤ maxLen) (hm : m ≤ maxLen) (hs : ∀ s ∈ ws, s.size ≤ maxLen) :
    Calls Try.prog 5 #[.slice ao n cap, .slice po m pc] w fun e w' => e = .returned (.bool true) ∧ Below w.heap.size w w' := by
  obtain ⟨i9, hi9, iz9, is9, ib9⟩ := info_parts Try.info9
  obtain ⟨i5, hi5, iz5, is5, ib5⟩ := info_parts Try.info5
  go_enter Try.func5, Try.ntmps5
  go_wp2_with fail
  refine (zz17 ao n cap ws po m pc _ hl hn hm hs).mono ?_
  rintro e w' ⟨hw, hor⟩
  have hw2 := hw.symm
  subst hw2
  clear hw
  unfold maxLen at hn hm
  rcases hor with rfl | ⟨rfl, hbd⟩
  · go_wp2_with fail
    go_ret
    exact ⟨rfl, Below.refl _ _⟩
  have hmono : ∀ k, k ≤ n → tot ws k ≤ 1048576 := fun k hk => by have := tot_mono ws k n hk (by rw [hl.1]; exact Nat.le_refl _); omega
  by_cases h0 : n = 0
  · subst h0
    go_wp2_with fail
    go_ret
    exact ⟨rfl, Below.refl _ _⟩
  have h0b : ((n : Int) == 0) = false := by rw [beq_eq_false_iff_ne]; omega
  by_cases h1 : 4096 < n
  · go_wp2_with fail
    go_ret
    exact ⟨rfl, Below.refl _ _⟩
  by_cases h2 : 8192 < m
  · go_wp2_with fail
    go_ret
    exact ⟨rfl, Below.refl _ _⟩
  have h1b : decide ((4096 : Int) < (n : Int)) = false := by simp; omega
  have h2b : decide ((8192 : Int) < (m : Int)) = false := by simp; omega
  go_wp2_with fail
  refine (bytes13 ao n cap ws po m pc zs _ hl hp (by omega) (by omega) (by omega) hmono).mono ?_
  rintro e w' ⟨hw, rfl⟩
  have hw2 := hw.symm
  subst hw2
  clear hw
  generalize hV : m + psum zs m + tot ws n + 8 * n = V at *
  by_cases h3 : 1048576 < V
  · go_wp2_with fail
    go_ret
    exact ⟨rfl, Below.refl _ _⟩
  have h3b : decide ((1048576 : Int) < (V : Int)) = false := by simp; omega
  have HM : Hid _ := hmono
  have HV : Hid _ := hV
  clear hmono hV
  go_wp2_with fail
  go_loop [5, 6] (fun t i => ∃ k : Nat, k ≤ n ∧ i = .int .i64 k ∧ ((t = .int .i64 (-1) ∧ Hid (∀ j, j < k → good (ws.getD j ByteArray.empty))) ∨
      ∃ F : Nat, F < k ∧ t = .int .i64 F ∧ Hid ((∀ j, j < F → good (ws.getD j ByteArray.empty)) ∧ (ws.getD F ByteArray.empty).toList.isEmpty = true))) (fun _ i => n - (intOf i).toNat)
  case atStart => exact ⟨0, Nat.zero_le _, rfl, .inl ⟨rfl, fun j hj => absurd hj (by omega)⟩⟩
  case round =>
    obtain ⟨k, hk, rfl, hmode⟩ := hrel
    by_cases hlt : k < n
    · obtain ⟨bb, off, rfl, hb, hc⟩ := hl.2 (by omega)
      have hck := hc k hlt
      have hsz : (ws.getD k ByteArray.empty).size ≤ 1048576 := by
        have := HM.out (k + 1) (by omega)
        rw [tot_succ ws k (by rw [hl.1]; exact hlt)] at this
        omega
      clear hc
      rcases hmode with ⟨rfl, HG⟩ | ⟨F, hFk, rfl, HG⟩
      · have HGS : Hid (good (ws.getD k ByteArray.empty) → ∀ j, j < k + 1 → good (ws.getD j ByteArray.empty)) := by
          intro hg j hj
          by_cases e : j = k
          · subst e; exact hg
          · exact HG.out j (by omega)
        have HE : Hid ((ws.getD k ByteArray.empty).toList.isEmpty = true → (∀ j, j < k → good (ws.getD j ByteArray.empty)) ∧ (ws.getD k ByteArray.empty).toList.isEmpty = true) := fun h => ⟨HG.out, h⟩
        generalize hsk : ws.getD k ByteArray.empty = s at *
        have HSK : Hid _ := hsk
        clear hsk
        cases hu : allUp s
        · go_wp2_with (go_at_call 14; refine (upper14 s _ hsz).mono ?_; rintro e w' ⟨rfl, hw⟩; have hw2 := hw.symm; subst hw2; rw [hu])
          go_ret
          exact ⟨rfl, Below.refl _ _⟩
        · cases he : s.toList.isEmpty
          · go_wp2_with (go_at_call 14; refine (upper14 s _ hsz).mono ?_; rintro e w' ⟨rfl, hw⟩; have hw2 := hw.symm; subst hw2; rw [hu])
            go_round
            case rel => exact ⟨k + 1, by omega, vint (by omega), .inl ⟨rfl, HGS.out ⟨he, hu⟩⟩⟩
            case measure => simp [intOf]; omega
          · go_wp2_with (go_at_call 14; refine (upper14 s _ hsz).mono ?_; rintro e w' ⟨rfl, hw⟩; have hw2 := hw.symm; subst hw2; rw [hu])
            go_round
            case rel => exact ⟨k + 1, by omega, vint (by omega), .inr ⟨k, by omega, rfl, by rw [HSK.out]; exact HE.out he⟩⟩
            case measure => simp [intOf]; omega
      · have hF0 : ¬ (F : Int) < 0 := by omega
        generalize ws.getD k ByteArray.empty = s at hck hsz
        cases hu : allUp s
        · go_wp2_with (go_at_call 14; refine (upper14 s _ hsz).mono ?_; rintro e w' ⟨rfl, hw⟩; have hw2 := hw.symm; subst hw2; rw [hu])
          go_ret
          exact ⟨rfl, Below.refl _ _⟩
        · go_wp2_with (go_at_call 14; refine (upper14 s _ hsz).mono ?_; rintro e w' ⟨rfl, hw⟩; have hw2 := hw.symm; subst hw2; rw [hu])
          go_round
          case rel => exact ⟨k + 1, by omega, vint (by omega), .inr ⟨F, by omega, rfl, HG⟩⟩
          case measure => simp [intOf]; omega
    · obtain rfl : n = k := by omega
      rcases hmode with ⟨rfl, HG⟩ | ⟨F, hFn, rfl, HG⟩
      · go_wp2_with fail
        go_ret
        exact ⟨rfl, Below.refl _ _⟩
      have hF0 : decide ((F : Int) < 0) = false := by simp
      go_wp2_with (at_make; refine wpList_make_full _ rfl _ _ 37 rfl w.heap.size 9 i9 _ 1 Try.underlying37 hi9 iz9 is9 _ _ _ _ n rfl rfl rfl rfl (by rw [ib9]; omega) (by unfold maxLen; omega) (Nat.le_refl _) ?_; intro w1 hown1 hgrow1)
      have hb1 := (Below.refl w.heap.size w).grown hgrow1 (Nat.le_refl _) (fun k hk => by cases hk)
      obtain ⟨w2, hrun, HG2, HB2⟩ := run_copy_made 37 3 9 Try.underlying37 Try.size9 w.heap.size n ao cap (ws.map Value.string) (by rw [List.length_map]; exact hl.1) (SL_src hl hb1) (strs_one ws) w.heap.size w hb1 (Nat.le_refl _) _ _ hown1
      rw [hrun]
      clear hrun hown1 hgrow1 hb1
      have hlt2 := (Array.getElem?_eq_some_iff.1 HG2.out).1
      go_wp2_with (at_make; refine wpList_make_full _ rfl _ _ 22 rfl w2.heap.size 5 i5 _ 1 Try.underlying22 hi5 iz5 is5 _ _ _ _ m rfl rfl rfl rfl (by rw [ib5]; omega) (by unfold maxLen; omega) (Nat.le_refl _) ?_; intro w3 hown3 hgrow3)
      have hb3 := (Below.refl w2.heap.size w2).grown hgrow3 (Nat.le_refl _) (fun k hk => by cases hk)
      obtain ⟨w4, hrun, HG4, HB4⟩ := run_copy_made 22 3 5 Try.underlying22 Try.size5 w2.heap.size m po pc (zs.map (Value.int .u8)) (by rw [List.length_map]; exact hp.1) (IL_src hp (HB2.out.trans (hb3.mono (by omega)))) (ints_one zs) w2.heap.size w2 hb3 (Nat.le_refl _) _ _ hown3
      rw [hrun]
      clear hrun hown3 hgrow3 hb3
      go_wp2_with fail
      have g4 : w4.heap[w.heap.size]? = some (.cells (ws.map Value.string).toArray 9 (0, 0)) := (HB4.out.block _ hlt2).trans HG2.out
      have sl4 := SL_row hl.1 g4
      have il4 := IL_row hp.1 hp.2.1 HG4.out
      have hlt4 := (Array.getElem?_eq_some_iff.1 HG4.out).1
      have hB4 := HB2.out.trans (HB4.out.mono (Nat.le_of_lt hlt2))
      obtain ⟨TX, hTX⟩ : ∃ TX, txt (padOf zs) 0 (ws.map (·.data.toList)) = TX := ⟨_, rfl⟩
      have hTXl : TX.length ≤ 3141632 := by rw [← hTX]; exact text_le zs hp.2.1 ws n hl.1 (by omega) (by omega)
      refine (text15 _ n n ws _ m m zs _ sl4 il4 (by omega) (by omega) (fun a ha => by cases ha; exact hlt4) TX hTX (by omega)).mono ?_
      rintro e w5 ⟨v, rfl, hF⟩
      have HF : Hid _ := hF
      have HTX : Hid _ := hTX
      have H4 : Hid _ := g4
      have HB : Hid _ := hB4
      clear hF hTX g4 hB4 HG2 HB2 HG4 HB4 il4
      obtain ⟨T, hTd⟩ : ∃ T : ByteArray, T = ⟨TX.toArray⟩ := ⟨_, rfl⟩
      have hTl : T.data.toList = TX := by rw [hTd]
      have hTs : T.size = TX.length := by
        have : T.size = T.data.toList.length := by simp
        rw [this, hTl]
      have hconv := conv_bytes HF.out
      rw [← hTd] at hconv
      have HTl : Hid _ := hTl
      have hbN := HF.out.hB
      clear hTd hTl
      go_wp2_with fail
      clear hconv
      have hAt : At w5.heap.size T 0 (w5.alloc (.cells #[.string T, .int .i64 0] 44)) := ⟨by simp [go_sem], by simp [go_sem], World.frozen?_alloc_at _ _ _ _ rfl⟩
      refine (read_any w5.heap.size (T.size + 5000) T _ (by omega) hAt (by simp) (by omega)).mono ?_
      rintro e w7 ⟨q, gv, ys, hA7, hq7, hown7, hb7, hys, hor⟩
      have hsc := scan_bad (padOf zs) ((ws.take F).map (·.data.toList)) ((ws.drop (F + 1)).map (·.data.toList)) 0 (T.size + 5000) (good_take ws F (by rw [hl.1]; omega) HG.out.1) (by rw [List.length_map, List.length_take, hl.1]; omega)
      rw [← split_at ws F (by rw [hl.1]; omega) HG.out.2, HTX.out, ← HTl.out] at hsc
      rw [hsc.2] at hys
      have hyl : ys = ws.take F := bytes_inj_map ys (ws.take F) hys
      subst hyl
      rcases hor with ⟨hff, _⟩ | ⟨_, ea, rfl⟩
      · rw [hsc.1] at hff
        exact absurd hff (by simp)
      have hFl : (ws.take F).length = F := by rw [List.length_take, hl.1]; omega
      rw [hFl] at hown7
      have hform : ∃ go capg, gv = .slice go F capg ∧ (0 < F → ∃ gg, go = some ⟨gg, 0, none⟩) := by
        rcases hown7.2 with ⟨hv, e0⟩ | ⟨g, cap, _, hv, _⟩
        · exact ⟨none, 0, by rw [hv, e0], fun h => absurd h (by omega)⟩
        · exact ⟨some ⟨g, 0, none⟩, cap, hv, fun _ => ⟨g, rfl⟩⟩
      obtain ⟨go, capg, rfl, hgo⟩ := hform
      have bel7 : Below w4.heap.size w4 w7 := (HF.out.bel.alloc hbN _).trans (hb7.mono hbN)
      have hww4 : w.heap.size < w4.heap.size := (Array.getElem?_eq_some_iff.1 H4.out).1
      have HC1 : Hid (∀ j, j < F → w7.cell? ⟨w.heap.size, j, none⟩ = some (.string (ws.getD j ByteArray.empty))) := by
        intro j hj
        rw [cell_of_row w7 _ j _ _ _ ((bel7.block _ hww4).trans H4.out), List.getElem?_toArray, List.getElem?_map, getD_some ws j (by rw [hl.1]; omega)]
        rfl
      have HC2 : Hid (∀ gg, go = some ⟨gg, 0, none⟩ → ∀ j, j < F → w7.cell? ⟨gg, j, none⟩ = some (.string (ws.getD j ByteArray.empty))) := by
        intro gg hgg j hj
        subst hgg
        have := hown7.cells (g := gg) rfl j (.string (ws.getD j ByteArray.empty)) (by
          rw [List.getElem?_map, List.getElem?_take, if_pos hj, getD_some ws j (by rw [hl.1]; omega)]
          rfl)
        rwa [Addr.add_lit, Nat.zero_add] at this
      have HBF : Hid (Below w.heap.size w w7) := HB.out.trans (bel7.mono (Nat.le_of_lt hww4))
      have HGO : Hid _ := hgo
      clear hA7 hq7 hown7 hb7 hys hsc bel7 hAt hFl hgo
      go_wp2_with fail
      go_loopw [12] (fun i wr => ∃ k : Nat, k ≤ F ∧ i = .int .i64 k ∧ ∃ d, wr = w7.drewN d) (fun i _ => F - (intOf i).toNat)
      case atStart => exact ⟨0, Nat.zero_le _, rfl, 0, rfl⟩
      case round =>
        obtain ⟨k, hk, rfl, d, rfl⟩ := hrel
        by_cases hlt : k < F
        · obtain ⟨gg, rfl⟩ := HGO.out (by omega)
          have hc1 := HC1.out k hlt
          have hc2 := HC2.out gg rfl k hlt
          generalize ws.getD k ByteArray.empty = s at hc1 hc2
          go_wp2_with fail
          go_quiet (fail)
          go_wp2_with fail
          exact ⟨⟨k + 1, by omega, vint (by omega), _, rfl⟩, by simp [intOf]; omega⟩
        · go_wp2_with fail
          go_ret
          exact ⟨rfl, belowN HBF.out _⟩
end Go.Proofs.Qxb6002364a.StopsAt
