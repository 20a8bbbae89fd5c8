/-
  The proof of 'Rows.FnMarshalInjectiveSaid', after the shell that the kit's proof-skeleton wrote for this function; the walk is typed by hand.
-/
import Derived.Test.Qxb6001374aRows
import Derived.WalkKit
import Derived.ProofKit
import Derived.OpenShut
import Derived.ShutString
import Derived.Deep.RegionWith
import Derived.Test.Qxb6001374aSame
namespace Go.Proofs.Qxb6001374a.fnMarshalInjective
open Go.ChangeShapes Go.WideShapes Go.ChangeAt Go.RowKit
open Go.ChangeMaps (open_string shut_string)
set_option linter.unusedVariables false

theorem own : ownKnob Try.prog.godebug = none := by kernel_rfl

theorem grown_drewN {w w' : World} (h : Grown w w') (n : Nat) : Grown w (w'.drewN n) := by
  induction n with
  | zero => exact h
  | succ n ih => rw [← World.drew_drewN]; exact Grown.drew ih

/-! ### The walk: the Go text returns true; the world has at most new blocks. -/
set_option maxHeartbeats 2000000 in
theorem walk (a0 : Bool) (a1 : Int) (a2 : Bool) (a3 : Int) (w1 : (Lit.int .u8 a1).wf = true) (w3 : (Lit.int .u8 a3).wf = true) (w : World) :
    Calls Try.prog 4 #[.bool a0, .int .u8 a1, .bool a2, .int .u8 a3] w fun e w' => e = .returned (.bool true) ∧ Grown w w' := by
  clear w1 w3
  by_cases h : a1 = a3
  · subst h
    cases a0 <;> cases a2
    · go_enter Try.func4, Try.ntmps4
      go_wp2_with (first
        | (go_at_call_of 7 (Value.agg #[Value.bool false, Value.int IntKind.u8 a1]); refine (marshal0 _ _).mono ?_; rintro e w' ⟨rfl, rfl⟩)
        | (go_at_call_of 7 (Value.agg #[Value.bool false, Value.int IntKind.u8 a1]); refine (marshal0 _ _).mono ?_; rintro e w' ⟨rfl, rfl⟩))
      go_quiet ((go_at_call 9; exact Calls.quiet_of (same _ _ 0 a1 0 a1 _ (by simp [go_sem]) (by simp [go_sem]) (by simp [go_sem]) (by simp [go_sem]))))
      go_wp2
      go_ret
      exact ⟨rfl, by repeat (first | exact Grown.refl _ | apply Grown.drew | apply grown_drewN | apply Grown.alloc)⟩
    · go_enter Try.func4, Try.ntmps4
      go_wp2_with (first
        | (go_at_call_of 7 (Value.agg #[Value.bool false, Value.int IntKind.u8 a1]); refine (marshal0 _ _).mono ?_; rintro e w' ⟨rfl, rfl⟩)
        | (go_at_call_of 7 (Value.agg #[Value.bool true, Value.int IntKind.u8 a1]); refine (marshal1 _ _).mono ?_; rintro e w' ⟨rfl, rfl⟩))
      go_quiet ((go_at_call 9; exact Calls.quiet_of (same _ _ 0 a1 1 a1 _ (by simp [go_sem]) (by simp [go_sem]) (by simp [go_sem]) (by simp [go_sem]))))
      go_wp2
      go_ret
      exact ⟨rfl, by repeat (first | exact Grown.refl _ | apply Grown.drew | apply grown_drewN | apply Grown.alloc)⟩
    · go_enter Try.func4, Try.ntmps4
      go_wp2_with (first
        | (go_at_call_of 7 (Value.agg #[Value.bool true, Value.int IntKind.u8 a1]); refine (marshal1 _ _).mono ?_; rintro e w' ⟨rfl, rfl⟩)
        | (go_at_call_of 7 (Value.agg #[Value.bool false, Value.int IntKind.u8 a1]); refine (marshal0 _ _).mono ?_; rintro e w' ⟨rfl, rfl⟩))
      go_quiet ((go_at_call 9; exact Calls.quiet_of (same _ _ 1 a1 0 a1 _ (by simp [go_sem]) (by simp [go_sem]) (by simp [go_sem]) (by simp [go_sem]))))
      go_wp2
      go_ret
      exact ⟨rfl, by repeat (first | exact Grown.refl _ | apply Grown.drew | apply grown_drewN | apply Grown.alloc)⟩
    · go_enter Try.func4, Try.ntmps4
      go_wp2_with (first
        | (go_at_call_of 7 (Value.agg #[Value.bool true, Value.int IntKind.u8 a1]); refine (marshal1 _ _).mono ?_; rintro e w' ⟨rfl, rfl⟩)
        | (go_at_call_of 7 (Value.agg #[Value.bool true, Value.int IntKind.u8 a1]); refine (marshal1 _ _).mono ?_; rintro e w' ⟨rfl, rfl⟩))
      go_quiet ((go_at_call 9; exact Calls.quiet_of (same _ _ 1 a1 1 a1 _ (by simp [go_sem]) (by simp [go_sem]) (by simp [go_sem]) (by simp [go_sem]))))
      go_wp2
      go_ret
      exact ⟨rfl, by repeat (first | exact Grown.refl _ | apply Grown.drew | apply grown_drewN | apply Grown.alloc)⟩
  · have hne : (a1 == a3) = false := by simp [h]
    clear h
    cases a0 <;> cases a2
    · go_enter Try.func4, Try.ntmps4
      go_wp2_with (first
        | (go_at_call_of 7 (Value.agg #[Value.bool false, Value.int IntKind.u8 a1]); refine (marshal0 _ _).mono ?_; rintro e w' ⟨rfl, rfl⟩)
        | (go_at_call_of 7 (Value.agg #[Value.bool false, Value.int IntKind.u8 a3]); refine (marshal0 _ _).mono ?_; rintro e w' ⟨rfl, rfl⟩))
      go_quiet ((go_at_call 9; exact Calls.quiet_of (same _ _ 0 a1 0 a3 _ (by simp [go_sem]) (by simp [go_sem]) (by simp [go_sem]) (by simp [go_sem]))))
      go_wp2
      go_ret
      exact ⟨rfl, by repeat (first | exact Grown.refl _ | apply Grown.drew | apply grown_drewN | apply Grown.alloc)⟩
    · go_enter Try.func4, Try.ntmps4
      go_wp2_with (first
        | (go_at_call_of 7 (Value.agg #[Value.bool false, Value.int IntKind.u8 a1]); refine (marshal0 _ _).mono ?_; rintro e w' ⟨rfl, rfl⟩)
        | (go_at_call_of 7 (Value.agg #[Value.bool true, Value.int IntKind.u8 a3]); refine (marshal1 _ _).mono ?_; rintro e w' ⟨rfl, rfl⟩))
      go_quiet ((go_at_call 9; exact Calls.quiet_of (same _ _ 0 a1 1 a3 _ (by simp [go_sem]) (by simp [go_sem]) (by simp [go_sem]) (by simp [go_sem]))))
      go_wp2
      go_ret
      exact ⟨rfl, by repeat (first | exact Grown.refl _ | apply Grown.drew | apply grown_drewN | apply Grown.alloc)⟩
    · go_enter Try.func4, Try.ntmps4
      go_wp2_with (first
        | (go_at_call_of 7 (Value.agg #[Value.bool true, Value.int IntKind.u8 a1]); refine (marshal1 _ _).mono ?_; rintro e w' ⟨rfl, rfl⟩)
        | (go_at_call_of 7 (Value.agg #[Value.bool false, Value.int IntKind.u8 a3]); refine (marshal0 _ _).mono ?_; rintro e w' ⟨rfl, rfl⟩))
      go_quiet ((go_at_call 9; exact Calls.quiet_of (same _ _ 1 a1 0 a3 _ (by simp [go_sem]) (by simp [go_sem]) (by simp [go_sem]) (by simp [go_sem]))))
      go_wp2
      go_ret
      exact ⟨rfl, by repeat (first | exact Grown.refl _ | apply Grown.drew | apply grown_drewN | apply Grown.alloc)⟩
    · go_enter Try.func4, Try.ntmps4
      go_wp2_with (first
        | (go_at_call_of 7 (Value.agg #[Value.bool true, Value.int IntKind.u8 a1]); refine (marshal1 _ _).mono ?_; rintro e w' ⟨rfl, rfl⟩)
        | (go_at_call_of 7 (Value.agg #[Value.bool true, Value.int IntKind.u8 a3]); refine (marshal1 _ _).mono ?_; rintro e w' ⟨rfl, rfl⟩))
      go_quiet ((go_at_call 9; exact Calls.quiet_of (same _ _ 1 a1 1 a3 _ (by simp [go_sem]) (by simp [go_sem]) (by simp [go_sem]) (by simp [go_sem]))))
      go_wp2
      go_ret
      exact ⟨rfl, by repeat (first | exact Grown.refl _ | apply Grown.drew | apply grown_drewN | apply Grown.alloc)⟩

/-! ### The row's step. -/
set_option maxRecDepth 100000 in
theorem lifted (os : Os) (started : os.Started) (H : Type) (enc : TypeId × Value → H) :
    ReturnsInHanded {} Try.checked os 4 .any (Rows.fnMarshalInjectiveSpec.pre6 enc Try.prog Try.f4 Rows.fnMarshalInjectiveRow.domain false) (Rows.fnMarshalInjectiveSpec.post enc Try.prog Try.f4 false true false false) := by
  refine returnsInHanded_of_change (C := Try.checked) own started (by kernel_rfl) Try.func4
    (ChangeSpec.witness6 (enc := enc) (C := Try.checked) false ⟨#[], #[.bool false, .int .u8 0, .bool false, .int .u8 0], []⟩ 8 (by kernel_rfl) (by kernel_rfl) (by kernel_rfl) (by kernel_rfl)) ?_
  intro W base args ds gs before hval0 hW hcnd _
  have hval : ∀ (j : Nat) t v, Try.f4.params[j]? = some t → args[j]? = some v → Value.okWide Try.prog W .any base t v := hval0
  have hW' := hW
  obtain ⟨p, q, hA0, hV, rfl, hfz, hnd⟩ := hW
  have hA : DataW.TrodAll enc Try.prog W 0 (fun _ => true) true Try.f4.params.toList args.toList ds p := hA0
  rw [Try.params4] at hA hval
  obtain ⟨v0, vs0, d0, ds0, p0, q0, hargs, rfl, rfl, h0, r0⟩ := trodAll_cons hA
  obtain ⟨v1, vs1, d1, ds1, p1, q1, rfl, rfl, rfl, h1, r1⟩ := trodAll_cons r0
  obtain ⟨v2, vs2, d2, ds2, p2, q2, rfl, rfl, rfl, h2, r2⟩ := trodAll_cons r1
  obtain ⟨v3, vs3, d3, ds3, p3, q3, rfl, rfl, rfl, h3, r3⟩ := trodAll_cons r2
  obtain ⟨rfl, rfl, rfl⟩ := trodAll_nil r3
  obtain rfl : args = #[v0, v1, v2, v3] := by cases args; simp_all
  obtain ⟨rfl, rfl⟩ := trodVars_none hV
  obtain ⟨a0, rfl, rfl, rfl⟩ := open_bool Try.underlying4 (hval 0 4 v0 rfl rfl) h0
  obtain ⟨a1, rfl, rfl, rfl, w1⟩ := open_int Try.underlying5 (hval 1 5 v1 rfl rfl) h1
  obtain ⟨a2, rfl, rfl, rfl⟩ := open_bool Try.underlying4 (hval 2 4 v2 rfl rfl) h2
  obtain ⟨a3, rfl, rfl, rfl, w3⟩ := open_int Try.underlying5 (hval 3 5 v3 rfl rfl) h3
  clear hA0 hval0
  simp only [List.append_nil] at hW'
  refine (walk a0 a1 a2 a3 w1 w3 W).mono fun e W' ⟨he, hg⟩ => ?_
  subst he
  exact ⟨_, rfl, post_of_same (pa := []) (pv := []) hW' (fun _ _ _ => (trodAll_cons_mk (shut_bool Try.underlying4 _) trodAll_mk0)) (fun sp _ => (trodAll_cons_mk (shut_bool Try.underlying4 _) (trodAll_cons_mk (shut_int Try.underlying5 w1) (trodAll_cons_mk (shut_bool Try.underlying4 _) (trodAll_cons_mk (shut_int Try.underlying5 w3) trodAll_mk0))))) (fun _ _ => rfl) rfl
    (hg.frame _) hg.2.1 (ok_one (by kernel_rfl) rfl (okWide_bool_mk Try.underlying4 _))⟩

theorem over : Rows.fnMarshalInjectiveRow.holds Try.pinned (OpenSpec.ofChange Rows.fnMarshalInjectiveSpec) :=
  OpenClaim.holds_of_wide 4 Try.f4 rfl rfl rfl rfl rfl rfl rfl ⟨rfl, rfl, rfl, rfl, rfl⟩ rfl rfl rfl rfl rfl (by kernel_rfl) Try.func4 (by kernel_rfl)
    (of_decide_eq_true (by kernel_rfl)) (by unfold Func.isWrapper; first | (rw [if_pos (by decide +kernel)]; kernel_rfl) | (rw [if_neg (by decide +kernel)]; exact ⟨rfl, rfl⟩))
    (fun os started H enc _ => lifted os started H enc)

/-- The statement. -/
theorem proved : Rows.FnMarshalInjectiveSaid :=
  over
end Go.Proofs.Qxb6001374a.fnMarshalInjective
