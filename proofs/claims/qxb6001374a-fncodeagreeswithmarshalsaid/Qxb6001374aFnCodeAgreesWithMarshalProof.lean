/-
  The proof of 'Rows.FnCodeAgreesWithMarshalSaid', after the shell that the kit's proof-skeleton wrote for this function; the walk is typed by hand.
-/
import Derived.Test.Qxb6001374aRows
import Derived.WalkKit
import Derived.ProofKit
import Derived.OpenShut
import Derived.ShutString
import Derived.Deep.RegionHeld3
import Derived.BigQuiet
import Derived.Test.Qxb6001374aWalks
namespace Go.Proofs.Qxb6001374a.fnCodeAgreesWithMarshal
open Go.ChangeShapes Go.WideShapes Go.ChangeAt Go.RowKit
open Go.ChangeMaps (open_string shut_string)
set_option linter.unusedVariables false

theorem own : ownKnob Try.prog.godebug = none := by kernel_rfl

theorem ret_bool {a b : Bool} (h : a = b) : Ending.returned (.bool a) = .returned (.bool b) := by rw [h]
theorem w64 {a : Int} (l : 0 ≤ a) (u : a ≤ 100000) : IntKind.i64.wrap a = a := by
  rw [IntKind.wrap_i64]
  omega
theorem sum0 {a : Int} (l : 0 ≤ a) (u : a ≤ 255) : (a == IntKind.i64.wrap (IntKind.i64.wrap (128 * IntKind.i64.wrap 0) + IntKind.i64.wrap a)) = true := by
  rw [w64 (a := 0) (by omega) (by omega), w64 l (by omega), w64 (a := 128 * 0) (by omega) (by omega), w64 (by omega) (by omega)]
  simp
theorem sum1 {a : Int} (l : 0 ≤ a) (u : a ≤ 255) : (128 + a == IntKind.i64.wrap (IntKind.i64.wrap (128 * IntKind.i64.wrap 1) + IntKind.i64.wrap a)) = true := by
  rw [w64 (a := 1) (by omega) (by omega), w64 l (by omega), w64 (a := 128 * 1) (by omega) (by omega), w64 (by omega) (by omega)]
  simp
/-! ### The walk: the Go text returns true; the world has at most new blocks. -/
theorem walk (a0 : Bool) (a1 : Int) (w1 : (Lit.int .u8 a1).wf = true) (w : World) :
    Calls Try.prog 5 #[.bool a0, .int .u8 a1] w fun e w' => e = .returned (.bool true) ∧ Grown w w' := by
  obtain ⟨l1, u1⟩ := u8_bounds w1
  clear w1
  cases a0
  · go_enter Try.func5, Try.ntmps5
    go_wp2_with (go_at_call 7; refine (marshal0 _ _).mono ?_; rintro e w' ⟨rfl, rfl⟩)
    go_region_held3 (fun w' => w'.cell? ⟨w.heap.size, 0, none⟩ = some (.bool false) ∧ w'.cell? ⟨w.heap.size, 1, none⟩ = some (.int .u8 a1) ∧ w'.cell? ⟨w.heap.size + 1 + 1, 0, none⟩ = some (.int .u8 0) ∧ w'.cell? ⟨w.heap.size + 1 + 1, 1, none⟩ = some (.int .u8 a1)) ((refine ⟨?_, ?_, ?_, ?_⟩ <;> first | (simp [*, go_sem]; done) | (go_keep; done))) ((go_at_call 10; refine (code0 _ _ l1 u1).mono ?_; rintro e w' ⟨rfl, rfl⟩))
    rename_i hHeld
    clear hHeld
    go_wp2
    go_ret
    exact ⟨ret_bool (by exact sum0 l1 u1), by repeat (first | exact Grown.refl _ | apply Grown.drew | apply Grown.alloc)⟩
  · go_enter Try.func5, Try.ntmps5
    go_wp2_with (go_at_call 7; refine (marshal1 _ _).mono ?_; rintro e w' ⟨rfl, rfl⟩)
    go_region_held3 (fun w' => w'.cell? ⟨w.heap.size, 0, none⟩ = some (.bool true) ∧ w'.cell? ⟨w.heap.size, 1, none⟩ = some (.int .u8 a1) ∧ w'.cell? ⟨w.heap.size + 1 + 1, 0, none⟩ = some (.int .u8 1) ∧ w'.cell? ⟨w.heap.size + 1 + 1, 1, none⟩ = some (.int .u8 a1)) ((refine ⟨?_, ?_, ?_, ?_⟩ <;> first | (simp [*, go_sem]; done) | (go_keep; done))) ((go_at_call 10; refine (code1 _ _ l1 u1).mono ?_; rintro e w' ⟨rfl, rfl⟩))
    rename_i hHeld
    clear hHeld
    go_wp2
    go_ret
    exact ⟨ret_bool (by exact sum1 l1 u1), by repeat (first | exact Grown.refl _ | apply Grown.drew | apply Grown.alloc)⟩

/-! ### The row's step. -/
set_option maxRecDepth 100000 in
theorem lifted (os : Os) (started : os.Started) (H : Type) (enc : TypeId × Value → H) :
    ReturnsInHanded {} Try.checked os 5 .any (Rows.fnCodeAgreesWithMarshalSpec.pre6 enc Try.prog Try.f5 Rows.fnCodeAgreesWithMarshalRow.domain false) (Rows.fnCodeAgreesWithMarshalSpec.post enc Try.prog Try.f5 false true false false) := by
  refine returnsInHanded_of_change (C := Try.checked) own started (by kernel_rfl) Try.func5
    (ChangeSpec.witness6 (enc := enc) (C := Try.checked) false ⟨#[], #[.bool false, .int .u8 0], []⟩ 8 (by kernel_rfl) (by kernel_rfl) (by kernel_rfl) (by kernel_rfl)) ?_
  intro W base args ds gs before hval0 hW hcnd _
  have hval : ∀ (j : Nat) t v, Try.f5.params[j]? = some t → args[j]? = some v → Value.okWide Try.prog W .any base t v := hval0
  have hW' := hW
  obtain ⟨p, q, hA0, hV, rfl, hfz, hnd⟩ := hW
  have hA : DataW.TrodAll enc Try.prog W 0 (fun _ => true) true Try.f5.params.toList args.toList ds p := hA0
  rw [Try.params5] at hA hval
  obtain ⟨v0, vs0, d0, ds0, p0, q0, hargs, rfl, rfl, h0, r0⟩ := trodAll_cons hA
  obtain ⟨v1, vs1, d1, ds1, p1, q1, rfl, rfl, rfl, h1, r1⟩ := trodAll_cons r0
  obtain ⟨rfl, rfl, rfl⟩ := trodAll_nil r1
  obtain rfl : args = #[v0, v1] := by cases args; simp_all
  obtain ⟨rfl, rfl⟩ := trodVars_none hV
  obtain ⟨a0, rfl, rfl, rfl⟩ := open_bool Try.underlying4 (hval 0 4 v0 rfl rfl) h0
  obtain ⟨a1, rfl, rfl, rfl, w1⟩ := open_int Try.underlying5 (hval 1 5 v1 rfl rfl) h1
  clear hA0 hval0
  simp only [List.append_nil] at hW'
  refine (walk a0 a1 w1 W).mono fun e W' ⟨he, hg⟩ => ?_
  subst he
  exact ⟨_, rfl, post_of_same (pa := []) (pv := []) hW' (fun _ _ _ => (trodAll_cons_mk (shut_bool Try.underlying4 _) trodAll_mk0)) (fun sp _ => (trodAll_cons_mk (shut_bool Try.underlying4 _) (trodAll_cons_mk (shut_int Try.underlying5 w1) trodAll_mk0))) (fun _ _ => rfl) rfl
    (hg.frame _) hg.2.1 (ok_one (by kernel_rfl) rfl (okWide_bool_mk Try.underlying4 _))⟩

theorem over : Rows.fnCodeAgreesWithMarshalRow.holds Try.pinned (OpenSpec.ofChange Rows.fnCodeAgreesWithMarshalSpec) :=
  OpenClaim.holds_of_wide 5 Try.f5 rfl rfl rfl rfl rfl rfl rfl ⟨rfl, rfl, rfl, rfl, rfl⟩ rfl rfl rfl rfl rfl (by kernel_rfl) Try.func5 (by kernel_rfl)
    (of_decide_eq_true (by kernel_rfl)) (by unfold Func.isWrapper; first | (rw [if_pos (by decide +kernel)]; kernel_rfl) | (rw [if_neg (by decide +kernel)]; exact ⟨rfl, rfl⟩))
    (fun os started H enc _ => lifted os started H enc)

/-- The statement. -/
theorem proved : Rows.FnCodeAgreesWithMarshalSaid :=
  over
end Go.Proofs.Qxb6001374a.fnCodeAgreesWithMarshal
