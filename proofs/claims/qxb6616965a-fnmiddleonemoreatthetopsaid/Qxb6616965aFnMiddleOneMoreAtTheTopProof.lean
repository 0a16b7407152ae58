import Derived.Test.Qxb6616965aRows
import Derived.WalkKit
import Derived.ProofKit
import Derived.OpenShut
import Derived.ShutString
import Derived.Test.Qxb6616965aMid
import Derived.WalkSmall
namespace Go.Proofs.Qxb6616965a.fnMiddleOneMoreAtTheTop
open Go.ChangeShapes Go.WideShapes Go.ChangeAt Go.RowKit
open Go.ChangeMaps (open_string shut_string)
set_option linter.unusedVariables false

theorem own : ownKnob Try.prog.godebug = none := by kernel_rfl

set_option maxHeartbeats 400000 in
theorem walk (a0 : Int) (a1 : Int) (w0 : (Lit.int .i64 a0).wf = true) (w1 : (Lit.int .i64 a1).wf = true) (w : World) :
    Calls Try.prog 4 #[.int .i64 a0, .int .i64 a1] w fun e w' => e = .returned (.bool true) ∧ Grown w w' := by
  obtain ⟨l0, u0⟩ := bounds_i64 w0
  obtain ⟨l1, u1⟩ := bounds_i64 w1
  clear w0 w1
  by_cases hlt : ¬ a0 < a1
  · go_enter Try.func4, Try.ntmps4
    go_wp2
    go_ret
    exact ⟨rfl, Grown.refl _⟩
  have hlt' := Classical.not_not.mp hlt
  clear hlt
  by_cases hm : a1 = 9223372036854775807
  · subst hm
    go_enter Try.func4, Try.ntmps4
    go_wp2
    go_ret
    exact ⟨rfl, Grown.refl _⟩
  have hm' : a1 < 9223372036854775807 := by omega
  clear hm
  have d1 : decide (a1 ≤ a0) = false := by simp; omega
  have d2 : (a1 == 9223372036854775807) = false := by simp; omega
  have e1 := mid8 a0 a1 l0 hlt' u1
  have e2 := mid8 a0 (a1 + 1) l0 (by omega) (by omega)
  have b1 : a0 ≤ a0 + (a1 - a0) / 2 := by omega
  have b2 : a0 + (a1 - a0) / 2 ≤ a0 + (a1 + 1 - a0) / 2 := by omega
  have b3 : a0 + (a1 + 1 - a0) / 2 ≤ a1 := by omega
  have p1 := usub (a0 + (a1 - a0) / 2) (a0 + (a1 + 1 - a0) / 2) (by omega) b2 (by omega)
  have p2 := usub a0 a1 l0 (by omega) u1
  go_enter Try.func4, Try.ntmps4
  go_wp2_with fail
  refine (e1 _).mono ?_
  rintro e w' ⟨rfl, rfl⟩
  go_wp2_with fail
  refine (e2 _).mono ?_
  rintro e w' ⟨rfl, rfl⟩
  clear e1 e2
  have q1 : bits BinOp.and IntKind.u64 (a1 - a0) 1 = (a1 - a0) % 2 := and_one_u64 _ (by omega) (by omega)
  have Q : Hid (a0 + (a1 + 1 - a0) / 2 - (a0 + (a1 - a0) / 2) = bits BinOp.and IntKind.u64 (a1 - a0) 1) := by unfold Hid; rw [q1]; omega
  clear q1
  generalize a0 + (a1 - a0) / 2 = m1 at *
  generalize a0 + (a1 + 1 - a0) / 2 = m2 at *
  go_wp2
  go_ret
  exact ⟨ret_b (by rw [Q.out]; exact beq_self_eq_true _), Grown.refl _⟩

set_option maxRecDepth 100000 in
theorem lifted (os : Os) (started : os.Started) (H : Type) (enc : TypeId × Value → H) :
    ReturnsInHanded {} Try.checked os 4 .any (Rows.fnMiddleOneMoreAtTheTopSpec.pre6 enc Try.prog Try.f4 Rows.fnMiddleOneMoreAtTheTopRow.domain false) (Rows.fnMiddleOneMoreAtTheTopSpec.post enc Try.prog Try.f4 false true false false) := by
  refine returnsInHanded_of_change (C := Try.checked) own started (by kernel_rfl) Try.func4
    (ChangeSpec.witness6 (enc := enc) (C := Try.checked) false ⟨#[], #[.int .i64 0, .int .i64 0], []⟩ 8 (by kernel_rfl) (by kernel_rfl) (by kernel_rfl) (by kernel_rfl)) ?_
  intro W base args ds gs before hval0 hW hcnd _
  have hval : ∀ (j : Nat) t v, Try.f4.params[j]? = some t → args[j]? = some v → Value.okWide Try.prog W .any base t v := hval0
  have hW' := hW
  obtain ⟨p, q, hA0, hV, rfl, hfz, hnd⟩ := hW
  have hA : DataW.TrodAll enc Try.prog W 0 (fun _ => true) true Try.f4.params.toList args.toList ds p := hA0
  rw [Try.params4] at hA hval
  obtain ⟨v0, vs0, d0, ds0, p0, q0, hargs, rfl, rfl, h0, r0⟩ := trodAll_cons hA
  obtain ⟨v1, vs1, d1, ds1, p1, q1, rfl, rfl, rfl, h1, r1⟩ := trodAll_cons r0
  obtain ⟨rfl, rfl, rfl⟩ := trodAll_nil r1
  obtain rfl : args = #[v0, v1] := by cases args; simp_all
  obtain ⟨rfl, rfl⟩ := trodVars_none hV
  obtain ⟨a0, rfl, rfl, rfl, w0⟩ := open_int Try.underlying3 (hval 0 3 v0 rfl rfl) h0
  obtain ⟨a1, rfl, rfl, rfl, w1⟩ := open_int Try.underlying3 (hval 1 3 v1 rfl rfl) h1
  clear hA0 hval0
  simp only [List.append_nil] at hW'
  refine (walk a0 a1 w0 w1 W).mono fun e W' ⟨he, hg⟩ => ?_
  subst he
  exact ⟨_, rfl, post_of_same (pa := []) (pv := []) hW' (fun _ _ _ => (trodAll_cons_mk (shut_bool Try.underlying4 _) trodAll_mk0)) (fun sp _ => (trodAll_cons_mk (shut_int Try.underlying3 w0) (trodAll_cons_mk (shut_int Try.underlying3 w1) trodAll_mk0))) (fun _ _ => rfl) rfl
    (hg.frame _) hg.2.1 (ok_one (by kernel_rfl) rfl (okWide_bool_mk Try.underlying4 _))⟩

theorem over : Rows.fnMiddleOneMoreAtTheTopRow.holds Try.pinned (OpenSpec.ofChange Rows.fnMiddleOneMoreAtTheTopSpec) :=
  OpenClaim.holds_of_wide 4 Try.f4 rfl rfl rfl rfl rfl rfl rfl ⟨rfl, rfl, rfl, rfl, rfl⟩ rfl rfl rfl rfl rfl (by kernel_rfl) Try.func4 (by kernel_rfl)
    (of_decide_eq_true (by kernel_rfl)) (by unfold Func.isWrapper; first | (rw [if_pos (by decide +kernel)]; kernel_rfl) | (rw [if_neg (by decide +kernel)]; exact ⟨rfl, rfl⟩))
    (fun os started H enc _ => lifted os started H enc)

theorem proved : Rows.FnMiddleOneMoreAtTheTopSaid :=
  over
end Go.Proofs.Qxb6616965a.fnMiddleOneMoreAtTheTop
namespace Go.Proofs.Qxb6616965a
theorem fnMiddleOneMoreAtTheTopProved : Rows.FnMiddleOneMoreAtTheTopSaid := fnMiddleOneMoreAtTheTop.proved
end Go.Proofs.Qxb6616965a
