import Derived.Test.Qxb6616907aRows
import Derived.WalkKit
import Derived.ProofKit
import Derived.OpenShut
import Derived.ShutString
import Derived.Deep.QuietTactic
import Derived.BigQuiet
import Derived.LaidEqlPtr
namespace Go.Proofs.Qxb6616907a.fnNewLexerFreshAndUnshared
open Go.ChangeShapes Go.WideShapes Go.ChangeAt Go.RowKit
open Go.ChangeMaps (open_string shut_string)
set_option linter.unusedVariables false

theorem own : ownKnob Try.prog.godebug = none := by kernel_rfl

set_option maxHeartbeats 400000 in
theorem bytes_any (a0 : ByteArray) (w0 : a0.size ≤ maxLen) (w : World) :
    Calls Try.prog 8 #[.string a0] w fun e w' => (∃ b, e = .returned (.bool b)) ∧ w' = w := by
  unfold maxLen at w0
  go_enter Try.func8, Try.ntmps8
  go_wp2
  all_goals
    go_ret
    exact ⟨⟨_, rfl⟩, rfl⟩

set_option maxHeartbeats 400000 in
theorem new_any (a0 : ByteArray) (w : World) :
    Calls Try.prog 9 #[.string a0] w fun e w' => e = .returned (.pointer (some ⟨w.heap.size, 0, none⟩)) ∧ w' = w.alloc (.cells #[.string a0, .int .i64 0, .int .i64 1, .int .i64 1] 41) := by
  go_enter Try.func9, Try.ntmps9
  go_wp2
  go_ret
  exact ⟨rfl, rfl⟩

set_option maxHeartbeats 400000 in
theorem state_any (a0 : ByteArray) (b : Nat) (w : World) (h0 : w.cell? ⟨b, 0, none⟩ = some (.string a0)) (h1 : w.cell? ⟨b, 1, none⟩ = some (.int .i64 0)) (h2 : w.cell? ⟨b, 2, none⟩ = some (.int .i64 1)) (h3 : w.cell? ⟨b, 3, none⟩ = some (.int .i64 1)) :
    Calls Try.prog 10 #[.pointer (some ⟨b, 0, none⟩)] w fun e w' => e = .returned (.tuple #[.string a0, .int .i64 0, .int .i64 1, .int .i64 1]) ∧ ∃ n, w' = w.drewN n := by
  go_enter Try.func10, Try.ntmps10
  go_wp2
  go_quiet (fail)
  go_wp2
  exact bodyPost_ret (v := .tuple #[.string a0, .int .i64 0, .int .i64 1, .int .i64 1]) (by simp [results, Try.results10, go_sem]) rfl ⟨rfl, _, rfl⟩

set_option maxHeartbeats 400000 in
theorem unread_any (a0 : ByteArray) (w0 : a0.size ≤ maxLen) (w : World) :
    Calls Try.prog 11 #[.string a0, .int .i64 0] w fun e w' => e = .returned (.tuple #[.string a0, .bool true]) ∧ w' = w := by
  unfold maxLen at w0
  go_enter Try.func11, Try.ntmps11
  go_wp2
  go_ret2
  exact ⟨rfl, rfl⟩

theorem size41 : (Try.prog.info? 41).map (·.size) = some 4 := by kernel_rfl
theorem eql_new (W : World) (c1 c2 : Array Value) :
    Sem.run Try.prog (binOp BinOp.eql 33 (Value.pointer (some { block := W.heap.size, off := 0 })) (Value.pointer (some { block := W.heap.size + 1, off := 0 }))) ((W.alloc (Obj.cells c1 41)).alloc (Obj.cells c2 41))
      = .ok (.bool false) ((W.alloc (Obj.cells c1 41)).alloc (Obj.cells c2 41)) := by
  obtain ⟨j, hj, hjs⟩ := Option.map_eq_some_iff.1 size41
  exact run_eql_ptr_other (P := Try.prog) _ (ca := c1) (cb := c2) (ta := 41) (tb := 41) Try.underlying33 hj (by rw [hjs]; decide) (by simp) (by show ((W.heap.push _).push _)[W.heap.size]? = _; simp [Array.getElem?_push]) (by show ((W.heap.push _).push _)[W.heap.size + 1]? = _; rw [Array.getElem?_push, if_pos (by simp)])

set_option maxHeartbeats 400000 in
theorem walk (a0 : ByteArray) (w0 : a0.size ≤ maxLen) (w : World) :
    Calls Try.prog 4 #[.string a0] w fun e w' => e = .returned (.bool true) ∧ Grown w w' := by
  have hB := bytes_any a0 w0
  have hU := unread_any a0 w0
  unfold maxLen at w0
  by_cases hs : ¬ (a0.size ≤ 1048576)
  · go_enter Try.func4, Try.ntmps4
    go_wp2_with fail
    refine (hB _).mono ?_
    rintro e w' ⟨⟨b, rfl⟩, rfl⟩
    cases b
    · go_wp2
      go_ret
      exact ⟨rfl, Grown.refl _⟩
    · go_wp2
      go_ret
      exact ⟨rfl, Grown.refl _⟩
  have hs' := Classical.not_not.mp hs
  clear hs
  go_enter Try.func4, Try.ntmps4
  go_wp2_with fail
  refine (hB _).mono ?_
  clear hB
  rintro e w' ⟨⟨b, rfl⟩, rfl⟩
  cases b
  · go_wp2
    go_ret
    exact ⟨rfl, Grown.refl _⟩
  · go_wp2_with fail
    refine (new_any _ _).mono ?_
    rintro e w1 ⟨rfl, rfl⟩
    go_wp2_with fail
    refine (new_any _ _).mono ?_
    rintro e w1 ⟨rfl, rfl⟩
    go_wp2_with fail
    rw [eql_new]
    go_wp2_with fail
    refine (state_any a0 _ _ ?_ ?_ ?_ ?_).mono ?_
    iterate 4 (focus (first | done | go_simp))
    rintro e w1 ⟨rfl, n, rfl⟩
    go_wp2_with fail
    refine (state_any a0 _ _ ?_ ?_ ?_ ?_).mono ?_
    iterate 4 (focus (first | done | go_simp))
    rintro e w1 ⟨rfl, n, rfl⟩
    go_wp2_with fail
    refine (hU _).mono ?_
    rintro e w1 ⟨rfl, rfl⟩
    go_wp2_with fail
    refine (hU _).mono ?_
    rintro e w1 ⟨rfl, rfl⟩
    go_wp2
    go_ret
    exact ⟨rfl, by repeat (first | exact Grown.refl _ | apply Grown.drew | apply Grown.alloc)⟩

set_option maxRecDepth 100000 in
theorem lifted (os : Os) (started : os.Started) (H : Type) (enc : TypeId × Value → H) :
    ReturnsInHanded {} Try.checked os 4 .any (Rows.fnNewLexerFreshAndUnsharedSpec.pre6 enc Try.prog Try.f4 Rows.fnNewLexerFreshAndUnsharedRow.domain false) (Rows.fnNewLexerFreshAndUnsharedSpec.post enc Try.prog Try.f4 false true false false) := by
  refine returnsInHanded_of_change (C := Try.checked) own started (by kernel_rfl) Try.func4
    (ChangeSpec.witness6 (enc := enc) (C := Try.checked) false ⟨#[], #[.string ByteArray.empty], []⟩ 8 (by kernel_rfl) (by kernel_rfl) (by kernel_rfl) (by kernel_rfl)) ?_
  intro W base args ds gs before hval0 hW hcnd _
  have hval : ∀ (j : Nat) t v, Try.f4.params[j]? = some t → args[j]? = some v → Value.okWide Try.prog W .any base t v := hval0
  have hW' := hW
  obtain ⟨p, q, hA0, hV, rfl, hfz, hnd⟩ := hW
  have hA : DataW.TrodAll enc Try.prog W 0 (fun _ => true) true Try.f4.params.toList args.toList ds p := hA0
  rw [Try.params4] at hA hval
  obtain ⟨v0, vs0, d0, ds0, p0, q0, hargs, rfl, rfl, h0, r0⟩ := trodAll_cons hA
  obtain ⟨rfl, rfl, rfl⟩ := trodAll_nil r0
  obtain rfl : args = #[v0] := by cases args; simp_all
  obtain ⟨rfl, rfl⟩ := trodVars_none hV
  obtain ⟨a0, rfl, rfl, rfl, w0⟩ := open_string Try.underlying9 (hval 0 9 v0 rfl rfl) h0
  clear hA0 hval0
  simp only [List.append_nil] at hW'
  refine (walk a0 w0 W).mono fun e W' ⟨he, hg⟩ => ?_
  subst he
  exact ⟨_, rfl, post_of_same (pa := []) (pv := []) hW' (fun _ _ _ => (trodAll_cons_mk (shut_bool Try.underlying4 _) trodAll_mk0)) (fun sp _ => (trodAll_cons_mk (shut_string Try.underlying9 w0) trodAll_mk0)) (fun _ _ => rfl) rfl
    (hg.frame _) hg.2.1 (ok_one (by kernel_rfl) rfl (okWide_bool_mk Try.underlying4 _))⟩

theorem over : Rows.fnNewLexerFreshAndUnsharedRow.holds Try.pinned (OpenSpec.ofChange Rows.fnNewLexerFreshAndUnsharedSpec) :=
  OpenClaim.holds_of_wide 4 Try.f4 rfl rfl rfl rfl rfl rfl rfl ⟨rfl, rfl, rfl, rfl, rfl⟩ rfl rfl rfl rfl rfl (by kernel_rfl) Try.func4 (by kernel_rfl)
    (of_decide_eq_true (by kernel_rfl)) (by unfold Func.isWrapper; first | (rw [if_pos (by decide +kernel)]; kernel_rfl) | (rw [if_neg (by decide +kernel)]; exact ⟨rfl, rfl⟩))
    (fun os started H enc _ => lifted os started H enc)

theorem proved : Rows.FnNewLexerFreshAndUnsharedSaid :=
  over
end Go.Proofs.Qxb6616907a.fnNewLexerFreshAndUnshared
namespace Go.Proofs.Qxb6616907a
theorem fnNewLexerFreshAndUnsharedProved : Rows.FnNewLexerFreshAndUnsharedSaid := fnNewLexerFreshAndUnshared.proved
end Go.Proofs.Qxb6616907a
