import Derived.Test.Qxb6616965aRows
import Derived.WalkKit
import Derived.ProofKit
import Derived.OpenShut
import Derived.ShutString
import Derived.Test.Qxb6616965aWork
namespace Go.Proofs.Qxb6616965a.fnWorkerChargeBatches
open Go.ChangeShapes Go.WideShapes Go.ChangeAt Go.RowKit
open Go.ChangeMaps (open_string shut_string)
set_option linter.unusedVariables false

theorem own : ownKnob Try.prog.godebug = none := by kernel_rfl

theorem ret_b {a b : Bool} (h : a = b) : Ending.returned (.bool a) = .returned (.bool b) := by rw [h]
def drw (c : Int) (i : Nat) : Int := if i = 0 then 0 else if c = 0 then 1 + (i : Int) / 64 else if (i : Int) < c then 0 else 1 + ((i : Int) - c) / 64
def crd (c : Int) (i : Nat) : Int := c + 64 * drw c i - i
def tly (n c : Int) (i : Nat) : Int := IntKind.u64.wrap (n + 64 * drw c i)
theorem crd_lo (c : Int) (i : Nat) (h : 0 ≤ c) : 0 ≤ crd c i := by unfold crd drw; repeat' split <;> omega
theorem crd_hi (c : Int) (i : Nat) (h : 0 ≤ c) (hc : c ≤ 18446744073709551615) : crd c i ≤ 18446744073709551615 := by unfold crd drw; repeat' split <;> omega
theorem crd_draw (c : Int) (i : Nat) (h : 0 ≤ c) (hd : crd c i ≤ 1) : drw c (i + 1) = drw c i + 1 := by unfold crd drw at *; repeat' split at * <;> omega
theorem crd_none (c : Int) (i : Nat) (h : 0 ≤ c) (hd : 2 ≤ crd c i) : drw c (i + 1) = drw c i := by unfold crd drw at *; repeat' split at * <;> omega
theorem tly_draw (n c : Int) (i : Nat) (h : 0 ≤ c) (hd : crd c i ≤ 1) : IntKind.u64.wrap (tly n c i + 64) = tly n c (i + 1) := by
  unfold tly; rw [crd_draw c i h hd, IntKind.wrap_u64, IntKind.wrap_u64, IntKind.wrap_u64]; omega
theorem tly_none (n c : Int) (i : Nat) (h : 0 ≤ c) (hd : 2 ≤ crd c i) : tly n c i = tly n c (i + 1) := by
  unfold tly; rw [crd_none c i h hd]
theorem crd_draw' (c : Int) (i : Nat) (h : 0 ≤ c) (hd : crd c i ≤ 1) : crd c i + 63 = crd c (i + 1) := by
  have := crd_draw c i h hd; unfold crd at *; omega
theorem crd_none' (c : Int) (i : Nat) (h : 0 ≤ c) (hd : 2 ≤ crd c i) : crd c i - 1 = crd c (i + 1) := by
  have := crd_none c i h hd; unfold crd at *; omega

set_option maxHeartbeats 800000 in
theorem walk (a0 : Int) (a1 : Int) (a2 : Int) (w0 : (Lit.int .u64 a0).wf = true) (w1 : (Lit.int .u64 a1).wf = true) (w2 : (Lit.int .i64 a2).wf = true) (w : World) :
    Calls Try.prog 6 #[.int .u64 a0, .int .u64 a1, .int .i64 a2] w fun e w' => e = .returned (.bool true) ∧ Grown w w' := by
  obtain ⟨l0, u0⟩ := bounds_u64 w0
  obtain ⟨l1, u1⟩ := bounds_u64 w1
  obtain ⟨l2, u2⟩ := bounds_i64 w2
  clear w0 w1 w2
  by_cases hneg : a2 < 0
  · go_enter Try.func6, Try.ntmps6
    go_wp2
    go_ret
    exact ⟨rfl, Grown.refl _⟩
  by_cases hbig : 65536 < a2
  · go_enter Try.func6, Try.ntmps6
    go_wp2
    go_ret
    exact ⟨rfl, Grown.refl _⟩
  obtain ⟨k, rfl⟩ : ∃ k : Nat, a2 = k := ⟨a2.toNat, by omega⟩
  have hk : k ≤ 65536 := by omega
  have d1 : decide ((k : Int) < 0) = false := by simp
  have d2 : decide ((65536 : Int) < (k : Int)) = false := by simp; omega
  clear hneg hbig l2 u2
  go_enter Try.func6, Try.ntmps6
  go_wp2_with fail
  refine (new10 _ _ _ _ _).mono ?_
  rintro e wn ⟨rfl, hn⟩
  go_wp2_with fail
  go_loopw [8] (fun i wr => ∃ j : Nat, j ≤ k ∧ i = .int .i64 j ∧ WS w wr w.heap.size (w.heap.size + 1) (crd a0 j) 0 0 (tly a1 a0 j)) (fun i _ => k - (intOf i).toNat)
  case atStart => 
    refine ⟨0, by omega, rfl, ?_⟩
    have e1 : crd a0 0 = a0 := by simp [crd, drw]
    have e2 : tly a1 a0 0 = a1 := by unfold tly drw; rw [if_pos rfl, IntKind.wrap_u64]; omega
    rw [e1, e2]; exact hn
  case round =>
    obtain ⟨j, hj, rfl, hws⟩ := hrel
    clear hn
    by_cases hlt : j < k
    · by_cases hd : crd a0 j ≤ 1
      · have hlo := crd_lo a0 j l0
        have HC : Hid (crd a0 j + 63 = crd a0 (j + 1)) := crd_draw' a0 j l0 hd
        have HT : Hid (IntKind.u64.wrap (tly a1 a0 j + 64) = tly a1 a0 (j + 1)) := tly_draw a1 a0 j l0 hd
        go_wp2_with fail
        refine (charge15_draw hws hd hlo).mono ?_
        rintro e wr2 ⟨rfl, h2⟩
        rw [HC.out, HT.out] at h2
        clear hws hlo HC HT hd
        go_wp2
        go_roundw
        case rel => exact ⟨j + 1, by omega, by go_num, h2⟩
        case measure => simp [intOf]; omega
      · have hd2 : 2 ≤ crd a0 j := by omega
        have hhi := crd_hi a0 j l0 u0
        have HC : Hid (crd a0 j - 1 = crd a0 (j + 1)) := crd_none' a0 j l0 hd2
        have HT : Hid (tly a1 a0 j = tly a1 a0 (j + 1)) := tly_none a1 a0 j l0 hd2
        go_wp2_with fail
        refine (charge15_none hws hd2 hhi).mono ?_
        rintro e wr2 ⟨rfl, h2⟩
        rw [HC.out, HT.out] at h2
        clear hws hhi HC HT hd hd2
        go_wp2
        go_roundw
        case rel => exact ⟨j + 1, by omega, by go_num, h2⟩
        case measure => simp [intOf]; omega
    · obtain rfl : j = k := by omega
      clear hlt hj
      have hk' : (j : Int) ≤ 65536 := by omega
      by_cases c1 : j = 0
      · subst c1
        have e1 : crd a0 0 = a0 := by simp [crd, drw]
        have e2 : tly a1 a0 0 = a1 := by unfold tly drw; rw [if_pos rfl, IntKind.wrap_u64]; omega
        rw [e1, e2] at hws
        clear e1 e2
        go_wp2_with (first | (go_at_call 11; refine (tally11 hws).mono ?_; rintro e w' ⟨rfl, rfl⟩) | (go_at_call 12; refine (credit12 hws).mono ?_; rintro e w' ⟨rfl, rfl⟩))
        go_ret
        exact ⟨rfl, hws.grown⟩
      have b1 : ((j : Int) == 0) = false := by simp; omega
      by_cases c2 : a0 = 0
      · subst c2
        have e1 : crd 0 j = 64 * (1 + (j : Int) / 64) - j := by unfold crd drw; rw [if_neg c1, if_pos rfl]; omega
        have e2 : tly a1 0 j = IntKind.u64.wrap (a1 + 64 * (1 + (j : Int) / 64)) := by unfold tly drw; rw [if_neg c1, if_pos rfl]
        rw [e1, e2] at hws
        clear e1 e2
        go_wp2_with (first | (go_at_call 11; refine (tally11 hws).mono ?_; rintro e w' ⟨rfl, rfl⟩) | (go_at_call 12; refine (credit12 hws).mono ?_; rintro e w' ⟨rfl, rfl⟩))
        go_ret
        exact ⟨ret_b (by simp), hws.grown⟩
      have b2 : (a0 == 0) = false := by simp; omega
      by_cases c3 : (j : Int) < a0
      · have e1 : crd a0 j = a0 - j := by unfold crd drw; rw [if_neg c1, if_neg c2, if_pos c3]; omega
        have e2 : tly a1 a0 j = a1 := by unfold tly drw; rw [if_neg c1, if_neg c2, if_pos c3, IntKind.wrap_u64]; omega
        rw [e1, e2] at hws
        clear e1 e2
        go_wp2_with (first | (go_at_call 11; refine (tally11 hws).mono ?_; rintro e w' ⟨rfl, rfl⟩) | (go_at_call 12; refine (credit12 hws).mono ?_; rintro e w' ⟨rfl, rfl⟩))
        go_ret
        exact ⟨ret_b (by simp), hws.grown⟩
      · have e1 : crd a0 j = a0 + 64 * (1 + ((j : Int) - a0) / 64) - j := by unfold crd drw; rw [if_neg c1, if_neg c2, if_neg c3]
        have e2 : tly a1 a0 j = IntKind.u64.wrap (a1 + 64 * (1 + ((j : Int) - a0) / 64)) := by unfold tly drw; rw [if_neg c1, if_neg c2, if_neg c3]
        rw [e1, e2] at hws
        clear e1 e2
        go_wp2_with (first | (go_at_call 11; refine (tally11 hws).mono ?_; rintro e w' ⟨rfl, rfl⟩) | (go_at_call 12; refine (credit12 hws).mono ?_; rintro e w' ⟨rfl, rfl⟩))
        go_ret
        exact ⟨ret_b (by simp), hws.grown⟩

set_option maxRecDepth 100000 in
theorem lifted (os : Os) (started : os.Started) (H : Type) (enc : TypeId × Value → H) :
    ReturnsInHanded {} Try.checked os 6 .any (Rows.fnWorkerChargeBatchesSpec.pre6 enc Try.prog Try.f6 Rows.fnWorkerChargeBatchesRow.domain false) (Rows.fnWorkerChargeBatchesSpec.post enc Try.prog Try.f6 false true false false) := by
  refine returnsInHanded_of_change (C := Try.checked) own started (by kernel_rfl) Try.func6
    (ChangeSpec.witness6 (enc := enc) (C := Try.checked) false ⟨#[], #[.int .u64 0, .int .u64 0, .int .i64 0], []⟩ 8 (by kernel_rfl) (by kernel_rfl) (by kernel_rfl) (by kernel_rfl)) ?_
  intro W base args ds gs before hval0 hW hcnd _
  have hval : ∀ (j : Nat) t v, Try.f6.params[j]? = some t → args[j]? = some v → Value.okWide Try.prog W .any base t v := hval0
  have hW' := hW
  obtain ⟨p, q, hA0, hV, rfl, hfz, hnd⟩ := hW
  have hA : DataW.TrodAll enc Try.prog W 0 (fun _ => true) true Try.f6.params.toList args.toList ds p := hA0
  rw [Try.params6] at hA hval
  obtain ⟨v0, vs0, d0, ds0, p0, q0, hargs, rfl, rfl, h0, r0⟩ := trodAll_cons hA
  obtain ⟨v1, vs1, d1, ds1, p1, q1, rfl, rfl, rfl, h1, r1⟩ := trodAll_cons r0
  obtain ⟨v2, vs2, d2, ds2, p2, q2, rfl, rfl, rfl, h2, r2⟩ := trodAll_cons r1
  obtain ⟨rfl, rfl, rfl⟩ := trodAll_nil r2
  obtain rfl : args = #[v0, v1, v2] := by cases args; simp_all
  obtain ⟨rfl, rfl⟩ := trodVars_none hV
  obtain ⟨a0, rfl, rfl, rfl, w0⟩ := open_int Try.underlying26 (hval 0 26 v0 rfl rfl) h0
  obtain ⟨a1, rfl, rfl, rfl, w1⟩ := open_int Try.underlying26 (hval 1 26 v1 rfl rfl) h1
  obtain ⟨a2, rfl, rfl, rfl, w2⟩ := open_int Try.underlying3 (hval 2 3 v2 rfl rfl) h2
  clear hA0 hval0
  simp only [List.append_nil] at hW'
  refine (walk a0 a1 a2 w0 w1 w2 W).mono fun e W' ⟨he, hg⟩ => ?_
  subst he
  exact ⟨_, rfl, post_of_same (pa := []) (pv := []) hW' (fun _ _ _ => (trodAll_cons_mk (shut_bool Try.underlying4 _) trodAll_mk0)) (fun sp _ => (trodAll_cons_mk (shut_int Try.underlying26 w0) (trodAll_cons_mk (shut_int Try.underlying26 w1) (trodAll_cons_mk (shut_int Try.underlying3 w2) trodAll_mk0)))) (fun _ _ => rfl) rfl
    (hg.frame _) hg.2.1 (ok_one (by kernel_rfl) rfl (okWide_bool_mk Try.underlying4 _))⟩

theorem over : Rows.fnWorkerChargeBatchesRow.holds Try.pinned (OpenSpec.ofChange Rows.fnWorkerChargeBatchesSpec) :=
  OpenClaim.holds_of_wide 6 Try.f6 rfl rfl rfl rfl rfl rfl rfl ⟨rfl, rfl, rfl, rfl, rfl⟩ rfl rfl rfl rfl rfl (by kernel_rfl) Try.func6 (by kernel_rfl)
    (of_decide_eq_true (by kernel_rfl)) (by unfold Func.isWrapper; first | (rw [if_pos (by decide +kernel)]; kernel_rfl) | (rw [if_neg (by decide +kernel)]; exact ⟨rfl, rfl⟩))
    (fun os started H enc _ => lifted os started H enc)

theorem proved : Rows.FnWorkerChargeBatchesSaid :=
  over
end Go.Proofs.Qxb6616965a.fnWorkerChargeBatches
namespace Go.Proofs.Qxb6616965a
theorem fnWorkerChargeBatchesProved : Rows.FnWorkerChargeBatchesSaid := fnWorkerChargeBatches.proved
end Go.Proofs.Qxb6616965a
