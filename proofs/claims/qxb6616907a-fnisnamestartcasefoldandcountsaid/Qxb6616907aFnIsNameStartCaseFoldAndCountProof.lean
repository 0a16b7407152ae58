import Derived.Test.Qxb6616907aRows
import Derived.WalkKit
import Derived.ProofKit
import Derived.OpenShut
import Derived.ShutString
namespace Go.Proofs.Qxb6616907a.fnIsNameStartCaseFoldAndCount
open Go.ChangeShapes Go.WideShapes Go.ChangeAt Go.RowKit
open Go.ChangeMaps (open_string shut_string)
set_option linter.unusedVariables false

theorem own : ownKnob Try.prog.godebug = none := by kernel_rfl

def nsB (c : Int) : Bool := decide (c = 95 ∨ (97 ≤ c ∧ c ≤ 122) ∨ (65 ≤ c ∧ c ≤ 90))
theorem ret_b {a b : Bool} (h : a = b) : Ending.returned (.bool a) = .returned (.bool b) := by rw [h]

set_option maxHeartbeats 400000 in
theorem ns14 (c : Int) (w : World) :
    Calls Try.prog 14 #[.int .u8 c] w fun e w' => e = .returned (.bool (nsB c)) ∧ w' = w := by
  by_cases h1 : c = 95
  · subst h1
    go_enter Try.func14, Try.ntmps14
    go_wp2
    go_ret
    exact ⟨rfl, rfl⟩
  · by_cases h2 : 97 ≤ c ∧ c ≤ 122
    · obtain ⟨h2a, h2b⟩ := h2
      have hb : nsB c = true := by unfold nsB; simp; omega
      rw [hb]
      go_enter Try.func14, Try.ntmps14
      go_wp2
      all_goals
        go_ret
        exact ⟨rfl, rfl⟩
    · by_cases h3 : 65 ≤ c ∧ c ≤ 90
      · obtain ⟨h3a, h3b⟩ := h3
        have hb : nsB c = true := by unfold nsB; simp; omega
        rw [hb]
        go_enter Try.func14, Try.ntmps14
        go_wp2
        all_goals
          go_ret
          exact ⟨rfl, rfl⟩
      · have hb : nsB c = false := by unfold nsB; simp; omega
        rw [hb]
        go_enter Try.func14, Try.ntmps14
        go_wp2
        all_goals
          go_ret
          exact ⟨ret_b (by simp; omega), rfl⟩

set_option maxHeartbeats 400000 in
theorem ns12 (c : Int) (w : World) :
    Calls Try.prog 12 #[.int .u8 c] w fun e w' => e = .returned (.bool (nsB c)) ∧ w' = w := by
  go_enter Try.func12, Try.ntmps12
  go_wp2_with (go_at_call 14; refine (ns14 _ _).mono ?_; rintro e w' ⟨rfl, rfl⟩)
  go_ret
  exact ⟨rfl, rfl⟩

def cnt : Nat → Int
  | 0 => 0
  | k + 1 => cnt k + if nsB (k : Int) then 1 else 0
theorem cnt_le (k : Nat) : 0 ≤ cnt k ∧ cnt k ≤ k := by
  induction k with
  | zero => simp [cnt]
  | succ k ih => unfold cnt; split <;> omega
theorem cnt_all : cnt 256 = 53 := by decide +kernel

theorem fold_fin : ∀ n : Fin 256, (nsB (n.val : Int) = nsB (bits BinOp.xor IntKind.u8 (n.val : Int) 32)) ∨ ((n.val : Int) = 95 ∧ bits BinOp.xor IntKind.u8 (n.val : Int) 32 = 127) ∨ ((n.val : Int) = 127 ∧ bits BinOp.xor IntKind.u8 (n.val : Int) 32 = 95) := by decide +kernel
theorem fold_law (c : Int) (h0 : 0 ≤ c) (h1 : c ≤ 255) : nsB c = nsB (bits BinOp.xor IntKind.u8 c 32) ∨ (c = 95 ∧ bits BinOp.xor IntKind.u8 c 32 = 127) ∨ (c = 127 ∧ bits BinOp.xor IntKind.u8 c 32 = 95) := by
  have h := fold_fin ⟨c.toNat, by omega⟩
  have e : ((c.toNat : Nat) : Int) = c := by omega
  simp only [e] at h
  exact h
theorem high_law (c : Int) (h : 128 ≤ c) : nsB c = false := by unfold nsB; simp; omega

set_option maxRecDepth 10000 in
set_option maxHeartbeats 400000 in
theorem walk (a0 : Int) (w0 : (Lit.int .u8 a0).wf = true) (w : World) :
    Calls Try.prog 5 #[.int .u8 a0] w fun e w' => e = .returned (.bool true) ∧ Grown w w' := by
  have hb := bounds_u8 w0
  go_enter Try.func5, Try.ntmps5
  go_wp2
  go_loop [3, 4] (fun n i => ∃ k : Nat, k ≤ 256 ∧ i = .int .i64 k ∧ n = .int .i64 (cnt k)) (fun _ i => 256 - (intOf i).toNat)
  case atStart => exact ⟨0, by omega, rfl, rfl⟩
  case round =>
    obtain ⟨k, hk, rfl, rfl⟩ := hrel
    have hd := cnt_le k
    by_cases hlt : k < 256
    · have HS : Hid (cnt (k + 1) = cnt k + if nsB (k : Int) then 1 else 0) := rfl
      cases hn : nsB (k : Int)
      all_goals
        go_wp2_with (go_at_call 12; refine (ns12 _ _).mono ?_; rintro e w' ⟨rfl, rfl⟩)
        go_round
        case rel => exact ⟨k + 1, by omega, by go_num, by rw [HS.out, hn] <;> simp⟩
        case measure => simp [intOf]; omega
    · obtain rfl : k = 256 := by omega
      rw [cnt_all]
      clear hd hk hlt
      have hf := fold_law a0 hb.1 hb.2
      have hh := high_law a0
      generalize hp : bits BinOp.xor IntKind.u8 a0 32 = p at hf
      have HP : Hid (bits BinOp.xor IntKind.u8 a0 32 = p) := hp
      clear hp
      go_wp2_with fail
      rw [HP.out]
      refine (ns12 _ _).mono ?_
      rintro e w' ⟨rfl, rfl⟩
      go_wp2_with fail
      refine (ns12 _ _).mono ?_
      rintro e w' ⟨rfl, rfl⟩
      rcases hf with hf | ⟨hf1, hf2⟩ | ⟨hf1, hf2⟩
      · have HF : Hid (nsB a0 = nsB p) := hf
        clear hf
        cases hn : nsB a0
        · have hq : nsB p = false := by rw [← HF.out, hn]
          go_wp2_with fail
          refine (ns12 _ _).mono ?_
          rintro e w' ⟨rfl, rfl⟩
          go_wp2
          go_ret
          exact ⟨rfl, Grown.refl _⟩
        · have hq : nsB p = true := by rw [← HF.out, hn]
          have hlt : a0 < 128 := by
            by_cases h : 128 ≤ a0
            · rw [hh h] at hn; cases hn
            · omega
          clear hh
          go_wp2_with fail
          refine (ns12 _ _).mono ?_
          rintro e w' ⟨rfl, rfl⟩
          go_wp2
          go_ret
          exact ⟨rfl, Grown.refl _⟩
      · subst hf1 hf2
        have e1 : nsB 95 = true := rfl
        have e2 : nsB 127 = false := rfl
        clear hh
        go_wp2_with fail
        refine (ns12 _ _).mono ?_
        rintro e w' ⟨rfl, rfl⟩
        go_wp2
        go_ret
        exact ⟨rfl, Grown.refl _⟩
      · subst hf1 hf2
        have e1 : nsB 95 = true := rfl
        have e2 : nsB 127 = false := rfl
        clear hh
        go_wp2_with fail
        refine (ns12 _ _).mono ?_
        rintro e w' ⟨rfl, rfl⟩
        go_wp2
        go_ret
        exact ⟨rfl, Grown.refl _⟩

set_option maxRecDepth 100000 in
theorem lifted (os : Os) (started : os.Started) (H : Type) (enc : TypeId × Value → H) :
    ReturnsInHanded {} Try.checked os 5 .any (Rows.fnIsNameStartCaseFoldAndCountSpec.pre6 enc Try.prog Try.f5 Rows.fnIsNameStartCaseFoldAndCountRow.domain false) (Rows.fnIsNameStartCaseFoldAndCountSpec.post enc Try.prog Try.f5 false true false false) := by
  refine returnsInHanded_of_change (C := Try.checked) own started (by kernel_rfl) Try.func5
    (ChangeSpec.witness6 (enc := enc) (C := Try.checked) false ⟨#[], #[.int .u8 0], []⟩ 8 (by kernel_rfl) (by kernel_rfl) (by kernel_rfl) (by kernel_rfl)) ?_
  intro W base args ds gs before hval0 hW hcnd _
  have hval : ∀ (j : Nat) t v, Try.f5.params[j]? = some t → args[j]? = some v → Value.okWide Try.prog W .any base t v := hval0
  have hW' := hW
  obtain ⟨p, q, hA0, hV, rfl, hfz, hnd⟩ := hW
  have hA : DataW.TrodAll enc Try.prog W 0 (fun _ => true) true Try.f5.params.toList args.toList ds p := hA0
  rw [Try.params5] at hA hval
  obtain ⟨v0, vs0, d0, ds0, p0, q0, hargs, rfl, rfl, h0, r0⟩ := trodAll_cons hA
  obtain ⟨rfl, rfl, rfl⟩ := trodAll_nil r0
  obtain rfl : args = #[v0] := by cases args; simp_all
  obtain ⟨rfl, rfl⟩ := trodVars_none hV
  obtain ⟨a0, rfl, rfl, rfl, w0⟩ := open_int Try.underlying5 (hval 0 5 v0 rfl rfl) h0
  clear hA0 hval0
  simp only [List.append_nil] at hW'
  refine (walk a0 w0 W).mono fun e W' ⟨he, hg⟩ => ?_
  subst he
  exact ⟨_, rfl, post_of_same (pa := []) (pv := []) hW' (fun _ _ _ => (trodAll_cons_mk (shut_bool Try.underlying4 _) trodAll_mk0)) (fun sp _ => (trodAll_cons_mk (shut_int Try.underlying5 w0) trodAll_mk0)) (fun _ _ => rfl) rfl
    (hg.frame _) hg.2.1 (ok_one (by kernel_rfl) rfl (okWide_bool_mk Try.underlying4 _))⟩

theorem over : Rows.fnIsNameStartCaseFoldAndCountRow.holds Try.pinned (OpenSpec.ofChange Rows.fnIsNameStartCaseFoldAndCountSpec) :=
  OpenClaim.holds_of_wide 5 Try.f5 rfl rfl rfl rfl rfl rfl rfl ⟨rfl, rfl, rfl, rfl, rfl⟩ rfl rfl rfl rfl rfl (by kernel_rfl) Try.func5 (by kernel_rfl)
    (of_decide_eq_true (by kernel_rfl)) (by unfold Func.isWrapper; first | (rw [if_pos (by decide +kernel)]; kernel_rfl) | (rw [if_neg (by decide +kernel)]; exact ⟨rfl, rfl⟩))
    (fun os started H enc _ => lifted os started H enc)

theorem proved : Rows.FnIsNameStartCaseFoldAndCountSaid :=
  over
end Go.Proofs.Qxb6616907a.fnIsNameStartCaseFoldAndCount
namespace Go.Proofs.Qxb6616907a
theorem fnIsNameStartCaseFoldAndCountProved : Rows.FnIsNameStartCaseFoldAndCountSaid := fnIsNameStartCaseFoldAndCount.proved
end Go.Proofs.Qxb6616907a
