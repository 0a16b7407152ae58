import Derived.Test.Qxb6616965aRows
import Derived.WalkKit
import Derived.ProofKit
import Derived.OpenShut
import Derived.ShutString
import Derived.ChangeOld
import Derived.Below
import Derived.Deep.Grids
import Derived.Test.Qxb6616965aWork
namespace Go.Proofs.Qxb6616965a.fnWorkerPublishesRan
open Go.ChangeShapes Go.WideShapes Go.ChangeAt Go.RowKit
open Go.ChangeMaps (open_string shut_string)
set_option linter.unusedVariables false

theorem own : ownKnob Try.prog.godebug = none := by kernel_rfl
theorem laidOut : laidOutB Try.prog = true := by kernel_rfl

def IsBools (w : World) (a : Option Addr) (len cap : Nat) (B : Nat → Bool) : Prop :=
  (a = none ∧ len = 0 ∧ cap = 0) ∨
  ∃ x, a = some x ∧ len ≤ cap ∧ cap ≤ maxLen ∧ ∀ i, i < cap → w.cell? (x.add i) = some (.bool (B i))

theorem ret_b {a b : Bool} (h : a = b) : Ending.returned (.bool a) = .returned (.bool b) := by rw [h]

theorem lt_of_cell {w : World} {b off : Nat} {v : Value} (h : w.cell? ⟨b, off, none⟩ = some v) : b < w.heap.size := by
  by_cases hb : b < w.heap.size
  · exact hb
  · have e : w.heap[b]? = none := by simp; omega
    simp [World.cell?, e] at h

theorem IsBools.cellAt {w : World} {a : Option Addr} {len cap : Nat} {B : Nat → Bool} (h : IsBools w a len cap B) (j : Nat) (hj : j < len) :
    ∃ b off, a = some ⟨b, off, none⟩ ∧ b < w.heap.size ∧ w.cell? ⟨b, off + j, none⟩ = some (.bool (B j)) := by
  rcases h with ⟨_, h0, _⟩ | ⟨x, rfl, hl, hm, hc⟩
  · omega
  · obtain ⟨b, off, spot⟩ := x
    have h1 := hc j (by omega)
    have h0 := hc 0 (by omega)
    have hspot : spot = none := by simpa [Addr.add] using World.cell?_spot h0
    subst hspot
    have h2 : w.cell? ⟨b, off + j, none⟩ = some (.bool (B j)) := by
      by_cases hj0 : j = 0
      · subst hj0; simpa [Addr.add] using h1
      · simpa [Addr.add, hj0] using h1
    exact ⟨b, off, rfl, lt_of_cell h2, h2⟩
theorem IsBools.lenLe {w : World} {a : Option Addr} {len cap : Nat} {B : Nat → Bool} (h : IsBools w a len cap B) : len ≤ 9223372036854775807 := by
  rcases h with ⟨_, h0, _⟩ | ⟨x, rfl, hl, hm, hc⟩
  · omega
  · unfold maxLen at hm; omega

set_option maxHeartbeats 400000 in
theorem bytes17 (a0 a1 a2 a3 : Int) (a4 : Option Addr) (len cap : Nat) (hl : len ≤ 9223372036854775807) (w : World) :
    Calls Try.prog 17 #[.int .u64 a0, .int .u64 a1, .int .u64 a2, .int .u64 a3, .slice a4 len cap] w fun e w' => (∃ b, e = .returned (.bool b)) ∧ w' = w := by
  go_enter Try.func17, Try.ntmps17
  go_wp2
  all_goals
    go_ret
    exact ⟨⟨_, rfl⟩, rfl⟩

theorem charge_any {W w : World} {bs bw : Nat} {c r p n : Int} (h : WS W w bs bw c r p n) (h0 : 0 ≤ c) (h1 : c ≤ 18446744073709551615) :
    Calls Try.prog 15 #[.pointer (some ⟨bw, 0, none⟩)] w fun e w' => e = .returned (.tuple #[]) ∧ ∃ c' n', 0 ≤ c' ∧ c' ≤ 18446744073709551615 ∧ WS W w' bs bw c' r p n' := by
  by_cases hd : c ≤ 1
  · refine (charge15_draw h hd h0).mono ?_
    rintro e w' ⟨rfl, h2⟩
    exact ⟨rfl, _, _, by omega, by omega, h2⟩
  · refine (charge15_none h (by omega) h1).mono ?_
    rintro e w' ⟨rfl, h2⟩
    exact ⟨rfl, _, _, by omega, by omega, h2⟩

def pub (a0 a1 e : Int) : Int := if a0 < e - e % 64 then e - e % 64 else a1
theorem pub_yes (a0 a1 e : Int) (h : a0 < e - e % 64) : pub a0 a1 e = e - e % 64 := by unfold pub; rw [if_pos h]
theorem pub_no (a0 a1 e : Int) (h : ¬ a0 < e - e % 64) : pub a0 a1 e = a1 := by unfold pub; rw [if_neg h]
theorem pub_step (a0 a1 e : Int) (h0 : 0 ≤ a0) (he : a0 ≤ e) (h : (e + 1) % 64 = 0) : pub a0 a1 (e + 1) = e + 1 := by unfold pub; rw [if_pos (by omega)]; omega
theorem pub_keep (a0 a1 e : Int) (h0 : 0 ≤ a0) (he : a0 ≤ e) (h : ¬ (e + 1) % 64 = 0) : pub a0 a1 (e + 1) = pub a0 a1 e := by
  have h1 : e + 1 - (e + 1) % 64 = e - e % 64 := by omega
  unfold pub; rw [h1]

theorem fin_any {W w : World} {bs bw : Nat} {c a0 a1 e n : Int} (h : WS W w bs bw c e (pub a0 a1 e) n) (h0 : 0 ≤ a0) (he : a0 ≤ e) (h1 : e + 1 ≤ 18446744073709551615) :
    Calls Try.prog 16 #[.pointer (some ⟨bw, 0, none⟩)] w fun x w' => x = .returned (.tuple #[]) ∧ ∃ c', 0 ≤ c' ∧ c' ≤ 18446744073709551615 ∧ WS W w' bs bw c' (e + 1) (pub a0 a1 (e + 1)) n := by
  have hr : IntKind.u64.wrap (e + 1) = e + 1 := by rw [IntKind.wrap_u64]; omega
  have hm : (e + 1).tmod 64 = (e + 1) % 64 := Int.tmod_eq_emod_of_nonneg (by omega)
  have hc0 : 0 ≤ IntKind.u64.wrap (c + 1) := by rw [IntKind.wrap_u64]; omega
  have hc1 : IntKind.u64.wrap (c + 1) ≤ 18446744073709551615 := by rw [IntKind.wrap_u64]; omega
  by_cases ht : (e + 1) % 64 = 0
  · refine (fin16_pub h (by rw [hr, hm]; simp [ht])).mono ?_
    rintro x w' ⟨rfl, h2⟩
    rw [hr] at h2
    refine ⟨rfl, _, hc0, hc1, ?_⟩
    rw [pub_step a0 a1 e h0 he ht]
    exact h2
  · refine (fin16_no h (by rw [hr, hm]; simp [ht])).mono ?_
    rintro x w' ⟨rfl, h2⟩
    rw [hr] at h2
    refine ⟨rfl, _, hc0, hc1, ?_⟩
    rw [pub_keep a0 a1 e h0 he ht]
    exact h2

set_option maxHeartbeats 800000 in
theorem walk (a0 a1 a2 a3 : Int) (a4 : Option Addr) (len4 cap4 : Nat) (z4 : Nat → Bool) (w : World) (w0 : (Lit.int .u64 a0).wf = true) (w1 : (Lit.int .u64 a1).wf = true) (w2 : (Lit.int .u64 a2).wf = true) (w3 : (Lit.int .u64 a3).wf = true) (w4 : IsBools w a4 len4 cap4 z4) :
    Calls Try.prog 7 #[.int .u64 a0, .int .u64 a1, .int .u64 a2, .int .u64 a3, .slice a4 len4 cap4] w fun e w' => e = .returned (.bool true) ∧ Below w.heap.size w w' := by
  obtain ⟨l0, u0⟩ := bounds_u64 w0
  obtain ⟨l1, u1⟩ := bounds_u64 w1
  obtain ⟨l2, u2⟩ := bounds_u64 w2
  obtain ⟨l3, u3⟩ := bounds_u64 w3
  clear w0 w1 w2 w3
  have hl := w4.lenLe
  have hcell := w4.cellAt
  have hB := bytes17 a0 a1 a2 a3 a4 len4 cap4 hl
  clear w4
  by_cases hbig : 65536 < len4
  · go_enter Try.func7, Try.ntmps7
    go_wp2_with fail
    refine (hB _).mono ?_
    rintro e w' ⟨⟨b, rfl⟩, rfl⟩
    cases b
    all_goals
      go_wp2
      go_ret
      exact ⟨rfl, Below.refl _ _⟩
  have hlen : len4 ≤ 65536 := by omega
  clear hbig
  by_cases hov : 18446744073709551615 - (len4 : Int) < a0
  · go_enter Try.func7, Try.ntmps7
    go_wp2_with fail
    refine (hB _).mono ?_
    rintro e w' ⟨⟨b, rfl⟩, rfl⟩
    cases b
    all_goals
      go_wp2
      go_ret
      exact ⟨rfl, Below.refl _ _⟩
  have hov' : a0 + (len4 : Int) ≤ 18446744073709551615 := by omega
  clear hov
  go_enter Try.func7, Try.ntmps7
  go_wp2_with fail
  refine (hB _).mono ?_
  rintro e w' ⟨⟨b, rfl⟩, hw'⟩
  subst hw'
  clear hB
  cases b
  · go_wp2
    go_ret
    exact ⟨rfl, Below.refl _ _⟩
  go_wp2_with fail
  refine (new10 _ _ _ _ _).mono ?_
  rintro e wn ⟨rfl, hn⟩
  go_wp2_with fail
  have hpub0 : pub a0 a1 a0 = a1 := pub_no a0 a1 a0 (by omega)
  go_loopw [12, 13] (fun x i wr => ∃ (j d : Nat) (c n : Int), j ≤ len4 ∧ d ≤ j ∧ x = .int .u64 d ∧ i = .int .i64 j ∧ 0 ≤ c ∧ c ≤ 18446744073709551615 ∧ WS w' wr w'.heap.size (w'.heap.size + 1) c (a0 + d) (pub a0 a1 (a0 + d)) n) (fun _ i _ => len4 - (intOf i).toNat)
  case atStart =>
    refine ⟨0, 0, a2, a3, by omega, by omega, rfl, rfl, l2, u2, ?_⟩
    have e0 : a0 + ((0 : Nat) : Int) = a0 := by omega
    rw [e0, hpub0]; exact hn
  case round =>
    obtain ⟨j, d, c, n, hj, hd, rfl, rfl, hc0, hc1, hws⟩ := hrel
    clear hn hpub0
    by_cases hlt : j < len4
    · obtain ⟨b, off, rfl, hb, hcj⟩ := hcell j hlt
      have hcj' : wr.cell? ⟨b, off + j, none⟩ = some (.bool (z4 j)) := by rw [hws.below.cell (p := ⟨b, off + j, none⟩) hb]; exact hcj
      clear hcj hcell
      cases hz : z4 j
      · rw [hz] at hcj'
        go_wp2_with fail
        refine (fin_any hws l0 (by omega) (by omega)).mono ?_
        rintro e wr2 ⟨rfl, c2, hc20, hc21, h2⟩
        clear hws hcj' hz hc0 hc1
        have ee : a0 + (d : Int) + 1 = a0 + ((d : Int) + 1) := by omega
        rw [ee] at h2
        clear ee
        have hcast : Hid (((d + 1 : Nat) : Int) = (d : Int) + 1) := by unfold Hid; omega
        by_cases hla : a0 < a0 + ((d : Int) + 1) - (a0 + ((d : Int) + 1)) % 64
        · have h3 := h2
          rw [pub_yes _ _ _ hla] at h3
          go_wp2_with (first | (go_at_call 13; refine (rsf13 h3).mono ?_; rintro e w1 ⟨rfl, rfl⟩) | (go_at_call 14; refine (ran14 h3).mono ?_; rintro e w1 ⟨rfl, rfl⟩))
          go_roundw
          case rel => exact ⟨j + 1, d + 1, c2, n, by omega, by omega, by go_num, by go_num, hc20, hc21, by rw [hcast.out]; exact h2⟩
          case measure => simp [intOf]; omega
        · have h3 := h2
          rw [pub_no _ _ _ hla] at h3
          go_wp2_with (first | (go_at_call 13; refine (rsf13 h3).mono ?_; rintro e w1 ⟨rfl, rfl⟩) | (go_at_call 14; refine (ran14 h3).mono ?_; rintro e w1 ⟨rfl, rfl⟩))
          go_roundw
          case rel => exact ⟨j + 1, d + 1, c2, n, by omega, by omega, by go_num, by go_num, hc20, hc21, by rw [hcast.out]; exact h2⟩
          case measure => simp [intOf]; omega
      · rw [hz] at hcj'
        go_wp2_with fail
        refine (charge_any hws hc0 hc1).mono ?_
        rintro e wr2 ⟨rfl, c2, n2, hc20, hc21, h2⟩
        clear hws hcj' hz hc0 hc1
        by_cases hla : a0 < a0 + (d : Int) - (a0 + (d : Int)) % 64
        · have h3 := h2
          rw [pub_yes _ _ _ hla] at h3
          go_wp2_with (first | (go_at_call 13; refine (rsf13 h3).mono ?_; rintro e w1 ⟨rfl, rfl⟩) | (go_at_call 14; refine (ran14 h3).mono ?_; rintro e w1 ⟨rfl, rfl⟩))
          go_roundw
          case rel => exact ⟨j + 1, d, c2, n2, by omega, by omega, rfl, by go_num, hc20, hc21, h2⟩
          case measure => simp [intOf]; omega
        · have h3 := h2
          rw [pub_no _ _ _ hla] at h3
          go_wp2_with (first | (go_at_call 13; refine (rsf13 h3).mono ?_; rintro e w1 ⟨rfl, rfl⟩) | (go_at_call 14; refine (ran14 h3).mono ?_; rintro e w1 ⟨rfl, rfl⟩))
          go_roundw
          case rel => exact ⟨j + 1, d, c2, n2, by omega, by omega, rfl, by go_num, hc20, hc21, h2⟩
          case measure => simp [intOf]; omega
    · obtain rfl : j = len4 := by omega
      clear hcell
      go_wp2_with (first | (go_at_call 13; refine (rsf13 hws).mono ?_; rintro e w1 ⟨rfl, rfl⟩))
      go_ret
      exact ⟨ret_b (by simp), hws.below⟩

set_option maxRecDepth 100000 in
theorem lifted (os : Os) (started : os.Started) (H : Type) (enc : TypeId × Value → H) :
    ReturnsInHanded {} Try.checked os 7 .any (Rows.fnWorkerPublishesRanSpec.pre6 enc Try.prog Try.f7 Rows.fnWorkerPublishesRanRow.domain false) (Rows.fnWorkerPublishesRanSpec.post enc Try.prog Try.f7 false true false false) := by
  refine returnsInHanded_of_change (C := Try.checked) own started (by kernel_rfl) Try.func7
    (ChangeSpec.witness6 (enc := enc) (C := Try.checked) false ⟨#[], #[.int .u64 0, .int .u64 0, .int .u64 0, .int .u64 0, .slice none 0 0], []⟩ 8 (by kernel_rfl) (by kernel_rfl) (by kernel_rfl) (by kernel_rfl)) ?_
  intro W base args ds gs before hval0 hW hcnd _
  have hval : ∀ (j : Nat) t v, Try.f7.params[j]? = some t → args[j]? = some v → Value.okWide Try.prog W .any base t v := hval0
  have hW' := hW
  obtain ⟨p, q, hA0, hV, rfl, hfz, hnd⟩ := hW
  have hA : DataW.TrodAll enc Try.prog W 0 (fun _ => true) true Try.f7.params.toList args.toList ds p := hA0
  rw [Try.params7] at hA hval
  obtain ⟨v0, vs0, d0, ds0, p0, q0, hargs, rfl, rfl, h0, r0⟩ := trodAll_cons hA
  obtain ⟨v1, vs1, d1, ds1, p1, q1, rfl, rfl, rfl, h1, r1⟩ := trodAll_cons r0
  obtain ⟨v2, vs2, d2, ds2, p2, q2, rfl, rfl, rfl, h2, r2⟩ := trodAll_cons r1
  obtain ⟨v3, vs3, d3, ds3, p3, q3, rfl, rfl, rfl, h3, r3⟩ := trodAll_cons r2
  obtain ⟨v4, vs4, d4, ds4, p4, q4, rfl, rfl, rfl, h4, r4⟩ := trodAll_cons r3
  obtain ⟨rfl, rfl, rfl⟩ := trodAll_nil r4
  obtain rfl : args = #[v0, v1, v2, v3, v4] := by cases args; simp_all
  obtain ⟨rfl, rfl⟩ := trodVars_none hV
  obtain ⟨a0, rfl, rfl, rfl, w0⟩ := open_int Try.underlying26 (hval 0 26 v0 rfl rfl) h0
  obtain ⟨a1, rfl, rfl, rfl, w1⟩ := open_int Try.underlying26 (hval 1 26 v1 rfl rfl) h1
  obtain ⟨a2, rfl, rfl, rfl, w2⟩ := open_int Try.underlying26 (hval 2 26 v2 rfl rfl) h2
  obtain ⟨a3, rfl, rfl, rfl, w3⟩ := open_int Try.underlying26 (hval 3 26 v3 rfl rfl) h3
  obtain ⟨a4, len4, cap4, rfl⟩ := okWide_slice Try.underlying27 (hval 4 27 v4 rfl rfl)
  have k4 := h4
  have lt4 : ∀ x ∈ p4, x.block < W.heap.size := by obtain ⟨m, hm⟩ := k4; exact DataW.trod_lt m _ _ _ hm
  obtain ⟨z4, w4⟩ : ∃ zs, IsBools W a4 len4 cap4 zs := by
    obtain ⟨fuel, hf⟩ := h4
    rcases Go.Deep.open_bools Try.underlying27 Try.underlying4 (by kernel_rfl) hf with ⟨hcs, _⟩ | ⟨x, l, c, zs, hcs, _, hl, hm, _, hcell⟩
    · simp [Value.cells] at hcs
      obtain ⟨rfl, rfl, rfl⟩ := hcs
      exact ⟨fun _ => false, .inl ⟨rfl, rfl, rfl⟩⟩
    · simp [Value.cells] at hcs
      obtain ⟨rfl, rfl, rfl⟩ := hcs
      exact ⟨zs, .inr ⟨_, rfl, hl, hm, hcell⟩⟩
  clear hA0 hval0
  refine (walk a0 a1 a2 a3 a4 len4 cap4 z4 W w0 w1 w2 w3 w4).mono fun e W' ⟨he, bel⟩ => ?_
  subst he
  exact ⟨_, rfl, _, _, _, [], _, [], hW', trodAll_mk1 (shut_bool Try.underlying4 _), (trodAll_cons_mk (shut_int Try.underlying26 w0) (trodAll_cons_mk (shut_int Try.underlying26 w1) (trodAll_cons_mk (shut_int Try.underlying26 w2) (trodAll_cons_mk (shut_int Try.underlying26 w3) (trodAll_cons_mk (Below.trod laidOut (by kernel_rfl) (of_decide_eq_true (by kernel_rfl)) k4 bel lt4) trodAll_mk0))))), rfl, bel.frame _, fun h => by cases h⟩

theorem over : Rows.fnWorkerPublishesRanRow.holds Try.pinned (OpenSpec.ofChange Rows.fnWorkerPublishesRanSpec) :=
  OpenClaim.holds_of_wide 7 Try.f7 rfl rfl rfl rfl rfl rfl rfl ⟨rfl, rfl, rfl, rfl, rfl⟩ rfl rfl rfl rfl rfl (by kernel_rfl) Try.func7 (by kernel_rfl)
    (of_decide_eq_true (by kernel_rfl)) (by unfold Func.isWrapper; first | (rw [if_pos (by decide +kernel)]; kernel_rfl) | (rw [if_neg (by decide +kernel)]; exact ⟨rfl, rfl⟩))
    (fun os started H enc _ => lifted os started H enc)

theorem proved : Rows.FnWorkerPublishesRanSaid := over
end Go.Proofs.Qxb6616965a.fnWorkerPublishesRan
namespace Go.Proofs.Qxb6616965a
theorem fnWorkerPublishesRanProved : Rows.FnWorkerPublishesRanSaid := fnWorkerPublishesRan.proved
end Go.Proofs.Qxb6616965a
