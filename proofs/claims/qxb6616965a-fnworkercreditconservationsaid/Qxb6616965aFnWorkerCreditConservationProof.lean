import Derived.Test.Qxb6616965aRows
import Derived.WalkKit
import Derived.ProofKit
import Derived.OpenShut
import Derived.ShutString
import Derived.ChangeOld
import Derived.Below
import Derived.Deep.Grids
import Derived.Test.Qxb6616965aWork
namespace Go.Proofs.Qxb6616965a.fnWorkerCreditConservation
open Go.ChangeShapes Go.WideShapes Go.ChangeAt Go.RowKit
open Go.ChangeMaps (open_string shut_string)
set_option linter.unusedVariables false

theorem own : ownKnob Try.prog.godebug = none := by kernel_rfl
theorem laidOut : laidOutB Try.prog = true := by kernel_rfl

def IsBools (w : World) (a : Option Addr) (len cap : Nat) (B : Nat → Bool) : Prop :=
  (a = none ∧ len = 0 ∧ cap = 0) ∨
  ∃ x, a = some x ∧ len ≤ cap ∧ cap ≤ maxLen ∧ ∀ i, i < cap → w.cell? (x.add i) = some (.bool (B i))

theorem ret_b {a b : Bool} (h : a = b) : Ending.returned (.bool a) = .returned (.bool b) := by rw [h]

theorem lt_of_cell {w : World} {b off : Nat} {v : Value} (h : w.cell? ⟨b, off, none⟩ = some v) : b < w.heap.size := by
  by_cases hb : b < w.heap.size
  · exact hb
  · have e : w.heap[b]? = none := by simp; omega
    simp [World.cell?, e] at h

theorem IsBools.cellAt {w : World} {a : Option Addr} {len cap : Nat} {B : Nat → Bool} (h : IsBools w a len cap B) (j : Nat) (hj : j < len) :
    ∃ b off, a = some ⟨b, off, none⟩ ∧ b < w.heap.size ∧ w.cell? ⟨b, off + j, none⟩ = some (.bool (B j)) := by
  rcases h with ⟨_, h0, _⟩ | ⟨x, rfl, hl, hm, hc⟩
  · omega
  · obtain ⟨b, off, spot⟩ := x
    have h1 := hc j (by omega)
    have h0 := hc 0 (by omega)
    have hspot : spot = none := by simpa [Addr.add] using World.cell?_spot h0
    subst hspot
    have h2 : w.cell? ⟨b, off + j, none⟩ = some (.bool (B j)) := by
      by_cases hj0 : j = 0
      · subst hj0; simpa [Addr.add] using h1
      · simpa [Addr.add, hj0] using h1
    exact ⟨b, off, rfl, lt_of_cell h2, h2⟩
theorem IsBools.lenLe {w : World} {a : Option Addr} {len cap : Nat} {B : Nat → Bool} (h : IsBools w a len cap B) : len ≤ 9223372036854775807 := by
  rcases h with ⟨_, h0, _⟩ | ⟨x, rfl, hl, hm, hc⟩
  · omega
  · unfold maxLen at hm; omega

set_option maxHeartbeats 400000 in
theorem bytes9 (a0 a1 a2 a3 : Int) (a4 : Option Addr) (len cap : Nat) (hl : len ≤ 9223372036854775807) (w : World) :
    Calls Try.prog 9 #[.int .u64 a0, .int .u64 a1, .int .u64 a2, .int .u64 a3, .slice a4 len cap] w fun e w' => (∃ b, e = .returned (.bool b)) ∧ w' = w := by
  go_enter Try.func9, Try.ntmps9
  go_wp2
  all_goals
    go_ret
    exact ⟨⟨_, rfl⟩, rfl⟩

theorem fin_any {W w : World} {bs bw : Nat} {c r p n : Int} (h : WS W w bs bw c r p n) :
    Calls Try.prog 16 #[.pointer (some ⟨bw, 0, none⟩)] w fun x w' => x = .returned (.tuple #[]) ∧ ∃ r' p', WS W w' bs bw (IntKind.u64.wrap (c + 1)) r' p' n := by
  cases ht : ((IntKind.u64.wrap (r + 1)).tmod 64 == 0)
  · refine (fin16_no h ht).mono ?_
    rintro x w' ⟨rfl, h2⟩
    exact ⟨rfl, _, _, h2⟩
  · refine (fin16_pub h ht).mono ?_
    rintro x w' ⟨rfl, h2⟩
    exact ⟨rfl, _, _, h2⟩

def Inv (a0 a1 n c : Int) (s d : Nat) : Prop := (n - c - (a1 - a0 + s - d)) % 18446744073709551616 = 0
theorem inv_start (a0 a1 : Int) : Inv a0 a1 a1 a0 0 0 := by unfold Inv; omega
theorem inv_draw {a0 a1 n c : Int} {s d : Nat} (h : Inv a0 a1 n c s d) : Inv a0 a1 (IntKind.u64.wrap (n + 64)) (c + 63) (s + 1) d := by
  unfold Inv at *; rw [IntKind.wrap_u64]; omega
theorem inv_none {a0 a1 n c : Int} {s d : Nat} (h : Inv a0 a1 n c s d) : Inv a0 a1 n (c - 1) (s + 1) d := by
  unfold Inv at *; omega
theorem inv_fin {a0 a1 n c : Int} {s d : Nat} (h : Inv a0 a1 n c s d) : Inv a0 a1 n (IntKind.u64.wrap (c + 1)) s (d + 1) := by
  unfold Inv at *; rw [IntKind.wrap_u64]; omega
theorem inv_end {a0 a1 n c : Int} {s d : Nat} (h : Inv a0 a1 n c s d) : IntKind.u64.wrap (n - c) = IntKind.u64.wrap (IntKind.u64.wrap (IntKind.u64.wrap (a1 - a0) + s) - d) := by
  unfold Inv at *; simp only [IntKind.wrap_u64]; omega
theorem sub_draw (n c : Int) : IntKind.u64.wrap (IntKind.u64.wrap (n + 64) - (c + 63)) = IntKind.u64.wrap (IntKind.u64.wrap (n - c) + 1) := by
  simp only [IntKind.wrap_u64]; omega
theorem sub_none (n c : Int) : IntKind.u64.wrap (n - (c - 1)) = IntKind.u64.wrap (IntKind.u64.wrap (n - c) + 1) := by
  simp only [IntKind.wrap_u64]; omega
theorem drew_64 (n : Int) : IntKind.u64.wrap (IntKind.u64.wrap (n + 64) - n) = 64 := by
  simp only [IntKind.wrap_u64]; omega
theorem drew_0 (n : Int) : IntKind.u64.wrap (n - n) = 0 := by
  simp only [IntKind.wrap_u64]; omega

set_option maxRecDepth 20000 in
set_option maxHeartbeats 1600000 in
theorem walk (a0 a1 a2 a3 : Int) (a4 : Option Addr) (len4 cap4 : Nat) (z4 : Nat → Bool) (w : World) (w0 : (Lit.int .u64 a0).wf = true) (w1 : (Lit.int .u64 a1).wf = true) (w2 : (Lit.int .u64 a2).wf = true) (w3 : (Lit.int .u64 a3).wf = true) (w4 : IsBools w a4 len4 cap4 z4) :
    Calls Try.prog 5 #[.int .u64 a0, .int .u64 a1, .int .u64 a2, .int .u64 a3, .slice a4 len4 cap4] w fun e w' => e = .returned (.bool true) ∧ Below w.heap.size w w' := by
  obtain ⟨l0, u0⟩ := bounds_u64 w0
  clear w0 w1 w2 w3
  have hl := w4.lenLe
  have hcell := w4.cellAt
  have hB := bytes9 a0 a1 a2 a3 a4 len4 cap4 hl
  clear w4
  by_cases hbig : 65536 < len4
  · go_enter Try.func5, Try.ntmps5
    go_wp2_with fail
    refine (hB _).mono ?_
    rintro e w' ⟨⟨b, rfl⟩, rfl⟩
    cases b
    all_goals
      go_wp2
      go_ret
      exact ⟨rfl, Below.refl _ _⟩
  have hlen : len4 ≤ 65536 := by omega
  clear hbig
  go_enter Try.func5, Try.ntmps5
  go_wp2_with fail
  refine (hB _).mono ?_
  rintro e w' ⟨⟨b, rfl⟩, hw'⟩
  subst hw'
  clear hB
  cases b
  · go_wp2
    go_ret
    exact ⟨rfl, Below.refl _ _⟩
  go_wp2_with fail
  refine (new10 _ _ _ _ _).mono ?_
  rintro e wn ⟨rfl, hn⟩
  go_wp2_with fail
  go_loopw [12, 13, 14] (fun x y i wr => ∃ (j s d : Nat) (c r p n : Int), j ≤ len4 ∧ s ≤ j ∧ d ≤ j ∧ x = .int .u64 s ∧ y = .int .u64 d ∧ i = .int .i64 j ∧ 0 ≤ c ∧ c ≤ 18446744073709551615 ∧ Inv a0 a1 n c s d ∧ WS w' wr w'.heap.size (w'.heap.size + 1) c r p n) (fun _ _ i _ => len4 - (intOf i).toNat)
  case atStart =>
    exact ⟨0, 0, 0, a0, a2, a3, a1, by omega, by omega, by omega, rfl, rfl, rfl, l0, u0, inv_start a0 a1, hn⟩
  case round =>
    obtain ⟨j, s, d, c, r, p, n, hj, hs, hd, rfl, rfl, rfl, hc0, hc1, hinv, hws⟩ := hrel
    clear hn l0 u0
    by_cases hlt : j < len4
    · obtain ⟨b, off, rfl, hb, hcj⟩ := hcell j hlt
      have hcj' : wr.cell? ⟨b, off + j, none⟩ = some (.bool (z4 j)) := by rw [hws.below.cell (p := ⟨b, off + j, none⟩) hb]; exact hcj
      clear hcj hcell
      cases hz : z4 j
      · rw [hz] at hcj'
        go_wp2_with (first | (go_at_call 11; refine (tally11 hws).mono ?_; rintro e w1 ⟨rfl, rfl⟩) | (go_at_call 12; refine (credit12 hws).mono ?_; rintro e w1 ⟨rfl, rfl⟩) | (go_at_call 13; refine (rsf13 hws).mono ?_; rintro e w1 ⟨rfl, rfl⟩) | (go_at_call 14; refine (ran14 hws).mono ?_; rintro e w1 ⟨rfl, rfl⟩))
        refine (fin_any hws).mono ?_
        rintro e wr2 ⟨rfl, r2, p2, h2⟩
        have hinv2 := inv_fin hinv
        have hb0 : 0 ≤ IntKind.u64.wrap (c + 1) := by rw [IntKind.wrap_u64]; omega
        have hb1 : IntKind.u64.wrap (c + 1) ≤ 18446744073709551615 := by rw [IntKind.wrap_u64]; omega
        clear hws hcj' hz hinv
        go_wp2_with (first | (go_at_call 11; refine (tally11 h2).mono ?_; rintro e w1 ⟨rfl, rfl⟩) | (go_at_call 12; refine (credit12 h2).mono ?_; rintro e w1 ⟨rfl, rfl⟩) | (go_at_call 13; refine (rsf13 h2).mono ?_; rintro e w1 ⟨rfl, rfl⟩) | (go_at_call 14; refine (ran14 h2).mono ?_; rintro e w1 ⟨rfl, rfl⟩))
        go_roundw
        case rel => exact ⟨j + 1, s, d + 1, _, _, _, _, by omega, by omega, by omega, rfl, by go_num, by go_num, hb0, hb1, hinv2, h2⟩
        case measure => simp [intOf]; omega
      · rw [hz] at hcj'
        by_cases hdr : c ≤ 1
        · go_wp2_with (first | (go_at_call 11; refine (tally11 hws).mono ?_; rintro e w1 ⟨rfl, rfl⟩) | (go_at_call 12; refine (credit12 hws).mono ?_; rintro e w1 ⟨rfl, rfl⟩) | (go_at_call 13; refine (rsf13 hws).mono ?_; rintro e w1 ⟨rfl, rfl⟩) | (go_at_call 14; refine (ran14 hws).mono ?_; rintro e w1 ⟨rfl, rfl⟩))
          refine (charge15_draw hws hdr hc0).mono ?_
          rintro e wr2 ⟨rfl, h2⟩
          have hinv2 := inv_draw hinv
          have e1 := sub_draw n c
          have e2 := drew_64 n
          have d1 : decide (2 ≤ c) = false := by simp; omega
          clear hws hcj' hz hinv
          go_wp2_with (first | (go_at_call 11; refine (tally11 h2).mono ?_; rintro e w1 ⟨rfl, rfl⟩) | (go_at_call 12; refine (credit12 h2).mono ?_; rintro e w1 ⟨rfl, rfl⟩) | (go_at_call 13; refine (rsf13 h2).mono ?_; rintro e w1 ⟨rfl, rfl⟩) | (go_at_call 14; refine (ran14 h2).mono ?_; rintro e w1 ⟨rfl, rfl⟩))
          go_roundw
          case rel => exact ⟨j + 1, s + 1, d, _, _, _, _, by omega, by omega, by omega, by go_num, rfl, by go_num, by omega, by omega, hinv2, h2⟩
          case measure => simp [intOf]; omega
        · have hdr2 : 2 ≤ c := by omega
          clear hdr
          by_cases hm : c < 64
          · go_wp2_with (first | (go_at_call 11; refine (tally11 hws).mono ?_; rintro e w1 ⟨rfl, rfl⟩) | (go_at_call 12; refine (credit12 hws).mono ?_; rintro e w1 ⟨rfl, rfl⟩) | (go_at_call 13; refine (rsf13 hws).mono ?_; rintro e w1 ⟨rfl, rfl⟩) | (go_at_call 14; refine (ran14 hws).mono ?_; rintro e w1 ⟨rfl, rfl⟩))
            refine (charge15_none hws hdr2 hc1).mono ?_
            rintro e wr2 ⟨rfl, h2⟩
            have hinv2 := inv_none hinv
            have e1 := sub_none n c
            have e2 := drew_0 n
            clear hws hcj' hz hinv
            go_wp2_with (first | (go_at_call 11; refine (tally11 h2).mono ?_; rintro e w1 ⟨rfl, rfl⟩) | (go_at_call 12; refine (credit12 h2).mono ?_; rintro e w1 ⟨rfl, rfl⟩) | (go_at_call 13; refine (rsf13 h2).mono ?_; rintro e w1 ⟨rfl, rfl⟩) | (go_at_call 14; refine (ran14 h2).mono ?_; rintro e w1 ⟨rfl, rfl⟩))
            go_roundw
            case rel => exact ⟨j + 1, s + 1, d, _, _, _, _, by omega, by omega, by omega, by go_num, rfl, by go_num, by omega, by omega, hinv2, h2⟩
            case measure => simp [intOf]; omega
          · go_wp2_with (first | (go_at_call 11; refine (tally11 hws).mono ?_; rintro e w1 ⟨rfl, rfl⟩) | (go_at_call 12; refine (credit12 hws).mono ?_; rintro e w1 ⟨rfl, rfl⟩) | (go_at_call 13; refine (rsf13 hws).mono ?_; rintro e w1 ⟨rfl, rfl⟩) | (go_at_call 14; refine (ran14 hws).mono ?_; rintro e w1 ⟨rfl, rfl⟩))
            refine (charge15_none hws hdr2 hc1).mono ?_
            rintro e wr2 ⟨rfl, h2⟩
            have hinv2 := inv_none hinv
            have e1 := sub_none n c
            have e2 := drew_0 n
            clear hws hcj' hz hinv
            go_wp2_with (first | (go_at_call 11; refine (tally11 h2).mono ?_; rintro e w1 ⟨rfl, rfl⟩) | (go_at_call 12; refine (credit12 h2).mono ?_; rintro e w1 ⟨rfl, rfl⟩) | (go_at_call 13; refine (rsf13 h2).mono ?_; rintro e w1 ⟨rfl, rfl⟩) | (go_at_call 14; refine (ran14 h2).mono ?_; rintro e w1 ⟨rfl, rfl⟩))
            go_roundw
            case rel => exact ⟨j + 1, s + 1, d, _, _, _, _, by omega, by omega, by omega, by go_num, rfl, by go_num, by omega, by omega, hinv2, h2⟩
            case measure => simp [intOf]; omega
    · obtain rfl : j = len4 := by omega
      clear hcell
      have he := inv_end hinv
      go_wp2_with (first | (go_at_call 11; refine (tally11 hws).mono ?_; rintro e w1 ⟨rfl, rfl⟩) | (go_at_call 12; refine (credit12 hws).mono ?_; rintro e w1 ⟨rfl, rfl⟩) | (go_at_call 13; refine (rsf13 hws).mono ?_; rintro e w1 ⟨rfl, rfl⟩) | (go_at_call 14; refine (ran14 hws).mono ?_; rintro e w1 ⟨rfl, rfl⟩))
      go_ret
      exact ⟨ret_b (by simp), hws.below⟩

set_option maxRecDepth 100000 in
theorem lifted (os : Os) (started : os.Started) (H : Type) (enc : TypeId × Value → H) :
    ReturnsInHanded {} Try.checked os 5 .any (Rows.fnWorkerCreditConservationSpec.pre6 enc Try.prog Try.f5 Rows.fnWorkerCreditConservationRow.domain false) (Rows.fnWorkerCreditConservationSpec.post enc Try.prog Try.f5 false true false false) := by
  refine returnsInHanded_of_change (C := Try.checked) own started (by kernel_rfl) Try.func5
    (ChangeSpec.witness6 (enc := enc) (C := Try.checked) false ⟨#[], #[.int .u64 0, .int .u64 0, .int .u64 0, .int .u64 0, .slice none 0 0], []⟩ 8 (by kernel_rfl) (by kernel_rfl) (by kernel_rfl) (by kernel_rfl)) ?_
  intro W base args ds gs before hval0 hW hcnd _
  have hval : ∀ (j : Nat) t v, Try.f5.params[j]? = some t → args[j]? = some v → Value.okWide Try.prog W .any base t v := hval0
  have hW' := hW
  obtain ⟨p, q, hA0, hV, rfl, hfz, hnd⟩ := hW
  have hA : DataW.TrodAll enc Try.prog W 0 (fun _ => true) true Try.f5.params.toList args.toList ds p := hA0
  rw [Try.params5] at hA hval
  obtain ⟨v0, vs0, d0, ds0, p0, q0, hargs, rfl, rfl, h0, r0⟩ := trodAll_cons hA
  obtain ⟨v1, vs1, d1, ds1, p1, q1, rfl, rfl, rfl, h1, r1⟩ := trodAll_cons r0
  obtain ⟨v2, vs2, d2, ds2, p2, q2, rfl, rfl, rfl, h2, r2⟩ := trodAll_cons r1
  obtain ⟨v3, vs3, d3, ds3, p3, q3, rfl, rfl, rfl, h3, r3⟩ := trodAll_cons r2
  obtain ⟨v4, vs4, d4, ds4, p4, q4, rfl, rfl, rfl, h4, r4⟩ := trodAll_cons r3
  obtain ⟨rfl, rfl, rfl⟩ := trodAll_nil r4
  obtain rfl : args = #[v0, v1, v2, v3, v4] := by cases args; simp_all
  obtain ⟨rfl, rfl⟩ := trodVars_none hV
  obtain ⟨a0, rfl, rfl, rfl, w0⟩ := open_int Try.underlying26 (hval 0 26 v0 rfl rfl) h0
  obtain ⟨a1, rfl, rfl, rfl, w1⟩ := open_int Try.underlying26 (hval 1 26 v1 rfl rfl) h1
  obtain ⟨a2, rfl, rfl, rfl, w2⟩ := open_int Try.underlying26 (hval 2 26 v2 rfl rfl) h2
  obtain ⟨a3, rfl, rfl, rfl, w3⟩ := open_int Try.underlying26 (hval 3 26 v3 rfl rfl) h3
  obtain ⟨a4, len4, cap4, rfl⟩ := okWide_slice Try.underlying27 (hval 4 27 v4 rfl rfl)
  have k4 := h4
  have lt4 : ∀ x ∈ p4, x.block < W.heap.size := by obtain ⟨m, hm⟩ := k4; exact DataW.trod_lt m _ _ _ hm
  obtain ⟨z4, w4⟩ : ∃ zs, IsBools W a4 len4 cap4 zs := by
    obtain ⟨fuel, hf⟩ := h4
    rcases Go.Deep.open_bools Try.underlying27 Try.underlying4 (by kernel_rfl) hf with ⟨hcs, _⟩ | ⟨x, l, c, zs, hcs, _, hl, hm, _, hcell⟩
    · simp [Value.cells] at hcs
      obtain ⟨rfl, rfl, rfl⟩ := hcs
      exact ⟨fun _ => false, .inl ⟨rfl, rfl, rfl⟩⟩
    · simp [Value.cells] at hcs
      obtain ⟨rfl, rfl, rfl⟩ := hcs
      exact ⟨zs, .inr ⟨_, rfl, hl, hm, hcell⟩⟩
  clear hA0 hval0
  refine (walk a0 a1 a2 a3 a4 len4 cap4 z4 W w0 w1 w2 w3 w4).mono fun e W' ⟨he, bel⟩ => ?_
  subst he
  exact ⟨_, rfl, _, _, _, [], _, [], hW', trodAll_mk1 (shut_bool Try.underlying4 _), (trodAll_cons_mk (shut_int Try.underlying26 w0) (trodAll_cons_mk (shut_int Try.underlying26 w1) (trodAll_cons_mk (shut_int Try.underlying26 w2) (trodAll_cons_mk (shut_int Try.underlying26 w3) (trodAll_cons_mk (Below.trod laidOut (by kernel_rfl) (of_decide_eq_true (by kernel_rfl)) k4 bel lt4) trodAll_mk0))))), rfl, bel.frame _, fun h => by cases h⟩

theorem over : Rows.fnWorkerCreditConservationRow.holds Try.pinned (OpenSpec.ofChange Rows.fnWorkerCreditConservationSpec) :=
  OpenClaim.holds_of_wide 5 Try.f5 rfl rfl rfl rfl rfl rfl rfl ⟨rfl, rfl, rfl, rfl, rfl⟩ rfl rfl rfl rfl rfl (by kernel_rfl) Try.func5 (by kernel_rfl)
    (of_decide_eq_true (by kernel_rfl)) (by unfold Func.isWrapper; first | (rw [if_pos (by decide +kernel)]; kernel_rfl) | (rw [if_neg (by decide +kernel)]; exact ⟨rfl, rfl⟩))
    (fun os started H enc _ => lifted os started H enc)

theorem proved : Rows.FnWorkerCreditConservationSaid := over
end Go.Proofs.Qxb6616965a.fnWorkerCreditConservation
namespace Go.Proofs.Qxb6616965a
theorem fnWorkerCreditConservationProved : Rows.FnWorkerCreditConservationSaid := fnWorkerCreditConservation.proved
end Go.Proofs.Qxb6616965a
