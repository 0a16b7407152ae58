import Derived.Test.Qxb6616965aRows
import Derived.WalkKit
import Derived.Laws.LoneSync
import Derived.Laws.Tables
import Derived.Below
import Derived.RowKit3
import Derived.WalkSmall
import Derived.Deep.RegionWith
namespace Go.Proofs.Qxb6616965a
open Go.RowKit
set_option linter.unusedVariables false

theorem isSome_get {α : Type} {o : Option α} (h : o.isSome = true) : ∃ x, o = some x := by
  cases o with
  | none => cases h
  | some x => exact ⟨x, rfl⟩
theorem built78 : ∃ cs : Array Value, Try.prog.built 78 [] = some cs ∧ cs[0]? = some (.int .u64 0) := by
  have h : (Try.prog.built 78 []).isSome = true := by kernel_rfl
  have h0 : ((Try.prog.built 78 []).getD #[])[0]? = some (.int .u64 0) := by kernel_rfl
  obtain ⟨x, hx⟩ := isSome_get h
  rw [hx] at h0
  exact ⟨x, hx, h0⟩
theorem built91 (b : Nat) (c r : Int) : ∃ cs : Array Value, Try.prog.built 91 [(0, .pointer (some ⟨b, 0, none⟩)), (7, .int .u64 c), (8, .int .u64 r)] = some cs ∧
    cs[0]? = some (.pointer (some ⟨b, 0, none⟩)) ∧ cs[264]? = some (.int .u64 c) ∧ cs[265]? = some (.int .u64 r) ∧ cs[274]? = some (.int .u64 0) := by
  have h : (Try.prog.built 91 [(0, .pointer (some ⟨b, 0, none⟩)), (7, .int .u64 c), (8, .int .u64 r)]).isSome = true := by kernel_rfl
  have h0 : ((Try.prog.built 91 [(0, .pointer (some ⟨b, 0, none⟩)), (7, .int .u64 c), (8, .int .u64 r)]).getD #[])[0]? = some (.pointer (some ⟨b, 0, none⟩)) := by kernel_rfl
  have h1 : ((Try.prog.built 91 [(0, .pointer (some ⟨b, 0, none⟩)), (7, .int .u64 c), (8, .int .u64 r)]).getD #[])[264]? = some (.int .u64 c) := by kernel_rfl
  have h2 : ((Try.prog.built 91 [(0, .pointer (some ⟨b, 0, none⟩)), (7, .int .u64 c), (8, .int .u64 r)]).getD #[])[265]? = some (.int .u64 r) := by kernel_rfl
  have h3 : ((Try.prog.built 91 [(0, .pointer (some ⟨b, 0, none⟩)), (7, .int .u64 c), (8, .int .u64 r)]).getD #[])[274]? = some (.int .u64 0) := by kernel_rfl
  obtain ⟨x, hx⟩ := isSome_get h
  rw [hx] at h0 h1 h2 h3
  exact ⟨x, hx, h0, h1, h2, h3⟩

theorem wpList_built {P : Program} {ops : Array Oper} {rest : List Oper} {o : Oper} {a : Act} {w : World} {Q : Exit → Act → World → Prop} (hg : o.guard = none) (t : TypeId) (parts : Array (Nat × Operand)) (ho : o.op = .build t parts)
    (cells : Array Value) (hc : P.built t (parts.map fun (i, x) => (i, a.eval x)).toList = some cells)
    (h : wpList P ops Q rest (a.put o.dst (.agg cells)) w) : wpList P ops Q (o :: rest) a w := by
  refine wpList_build hg t parts ho (by rw [hc]; rfl) ?_
  rw [hc]
  exact h


structure WS (W w : World) (bs bw : Nat) (c r p n : Int) : Prop where
  grown : Grown W w
  below : Below W.heap.size W w
  hs : W.heap.size ≤ bs
  hw : W.heap.size ≤ bw
  ne : ¬ bs = bw
  ptr : w.cell? ⟨bw, 0, none⟩ = some (.pointer (some ⟨bs, 0, none⟩))
  cre : w.cell? ⟨bw, 264, none⟩ = some (.int .u64 c)
  rsf : w.cell? ⟨bw, 265, none⟩ = some (.int .u64 r)
  ran : w.cell? ⟨bw, 274, none⟩ = some (.int .u64 p)
  tal : w.cell? ⟨bs, 0, none⟩ = some (.int .u64 n)

theorem frozen_new {W w : World} (h : Grown W w) {b : Nat} (hb : W.heap.size ≤ b) (off : Nat) : w.frozen? ⟨b, off, none⟩ = false := by
  rw [h.2.1]
  have e : W.heap[b]? = none := by simp; omega
  simp [World.frozen?, e]

theorem WS.froW {W w : World} {bs bw : Nat} {c r p n : Int} (h : WS W w bs bw c r p n) (off : Nat) : w.frozen? ⟨bw, off, none⟩ = false := frozen_new h.grown h.hw off
theorem WS.froS {W w : World} {bs bw : Nat} {c r p n : Int} (h : WS W w bs bw c r p n) (off : Nat) : w.frozen? ⟨bs, off, none⟩ = false := frozen_new h.grown h.hs off

theorem cell_other (w : World) (b b' o o' : Nat) (v : Value) (h : ¬ (b = b' ∧ o = o')) : (w.setCell ⟨b, o, none⟩ v).cell? ⟨b', o', none⟩ = w.cell? ⟨b', o', none⟩ := by
  apply World.cell?_setCell_other
  intro e
  injection e with e1 e2
  exact h ⟨e1, e2⟩

theorem WS.setC {W w : World} {bs bw : Nat} {c r p n : Int} (h : WS W w bs bw c r p n) (c' : Int) : WS W (w.setCell ⟨bw, 264, none⟩ (.int .u64 c')) bs bw c' r p n := by
  have hne := h.ne
  refine ⟨h.grown.setCell h.hw _, h.below.setCell h.hw _, h.hs, h.hw, h.ne, ?_, World.cell?_setCell_same _ _ _ h.cre, ?_, ?_, ?_⟩
  · rw [cell_other _ _ _ _ _ _ (by omega)]; exact h.ptr
  · rw [cell_other _ _ _ _ _ _ (by omega)]; exact h.rsf
  · rw [cell_other _ _ _ _ _ _ (by omega)]; exact h.ran
  · rw [cell_other _ _ _ _ _ _ (by omega)]; exact h.tal
theorem WS.setR {W w : World} {bs bw : Nat} {c r p n : Int} (h : WS W w bs bw c r p n) (r' : Int) : WS W (w.setCell ⟨bw, 265, none⟩ (.int .u64 r')) bs bw c r' p n := by
  have hne := h.ne
  refine ⟨h.grown.setCell h.hw _, h.below.setCell h.hw _, h.hs, h.hw, h.ne, ?_, ?_, World.cell?_setCell_same _ _ _ h.rsf, ?_, ?_⟩
  · rw [cell_other _ _ _ _ _ _ (by omega)]; exact h.ptr
  · rw [cell_other _ _ _ _ _ _ (by omega)]; exact h.cre
  · rw [cell_other _ _ _ _ _ _ (by omega)]; exact h.ran
  · rw [cell_other _ _ _ _ _ _ (by omega)]; exact h.tal
theorem WS.setP {W w : World} {bs bw : Nat} {c r p n : Int} (h : WS W w bs bw c r p n) (p' : Int) : WS W (w.setCell ⟨bw, 274, none⟩ (.int .u64 p')) bs bw c r p' n := by
  have hne := h.ne
  refine ⟨h.grown.setCell h.hw _, h.below.setCell h.hw _, h.hs, h.hw, h.ne, ?_, ?_, ?_, World.cell?_setCell_same _ _ _ h.ran, ?_⟩
  · rw [cell_other _ _ _ _ _ _ (by omega)]; exact h.ptr
  · rw [cell_other _ _ _ _ _ _ (by omega)]; exact h.cre
  · rw [cell_other _ _ _ _ _ _ (by omega)]; exact h.rsf
  · rw [cell_other _ _ _ _ _ _ (by omega)]; exact h.tal
theorem WS.setN {W w : World} {bs bw : Nat} {c r p n : Int} (h : WS W w bs bw c r p n) (n' : Int) : WS W (w.setCell ⟨bs, 0, none⟩ (.int .u64 n')) bs bw c r p n' := by
  have hne := h.ne
  refine ⟨h.grown.setCell h.hs _, h.below.setCell h.hs _, h.hs, h.hw, h.ne, ?_, ?_, ?_, ?_, World.cell?_setCell_same _ _ _ h.tal⟩
  · rw [cell_other _ _ _ _ _ _ (by omega)]; exact h.ptr
  · rw [cell_other _ _ _ _ _ _ (by omega)]; exact h.cre
  · rw [cell_other _ _ _ _ _ _ (by omega)]; exact h.rsf
  · rw [cell_other _ _ _ _ _ _ (by omega)]; exact h.ran
theorem WS.drew {W w : World} {bs bw : Nat} {c r p n : Int} (h : WS W w bs bw c r p n) : WS W w.drew bs bw c r p n :=
  ⟨h.grown.drew, h.below.drew, h.hs, h.hw, h.ne, h.ptr, h.cre, h.rsf, h.ran, h.tal⟩

set_option maxHeartbeats 400000 in
theorem store19 (b off : Nat) (y : Int) (u : Value) (w : World) (hc : w.cell? ⟨b, off, none⟩ = some u) (hz : w.frozen? ⟨b, off, none⟩ = false) :
    Calls Try.prog 19 #[.pointer (some ⟨b, off, none⟩), .int .u64 y] w fun e w' => e = .returned (.tuple #[]) ∧ w' = w.setCell ⟨b, off, none⟩ (.int .u64 y) := by
  have hs := run_call_store (P := Try.prog) Try.func23 (by kernel_rfl) (by kernel_rfl) (by kernel_rfl) (by kernel_rfl) (k := .u64) (y := y) hc hz
  go_enter Try.func19, Try.ntmps19
  go_wp2
  go_end0
  exact ⟨rfl, rfl⟩

set_option maxHeartbeats 400000 in
theorem load20 (b off : Nat) (y : Int) (w : World) (hc : w.cell? ⟨b, off, none⟩ = some (.int .u64 y)) :
    Calls Try.prog 20 #[.pointer (some ⟨b, off, none⟩)] w fun e w' => e = .returned (.int .u64 y) ∧ w' = w := by
  have hs := run_call_load (P := Try.prog) Try.func24 (by kernel_rfl) (by kernel_rfl) (by kernel_rfl) .u64 (by kernel_rfl) hc
  go_enter Try.func20, Try.ntmps20
  go_wp2
  go_ret
  exact ⟨rfl, rfl⟩

set_option maxHeartbeats 400000 in
theorem add26 (b off : Nat) (x y : Int) (w : World) (hc : w.cell? ⟨b, off, none⟩ = some (.int .u64 x)) (hz : w.frozen? ⟨b, off, none⟩ = false) :
    Calls Try.prog 26 #[.pointer (some ⟨b, off, none⟩), .int .u64 y] w fun e w' => e = .returned (.int .u64 (IntKind.u64.wrap (x + y))) ∧ w' = w.setCell ⟨b, off, none⟩ (.int .u64 (IntKind.u64.wrap (x + y))) := by
  have hs := run_call_add (P := Try.prog) Try.func27 (by kernel_rfl) (by kernel_rfl) (by kernel_rfl) .u64 (by kernel_rfl) (y := y) (s := IntKind.u64.wrap (x + y)) hc hz (by simp [go_sem])
  go_enter Try.func26, Try.ntmps26
  go_wp2
  go_ret
  exact ⟨rfl, rfl⟩

set_option maxHeartbeats 400000 in
theorem tadd25 (b : Nat) (x y : Int) (w : World) (hc : w.cell? ⟨b, 0, none⟩ = some (.int .u64 x)) (hz : w.frozen? ⟨b, 0, none⟩ = false) :
    Calls Try.prog 25 #[.pointer (some ⟨b, 0, none⟩), .int .u64 y] w fun e w' => e = .returned (.tuple #[]) ∧ w' = w.setCell ⟨b, 0, none⟩ (.int .u64 (IntKind.u64.wrap (x + y))) := by
  go_enter Try.func25, Try.ntmps25
  go_wp2_with fail
  refine (add26 _ _ x y _ hc hz).mono ?_
  rintro e w' ⟨rfl, rfl⟩
  go_wp2
  go_end0
  exact ⟨rfl, rfl⟩

theorem storeN {W w : World} {bs bw : Nat} {c r p n : Int} (h : WS W w bs bw c r p n) (y : Int) :
    Calls Try.prog 19 #[.pointer (some ⟨bs, 0, none⟩), .int .u64 y] w fun e w' => e = .returned (.tuple #[]) ∧ WS W w' bs bw c r p y := by
  refine (store19 bs 0 y _ w h.tal (h.froS 0)).mono ?_
  rintro e w' ⟨rfl, rfl⟩
  exact ⟨rfl, h.setN y⟩
theorem storeP {W w : World} {bs bw : Nat} {c r p n : Int} (h : WS W w bs bw c r p n) (y : Int) :
    Calls Try.prog 19 #[.pointer (some ⟨bw, 274, none⟩), .int .u64 y] w fun e w' => e = .returned (.tuple #[]) ∧ WS W w' bs bw c r y n := by
  refine (store19 bw 274 y _ w h.ran (h.froW 274)).mono ?_
  rintro e w' ⟨rfl, rfl⟩
  exact ⟨rfl, h.setP y⟩
theorem addN {W w : World} {bs bw : Nat} {c r p n : Int} (h : WS W w bs bw c r p n) (y : Int) :
    Calls Try.prog 25 #[.pointer (some ⟨bs, 0, none⟩), .int .u64 y] w fun e w' => e = .returned (.tuple #[]) ∧ WS W w' bs bw c r p (IntKind.u64.wrap (n + y)) := by
  refine (tadd25 bs n y w h.tal (h.froS 0)).mono ?_
  rintro e w' ⟨rfl, rfl⟩
  exact ⟨rfl, h.setN _⟩

set_option maxHeartbeats 400000 in
theorem tally11 {W w : World} {bs bw : Nat} {c r p n : Int} (h : WS W w bs bw c r p n) :
    Calls Try.prog 11 #[.pointer (some ⟨bw, 0, none⟩)] w fun e w' => e = .returned (.int .u64 n) ∧ w' = w := by
  have h1 := h.ptr
  go_enter Try.func11, Try.ntmps11
  go_wp2_with fail
  refine (load20 _ _ _ _ h.tal).mono ?_
  rintro e w' ⟨rfl, rfl⟩
  go_wp2
  go_ret
  exact ⟨rfl, rfl⟩

set_option maxHeartbeats 400000 in
theorem credit12 {W w : World} {bs bw : Nat} {c r p n : Int} (h : WS W w bs bw c r p n) :
    Calls Try.prog 12 #[.pointer (some ⟨bw, 0, none⟩)] w fun e w' => e = .returned (.int .u64 c) ∧ w' = w := by
  have h1 := h.cre
  go_enter Try.func12, Try.ntmps12
  go_wp2
  go_ret
  exact ⟨rfl, rfl⟩

set_option maxHeartbeats 400000 in
theorem rsf13 {W w : World} {bs bw : Nat} {c r p n : Int} (h : WS W w bs bw c r p n) :
    Calls Try.prog 13 #[.pointer (some ⟨bw, 0, none⟩)] w fun e w' => e = .returned (.int .u64 r) ∧ w' = w := by
  have h1 := h.rsf
  go_enter Try.func13, Try.ntmps13
  go_wp2
  go_ret
  exact ⟨rfl, rfl⟩

set_option maxHeartbeats 400000 in
theorem ran14 {W w : World} {bs bw : Nat} {c r p n : Int} (h : WS W w bs bw c r p n) :
    Calls Try.prog 14 #[.pointer (some ⟨bw, 0, none⟩)] w fun e w' => e = .returned (.int .u64 p) ∧ w' = w := by
  go_enter Try.func14, Try.ntmps14
  go_wp2_with fail
  refine (load20 _ _ _ _ h.ran).mono ?_
  rintro e w' ⟨rfl, rfl⟩
  go_wp2
  go_ret
  exact ⟨rfl, rfl⟩

set_option maxHeartbeats 400000 in
theorem new10 (c r p n : Int) (W : World) :
    Calls Try.prog 10 #[.int .u64 c, .int .u64 r, .int .u64 p, .int .u64 n] W fun e w' =>
      e = .returned (.pointer (some ⟨W.heap.size + 1, 0, none⟩)) ∧ WS W w' W.heap.size (W.heap.size + 1) c r p n := by
  obtain ⟨c78, h78, g78⟩ := built78
  obtain ⟨c91, h91, g0, g1, g2, g3⟩ := built91 W.heap.size c r
  have H78 : Hid (Try.prog.built 78 [] = some c78) := h78
  have H91 : Hid (Try.prog.built 91 [(0, .pointer (some ⟨W.heap.size, 0, none⟩)), (7, .int .u64 c), (8, .int .u64 r)] = some c91) := h91
  clear h78 h91
  have hWS : WS W ((W.alloc (Obj.cells c78 78)).alloc (Obj.cells c91 91)) W.heap.size (W.heap.size + 1) c r 0 0 := by
    refine ⟨((Grown.refl W).alloc _ _).alloc _ _, ((Below.refl _ W).alloc (Nat.le_refl _) _).alloc (by simp) _, Nat.le_refl _, by omega, by omega, ?_, ?_, ?_, ?_, ?_⟩
    · simp [go_sem, g0]
    · simp [go_sem, g1]
    · simp [go_sem, g2]
    · simp [go_sem, g3]
    · simp [go_sem, g78]
  go_enter Try.func10, Try.ntmps10
  go_wp2_with (first | (refine wpList_built (by rfl) 78 #[] (by rfl) c78 (by simpa using H78.out) ?_) | (refine wpList_built (by rfl) 91 #[(0, .tmp 11), (7, .tmp 12), (8, .tmp 13)] (by rfl) c91 (by simpa [Act.eval] using H91.out) ?_))
  refine (storeN hWS n).mono ?_
  clear hWS H78 H91 g0 g1 g2 g3 g78
  rintro e w1 ⟨rfl, h1⟩
  go_wp2_with fail
  refine (storeP h1 p).mono ?_
  clear h1
  rintro e w2 ⟨rfl, h2⟩
  go_wp2
  go_ret
  exact ⟨rfl, h2⟩

set_option maxHeartbeats 400000 in
theorem charge21_draw {W w : World} {bs bw : Nat} {c r p n : Int} (h : WS W w bs bw c r p n) (hc : c ≤ 1) (hc0 : 0 ≤ c) :
    Calls Try.prog 21 #[.pointer (some ⟨bw, 0, none⟩)] w fun e w' => e = .returned (.tuple #[]) ∧ WS W w' bs bw (c + 63) r p (IntKind.u64.wrap (n + 64)) := by
  have h1 := h.ptr
  have h2 := h.cre
  go_enter Try.func21, Try.ntmps21
  go_wp2_with fail
  clear h1 h2
  refine (addN h 64).mono ?_
  clear h
  rintro e w1 ⟨rfl, h⟩
  have h2 := h.cre
  have h3 := h.froW 264
  have h4 := (h.setC (c + 64)).setC (c + 63)
  have e1 : c + 64 - 1 = c + 63 := by omega
  have E1 : Hid (c + 64 - 1 = c + 63) := e1
  clear e1
  go_wp2
  go_end0
  refine ⟨rfl, ?_⟩
  rw [E1.out]
  exact h4

set_option maxHeartbeats 400000 in
theorem charge21_none {W w : World} {bs bw : Nat} {c r p n : Int} (h : WS W w bs bw c r p n) (hc : 2 ≤ c) (hc0 : c ≤ 18446744073709551615) :
    Calls Try.prog 21 #[.pointer (some ⟨bw, 0, none⟩)] w fun e w' => e = .returned (.tuple #[]) ∧ WS W w' bs bw (c - 1) r p n := by
  have h2 := h.cre
  have h3 := h.froW 264
  have h4 := h.setC (c - 1)
  go_enter Try.func21, Try.ntmps21
  go_wp2
  go_end0
  exact ⟨rfl, h4⟩

set_option maxHeartbeats 400000 in
theorem charge15_draw {W w : World} {bs bw : Nat} {c r p n : Int} (h : WS W w bs bw c r p n) (hc : c ≤ 1) (hc0 : 0 ≤ c) :
    Calls Try.prog 15 #[.pointer (some ⟨bw, 0, none⟩)] w fun e w' => e = .returned (.tuple #[]) ∧ WS W w' bs bw (c + 63) r p (IntKind.u64.wrap (n + 64)) := by
  go_enter Try.func15, Try.ntmps15
  go_wp2_with fail
  refine (charge21_draw h hc hc0).mono ?_
  rintro e w1 ⟨rfl, h⟩
  go_wp2
  go_end0
  exact ⟨rfl, h⟩
set_option maxHeartbeats 400000 in
theorem charge15_none {W w : World} {bs bw : Nat} {c r p n : Int} (h : WS W w bs bw c r p n) (hc : 2 ≤ c) (hc0 : c ≤ 18446744073709551615) :
    Calls Try.prog 15 #[.pointer (some ⟨bw, 0, none⟩)] w fun e w' => e = .returned (.tuple #[]) ∧ WS W w' bs bw (c - 1) r p n := by
  go_enter Try.func15, Try.ntmps15
  go_wp2_with fail
  refine (charge21_none h hc hc0).mono ?_
  rintro e w1 ⟨rfl, h⟩
  go_wp2
  go_end0
  exact ⟨rfl, h⟩

set_option maxHeartbeats 400000 in
theorem fin22_no {W w : World} {bs bw : Nat} {c r p n : Int} (h : WS W w bs bw c r p n) (ht : ((IntKind.u64.wrap (r + 1)).tmod 64 == 0) = false) :
    Calls Try.prog 22 #[.pointer (some ⟨bw, 0, none⟩)] w fun e w' => e = .returned (.tuple #[]) ∧ WS W w' bs bw (IntKind.u64.wrap (c + 1)) (IntKind.u64.wrap (r + 1)) p n := by
  have h2 := h.rsf
  have h3 := h.froW 265
  have h4 := h.cre
  have h5 := h.froW 264
  have h6 := (h.setR (IntKind.u64.wrap (r + 1))).setC (IntKind.u64.wrap (c + 1))
  go_enter Try.func22, Try.ntmps22
  go_wp2
  go_end0
  exact ⟨rfl, h6⟩

set_option maxHeartbeats 400000 in
theorem fin22_pub {W w : World} {bs bw : Nat} {c r p n : Int} (h : WS W w bs bw c r p n) (ht : ((IntKind.u64.wrap (r + 1)).tmod 64 == 0) = true) :
    Calls Try.prog 22 #[.pointer (some ⟨bw, 0, none⟩)] w fun e w' => e = .returned (.tuple #[]) ∧ WS W w' bs bw (IntKind.u64.wrap (c + 1)) (IntKind.u64.wrap (r + 1)) (IntKind.u64.wrap (r + 1)) n := by
  have h2 := h.rsf
  have h3 := h.froW 265
  have h6 := h.setR (IntKind.u64.wrap (r + 1))
  go_enter Try.func22, Try.ntmps22
  go_wp2
  go_region_with ((go_at_call 19; refine (storeP (W := W) (bs := bs) (c := c) (r := IntKind.u64.wrap (r + 1)) (p := p) (n := n) ?_ _).mono ?_; exact h6.drew; rintro e w1 ⟨rfl, h7⟩))
  clear h h2 h3 h6
  have h8 := h7.cre
  have h9 := h7.froW 264
  have h10 := h7.setC (IntKind.u64.wrap (c + 1))
  go_wp2
  go_end0
  exact ⟨rfl, h10⟩

set_option maxHeartbeats 400000 in
theorem fin16_no {W w : World} {bs bw : Nat} {c r p n : Int} (h : WS W w bs bw c r p n) (ht : ((IntKind.u64.wrap (r + 1)).tmod 64 == 0) = false) :
    Calls Try.prog 16 #[.pointer (some ⟨bw, 0, none⟩)] w fun e w' => e = .returned (.tuple #[]) ∧ WS W w' bs bw (IntKind.u64.wrap (c + 1)) (IntKind.u64.wrap (r + 1)) p n := by
  go_enter Try.func16, Try.ntmps16
  go_wp2_with fail
  refine (fin22_no h ht).mono ?_
  rintro e w1 ⟨rfl, h⟩
  go_wp2
  go_end0
  exact ⟨rfl, h⟩
set_option maxHeartbeats 400000 in
theorem fin16_pub {W w : World} {bs bw : Nat} {c r p n : Int} (h : WS W w bs bw c r p n) (ht : ((IntKind.u64.wrap (r + 1)).tmod 64 == 0) = true) :
    Calls Try.prog 16 #[.pointer (some ⟨bw, 0, none⟩)] w fun e w' => e = .returned (.tuple #[]) ∧ WS W w' bs bw (IntKind.u64.wrap (c + 1)) (IntKind.u64.wrap (r + 1)) (IntKind.u64.wrap (r + 1)) n := by
  go_enter Try.func16, Try.ntmps16
  go_wp2_with fail
  refine (fin22_pub h ht).mono ?_
  rintro e w1 ⟨rfl, h⟩
  go_wp2
  go_end0
  exact ⟨rfl, h⟩
end Go.Proofs.Qxb6616965a
