import Derived.Test.Qxb6613684aLk
namespace Go.Proofs.Qxb6613684a
open Go.RowKit
set_option linter.unusedVariables false

set_option maxHeartbeats 1000000 in
theorem bytes7 (a0 : Option Addr) (n0 c0 : Nat) (w : World) (h0 : n0 ≤ 9223372036854775807) :
    Calls Try.prog 7 #[.slice a0 n0 c0] w fun e w' => e = .returned (.bool (decide (n0 ≤ 1048576))) ∧ w' = w := by
  by_cases q0 : (1048576 : Int) < (n0 : Int)
  · have : decide (n0 ≤ 1048576) = false := by simp; omega
    rw [this]
    go_enter Try.func7, Try.ntmps7
    go_wp2
    go_ret
    exact ⟨rfl, rfl⟩
  · have : decide (n0 ≤ 1048576) = true := by simp; omega
    rw [this]
    go_enter Try.func7, Try.ntmps7
    go_wp2
    go_ret
    exact ⟨rfl, rfl⟩

set_option maxHeartbeats 1000000 in
theorem bytes12 (a0 : Option Addr) (n0 c0 : Nat) (w : World) (h0 : n0 ≤ 9223372036854775807) :
    Calls Try.prog 12 #[.slice a0 n0 c0] w fun e w' => e = .returned (.bool (decide (n0 ≤ 1048576))) ∧ w' = w := by
  by_cases q0 : (1048576 : Int) < (n0 : Int)
  · have : decide (n0 ≤ 1048576) = false := by simp; omega
    rw [this]
    go_enter Try.func12, Try.ntmps12
    go_wp2
    go_ret
    exact ⟨rfl, rfl⟩
  · have : decide (n0 ≤ 1048576) = true := by simp; omega
    rw [this]
    go_enter Try.func12, Try.ntmps12
    go_wp2
    go_ret
    exact ⟨rfl, rfl⟩

set_option maxHeartbeats 2000000 in
theorem law3 (a0 : Option Addr) (n0 c0 : Nat) (P : List Int) (w : World) (s0 : Sees w a0 n0 P) (m0 : n0 ≤ 9223372036854775807) :
    Calls Try.prog 3 #[.slice a0 n0 c0] w fun e w' => e = .returned (.bool true) ∧ Below w.heap.size w w' := by
  have hb := bytes7 a0 n0 c0 w m0
  by_cases hs : n0 ≤ 1048576
  case neg =>
    rw [decide_eq_false hs] at hb
    go_enter Try.func3, Try.ntmps3
    go_wp2_with fail
    refine hb.mono ?_
    rintro e w' ⟨rfl, rfl⟩
    clear hb
    go_wp2
    go_ret
    exact ⟨rfl, Below.refl _ _⟩
  rw [decide_eq_true hs] at hb
  have q0 : ¬ (1048576 : Int) < (n0 : Int) := by omega
  go_enter Try.func3, Try.ntmps3
  go_wp2_with fail
  refine hb.mono ?_
  rintro e w' ⟨rfl, rfl⟩
  clear hb
  go_wp2_with fail
  refine (clone_sees a0 n0 c0 P _ s0 (by omega)).mono ?_
  rintro e w1 ⟨pa, pc, rfl, p1, g1, _⟩
  have st1 := (St.start w').new g1 p1
  go_wp2_with fail
  refine (clone_sees pa n0 pc P _ (sees_row st1.head) (by omega)).mono ?_
  rintro e w2 ⟨va, vc, rfl, p2, g2, hva⟩
  have st2 := st1.new g2 p2
  have HP : Hid (P.length = n0) := s0.1
  have e1 : ∀ W : World, Sem.run Try.prog (binOp .eql 22 (.slice pa n0 pc) (.slice none 0 0)) W = .ok (.bool pa.isNone) W := fun W => Lib.run_eql_slice_nil (P := Try.prog) W 22 5 pa n0 pc 0 0 Try.underlying22
  have e2 : ∀ W : World, Sem.run Try.prog (binOp .eql 22 (.slice va n0 vc) (.slice none 0 0)) W = .ok (.bool pa.isNone) W := fun W => by
    rw [← hva]
    exact Lib.run_eql_slice_nil (P := Try.prog) W 22 5 va n0 vc 0 0 Try.underlying22
  have e3 : ∀ W : World, Sem.run Try.prog (binOp .eql 22 (.slice none 0 0) (.slice none 0 0)) W = .ok (.bool true) W := fun W => Lib.run_eql_slice_nil (P := Try.prog) W 22 5 none 0 0 0 0 Try.underlying22
  clear st1 g1 g2 p1 p2 s0 hva
  go_wp2_with fail
  refine (zz_ed pa n0 pc _).mono ?_
  rintro e w3 ⟨rfl, g3⟩
  have st3 := st2.read g3
  clear st2 g3
  go_wp2_with fail
  refine (zz_raw pa n0 pc _).mono ?_
  rintro e w4 ⟨rfl, g4⟩
  have st4 := st3.read g4
  clear st3 g4
  go_wp2_with fail
  refine (eq_any pa va n0 pc n0 vc w'.heap.size P P _ st4.second st4.head rfl (by rw [HP.out]; omega)).mono ?_
  rintro e w5 ⟨rfl, g5⟩
  have st5 := st4.read g5
  clear st4 g5
  go_wp2
  go_ret
  exact ⟨rfl, st5.below⟩

set_option maxHeartbeats 2000000 in
theorem law4 (a0 : Option Addr) (n0 c0 : Nat) (P : List Int) (w : World) (s0 : Sees w a0 n0 P) (m0 : n0 ≤ 9223372036854775807) :
    Calls Try.prog 4 #[.slice a0 n0 c0] w fun e w' => e = .returned (.bool true) ∧ Below w.heap.size w w' := by
  have hb := bytes12 a0 n0 c0 w m0
  by_cases hs : n0 ≤ 1048576
  case neg =>
    rw [decide_eq_false hs] at hb
    go_enter Try.func4, Try.ntmps4
    go_wp2_with fail
    refine hb.mono ?_
    rintro e w' ⟨rfl, rfl⟩
    clear hb
    go_wp2
    go_ret
    exact ⟨rfl, Below.refl _ _⟩
  rw [decide_eq_true hs] at hb
  have q0 : ¬ (1048576 : Int) < (n0 : Int) := by omega
  go_enter Try.func4, Try.ntmps4
  go_wp2_with fail
  refine hb.mono ?_
  rintro e w' ⟨rfl, rfl⟩
  clear hb
  go_wp2_with fail
  refine (clone_sees a0 n0 c0 P _ s0 (by omega)).mono ?_
  rintro e w1 ⟨pa, pc, rfl, p1, g1, _⟩
  have st1 := (St.start w').new g1 p1
  go_wp2_with fail
  refine (clone_sees pa n0 pc P _ (sees_row st1.head) (by omega)).mono ?_
  rintro e w2 ⟨va, vc, rfl, p2, g2, hva⟩
  have st2 := st1.new g2 p2
  have HP : Hid (P.length = n0) := s0.1
  have e1 : ∀ W : World, Sem.run Try.prog (binOp .eql 22 (.slice pa n0 pc) (.slice none 0 0)) W = .ok (.bool pa.isNone) W := fun W => Lib.run_eql_slice_nil (P := Try.prog) W 22 5 pa n0 pc 0 0 Try.underlying22
  have e2 : ∀ W : World, Sem.run Try.prog (binOp .eql 22 (.slice va n0 vc) (.slice none 0 0)) W = .ok (.bool pa.isNone) W := fun W => by
    rw [← hva]
    exact Lib.run_eql_slice_nil (P := Try.prog) W 22 5 va n0 vc 0 0 Try.underlying22
  have e3 : ∀ W : World, Sem.run Try.prog (binOp .eql 22 (.slice none 0 0) (.slice none 0 0)) W = .ok (.bool true) W := fun W => Lib.run_eql_slice_nil (P := Try.prog) W 22 5 none 0 0 0 0 Try.underlying22
  clear st1 g1 g2 p1 p2 s0 hva
  go_wp2_with fail
  refine (zz_ed pa n0 pc _).mono ?_
  rintro e w3 ⟨rfl, g3⟩
  have st3 := st2.read g3
  clear st2 g3
  go_wp2_with fail
  refine (zz_ed pa n0 pc _).mono ?_
  rintro e w4 ⟨rfl, g4⟩
  have st4 := st3.read g4
  clear st3 g4
  go_wp2_with fail
  refine (zz_ptr pa n0 pc _).mono ?_
  rintro e w5 ⟨rfl, g5⟩
  have st5 := st4.read g5
  clear st4 g5
  go_wp2_with fail
  refine (eq_any pa va n0 pc n0 vc w'.heap.size P P _ st5.second st5.head rfl (by rw [HP.out]; omega)).mono ?_
  rintro e w6 ⟨rfl, g6⟩
  have st6 := st5.read g6
  clear st5 g6
  go_wp2_with fail
  refine (eq_any pa pa n0 pc n0 pc w'.heap.size P P _ st6.second st6.second rfl (by rw [HP.out]; omega)).mono ?_
  rintro e w7 ⟨rfl, g7⟩
  have st7 := st6.read g7
  clear st6 g7
  go_wp2
  go_ret
  exact ⟨rfl, st7.below⟩

end Go.Proofs.Qxb6613684a
