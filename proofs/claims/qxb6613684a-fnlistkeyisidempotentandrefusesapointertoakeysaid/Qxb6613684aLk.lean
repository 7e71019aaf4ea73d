import Derived.Test.Qxb6613684aKit
import Derived.WalkLawsBesides
namespace Go.Proofs.Qxb6613684a
open Go.RowKit
set_option linter.unusedVariables false

theorem assert_ed (ao : Option Addr) (n cap : Nat) (w : World) : (Instr.typeAssert (.iface 32 (.slice ao n cap)) 38 32 true).run Try.prog w = .ok (.tuple #[.slice ao n cap, .bool true]) w := by kernel_rfl
theorem assert_raw (ao : Option Addr) (n cap : Nat) (w : World) : (Instr.typeAssert (.iface 22 (.slice ao n cap)) 38 32 true).run Try.prog w = .ok (.tuple #[.slice none 0 0, .bool false]) w := by kernel_rfl
theorem assert_ptr (a : Addr) (w : World) : (Instr.typeAssert (.iface 37 (.pointer (some a))) 38 32 true).run Try.prog w = .ok (.tuple #[.slice none 0 0, .bool false]) w := by kernel_rfl

set_option maxHeartbeats 1000000 in
/-- ListKey of an ed25519.PublicKey: the key itself, no error. -/
theorem list_ed (ao : Option Addr) (n cap : Nat) (w : World) :
    Calls Try.prog 15 #[.iface 32 (.slice ao n cap)] w fun e w' => e = .returned (.tuple #[.slice ao n cap, .nilIface]) ∧ w' = w := by
  have ha := assert_ed ao n cap w
  go_enter Try.func15, Try.ntmps15
  go_wp2
  go_ret2
  exact ⟨rfl, rfl⟩

set_option maxHeartbeats 1000000 in
/-- errors.New: an error that is not nil. -/
theorem errNew (s : ByteArray) (w : World) : Calls Try.prog 16 #[.string s] w fun e w' => ∃ a, e = .returned (.iface 41 (.pointer (some a))) ∧ w.grownBy w' none := by
  go_enter Try.func16, Try.ntmps16
  go_wp2
  go_ret
  exact ⟨_, rfl, World.grownBy_alloc _ _ _⟩

set_option maxHeartbeats 1000000 in
/-- ListKey of a plain []byte: refused. -/
theorem list_raw (ao : Option Addr) (n cap : Nat) (w : World) :
    Calls Try.prog 15 #[.iface 22 (.slice ao n cap)] w fun e w' => ∃ a, e = .returned (.tuple #[.slice none 0 0, .iface 41 (.pointer (some a))]) ∧ w.grownBy w' none := by
  have ha := assert_raw ao n cap w
  go_enter Try.func15, Try.ntmps15
  go_wp2_with fail
  refine (errNew _ _).mono ?_
  rintro e w1 ⟨a, rfl, g1⟩
  go_wp2
  go_ret2
  exact ⟨a, rfl, g1⟩

set_option maxHeartbeats 1000000 in
/-- ListKey of a pointer to a key: refused. -/
theorem list_ptr (p : Addr) (w : World) :
    Calls Try.prog 15 #[.iface 37 (.pointer (some p))] w fun e w' => ∃ a, e = .returned (.tuple #[.slice none 0 0, .iface 41 (.pointer (some a))]) ∧ w.grownBy w' none := by
  have ha := assert_ptr p w
  go_enter Try.func15, Try.ntmps15
  go_wp2_with fail
  refine (errNew _ _).mono ?_
  rintro e w1 ⟨a, rfl, g1⟩
  go_wp2
  go_ret2
  exact ⟨a, rfl, g1⟩

set_option maxHeartbeats 1000000 in
theorem zz_ed (ao : Option Addr) (n cap : Nat) (w : World) :
    Calls Try.prog 9 #[.slice ao n cap] w fun e w' => e = .returned (.tuple #[.slice ao n cap, .bool true]) ∧ w.grownBy w' none := by
  go_enter Try.func9, Try.ntmps9
  go_wp2_with fail
  refine (list_ed ao n cap _).mono ?_
  rintro e w1 ⟨rfl, rfl⟩
  go_wp2
  go_quiet (fail)
  go_wp2
  go_ret2
  exact ⟨rfl, grownBy_drewN _ _⟩

set_option maxHeartbeats 1000000 in
theorem zz_raw (ao : Option Addr) (n cap : Nat) (w : World) :
    Calls Try.prog 10 #[.slice ao n cap] w fun e w' => e = .returned (.tuple #[.slice none 0 0, .bool false]) ∧ w.grownBy w' none := by
  go_enter Try.func10, Try.ntmps10
  go_wp2_with fail
  refine (list_raw ao n cap _).mono ?_
  rintro e w1 ⟨a, rfl, g1⟩
  go_wp2
  go_quiet (fail)
  go_wp2
  go_ret2
  exact ⟨rfl, grownBy_trans_none g1 (grownBy_drewN _ _)⟩

set_option maxHeartbeats 1000000 in
theorem zz_ptr (ao : Option Addr) (n cap : Nat) (w : World) :
    Calls Try.prog 13 #[.slice ao n cap] w fun e w' => e = .returned (.tuple #[.slice none 0 0, .bool false]) ∧ w.grownBy w' none := by
  go_enter Try.func13, Try.ntmps13
  go_wp2_with fail
  refine (list_ptr _ _).mono ?_
  rintro e w1 ⟨a, rfl, g1⟩
  have g2 := grownBy_trans_none (World.grownBy_alloc w _ none) g1
  clear g1
  go_wp2
  go_quiet (fail)
  go_wp2
  go_ret2
  exact ⟨rfl, grownBy_trans_none g2 (grownBy_drewN _ _)⟩

end Go.Proofs.Qxb6613684a
